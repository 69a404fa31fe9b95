/-
  THE PLAIN LAWS: which participants are still waiting.
-/
import Derived.Test.Qxb6629019aHelp
import Derived.Deep.OwnRows
namespace Go.Proofs.Qxb6629019a
open Go.RowKit

theorem beq_symm (a b : ByteArray) : (a == b) = (b == a) := by
  cases h : (a == b) with
  | true => rw [(Go.MapKept.bytes_beq a b).1 h]; exact (beq_self b).symm
  | false =>
    cases h' : (b == a) with
    | true => rw [(Go.MapKept.bytes_beq b a).1 h', beq_self] at h; cases h
    | false => rfl

/-- Is x among the first j of L? -/
def seen (L : List ByteArray) (j : Nat) (x : ByteArray) : Bool := (L.take j).any fun y => y == x
/-- Those of L that are not among its first j. -/
def rem (L : List ByteArray) (j : Nat) : List ByteArray := L.filter fun x => !(seen L j x)
/-- Those of L that are x. -/
def only (L : List ByteArray) (x : ByteArray) : List ByteArray := L.filter fun y => y == x

theorem seen_succ {L : List ByteArray} {j : Nat} (hj : j < L.length) (x : ByteArray) : seen L (j + 1) x = (seen L j x || L[j] == x) := by
  unfold seen
  rw [List.take_succ_eq_append_getElem hj, List.any_append]
  simp

theorem seen_of {L : List ByteArray} {j k : Nat} (hj : j < L.length) (hk : j < k) {x : ByteArray} (h : (L[j] == x) = true) : seen L k x = true := by
  unfold seen
  rw [List.any_eq_true]
  exact ⟨L[j], List.mem_take_iff_getElem.2 ⟨j, by omega, rfl⟩, h⟩

theorem seen_mono {L : List ByteArray} {j k : Nat} (hk : j ≤ k) {x : ByteArray} (h : seen L j x = true) : seen L k x = true := by
  unfold seen at h ⊢
  rw [List.any_eq_true] at h ⊢
  obtain ⟨y, hy, e⟩ := h
  exact ⟨y, (List.take_subset_take_left L hk) hy, e⟩

theorem not_seen {L : List ByteArray} {j : Nat} {x : ByteArray} (h : ∀ i (hi : i < L.length), i < j → (L[i] == x) = false) : seen L j x = false := by
  cases e : seen L j x with
  | false => rfl
  | true =>
    unfold seen at e
    rw [List.any_eq_true] at e
    obtain ⟨y, hy, e⟩ := e
    obtain ⟨i, hi, rfl⟩ := List.mem_take_iff_getElem.1 hy
    rw [h i (by omega) (by omega)] at e
    cases e

theorem rem_zero (L : List ByteArray) : rem L 0 = L := by
  unfold rem seen
  simp

theorem rem_step {L : List ByteArray} {j : Nat} (hj : j < L.length) : dropP L[j] (rem L j) = rem L (j + 1) := by
  unfold dropP rem
  rw [List.filter_filter]
  refine List.filter_congr fun x _ => ?_
  rw [seen_succ hj, beq_symm x]
  cases (L[j] == x) <;> cases seen L j x <;> rfl

/-- k is where the last of the names is first met. -/
def IsLast (L : List ByteArray) (k : Nat) : Prop :=
  ∃ hk : k < L.length, (∀ j (hj : j < L.length), j < k → (L[j] == L[k]) = false) ∧ ∀ i (hi : i < L.length), seen L (k + 1) L[i] = true

theorem rem_ne {L : List ByteArray} {j k : Nat} (hk : k < L.length) (h : ∀ j (hj : j < L.length), j < k → (L[j] == L[k]) = false) (hj : j ≤ k) : rem L j ≠ [] := by
  intro e
  have : L[k] ∈ rem L j := by
    unfold rem
    rw [List.mem_filter]
    exact ⟨List.getElem_mem hk, by rw [not_seen (fun i hi hij => h i hi (by omega))]; rfl⟩
  rw [e] at this
  cases this

theorem rem_last {L : List ByteArray} {k : Nat} (h : IsLast L k) (hk : k < L.length) : rem L k = only L L[k] := by
  obtain ⟨_, h1, h2⟩ := h
  refine List.filter_congr fun x hx => ?_
  obtain ⟨i, hi, rfl⟩ := List.mem_iff_getElem.1 hx
  have := h2 i hi
  rw [seen_succ hk] at this
  cases e : (L[k] == L[i]) with
  | true =>
    have e' : L[k] = L[i] := (Go.MapKept.bytes_beq _ _).1 e
    rw [beq_symm, e, ← e', not_seen (fun j hj hjk => h1 j hj hjk)]
    rfl
  | false =>
    rw [e, Bool.or_false] at this
    rw [this, beq_symm, e]
    rfl

theorem only_drop_same {L : List ByteArray} {x y : ByteArray} (h : (y == x) = true) : dropP y (only L x) = [] := by
  unfold dropP only
  rw [List.filter_filter, List.filter_eq_nil_iff]
  intro z _
  have := (Go.MapKept.bytes_beq _ _).1 h
  subst this
  cases (z == y) <;> simp
theorem only_drop_other {L : List ByteArray} {x y : ByteArray} (h : (y == x) = false) : dropP y (only L x) = only L x := by
  unfold dropP only
  rw [List.filter_filter]
  refine List.filter_congr fun z _ => ?_
  cases e : (z == x) with
  | true =>
    rw [(Go.MapKept.bytes_beq _ _).1 e, beq_symm, h]
    rfl
  | false => simp
theorem only_mem {L : List ByteArray} {x y : ByteArray} (h : y ∈ only L x) : y = x := (Go.MapKept.bytes_beq _ _).1 (List.mem_filter.1 h).2

theorem only_snoc {L : List ByteArray} {x : ByteArray} {k : Nat} (hk : k < L.length) : only (L.take (k + 1)) x = only (L.take k) x ++ if (L[k] == x) = true then [L[k]] else [] := by
  unfold only
  rw [List.take_succ_eq_append_getElem hk, List.filter_append]
  cases h : (L[k] == x) <;> simp [h]

/-- The copy of L, k of its strings laid. -/
def cp (L : List ByteArray) (k : Nat) (j : Nat) : Value := if j < k then .string (L.getD j ⟨#[]⟩) else .string ⟨#[]⟩

theorem cp_step {L : List ByteArray} {k : Nat} (hk : k < L.length) : ∀ j, (if j = k then Value.string L[k] else cp L k j) = cp L (k + 1) j := by
  intro j
  unfold cp
  by_cases e : j = k
  · subst e
    rw [if_pos rfl, if_pos (by omega)]
    simp [hk]
  · rw [if_neg e]
    by_cases h : j < k
    · rw [if_pos h, if_pos (by omega)]
    · rw [if_neg h, if_neg (by omega)]

theorem row_of_is {w : World} {b : Nat} {L : List ByteArray} (h : w.rowIs b 9 L.length (cp L L.length)) : RowAt w (some ⟨b, 0, none⟩) b L :=
  ⟨.inl rfl, fun j hj => by rw [h.cell hj]; simp [cp, hj]⟩

theorem own_of_is {w : World} {b : Nat} {L : List ByteArray} (h : w.rowIs b 9 L.length (cp L L.length)) (hm : L.length ≤ maxLen) : w.ownsRow 0 9 1 (.slice (some ⟨b, 0, none⟩) L.length L.length) L.length (strs L) := by
  obtain ⟨c, hb, hs, hc⟩ := h
  refine ⟨by simp [strs], .inr ⟨b, L.length, c, rfl, Nat.zero_le _, hb, Nat.le_refl _, hm, by simpa using hs, ?_⟩⟩
  rw [Nat.mul_one, List.take_of_length_le (by simp [hs])]
  refine List.ext_getElem? fun j => ?_
  by_cases hj : j < L.length
  · have := hc j hj
    simp only [cp, hj, if_true] at this
    rw [Array.getElem?_toList, this]
    simp [strs, hj]
  · rw [List.getElem?_eq_none (by simp [hs]; omega), List.getElem?_eq_none (by simp [strs]; omega)]

/-! ### An acknowledgement, case by case -/
theorem ack_rest (B cb : Nat) (held outcome token p : ByteArray) (L : List ByteArray) (w : World) (h : St B w cb held outcome token L) (hL : L.length * 16 ≤ 140737488351232) (hn : dropP p L ≠ []) :
    Calls Try.prog 7 #[.pointer (some ⟨cb, 0, none⟩), .string held, .string p] w fun e w' => e = .returned (.pointer none) ∧ St B w' cb held outcome token (dropP p L) ∧ Below B w w' := by
  refine (ack_hit B cb held outcome token p L w h hL).mono fun e w' ⟨ha, hb⟩ => ?_
  rcases ha with ⟨_, he, hs⟩ | ⟨h0, _⟩ | ⟨h0, _⟩
  · exact ⟨he, hs, hb⟩
  · exact absurd h0 hn
  · exact absurd h0 hn
theorem ack_abort (B cb : Nat) (held outcome token p : ByteArray) (L : List ByteArray) (w : World) (h : St B w cb held outcome token L) (hL : L.length * 16 ≤ 140737488351232) (hn : dropP p L = []) (ha : abB outcome = true) :
    Calls Try.prog 7 #[.pointer (some ⟨cb, 0, none⟩), .string held, .string p] w fun e w' => e = .returned (.pointer none) ∧ Gone B w' cb ∧ Below B w w' := by
  refine (ack_hit B cb held outcome token p L w h hL).mono fun e w' ⟨hk, hb⟩ => ?_
  rcases hk with ⟨h0, _⟩ | ⟨_, _, he, hg⟩ | ⟨_, h0, _⟩
  · exact absurd hn h0
  · exact ⟨he, hg, hb⟩
  · rw [ha] at h0; cases h0
theorem ack_end (B cb : Nat) (held outcome token p : ByteArray) (L : List ByteArray) (w : World) (h : St B w cb held outcome token L) (hL : L.length * 16 ≤ 140737488351232) (hn : dropP p L = []) (ha : abB outcome = false) :
    Calls Try.prog 7 #[.pointer (some ⟨cb, 0, none⟩), .string held, .string p] w fun e w' => ∃ rb, e = .returned (.pointer (some ⟨rb, 0, none⟩)) ∧ EndRec w' rb held ∧ St B w' cb held outcome token L ∧ Below B w w' := by
  refine (ack_hit B cb held outcome token p L w h hL).mono fun e w' ⟨hk, hb⟩ => ?_
  rcases hk with ⟨h0, _⟩ | ⟨_, h0, _⟩ | ⟨_, _, rb, he, hr, hs⟩
  · exact absurd hn h0
  · rw [ha] at h0; cases h0
  · exact ⟨rb, he, hr, hs, hb⟩

end Go.Proofs.Qxb6629019a
