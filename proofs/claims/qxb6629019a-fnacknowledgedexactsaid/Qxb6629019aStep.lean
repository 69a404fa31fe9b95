/-
  Round by round: the search for the last name, the acknowledgements in order.
-/
import Derived.Test.Qxb6629019aPlain
namespace Go.Proofs.Qxb6629019a
open Go.RowKit

/-- k is where the last of the names among the first i is first met. -/
def Upto (L : List ByteArray) (k i : Nat) : Prop :=
  ∃ hk : k < L.length, (∀ j (hj : j < L.length), j < k → (L[j] == L[k]) = false) ∧ ∀ m (hm : m < L.length), m < i → seen L (k + 1) L[m] = true
/-- The names before f are other than the one at i. -/
def Fore (L : List ByteArray) (f i : Nat) : Prop := ∃ hi : i < L.length, ∀ j (hj : j < L.length), j < f → (L[j] == L[i]) = false

theorem upto_zero {L : List ByteArray} (h : L.length ≠ 0) : Upto L 0 0 := ⟨by omega, fun _ _ h => absurd h (Nat.not_lt_zero _), fun _ _ h => absurd h (Nat.not_lt_zero _)⟩
theorem fore_zero {L : List ByteArray} {i : Nat} (h : i < L.length) : Fore L 0 i := ⟨h, fun _ _ h => absurd h (Nat.not_lt_zero _)⟩
theorem fore_step {L : List ByteArray} {f i : Nat} (h : Fore L f i) (hi : i < L.length) (hf : f < L.length) (hne : (L[f] == L[i]) = false) : Fore L (f + 1) i := by
  obtain ⟨_, h⟩ := h
  refine ⟨hi, fun j hj hjf => ?_⟩
  rcases Nat.lt_or_eq_of_le (Nat.le_of_lt_succ hjf) with h' | h'
  · exact h j hj h'
  · subst h'; exact hne
theorem upto_up {L : List ByteArray} {k f i : Nat} (h : Upto L k i) (hfo : Fore L f i) (hi : i < L.length) (hf : f < L.length) (he : (L[f] == L[i]) = true) (hk : k < f) : Upto L f (i + 1) := by
  obtain ⟨_, _, h2⟩ := h
  obtain ⟨_, h3⟩ := hfo
  refine ⟨hf, fun j hj hjf => ?_, fun m hm hmi => ?_⟩
  · rw [(Go.MapKept.bytes_beq _ _).1 he]; exact h3 j hj hjf
  · rcases Nat.lt_or_eq_of_le (Nat.le_of_lt_succ hmi) with h' | h'
    · exact seen_mono (by omega) (h2 m hm h')
    · subst h'; exact seen_of hf (Nat.lt_succ_self _) he
theorem upto_stay {L : List ByteArray} {k f i : Nat} (h : Upto L k i) (hi : i < L.length) (hf : f < L.length) (he : (L[f] == L[i]) = true) (hk : ¬ k < f) : Upto L k (i + 1) := by
  obtain ⟨hk0, h1, h2⟩ := h
  refine ⟨hk0, h1, fun m hm hmi => ?_⟩
  rcases Nat.lt_or_eq_of_le (Nat.le_of_lt_succ hmi) with h' | h'
  · exact h2 m hm h'
  · subst h'; exact seen_of hf (by omega) he
theorem upto_last {L : List ByteArray} {k i : Nat} (h : Upto L k i) (hi : ¬ i < L.length) : IsLast L k := by
  obtain ⟨hk, h1, h2⟩ := h
  exact ⟨hk, h1, fun m hm => h2 m hm (by omega)⟩

/-- Where the coordinator stands behind j acknowledgements. -/
def Now (B : Nat) (w : World) (cb : Nat) (held outcome token : ByteArray) (L : List ByteArray) (k j : Nat) : Prop :=
  (j ≤ k ∧ St B w cb held outcome token (rem L j)) ∨ (k < j ∧ abB outcome = true ∧ Gone B w cb) ∨ (k < j ∧ abB outcome = false ∧ St B w cb held outcome token (rem L k))

theorem Now.below {B : Nat} {w w' : World} {cb : Nat} {held outcome token : ByteArray} {L : List ByteArray} {k j : Nat} (h : Now B w cb held outcome token L k j) (hb : Below w.heap.size w w') : Now B w' cb held outcome token L k j := by
  rcases h with ⟨h1, h2⟩ | ⟨h1, h2, h3⟩ | ⟨h1, h2, h3⟩
  · exact .inl ⟨h1, h2.below hb⟩
  · exact .inr (.inl ⟨h1, h2, h3.below hb⟩)
  · exact .inr (.inr ⟨h1, h2, h3.below hb⟩)

theorem rem_le (L : List ByteArray) (j : Nat) : (rem L j).length ≤ L.length := List.length_filter_le _ _
theorem rem_done {L : List ByteArray} {k : Nat} (h : IsLast L k) : rem L (k + 1) = [] := by
  obtain ⟨_, _, h2⟩ := h
  unfold rem
  rw [List.filter_eq_nil_iff]
  intro x hx
  obtain ⟨i, hi, rfl⟩ := List.mem_iff_getElem.1 hx
  rw [h2 i hi]
  simp

theorem now_start {B : Nat} {w : World} {cb : Nat} {held outcome token : ByteArray} {L : List ByteArray} {k : Nat} (h : St B w cb held outcome token L) : Now B w cb held outcome token L k 0 :=
  .inl ⟨Nat.zero_le _, by rw [rem_zero]; exact h⟩

theorem step_ab (B cb : Nat) (held outcome token : ByteArray) (L : List ByteArray) (k j : Nat) (w : World) (h : Now B w cb held outcome token L k j) (hl : IsLast L k) (hj : j < L.length) (hL : L.length * 16 ≤ 140737488351232) (ha : abB outcome = true) :
    Calls Try.prog 7 #[.pointer (some ⟨cb, 0, none⟩), .string held, .string L[j]] w fun e w' => e = .returned (.pointer none) ∧ Now B w' cb held outcome token L k (j + 1) ∧ Below B w w' := by
  have hrl := rem_le L j
  rcases h with ⟨h1, h2⟩ | ⟨h1, h2, h3⟩ | ⟨h1, h2, h3⟩
  · rcases Nat.lt_or_eq_of_le h1 with hlt | rfl
    · refine (ack_rest B cb held outcome token L[j] _ w h2 (by omega) (by rw [rem_step hj]; exact rem_ne hl.1 hl.2.1 hlt)).mono fun e w' ⟨he, hs, hb⟩ => ⟨he, .inl ⟨hlt, by rw [← rem_step hj]; exact hs⟩, hb⟩
    · refine (ack_abort B cb held outcome token L[j] _ w h2 (by omega) (by rw [rem_step hj]; exact rem_done hl) ha).mono fun e w' ⟨he, hs, hb⟩ => ⟨he, .inr (.inl ⟨Nat.lt_succ_self _, ha, hs⟩), hb⟩
  · refine (ack_gone B cb held L[j] w h3).mono fun e w' ⟨he, hw⟩ => ?_
    subst hw
    exact ⟨he, .inr (.inl ⟨by omega, ha, h3⟩), Below.refl _ _⟩
  · rw [ha] at h2; cases h2

theorem step_rest (B cb : Nat) (held outcome token : ByteArray) (L : List ByteArray) (k j : Nat) (w : World) (h : Now B w cb held outcome token L k j) (hl : IsLast L k) (hk : k < L.length) (hj : j < L.length) (hL : L.length * 16 ≤ 140737488351232) (ha : abB outcome = false) (hn : (L[j] == L[k]) = false) :
    Calls Try.prog 7 #[.pointer (some ⟨cb, 0, none⟩), .string held, .string L[j]] w fun e w' => e = .returned (.pointer none) ∧ Now B w' cb held outcome token L k (j + 1) ∧ Below B w w' := by
  have hrl := rem_le L j
  have hrk := rem_le L k
  rcases h with ⟨h1, h2⟩ | ⟨h1, h2, h3⟩ | ⟨h1, h2, h3⟩
  · rcases Nat.lt_or_eq_of_le h1 with hlt | rfl
    · refine (ack_rest B cb held outcome token L[j] _ w h2 (by omega) (by rw [rem_step hj]; exact rem_ne hl.1 hl.2.1 hlt)).mono fun e w' ⟨he, hs, hb⟩ => ⟨he, .inl ⟨hlt, by rw [← rem_step hj]; exact hs⟩, hb⟩
    · rw [beq_self] at hn; cases hn
  · rw [ha] at h2; cases h2
  · have hne := rem_ne hl.1 hl.2.1 (Nat.le_refl k)
    have hd : dropP L[j] (rem L k) = rem L k := by rw [rem_last hl hk]; exact only_drop_other hn
    refine (ack_rest B cb held outcome token L[j] _ w h3 (by omega) (by rw [hd]; exact hne)).mono fun e w' ⟨he, hs, hb⟩ => ⟨he, .inr (.inr ⟨by omega, ha, by rw [hd] at hs; exact hs⟩), hb⟩

theorem step_end (B cb : Nat) (held outcome token : ByteArray) (L : List ByteArray) (k j : Nat) (w : World) (h : Now B w cb held outcome token L k j) (hl : IsLast L k) (hk : k < L.length) (hj : j < L.length) (hL : L.length * 16 ≤ 140737488351232) (ha : abB outcome = false) (hkj : k ≤ j) (hn : (L[j] == L[k]) = true) :
    Calls Try.prog 7 #[.pointer (some ⟨cb, 0, none⟩), .string held, .string L[j]] w fun e w' => ∃ rb, e = .returned (.pointer (some ⟨rb, 0, none⟩)) ∧ EndRec w' rb held ∧ Now B w' cb held outcome token L k (j + 1) ∧ Below B w w' := by
  have hrl := rem_le L k
  have hs : St B w cb held outcome token (rem L k) := by
    rcases h with ⟨h1, h2⟩ | ⟨h1, h2, h3⟩ | ⟨h1, h2, h3⟩
    · rwa [show j = k by omega] at h2
    · rw [ha] at h2; cases h2
    · exact h3
  refine (ack_end B cb held outcome token L[j] _ w hs (by omega) (by rw [rem_last hl hk]; exact only_drop_same hn) ha).mono fun e w' ⟨rb, he, hr, hs, hb⟩ => ⟨rb, he, hr, .inr (.inr ⟨by omega, ha, hs⟩), hb⟩

theorem now_gone {B : Nat} {w : World} {cb : Nat} {held outcome token : ByteArray} {L : List ByteArray} {k j : Nat} (h : Now B w cb held outcome token L k j) (hkj : k < j) (ha : abB outcome = true) : Gone B w cb := by
  rcases h with ⟨h1, _⟩ | ⟨_, _, h⟩ | ⟨_, h, _⟩
  · omega
  · exact h
  · rw [ha] at h; cases h
theorem now_kept {B : Nat} {w : World} {cb : Nat} {held outcome token : ByteArray} {L : List ByteArray} {k j : Nat} (h : Now B w cb held outcome token L k j) (hkj : k < j) (ha : abB outcome = false) : St B w cb held outcome token (rem L k) := by
  rcases h with ⟨h1, _⟩ | ⟨_, h, _⟩ | ⟨_, _, h⟩
  · omega
  · rw [ha] at h; cases h
  · exact h

/-! ### The two copies -/
/-- Blocks b and b + 1 hold L as far as k. -/
def Copies (w : World) (b : Nat) (L : List ByteArray) (k : Nat) : Prop := w.rowIs b 9 L.length (cp L k) ∧ w.rowIs (b + 1) 9 L.length (cp L k)

theorem copies_zero (w : World) (L : List ByteArray) : Copies ((w.alloc (.cells (madeCells #[.string ⟨#[]⟩] L.length) 9)).alloc (.cells (madeCells #[.string ⟨#[]⟩] L.length) 9)) w.heap.size L 0 := by
  have hcg : ∀ i, i < L.length → Value.string ⟨#[]⟩ = cp L 0 i := fun i _ => by unfold cp; rw [if_neg (Nat.not_lt_zero _)]
  refine ⟨((World.rowIs_made w _ _ _).alloc _).congr hcg, ?_⟩
  have := World.rowIs_made (w.alloc (.cells (madeCells #[.string ⟨#[]⟩] L.length) 9)) (.string ⟨#[]⟩) L.length 9
  rw [size_alloc'] at this
  exact this.congr hcg

theorem copies_step {w : World} {b : Nat} {L : List ByteArray} {k : Nat} (h : Copies w b L k) (hk : k < L.length) : Copies ((w.setCell ⟨b, k, none⟩ (.string L[k])).setCell ⟨b + 1, k, none⟩ (.string L[k])) b L (k + 1) := by
  refine ⟨?_, ?_⟩
  · exact ((h.1.set k (.string L[k])).setOther (by simp) _).congr fun i _ => cp_step hk i
  · exact ((h.2.setOther (a := ⟨b, k, none⟩) (by simp) _).set k (.string L[k])).congr fun i _ => cp_step hk i

end Go.Proofs.Qxb6629019a
