/-
  The size guards and the three small readers by their contracts.
-/
import Derived.Test.Qxb6629019aAck
import Derived.Deep.QuietTactic
import Derived.BigQuiet
import Derived.WalkSmall
namespace Go.Proofs.Qxb6629019a
open Go.RowKit

/-- It returns a bool. -/
def SomeBool (e : Ending) : Prop := ∃ t, e = .returned (.bool t)
def RetTrue (e : Ending) : Prop := e = .returned (.bool true)

/-- The slice of strings that came in. -/
def StrsIn (w : World) (a : Option Addr) (b off : Nat) (L : List ByteArray) : Prop := (a = some ⟨b, off, none⟩ ∨ L.length = 0) ∧ ∀ i (hi : i < L.length), w.cell? ⟨b, off + i, none⟩ = some (.string L[i])

theorem StrsIn.below {B : Nat} {w w' : World} {a : Option Addr} {b off : Nat} {L : List ByteArray} (h : StrsIn w a b off L) (hb : Below B w w') (hB : w.heap.size ≤ B) : StrsIn w' a b off L :=
  ⟨h.1, fun i hi => (hb.cell (p := ⟨b, off + i, none⟩) (Nat.lt_of_lt_of_le (World.block_lt_of_cell? w _ (h.2 i hi)) hB)).trans (h.2 i hi)⟩

set_option maxHeartbeats 2000000 in
theorem bytes5_any (s0 s1 s2 s4 s5 : ByteArray) (a : Option Addr) (b off cap : Nat) (L : List ByteArray) (w : World) (hs : StrsIn w a b off L) (hl : L.length * 16 ≤ 140737488351232) :
    Calls Try.prog 5 #[.string s0, .string s1, .string s2, .slice a L.length cap, .string s4, .string s5] w fun e w' => SomeBool e ∧ w' = w := by
  have HS := hid_of hs.2
  have HA := hid_of hs.1
  clear hs
  go_enter Try.func5, Try.ntmps5
  go_wp2
  all_goals try (go_ret; exact ⟨⟨_, rfl⟩, rfl⟩)
  go_loop [13, 14] (fun z i => ∃ (k : Nat) (q : Int), k ≤ L.length ∧ i = .int .i64 k ∧ z = .int .i64 q) (fun _ i => L.length - (intOf i).toNat)
  case atStart => exact ⟨0, _, Nat.zero_le _, rfl, rfl⟩
  case round =>
    obtain ⟨k, q, hk, rfl, rfl⟩ := hrel
    by_cases hlt : k < L.length
    · have hc := HS.out k hlt
      generalize L[k] = s at hc
      obtain rfl : a = some ⟨b, off, none⟩ := by rcases HA.out with h | h; exact h; omega
      go_wp2
      all_goals try (go_ret; exact ⟨⟨_, rfl⟩, rfl⟩)
      go_round
      case rel => exact ⟨k + 1, _, by omega, by go_num, rfl⟩
      case measure => simp [intOf]; omega
    · go_wp2
      all_goals (go_ret; exact ⟨⟨_, rfl⟩, rfl⟩)

set_option maxHeartbeats 2000000 in
theorem bytes14_any (s0 s1 s2 : ByteArray) (a : Option Addr) (b off cap : Nat) (L : List ByteArray) (w : World) (hs : StrsIn w a b off L) (hl : L.length * 16 ≤ 140737488351232) :
    Calls Try.prog 14 #[.string s0, .string s1, .string s2, .slice a L.length cap] w fun e w' => SomeBool e ∧ w' = w := by
  have HS := hid_of hs.2
  have HA := hid_of hs.1
  clear hs
  go_enter Try.func14, Try.ntmps14
  go_wp2
  all_goals try (go_ret; exact ⟨⟨_, rfl⟩, rfl⟩)
  go_loop [9, 10] (fun z i => ∃ (k : Nat) (q : Int), k ≤ L.length ∧ i = .int .i64 k ∧ z = .int .i64 q) (fun _ i => L.length - (intOf i).toNat)
  case atStart => exact ⟨0, _, Nat.zero_le _, rfl, rfl⟩
  case round =>
    obtain ⟨k, q, hk, rfl, rfl⟩ := hrel
    by_cases hlt : k < L.length
    · have hc := HS.out k hlt
      generalize L[k] = s at hc
      obtain rfl : a = some ⟨b, off, none⟩ := by rcases HA.out with h | h; exact h; omega
      go_wp2
      all_goals try (go_ret; exact ⟨⟨_, rfl⟩, rfl⟩)
      go_round
      case rel => exact ⟨k + 1, _, by omega, by go_num, rfl⟩
      case measure => simp [intOf]; omega
    · go_wp2
      all_goals (go_ret; exact ⟨⟨_, rfl⟩, rfl⟩)

set_option maxHeartbeats 1000000 in
theorem same_any (A1 A2 : Option Addr) (r1 r2 c1 c2 : Nat) (l : List ByteArray) (w : World) (h1 : RowAt w A1 r1 l) (h2 : RowAt w A2 r2 l) (hl : l.length * 16 ≤ 140737488351232) :
    Calls Try.prog 10 #[.slice A1 l.length c1, .slice A2 l.length c2] w fun e w' => e = .returned (.bool true) ∧ Below w.heap.size w w' := by
  have H1 := hid_of h1
  have H2 := hid_of h2
  clear h1 h2
  go_enter Try.func10, Try.ntmps10
  go_wp2
  go_loopw [5] (fun j wq => ∃ m : Nat, m ≤ l.length ∧ j = .int .i64 m ∧ Below w.heap.size w wq) (fun j _ => l.length - (intOf j).toNat)
  case atStart => exact ⟨0, by omega, rfl, Below.refl _ _⟩
  case round =>
    obtain ⟨m, hm, rfl, hb⟩ := hrel
    have HA := hid_of (H1.out.below hb (Nat.le_refl _))
    have HB := hid_of (H2.out.below hb (Nat.le_refl _))
    by_cases hlt : m < l.length
    · obtain ⟨s, ca, cb⟩ : ∃ s, wr.cell? ⟨r1, m, none⟩ = some (.string s) ∧ wr.cell? ⟨r2, m, none⟩ = some (.string s) := ⟨_, HA.out.2 m hlt, HB.out.2 m hlt⟩
      obtain rfl : A1 = some ⟨r1, 0, none⟩ := by rcases HA.out.1 with h | h; exact h; omega
      obtain rfl : A2 = some ⟨r2, 0, none⟩ := by rcases HB.out.1 with h | h; exact h; omega
      have i2 : (m : Int) < (l.length : Int) := by omega
      have i4 : (0 : Int) ≤ (m : Int) := by omega
      go_wp2_with fail
      go_region_held3 (fun w' => w'.cell? ⟨r1, m, none⟩ = some (.string s) ∧ w'.cell? ⟨r2, m, none⟩ = some (.string s)) (go_keep) (fail)
      go_wp2
      go_roundw
      case rel => exact ⟨m + 1, by omega, by go_num, hb.drew⟩
      case measure => simp [intOf]; omega
    · go_wp2
      go_ret
      exact ⟨rfl, hb⟩

set_option maxHeartbeats 1000000 in
theorem contains_no (A1 : Option Addr) (r1 c1 : Nat) (l : List ByteArray) (p : ByteArray) (w : World) (h1 : RowAt w A1 r1 l) (hn : ∀ x ∈ l, (x == p) = false) (hl : l.length * 16 ≤ 140737488351232) :
    Calls Try.prog 11 #[.slice A1 l.length c1, .string p] w fun e w' => e = .returned (.bool false) ∧ w' = w := by
  have H1 := hid_of h1
  have HN := hid_of hn
  clear h1 hn
  go_enter Try.func11, Try.ntmps11
  go_wp2
  go_loop [5] (fun j => ∃ m : Nat, m ≤ l.length ∧ j = .int .i64 m) (fun j => l.length - (intOf j).toNat)
  case atStart => exact ⟨0, by omega, rfl⟩
  case round =>
    obtain ⟨m, hm, rfl⟩ := hrel
    by_cases hlt : m < l.length
    · obtain ⟨s, ca, hne⟩ : ∃ s, w.cell? ⟨r1, m, none⟩ = some (.string s) ∧ (s.toList == p.toList) = false := ⟨_, H1.out.2 m hlt, by rw [← beq_toListBytes]; exact HN.out _ (List.getElem_mem hlt)⟩
      obtain rfl : A1 = some ⟨r1, 0, none⟩ := by rcases H1.out.1 with h | h; exact h; omega
      have i2 : (m : Int) < (l.length : Int) := by omega
      go_wp2
      go_round
      case rel => exact ⟨m + 1, by omega, by go_num⟩
      case measure => simp [intOf]; omega
    · go_wp2
      go_ret
      exact ⟨rfl, rfl⟩

/-- The next of those that are kept. -/
theorem dropP_split (p : ByteArray) (L : List ByteArray) (i : Nat) : dropP p L = dropP p (L.take i) ++ dropP p (L.drop i) := by
  unfold dropP
  rw [← List.filter_append, List.take_append_drop]
theorem dropP_next {p : ByteArray} {L : List ByteArray} {i : Nat} (hi : i < L.length) (h : (L[i] == p) = false) : (dropP p L)[(dropP p (L.take i)).length]? = some L[i] := by
  rw [dropP_split p L i, List.getElem?_append_right (Nat.le_refl _), Nat.sub_self, List.drop_eq_getElem_cons hi]
  unfold dropP
  rw [List.filter_cons_of_pos (by simp [h])]
  rfl
theorem dropP_ne {p : ByteArray} {L : List ByteArray} {x : ByteArray} (h : x ∈ dropP p L) : (x == p) = false := by
  unfold dropP at h
  simpa using (List.mem_filter.1 h).2

set_option maxHeartbeats 2000000 in
theorem subseq_any (A1 A2 : Option Addr) (r1 r2 c1 c2 : Nat) (L : List ByteArray) (p : ByteArray) (w : World) (h1 : RowAt w A1 r1 (dropP p L)) (h2 : RowAt w A2 r2 L) (hl : L.length * 16 ≤ 140737488351232) :
    Calls Try.prog 12 #[.slice A1 (dropP p L).length c1, .slice A2 L.length c2] w fun e w' => e = .returned (.bool true) ∧ Below w.heap.size w w' := by
  have H1 := hid_of h1
  have H2 := hid_of h2
  have hD := dropP_le p L
  obtain ⟨N, hN⟩ : ∃ N, (dropP p L).length = N := ⟨_, rfl⟩
  rw [hN] at hD
  rw [hN]
  have HN := hid_of hN
  clear h1 h2 hN
  go_enter Try.func12, Try.ntmps12
  go_wp2
  go_loopw [5, 6] (fun q j wq => ∃ m t : Nat, m ≤ L.length ∧ j = .int .i64 m ∧ q = .int .i64 t ∧ t = (dropP p (L.take m)).length ∧ Below w.heap.size w wq) (fun _ j _ => L.length - (intOf j).toNat)
  case atStart => exact ⟨0, 0, by omega, rfl, rfl, rfl, Below.refl _ _⟩
  case round =>
    obtain ⟨m, t, hm, rfl, rfl, ht, hb⟩ := hrel
    have HT := hid_of ht
    have htl : t ≤ m := by rw [ht]; exact Nat.le_trans (dropP_le _ _) (List.length_take_le _ _)
    have HA := hid_of (H1.out.below hb (Nat.le_refl _))
    have HB := hid_of (H2.out.below hb (Nat.le_refl _))
    clear ht
    by_cases hlt : m < L.length
    · obtain rfl : A2 = some ⟨r2, 0, none⟩ := by rcases HB.out.1 with h | h; exact h; omega
      have i2 : (m : Int) < (L.length : Int) := by omega
      have i4 : (0 : Int) ≤ (m : Int) := by omega
      have i5 : (0 : Int) ≤ (t : Int) := by omega
      have cb := HB.out.2 m hlt
      by_cases hg : (L[m] == p) = true
      · have htake := dropP_yes hlt hg
        have HK := hid_of htake
        clear htake
        by_cases htn : t < N
        · have htn' : t < (dropP p L).length := by rw [HN.out]; exact htn
          have ca := HA.out.2 t htn'
          have hne : ((dropP p L)[t].toList == L[m].toList) = false := by
            rw [← beq_toListBytes, (Go.MapKept.bytes_beq _ _).1 hg]
            exact dropP_ne (List.getElem_mem htn')
          generalize (dropP p L)[t] = s at ca hne
          generalize L[m] = u at cb hne
          obtain rfl : A1 = some ⟨r1, 0, none⟩ := by rcases HA.out.1 with h | h; exact h; omega
          have i6 : (t : Int) < (N : Int) := by omega
          clear hg htn'
          go_wp2_with fail
          go_region_held3 (fun w' => w'.cell? ⟨r1, t, none⟩ = some (.string s) ∧ w'.cell? ⟨r2, m, none⟩ = some (.string u)) (go_keep) (fail)
          go_wp2
          go_roundw
          case rel => exact ⟨m + 1, t, by omega, by go_num, rfl, by rw [HK.out]; exact HT.out, hb.drew⟩
          case measure => simp [intOf]; omega
        · have i6 : decide ((t : Int) < (N : Int)) = false := by simp; omega
          clear hg cb
          go_wp2_with fail
          go_quiet (fail)
          go_wp2
          go_roundw
          case rel => exact ⟨m + 1, t, by omega, by go_num, rfl, by rw [HK.out]; exact HT.out, below_drewN hb _⟩
          case measure => simp [intOf]; omega
      · have hg' : (L[m] == p) = false := by simpa using hg
        have HK := hid_of (dropP_no hlt hg')
        have hnx := dropP_next hlt hg'
        rw [← HT.out] at hnx
        have htn' : t < (dropP p L).length := by
          rcases Nat.lt_or_ge t (dropP p L).length with h | h
          · exact h
          · rw [List.getElem?_eq_none h] at hnx; cases hnx
        have ca := HA.out.2 t htn'
        have he : (dropP p L)[t] = L[m] := by rw [List.getElem?_eq_getElem htn'] at hnx; exact Option.some.inj hnx
        rw [he] at ca
        have htn : t < N := by rw [← HN.out]; exact htn'
        generalize L[m] = u at ca cb
        obtain rfl : A1 = some ⟨r1, 0, none⟩ := by rcases HA.out.1 with h | h; exact h; omega
        have i6 : (t : Int) < (N : Int) := by omega
        clear hg hg' hnx htn' he
        go_wp2_with fail
        go_region_held3 (fun w' => w'.cell? ⟨r1, t, none⟩ = some (.string u) ∧ w'.cell? ⟨r2, m, none⟩ = some (.string u)) (go_keep) (fail)
        go_wp2
        go_roundw
        case rel => exact ⟨m + 1, t + 1, by omega, by go_num, by go_num, by rw [HK.out, List.length_append, ← HT.out]; rfl, hb.drew⟩
        case measure => simp [intOf]; omega
    · have hmL : L.take m = L := List.take_of_length_le (by omega)
      have htN : t = N := by rw [HT.out, hmL]; exact HN.out
      subst htN
      clear hmL
      go_wp2
      go_ret
      exact ⟨rfl, hb⟩

end Go.Proofs.Qxb6629019a
