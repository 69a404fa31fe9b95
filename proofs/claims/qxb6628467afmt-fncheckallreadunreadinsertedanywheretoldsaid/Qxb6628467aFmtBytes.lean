/-
  The three size guards by their contracts: each returns some bool and writes nothing that was there.
-/
import Derived.Test.Qxb6628467aFmtBuild
namespace Go.Proofs.Qxb6628467aFmt
open Go.RowKit

/-- It returns a bool. -/
def SomeBool (e : Ending) : Prop := ∃ t, e = .returned (.bool t)

set_option maxHeartbeats 1000000 in
theorem bytes9_any (kd nm : ByteArray) (l : Int) (a : Option Addr) (b off len cap : Nat) (R : Nat → Bool) (c : Int) (w : World) (hlen : len * 48 ≤ 140737488351232)
    (ha : a = some ⟨b, off, none⟩ ∨ len = 0) (hs : ∀ i, i < len → ElAt w b off i (R i)) :
    Calls Tryf.prog 9 #[.string kd, .string nm, .int .i64 l, .slice a len cap, .int .i64 c] w fun e w' => SomeBool e ∧ Below w.heap.size w w' := by
  have HS := hid_of hs
  have HA := hid_of ha
  clear hs ha
  go_enter Tryf.func9, Tryf.ntmps9
  go_wp2
  all_goals try (go_ret; exact ⟨⟨_, rfl⟩, Below.refl _ _⟩)
  go_loop [11, 12] (fun z i => ∃ (k : Nat) (q : Int), k ≤ len ∧ i = .int .i64 k ∧ z = .int .i64 q) (fun _ i => len - (intOf i).toNat)
  case atStart => exact ⟨0, _, Nat.zero_le _, rfl, rfl⟩
  case round =>
    obtain ⟨k, q, hk, rfl, rfl⟩ := hrel
    by_cases hlt : k < len
    · have hel := HS.out k hlt
      obtain rfl : a = some ⟨b, off, none⟩ := by rcases HA.out with h | h; exact h; omega
      obtain ⟨key, val, n, _, _, e0, e1, e2, e3⟩ := hel
      go_wp2
      all_goals try (go_ret; exact ⟨⟨_, rfl⟩, Below.refl _ _⟩)
      go_round
      case rel => exact ⟨k + 1, _, by omega, by go_num, rfl⟩
      case measure => simp [intOf]; omega
    · go_wp2
      go_ret
      exact ⟨⟨_, rfl⟩, Below.refl _ _⟩

set_option maxHeartbeats 1000000 in
theorem bytes5_any (kd nm : ByteArray) (l : Int) (a : Option Addr) (b off len cap : Nat) (R : Nat → Bool) (c : Int) (k1 k2 : ByteArray) (kl : Int) (w : World) (hlen : len * 48 ≤ 140737488351232)
    (ha : a = some ⟨b, off, none⟩ ∨ len = 0) (hs : ∀ i, i < len → ElAt w b off i (R i)) :
    Calls Tryf.prog 5 #[.string kd, .string nm, .int .i64 l, .slice a len cap, .int .i64 c, .string k1, .string k2, .int .i64 kl] w fun e w' => SomeBool e ∧ Below w.heap.size w w' := by
  have HS := hid_of hs
  have HA := hid_of ha
  clear hs ha
  go_enter Tryf.func5, Tryf.ntmps5
  go_wp2
  all_goals try (go_ret; exact ⟨⟨_, rfl⟩, Below.refl _ _⟩)
  go_loop [17, 18] (fun z i => ∃ (k : Nat) (q : Int), k ≤ len ∧ i = .int .i64 k ∧ z = .int .i64 q) (fun _ i => len - (intOf i).toNat)
  case atStart => exact ⟨0, _, Nat.zero_le _, rfl, rfl⟩
  case round =>
    obtain ⟨k, q, hk, rfl, rfl⟩ := hrel
    by_cases hlt : k < len
    · have hel := HS.out k hlt
      obtain rfl : a = some ⟨b, off, none⟩ := by rcases HA.out with h | h; exact h; omega
      obtain ⟨key, val, n, _, _, e0, e1, e2, e3⟩ := hel
      go_wp2
      all_goals try (go_ret; exact ⟨⟨_, rfl⟩, Below.refl _ _⟩)
      go_round
      case rel => exact ⟨k + 1, _, by omega, by go_num, rfl⟩
      case measure => simp [intOf]; omega
    · go_wp2
      all_goals (go_ret; exact ⟨⟨_, rfl⟩, Below.refl _ _⟩)

set_option maxHeartbeats 1000000 in
theorem bytesOK_any (kd nm : ByteArray) (a : Option Addr) (b off len cap : Nat) (R : Nat → Bool) (w : World) (hlen : len * 48 ≤ 140737488351232)
    (ha : a = some ⟨b, off, none⟩ ∨ len = 0) (hs : ∀ i, i < len → ElAt w b off i (R i)) :
    Calls Tryf.prog 6 #[.string kd, .string nm, .slice a len cap] w fun e w' => SomeBool e ∧ Below w.heap.size w w' := by
  have HS := hid_of hs
  have HA := hid_of ha
  clear hs ha
  go_enter Tryf.func6, Tryf.ntmps6
  go_wp2
  all_goals try (go_ret; exact ⟨⟨_, rfl⟩, Below.refl _ _⟩)
  go_loopw [7, 8] (fun z i wr => ∃ (k : Nat) (q : Int), k ≤ len ∧ i = .int .i64 k ∧ z = .int .i64 q ∧ Below w.heap.size w wr) (fun _ i _ => len - (intOf i).toNat)
  case atStart => exact ⟨0, _, Nat.zero_le _, rfl, rfl, Below.refl _ _⟩
  case round =>
    obtain ⟨k, q, hk, rfl, rfl, hbel⟩ := hrel
    by_cases hlt : k < len
    · have hel := HS.out k hlt
      obtain rfl : a = some ⟨b, off, none⟩ := by rcases HA.out with h | h; exact h; omega
      obtain ⟨key, val, n, _, _, e0, e1, e2, e3⟩ := hel.below hbel hel.lt
      have hk1 : (0 : Int) ≤ (k : Int) := by omega
      have hk2 : (k : Int) < (len : Int) := by omega
      clear hel
      go_wp2
      all_goals try (go_ret; exact ⟨⟨_, rfl⟩, hbel⟩)
      go_region_held3 (fun w' => w'.cell? ⟨b, off + k * 4, none⟩ = some (.string key) ∧ w'.cell? ⟨b, off + k * 4 + 1, none⟩ = some (.string val)) (go_keep) (fail)
      go_wp2
      all_goals try (go_ret; exact ⟨⟨_, rfl⟩, hbel.drew⟩)
      go_roundw
      case rel => exact ⟨k + 1, _, by omega, by go_num, rfl, hbel.drew⟩
      case measure => simp [intOf]; omega
    · go_wp2
      all_goals (go_ret; exact ⟨⟨_, rfl⟩, hbel⟩)

end Go.Proofs.Qxb6628467aFmt
