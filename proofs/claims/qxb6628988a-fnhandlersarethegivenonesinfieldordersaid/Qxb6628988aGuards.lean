/-
  The size guards by their contracts: each returns some bool and leaves the world as it was.
-/
import Derived.Test.Qxb6628988aHand
namespace Go.Proofs.Qxb6628988a
open Go.RowKit

/-- It returns a bool. -/
def SomeBool (e : Ending) : Prop := ∃ t, e = .returned (.bool t)
def RetTrue (e : Ending) : Prop := e = .returned (.bool true)

/-- What the walks ask of the slice of strings. -/
def Strings (w : World) (a : Option Addr) (b off len : Nat) : Prop := (a = some ⟨b, off, none⟩ ∨ len = 0) ∧ ∀ i, i < len → ∃ s, w.cell? ⟨b, off + i, none⟩ = some (.string s)

set_option maxHeartbeats 1000000 in
theorem bytes5_any (h0 h1 h2 h3 : Bool) (x0 x1 x2 x3 x4 : Int) (gr : Option Addr) (a : Option Addr) (b off len cap : Nat) (w : World) (hs : Strings w a b off len) :
    Calls Try.prog 5 #[.bool h0, .slice a len cap, .bool h1, .bool h2, .bool h3, .int .i32 x0, .int .i32 x1, .int .i32 x2, .int .i32 x3, .int .i32 x4, .pointer gr] w fun e w' => SomeBool e ∧ w' = w := by
  have HS := hid_of hs.2
  have HA := hid_of hs.1
  clear hs
  go_enter Try.func5, Try.ntmps5
  go_wp2
  all_goals try (go_ret; exact ⟨⟨_, rfl⟩, rfl⟩)
  go_loop [23, 24] (fun z i => ∃ (k : Nat) (q : Int), k ≤ len ∧ i = .int .i64 k ∧ z = .int .i64 q) (fun _ i => len - (intOf i).toNat)
  case atStart => exact ⟨0, _, Nat.zero_le _, rfl, rfl⟩
  case round =>
    obtain ⟨k, q, hk, rfl, rfl⟩ := hrel
    by_cases hlt : k < len
    · obtain ⟨s, hc⟩ := HS.out k hlt
      obtain rfl : a = some ⟨b, off, none⟩ := by rcases HA.out with h | h; exact h; omega
      go_wp2
      all_goals try (go_ret; exact ⟨⟨_, rfl⟩, rfl⟩)
      go_round
      case rel => exact ⟨k + 1, _, by omega, by go_num, rfl⟩
      case measure => simp [intOf]; omega
    · go_wp2
      go_ret
      exact ⟨⟨_, rfl⟩, rfl⟩

set_option maxHeartbeats 1000000 in
theorem bytes11_any (h0 h1 h2 h3 : Bool) (x0 x1 x2 x3 x4 : Int) (gr : Option Addr) (a : Option Addr) (b off len cap : Nat) (w : World) (hs : Strings w a b off len) :
    Calls Try.prog 11 #[.bool h0, .slice a len cap, .bool h1, .bool h2, .bool h3, .int .i32 x0, .int .i32 x1, .int .i32 x2, .int .i32 x3, .int .i32 x4, .pointer gr] w fun e w' => SomeBool e ∧ w' = w := by
  have HS := hid_of hs.2
  have HA := hid_of hs.1
  clear hs
  go_enter Try.func11, Try.ntmps11
  go_wp2
  all_goals try (go_ret; exact ⟨⟨_, rfl⟩, rfl⟩)
  go_loop [23, 24] (fun z i => ∃ (k : Nat) (q : Int), k ≤ len ∧ i = .int .i64 k ∧ z = .int .i64 q) (fun _ i => len - (intOf i).toNat)
  case atStart => exact ⟨0, _, Nat.zero_le _, rfl, rfl⟩
  case round =>
    obtain ⟨k, q, hk, rfl, rfl⟩ := hrel
    by_cases hlt : k < len
    · obtain ⟨s, hc⟩ := HS.out k hlt
      obtain rfl : a = some ⟨b, off, none⟩ := by rcases HA.out with h | h; exact h; omega
      go_wp2
      all_goals try (go_ret; exact ⟨⟨_, rfl⟩, rfl⟩)
      go_round
      case rel => exact ⟨k + 1, _, by omega, by go_num, rfl⟩
      case measure => simp [intOf]; omega
    · go_wp2
      go_ret
      exact ⟨⟨_, rfl⟩, rfl⟩

set_option maxHeartbeats 1000000 in
theorem tooBig_any (a : Option Addr) (b off len cap : Nat) (w : World) (hs : Strings w a b off len) :
    Calls Try.prog 6 #[.slice a len cap] w fun e w' => SomeBool e ∧ w' = w := by
  have HS := hid_of hs.2
  have HA := hid_of hs.1
  clear hs
  go_enter Try.func6, Try.ntmps6
  go_wp2
  all_goals try (go_ret; exact ⟨⟨_, rfl⟩, rfl⟩)
  go_loop [3, 4] (fun z i => ∃ (k : Nat) (q : Int), k ≤ len ∧ i = .int .i64 k ∧ z = .int .i64 q) (fun _ i => len - (intOf i).toNat)
  case atStart => exact ⟨0, _, Nat.zero_le _, rfl, rfl⟩
  case round =>
    obtain ⟨k, q, hk, rfl, rfl⟩ := hrel
    by_cases hlt : k < len
    · obtain ⟨s, hc⟩ := HS.out k hlt
      obtain rfl : a = some ⟨b, off, none⟩ := by rcases HA.out with h | h; exact h; omega
      go_wp2
      all_goals try (go_ret; exact ⟨⟨_, rfl⟩, rfl⟩)
      go_round
      case rel => exact ⟨k + 1, _, by omega, by go_num, rfl⟩
      case measure => simp [intOf]; omega
    · go_wp2
      go_ret
      exact ⟨⟨_, rfl⟩, rfl⟩

end Go.Proofs.Qxb6628988a
