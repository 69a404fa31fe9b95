/-
  (*Section).CheckAllRead by its contract.
-/
import Derived.Test.Qxb6628467aFmtErr
namespace Go.Proofs.Qxb6628467aFmt
open Go.RowKit Go.Extern.Stop Go.Stop Go.Extern

/-- What CheckAllRead answers: nil where every flag is set; else a new error. -/
def Told (n : Nat) (R : Nat → Bool) (e : Ending) : Prop :=
  ((∀ k, k < n → R k = true) ∧ e = .returned .nilIface) ∨ ((∃ k, k < n ∧ R k = false) ∧ ∃ q, e = .returned (.iface 46 (.pointer (some ⟨q, 0, none⟩))))

/-- The cells of a setting at block g whose flag is r. -/
def SetCells (w : World) (g : Nat) (r : Bool) : Prop :=
  ∃ key p n, w.cell? ⟨g, 0, none⟩ = some (.string key) ∧ w.cell? ⟨g, 2, none⟩ = some (.int .i64 n) ∧ w.cell? ⟨g, 3, none⟩ = some (.string p) ∧ w.cell? ⟨g, 4, none⟩ = some (.bool r)

theorem cell_alloc {w : World} {a : Addr} {v : Value} {o : Obj} (h : w.cell? a = some v) : (w.alloc o).cell? a = some v :=
  (World.cell?_alloc_lt _ _ _ (World.block_lt_of_cell? w a h)).trans h

theorem all_succ {R : Nat → Bool} {k : Nat} (h : ∀ j, j < k → R j = true) (hr : R k = true) : ∀ j, j < k + 1 → R j = true :=
  fun j hj => (Nat.lt_succ_iff_lt_or_eq.1 hj).elim (h j) (fun e => e ▸ hr)

set_option maxHeartbeats 1000000 in
theorem check_row (F : Interp) (sb rb cap n : Nat) (G : Nat → Nat) (R : Nat → Bool) (w : World) (hF : F.answers w.tape)
    (hv : w.cell? ⟨sb, 4, none⟩ = some (.slice (some ⟨rb, 0, none⟩) n cap)) (hn : n ≤ 9223372036854775807)
    (hrow : ∀ k, k < n → w.cell? ⟨rb, k, none⟩ = some (.pointer (some ⟨G k, 0, none⟩))) (hset : ∀ k, k < n → SetCells w (G k) (R k)) :
    Calls Tryf.prog 8 #[.pointer (some ⟨sb, 0, none⟩)] w fun e w' => Told n R e ∧ Below w.heap.size w w' := by
  go_enter Tryf.func8, Tryf.ntmps8
  go_wp2
  go_loop [10] (fun i => ∃ k : Nat, k ≤ n ∧ i = .int .i64 k ∧ ∀ j, j < k → R j = true) (fun i => n - (intOf i).toNat)
  case atStart => exact ⟨0, Nat.zero_le _, rfl, fun j h => by omega⟩
  case round =>
    obtain ⟨k, hk, rfl, hall⟩ := hrel
    have HA : Hid (∀ j, j < k → R j = true) := hall
    have HR : Hid (∀ k, k < n → w.cell? ⟨rb, k, none⟩ = some (.pointer (some ⟨G k, 0, none⟩))) := hrow
    clear hall hrow
    by_cases hlt : k < n
    · have hc := HR.out k hlt
      obtain ⟨key, p, m, h0, h2, h3, h4⟩ := hset k hlt
      have hlt' : (k : Int) < (n : Int) := by omega
      have HS : Hid (∀ k, k < n → SetCells w (G k) (R k)) := hset
      clear hset
      cases hr : R k with
      | true =>
        rw [hr] at h4
        go_wp2
        go_round
        case rel => exact ⟨k + 1, by omega, by go_num, all_succ HA.out hr⟩
        case measure => simp [intOf]; omega
      | false =>
        rw [hr] at h4
        go_wp2_with (first | (go_at_call 12; refine (setErrorf_any F (G k) w.heap.size key p m _ (by exact hF) (by exact cell_alloc h0) (by exact cell_alloc h2) (by exact cell_alloc h3) (by simp)).mono ?_; rintro e w' ⟨⟨q, rfl⟩, hb⟩))
        go_ret
        exact ⟨.inr ⟨⟨k, hlt, hr⟩, q, rfl⟩, ((Below.refl _ _).alloc (Nat.le_refl _) _).trans (hb.mono (by simp))⟩
    · go_wp2
      go_ret
      refine ⟨.inl ⟨fun j hj => HA.out j (by omega), rfl⟩, Below.refl _ _⟩


set_option maxHeartbeats 400000 in
theorem check_nil (R : Nat → Bool) (sb : Nat) (w : World) (hv : w.cell? ⟨sb, 4, none⟩ = some (.slice none 0 0)) :
    Calls Tryf.prog 8 #[.pointer (some ⟨sb, 0, none⟩)] w fun e w' => Told 0 R e ∧ Below w.heap.size w w' := by
  go_enter Tryf.func8, Tryf.ntmps8
  go_wp2
  refine wp_loop_rounds 1 ?_
  rw [rounds_succ]
  go_wp2
  go_ret
  exact ⟨.inl ⟨fun j hj => by omega, rfl⟩, Below.refl _ _⟩

end Go.Proofs.Qxb6628467aFmt
