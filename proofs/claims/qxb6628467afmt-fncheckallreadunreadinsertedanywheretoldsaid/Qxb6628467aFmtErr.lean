/-
  The walks through fmt: fmt.Errorf at the one format of this program; (*Setting).Errorf.
-/
import Derived.Test.Qxb6628467aFmtRows
import Derived.Test.Qxb6628467aFmtFacts
import Derived.WalkKit
import Derived.WalkSpells
import Derived.Deep.RegionHeld3
import Derived.Deep.DrawnRows
namespace Go.Proofs.Qxb6628467aFmt
open Go.RowKit Go.Extern.Stop Go.Stop Go.Extern
attribute [local go_sem] Tryf.call14 Tryf.call15 Tryf.guard Tryf.fmt0 Tryf.fmt0r Tryf.fmt1 Tryf.fmt1r Tryf.op9 Tryf.op9w Tryf.op3 Tryf.op3w Tryf.ptr46 Tryf.elem46 Tryf.isError46

set_option maxHeartbeats 400000 in
theorem errorf_any (F : Interp) (p k : ByteArray) (n : Int) (blk : Nat) (w : World) (hF : F.answers w.tape)
    (hc0 : w.cell? ⟨blk, 0, none⟩ = some (.iface 9 (.string p))) (hc1 : w.cell? ⟨blk, 1, none⟩ = some (.iface 3 (.int .i64 n)))
    (hc2 : w.cell? ⟨blk, 2, none⟩ = some (.iface 9 (.string k))) (hc3 : ∃ m, w.cell? ⟨blk, 3, none⟩ = some (.iface 9 (.string m))) :
    Calls Tryf.prog 13 #[.string ⟨#[37, 115, 58, 37, 100, 58, 32, 37, 115, 58, 32, 37, 115]⟩, .slice (some ⟨blk, 0, none⟩) 4 4] w fun e w' =>
      ∃ t, e = .returned (.iface 46 (.pointer (some ⟨w.heap.size, 0, none⟩))) ∧ w' = (w.alloc (.cells #[.string t] 48)).drew := by
  have hF' := answers_open hF
  obtain ⟨m, hc3⟩ := hc3
  go_enter Tryf.func13, Tryf.ntmps13
  go_wp2
  go_ret
  exact ⟨_, rfl, rfl⟩


set_option maxHeartbeats 1000000 in
theorem setErrorf_any (F : Interp) (g vb : Nat) (key p : ByteArray) (n : Int) (w : World) (hF : F.answers w.tape)
    (h0 : w.cell? ⟨g, 0, none⟩ = some (.string key)) (h2 : w.cell? ⟨g, 2, none⟩ = some (.int .i64 n)) (h3 : w.cell? ⟨g, 3, none⟩ = some (.string p))
    (hv : w.cell? ⟨vb, 0, none⟩ = some (.iface 9 (.string key))) :
    Calls Tryf.prog 12 #[.pointer (some ⟨g, 0, none⟩), .string ⟨#[117, 110, 107, 110, 111, 119, 110, 32, 115, 101, 116, 116, 105, 110, 103, 32, 37, 115]⟩, .slice (some ⟨vb, 0, none⟩) 1 1] w fun e w' =>
      (∃ q, e = .returned (.iface 46 (.pointer (some ⟨q, 0, none⟩)))) ∧ Below w.heap.size w w' := by
  have hF' := answers_open hF
  go_enter Tryf.func12, Tryf.ntmps12
  go_wp2
  go_region_held3 (fun w' => w'.cell? ⟨g, 0, none⟩ = some (.string key) ∧ w'.cell? ⟨g, 2, none⟩ = some (.int .i64 n) ∧ w'.cell? ⟨g, 3, none⟩ = some (.string p) ∧ w'.cell? ⟨vb, 0, none⟩ = some (.iface 9 (.string key))) (go_keep)
    (first | (go_at_call 13; refine (errorf_any F p key n w.heap.size _ ?_ ?_ ?_ ?_ ?_).mono ?_; exact hF; simp; simp; simp; simp; rintro e w' ⟨t, rfl, rfl⟩))
  all_goals go_wp2
  all_goals go_ret
  all_goals exact ⟨⟨_, rfl⟩, ((((Below.refl _ _).drew.drew.alloc (Nat.le_refl _) _).alloc (by simp) _).drew)⟩

end Go.Proofs.Qxb6628467aFmt
