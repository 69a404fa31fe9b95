/-
  (*Tally).Add, the two size guards and flipVote by their contracts.
-/
import Derived.Test.Qxb6628502aRows
import Derived.Test.Qxb6628502aPlain
import Derived.WalkSpells
import Derived.Deep.RegionHeld3
import Derived.Deep.DrawnRows
namespace Go.Proofs.Qxb6628502a
open Go.RowKit

theorem hid_of {p : Prop} (h : p) : Hid p := h

/-- Block t is the tally T. -/
def TalAt (w : World) (t : Nat) (T : Tal) : Prop := w.heap[t]? = some (.cells #[.int .i64 T.e, .int .i64 T.z, .bool T.d, .int .u8 T.u] 27 (0, 0))

theorem grown_set {w w' : World} {t : Nat} (h : w.grownBy w' (some t)) (i : Nat) (v : Value) : w.grownBy (w'.setCell ⟨t, i, none⟩ v) (some t) :=
  ⟨h.os, h.tape, h.output, by simpa using h.size, fun k hk hne => by
    rw [heap_setCell_other _ _ _ _ (fun e => hne (by rw [e]))]
    exact h.block k hk hne⟩
theorem grown_drew {w w' : World} {r : Option Nat} (h : w.grownBy w' r) : w.grownBy w'.drew r := ⟨h.os, h.tape, h.output, h.size, h.block⟩
theorem block_alloc {w : World} {t : Nat} {o o' : Obj} (h : w.heap[t]? = some o) : (w.alloc o').heap[t]? = some o := (Below.heap_alloc w o' t (lt_of_block h)).trans h

theorem box_at {X w : World} {cs : Array Value} (hz : X.heap.size = w.heap.size) (i : Nat) : (X.alloc (.cells cs 33)).drew.cell? ⟨w.heap.size, i, none⟩ = cs[i]? := by
  rw [← hz]
  show (X.alloc (.cells cs 33)).cell? _ = _
  simp only [World.cell?, heap_alloc_new]
  rfl
theorem box_one {X w : World} {a b : Value} (hz : X.heap.size = w.heap.size) : (X.alloc (.cells #[a, b] 33)).drew.cell? ⟨w.heap.size, 1, none⟩ = some b := box_at hz 1
theorem grown_refl (w : World) (r : Option Nat) : w.grownBy w r := ⟨rfl, rfl, rfl, Nat.le_refl _, fun _ _ _ => rfl⟩

set_option maxHeartbeats 1000000 in
theorem add_any (t : Nat) (T : Tal) (k v : Int) (w : World) (h : TalAt w t T) :
    Calls Try.prog 6 #[.pointer (some ⟨t, 0, none⟩), .agg #[.int .u8 k, .int .u8 v]] w fun e w' => e = .returned (.tuple #[]) ∧ TalAt w' t (T.add k v) ∧ w.grownBy w' (some t) := by
  have hb := h
  unfold TalAt at hb
  have hlt := lt_of_block hb
  have hne : w.heap.size ≠ t := by omega
  have c0 : w.cell? ⟨t, 0, none⟩ = some (.int .i64 T.e) := by simp [World.cell?, hb]
  have c1 : w.cell? ⟨t, 1, none⟩ = some (.int .i64 T.z) := by simp [World.cell?, hb]
  have c2 : w.cell? ⟨t, 2, none⟩ = some (.bool T.d) := by simp [World.cell?, hb]
  have c3 : w.cell? ⟨t, 3, none⟩ = some (.int .u8 T.u) := by simp [World.cell?, hb]
  have f0 : w.frozen? ⟨t, 0, none⟩ = false := by simp [World.frozen?, hb]
  have f1 : w.frozen? ⟨t, 1, none⟩ = false := by simp [World.frozen?, hb]
  have f2 : w.frozen? ⟨t, 2, none⟩ = false := by simp [World.frozen?, hb]
  have f3 : w.frozen? ⟨t, 3, none⟩ = false := by simp [World.frozen?, hb]
  have HB := hid_of hb
  clear hb h
  by_cases k1 : k = 1
  · subst k1
    by_cases v0 : v = 0
    · subst v0
      go_enter Try.func6, Try.ntmps6
      go_wp2
      go_end0
      have s1 := heap_setCell_same _ t 1 _ 27 (.int .i64 (wrap64 (T.z + 1))) (heap_setCell_same w t 0 _ 27 (.int .i64 (wrap64 (T.e + 1))) HB.out)
      refine ⟨rfl, ?_, (grown_set (grown_set (grown_refl w _) 0 _) 1 _).trans (World.grownBy_alloc _ _ _)⟩
      rw [add_one_zero _ _ rfl]
      exact block_alloc s1
    · have v0' : (v == 0) = false := by simpa using v0
      go_enter Try.func6, Try.ntmps6
      go_wp2
      go_end0
      have s1 := heap_setCell_same w t 0 _ 27 (.int .i64 (wrap64 (T.e + 1))) HB.out
      refine ⟨rfl, ?_, (grown_set (grown_refl w _) 0 _).trans (World.grownBy_alloc _ _ _)⟩
      rw [add_one_other _ _ v0]
      exact block_alloc s1
  · have k1' : (k == 1) = false := by simpa using k1
    by_cases k2 : k = 2
    · subst k2
      go_enter Try.func6, Try.ntmps6
      go_wp2
      go_region_held3 (fun w' => w'.cell? ⟨w.heap.size, 1, none⟩ = some (.int .u8 v)) (first | exact box_one rfl | exact box_one (by simp) | go_keep) (fail)
      all_goals go_wp2
      all_goals go_end0
      · have s1 := heap_setCell_same _ t 3 _ 27 (.int .u8 v) (heap_setCell_same w t 2 _ 27 (.bool true) HB.out)
        refine ⟨rfl, ?_, grown_drew ((grown_set (grown_set (grown_refl w _) 2 _) 3 _).trans (World.grownBy_alloc _ _ _))⟩
        rw [add_two]
        exact block_alloc s1
    · have k2' : (k == 2) = false := by simpa using k2
      go_enter Try.func6, Try.ntmps6
      go_wp2
      go_end0
      refine ⟨rfl, ?_, World.grownBy_alloc _ _ _⟩
      rw [add_none _ _ _ k1 k2]
      exact block_alloc HB.out

end Go.Proofs.Qxb6628502a
