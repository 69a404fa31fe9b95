/-
  zzProbe and (*Probe).Handlers by their contracts.
-/
import Derived.Test.Qxb6628988aRows
import Derived.WalkKit
import Derived.WalkSpells
import Derived.Deep.RegionHeld3
import Derived.Deep.DrawnRows
import Derived.Deep.AppendLies
namespace Go.Proofs.Qxb6628988a
open Go.RowKit

theorem hid_of {p : Prop} (h : p) : Hid p := h

/-- The four handler fields of the probe at block pb: field i is set just if g i. -/
def ProbeAt (w : World) (pb : Nat) (g0 g1 g2 g3 : Bool) : Prop :=
  ∃ (P0 P1 P2 P3 : Option Addr) (r4 r5 r6 r7 r8 r9 r10 : Value), w.heap[pb]? = some (.cells #[.pointer P0, .pointer P1, .pointer P2, .pointer P3, r4, r5, r6, r7, r8, r9, r10] 38 (0, 0)) ∧
    P0.isSome = g0 ∧ P1.isSome = g1 ∧ P2.isSome = g2 ∧ P3.isSome = g3

theorem block_alloc {w : World} {t : Nat} {o o' : Obj} (h : w.heap[t]? = some o) : (w.alloc o').heap[t]? = some o := (Below.heap_alloc w o' t (lt_of_block h)).trans h
theorem block_new {w : World} {o : Obj} {t : Nat} (h : w.heap.size = t) : (w.alloc o).heap[t]? = some o := h ▸ heap_alloc_new w o
theorem size_alloc' (w : World) (o : Obj) : (w.alloc o).heap.size = w.heap.size + 1 := by simp

theorem probe_of {w : World} {pb : Nat} {g0 g1 g2 g3 : Bool} {P0 P1 P2 P3 : Option Addr} {r4 r5 r6 r7 r8 r9 r10 : Value}
    (h : w.heap[pb]? = some (.cells #[.pointer P0, .pointer P1, .pointer P2, .pointer P3, r4, r5, r6, r7, r8, r9, r10] 38 (0, 0))) (e0 : P0.isSome = g0) (e1 : P1.isSome = g1) (e2 : P2.isSome = g2) (e3 : P3.isSome = g3) : ProbeAt w pb g0 g1 g2 g3 :=
  ⟨P0, P1, P2, P3, r4, r5, r6, r7, r8, r9, r10, h, e0, e1, e2, e3⟩

set_option maxHeartbeats 4000000 in
theorem probe_any (g0 g1 g2 g3 : Bool) (a : Option Addr) (len cap : Nat) (x0 x1 x2 x3 x4 : Int) (gr : Option Addr) (w : World) :
    Calls Try.prog 7 #[.agg #[.bool g0, .bool g1, .bool g2, .bool g3], .slice a len cap, .int .i32 x0, .int .i32 x1, .int .i32 x2, .int .i32 x3, .int .i32 x4, .pointer gr] w fun e w' =>
      ∃ pb, e = .returned (.pointer (some ⟨pb, 0, none⟩)) ∧ ProbeAt w' pb g0 g1 g2 g3 ∧ Below w.heap.size w w' := by
  cases g0 <;> cases g1 <;> cases g2 <;> cases g3
  all_goals
    go_enter Try.func7, Try.ntmps7
    go_wp2
    go_ret
    refine ⟨w.heap.size + 1, rfl, ?_, ?_⟩
    · apply probe_of
      · repeat (first | exact block_new (by simp only [size_alloc']) | apply block_alloc)
      · rfl
      · rfl
      · rfl
      · rfl
    · repeat (first | exact Below.refl _ _ | refine Below.alloc ?_ (by first | omega | (simp only [size_alloc']; omega)) _)

end Go.Proofs.Qxb6628988a
