/-
  The argument '[]Msg' opened into what the walks ask.
-/
import Derived.Test.Qxb6628502aLaw3
import Derived.ProofKit
import Derived.OpenShut
import Derived.Deep.Slices
import Derived.Deep.SlicePairs
import Derived.SizedLaws
namespace Go.Proofs.Qxb6628502a
open Go.ChangeShapes Go.WideShapes Go.ChangeAt Go.RowKit Go.Deep

theorem own : ownKnob Try.prog.godebug = none := by kernel_rfl
theorem laidOut : laidOutB Try.prog = true := by kernel_rfl

section
variable {H : Type} {enc : TypeId × Value → H} {w : World}

/-- What the walks ask of the slice. -/
def Msgs (w : World) (a : Option Addr) (len : Nat) : Prop :=
  ∃ (b off : Nat) (K V : Nat → Int), (a = some ⟨b, off, none⟩ ∨ len = 0) ∧ ∀ i, i < len → MsgAt w b off i (K i) (V i)

theorem open_msgs {fuel : Nat} {a : Option Addr} {len cap : Nat} {x : DataW H × List MemPlace} (h : DataW.trod enc Try.prog w 0 (fun _ => true) true fuel 22 [.slice a len cap] = some x) : Msgs w a len := by
  rcases open_slice_pairs Try.underlying22 Try.underlying31 (by kernel_rfl) rfl rfl (by kernel_rfl) (by kernel_rfl) h with ⟨h0, rfl⟩ | ⟨ad, l, c, m, n, V0, V1, D0, D1, P0, P1, hcs, _, hl, hm, hmm, rfl, hx⟩
  · simp at h0
    obtain ⟨rfl, rfl, rfl⟩ := h0
    exact ⟨0, 0, fun _ => 0, fun _ => 0, .inr rfl, fun i hi => by omega⟩
  · simp at hcs
    obtain ⟨rfl, rfl, rfl⟩ := hcs
    simp at hmm
    subst hmm
    by_cases h0 : len = 0
    · exact ⟨0, 0, fun _ => 0, fun _ => 0, .inr h0, fun i hi => by omega⟩
    obtain ⟨b, off, sp⟩ := ad
    have hsp : sp = none := by
      have := World.cell?_spot (hx 0 (by omega)).1
      simpa [Addr.add] using this
    subst hsp
    have each : ∀ i, i < len → ∃ q : Int × Int, MsgAt w b off i q.1 q.2 := by
      intro i hi
      obtain ⟨g0, g1, t0, t1⟩ := hx i (by omega)
      obtain ⟨k, e0, _, _⟩ := DataW.trod_int Try.underlying5 t0
      obtain ⟨v, e1, _, _⟩ := DataW.trod_int Try.underlying5 t1
      simp at e0 e1
      rw [add_plain, e0] at g0
      rw [add_plain, e1] at g1
      exact ⟨(k, v), g0, g1⟩
    obtain ⟨R, hR⟩ := choose_lt each
    exact ⟨b, off, fun i => (R i).1, fun i => (R i).2, .inl rfl, hR⟩
end

end Go.Proofs.Qxb6628502a
