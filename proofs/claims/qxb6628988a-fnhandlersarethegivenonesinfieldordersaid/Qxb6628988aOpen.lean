/-
  The argument '[]string' opened into what the walks ask.
-/
import Derived.Test.Qxb6628988aPlain
import Derived.ProofKit
import Derived.OpenShut
import Derived.Deep.Slices
import Derived.SizedLaws
namespace Go.Proofs.Qxb6628988a
open Go.ChangeShapes Go.WideShapes Go.ChangeAt Go.RowKit Go.Deep

theorem own : ownKnob Try.prog.godebug = none := by kernel_rfl
theorem laidOut : laidOutB Try.prog = true := by kernel_rfl
theorem Try.cells9 : Try.prog.cellsOf 9 = 1 := by kernel_rfl

theorem open_cmd {H : Type} {enc : TypeId × Value → H} {w : World} {fuel : Nat} {a : Option Addr} {len cap : Nat} {x : DataW H × List MemPlace}
    (h : DataW.trod enc Try.prog w 0 (fun _ => true) true fuel 22 [.slice a len cap] = some x) : ∃ b off, Strings w a b off len := by
  rcases open_slice Try.underlying22 h with ⟨h0, rfl⟩ | ⟨ad, l, c, m, n, D, Pl, hcs, _, hl, hm, hmm, rfl, hx⟩
  · simp at h0
    obtain ⟨rfl, rfl, rfl⟩ := h0
    exact ⟨0, 0, .inr rfl, fun i hi => by omega⟩
  · simp at hcs
    obtain ⟨rfl, rfl, rfl⟩ := hcs
    simp at hmm
    subst hmm
    by_cases h0 : len = 0
    · exact ⟨0, 0, .inr h0, fun i hi => by omega⟩
    obtain ⟨b, off, sp⟩ := ad
    have each : ∀ i, i < len → ∃ s, w.cell? ((⟨b, off, sp⟩ : Addr).add i) = some (.string s) := by
      intro i hi
      obtain ⟨cs', h1, h2⟩ := hx i (by omega)
      rw [Try.cells9] at h1
      obtain ⟨s, rfl, _, _⟩ := DataW.trod_string Try.underlying9 h2
      obtain ⟨_, _, hc⟩ := World.cells?_some h1
      have c0 := hc 0 (by omega)
      rw [add_add, Nat.mul_one, Nat.add_zero] at c0
      exact ⟨s, c0⟩
    have hsp : sp = none := by
      obtain ⟨s, hc⟩ := each 0 (by omega)
      have := World.cell?_spot hc
      simpa [Addr.add] using this
    subst hsp
    exact ⟨b, off, .inl rfl, fun i hi => by obtain ⟨s, hc⟩ := each i hi; rw [add_plain] at hc; exact ⟨s, hc⟩⟩

end Go.Proofs.Qxb6628988a
