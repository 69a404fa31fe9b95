/-
  The argument '[]string' opened into what the walks ask.
-/
import Derived.Test.Qxb6629019aHelp
import Derived.ProofKit
import Derived.OpenShut
import Derived.Deep.Slices
import Derived.SliceStrings
import Derived.SizedLaws
import Derived.ChangeMaps5
namespace Go.Proofs.Qxb6629019a
open Go.ChangeShapes Go.WideShapes Go.ChangeAt Go.RowKit Go.Deep

theorem own : ownKnob Try.prog.godebug = none := by kernel_rfl
theorem laidOut : laidOutB Try.prog = true := by kernel_rfl
theorem Try.cells9 : Try.prog.cellsOf 9 = 1 := by kernel_rfl
theorem Try.bytes9 : Try.prog.bytesOf 9 = 16 := by kernel_rfl

theorem open_list {H : Type} {enc : TypeId × Value → H} {w : World} {fuel : Nat} {v : Value} {d : DataW H} {ps : List MemPlace}
    (h : DataW.trod enc Try.prog w 0 (fun _ => true) true fuel 22 v.cells.toList = some (d, ps)) (hv : ∃ a len cap, v = .slice a len cap) :
    ∃ a b off cap L, v = .slice a L.length cap ∧ StrsIn w a b off L ∧ (L.length = 0 ∨ ∃ es sp, d = .slice es sp ∧ L.length ≤ es.length + sp.length) := by
  obtain ⟨a0, l0, c0, rfl⟩ := hv
  rcases open_strings Try.underlying22 Try.underlying9 Try.cells9 h with ⟨hcs, hx⟩ | ⟨a, len, cap, ss, hcs, _, hl, hm, hz, hx, hcell, hsz⟩
  · simp [Value.cells] at hcs
    obtain ⟨rfl, rfl, rfl⟩ := hcs
    exact ⟨none, 0, 0, 0, [], rfl, ⟨.inr rfl, fun i hi => absurd hi (Nat.not_lt_zero _)⟩, .inl rfl⟩
  · simp [Value.cells] at hcs
    obtain ⟨rfl, rfl, rfl⟩ := hcs
    simp at hz
    have hlen : (ss.take l0).length = l0 := by simp; omega
    by_cases h0 : l0 = 0
    · subst h0
      exact ⟨some a, 0, 0, c0, [], rfl, ⟨.inr rfl, fun i hi => absurd hi (Nat.not_lt_zero _)⟩, .inl rfl⟩
    obtain ⟨b, off, sp⟩ := a
    have hsp : sp = none := by
      have := World.cell?_spot (hcell 0 (by omega))
      simpa [Addr.add] using this
    subst hsp
    refine ⟨some ⟨b, off, none⟩, b, off, c0, ss.take l0, by rw [hlen], ⟨.inl rfl, fun i hi => ?_⟩, .inr ⟨_, _, (congrArg Prod.fst hx), ?_⟩⟩
    · have := hcell i (by omega)
      rw [add_plain] at this
      rw [this]
      have hi' : i < ss.length := by omega
      simp [hi']
    · simp [Go.ChangeShapes.strs]

end Go.Proofs.Qxb6629019a
