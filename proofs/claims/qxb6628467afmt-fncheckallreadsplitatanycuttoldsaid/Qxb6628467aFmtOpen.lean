/-
  The argument '[]SettingIn' opened into what the walks ask.
-/
import Derived.Test.Qxb6628467aFmtBytes
import Derived.ProofKit
import Derived.Deep.Slices
import Derived.SizedLaws
namespace Go.Proofs.Qxb6628467aFmt
open Go.ChangeShapes Go.WideShapes Go.ChangeAt Go.RowKit Go.Deep

theorem Tryf.cells26 : Tryf.prog.cellsOf 26 = 4 := by kernel_rfl
theorem Tryf.cells9 : Tryf.prog.cellsOf 9 = 1 := by kernel_rfl
theorem Tryf.cells3 : Tryf.prog.cellsOf 3 = 1 := by kernel_rfl
theorem Tryf.cells4 : Tryf.prog.cellsOf 4 = 1 := by kernel_rfl
theorem Tryf.bytes26 : Tryf.prog.bytesOf 26 = 48 := by kernel_rfl

section
variable {H : Type} {enc : TypeId × Value → H} {w : World}

theorem len4 {l : List Value} (h : l.length = 4) : ∃ a b c d, l = [a, b, c, d] := by
  match l, h with
  | [a, b, c, d], _ => exact ⟨a, b, c, d, rfl⟩

theorem open_el {n : Nat} {cs : List Value} {x : DataW H × List MemPlace} (h : DataW.trod enc Tryf.prog w 0 (fun _ => true) true n 26 cs = some x) :
    ∃ key val m r, cs = [.string key, .string val, .int .i64 m, .bool r] ∧ key.size ≤ maxLen ∧ val.size ≤ maxLen := by
  obtain ⟨xs, k, _, _, hl, hxl, hf⟩ := DataW.trod_struct Tryf.underlying26 h
  rw [Tryf.cells26] at hl
  obtain ⟨a, b, c, d, rfl⟩ := len4 hl
  have g0 := hf 0 _ rfl
  have g1 := hf 1 _ rfl
  have g2 := hf 2 _ rfl
  have g3 := hf 3 _ rfl
  simp [Tryf.cells9, Tryf.cells3, Tryf.cells4] at g0 g1 g2 g3 hxl
  rw [List.getElem?_eq_getElem (by omega)] at g0 g1 g2 g3
  obtain ⟨key, e0, _, s0⟩ := DataW.trod_string Tryf.underlying9 g0
  obtain ⟨val, e1, _, s1⟩ := DataW.trod_string Tryf.underlying9 g1
  obtain ⟨m, e2, _, _⟩ := DataW.trod_int Tryf.underlying3 g2
  obtain ⟨r, e3, _⟩ := DataW.trod_bool Tryf.underlying4 g3
  simp at e0 e1 e2 e3
  subst e0 e1 e2 e3
  exact ⟨key, val, m, r, rfl, s0, s1⟩

/-- What the walks ask of the slice. -/
def Sets (w : World) (a : Option Addr) (len cap : Nat) : Prop :=
  len ≤ cap ∧ ∃ (b off : Nat) (R : Nat → Bool), (a = some ⟨b, off, none⟩ ∨ len = 0) ∧ ∀ i, i < len → ElAt w b off i (R i)

theorem open_sets {fuel : Nat} {a : Option Addr} {len cap : Nat} {x : DataW H × List MemPlace} (h : DataW.trod enc Tryf.prog w 0 (fun _ => true) true fuel 22 [.slice a len cap] = some x) :
    Sets w a len cap ∧ ((x.1 = .nil ∧ len = 0) ∨ ∃ es sp, x.1 = .slice es sp ∧ es.length = len) := by
  rcases open_slice Tryf.underlying22 h with ⟨h0, rfl⟩ | ⟨ad, l, c, m, n, D, Pl, hcs, _, hl, hm, hmm, rfl, hx⟩
  · simp at h0
    obtain ⟨rfl, rfl, rfl⟩ := h0
    exact ⟨⟨Nat.le_refl _, 0, 0, fun _ => true, .inr rfl, fun i hi => by omega⟩, .inl ⟨rfl, rfl⟩⟩
  · simp at hcs
    obtain ⟨rfl, rfl, rfl⟩ := hcs
    refine ⟨⟨hl, ?_⟩, .inr ⟨_, _, rfl, by simp⟩⟩
    simp at hmm
    subst hmm
    by_cases h0 : len = 0
    · exact ⟨0, 0, fun _ => true, .inr h0, fun i hi => by omega⟩
    obtain ⟨b, off, sp⟩ := ad
    have hsp : sp = none := by
      obtain ⟨cs', h1, h2⟩ := hx 0 (by omega)
      rw [Tryf.cells26] at h1
      obtain ⟨key, val, q, r, rfl, _, _⟩ := open_el h2
      obtain ⟨_, _, hc⟩ := World.cells?_some h1
      have := World.cell?_spot (hc 0 (by omega))
      simpa [Addr.add] using this
    subst hsp
    have each : ∀ i, i < len → ∃ r, ElAt w b off i r := by
      intro i hi
      obtain ⟨cs', h1, h2⟩ := hx i (by omega)
      rw [Tryf.cells26] at h1
      obtain ⟨key, val, q, r, rfl, s0, s1⟩ := open_el h2
      obtain ⟨_, _, hc⟩ := World.cells?_some h1
      have c0 := hc 0 (by omega)
      have c1 := hc 1 (by omega)
      have c2 := hc 2 (by omega)
      have c3 := hc 3 (by omega)
      rw [add_add, add_plain] at c0 c1 c2 c3
      exact ⟨r, ⟨key, val, q, s0, s1, c0, c1, c2, c3⟩⟩
    obtain ⟨R, hR⟩ := choose_lt each
    exact ⟨b, off, R, .inl rfl, hR⟩
end

end Go.Proofs.Qxb6628467aFmt
