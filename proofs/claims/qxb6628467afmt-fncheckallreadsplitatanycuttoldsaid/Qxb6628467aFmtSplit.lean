/-
  THE CARD 'FnCheckAllReadSplitAtAnyCutToldSaid'.
-/
import Derived.Test.Qxb6628467aFmtCards
import Derived.Test.Qxb6628467aFmtLaw4
import Derived.Test.Qxb6628467aFmtOpen
import Derived.OpenShut
import Derived.SevenToldRow
import Derived.Stop.JoinedTold
namespace Go.Proofs.Qxb6628467aFmt
open Go.ChangeShapes Go.WideShapes Go.ChangeAt Go.RowKit
open Go.ChangeMaps (open_string shut_string)
open Go.Extern.Stop Go.Stop Go.Extern

theorem own : ownKnob Tryf.prog.godebug = none := by kernel_rfl
theorem laidOut : laidOutB Tryf.prog = true := by kernel_rfl
theorem stops : Tryf.prog.stops = ["fmt.Sprintf", "fmt.errorf"] := by kernel_rfl
theorem stopKnobs : Tryf.prog.stopKnobs = [] := by kernel_rfl
theorem quiet (os : Os) : Stop.quiet Tryf.prog os := by
  unfold Stop.quiet
  rw [stopKnobs]
  exact fun _ h => by cases h

set_option maxRecDepth 100000 in
theorem lifted4 (os : Os) (started : os.Started) (H : Type) (enc : TypeId × Value → H) :
    ReturnsInTold none {} Tryf.checked os 4 .any Input.okWide ((OpenSpec.ofChange Rows.fnCheckAllReadSplitAtAnyCutSpec).preRow enc Tryf.prog Tryf.f4 [] false [])
      (fun F => ((OpenSpec.ofChange Rows.fnCheckAllReadSplitAtAnyCutSpec).at F).post enc Tryf.prog Tryf.f4 false true false false) (aloneAtReturn Tryf.prog) nothingAlways := by
  refine returnsInTold_of_row (C := Tryf.checked) (s := OpenSpec.ofChange Rows.fnCheckAllReadSplitAtAnyCutSpec) (by kernel_rfl) own started (by kernel_rfl) Tryf.func4
    (OpenSpec.witness_stopped (enc := enc) (C := Tryf.checked) false ⟨#[], #[.string ⟨#[]⟩, .string ⟨#[]⟩, .int .i64 0, .slice none 0 0, .int .i64 0], []⟩ 8 (by kernel_rfl) (by kernel_rfl) (by kernel_rfl) (by kernel_rfl)) ?_
  intro F W base args ds gs before _ hF hval0 hW _ _ hsz _ _
  have hval : ∀ (j : Nat) t v, Tryf.f4.params[j]? = some t → args[j]? = some v → Value.okWide Tryf.prog W .any base t v := hval0
  have hW' := hW
  obtain ⟨p, q, hA0, hV, rfl, hfz, hnd⟩ := hW
  have hA : DataW.TrodAll enc Tryf.prog W 0 (fun _ => true) true Tryf.f4.params.toList args.toList ds p := hA0
  rw [Tryf.params4] at hA hval
  obtain ⟨v0, vs0, d0, ds0, p0, q0, hargs, rfl, rfl, h0, r0⟩ := trodAll_cons hA
  obtain ⟨v1, vs1, d1, ds1, p1, q1, rfl, rfl, rfl, h1, r1⟩ := trodAll_cons r0
  obtain ⟨v2, vs2, d2, ds2, p2, q2, rfl, rfl, rfl, h2, r2⟩ := trodAll_cons r1
  obtain ⟨v3, vs3, d3, ds3, p3, q3, rfl, rfl, rfl, h3, r3⟩ := trodAll_cons r2
  obtain ⟨v4, vs4, d4, ds4, p4, q4, rfl, rfl, rfl, h4, r4⟩ := trodAll_cons r3
  obtain ⟨rfl, rfl, rfl⟩ := trodAll_nil r4
  obtain rfl : args = #[v0, v1, v2, v3, v4] := by cases args; simp_all
  obtain ⟨rfl, rfl⟩ := trodVars_none hV
  obtain ⟨s0, rfl, rfl, rfl, w0⟩ := open_string Tryf.underlying9 (hval 0 9 v0 rfl rfl) h0
  obtain ⟨s1, rfl, rfl, rfl, w1⟩ := open_string Tryf.underlying9 (hval 1 9 v1 rfl rfl) h1
  obtain ⟨n2, rfl, rfl, rfl, w2⟩ := open_int Tryf.underlying3 (hval 2 3 v2 rfl rfl) h2
  obtain ⟨a3, len, cap, rfl⟩ := okWide_slice Tryf.underlying22 (hval 3 22 v3 rfl rfl)
  have k3 := h3
  have lt3 : ∀ x ∈ p3, x.block < W.heap.size := by obtain ⟨m, hm⟩ := k3; exact DataW.trod_lt m _ _ _ hm
  obtain ⟨n4, rfl, rfl, rfl, w4⟩ := open_int Tryf.underlying3 (hval 4 3 v4 rfl rfl) h4
  obtain ⟨fuel, hf⟩ := h3
  obtain ⟨⟨hlc, b, off, R, ha, hs⟩, hd⟩ := open_sets hf
  have hlen : len * 48 ≤ 140737488351232 := by
    rcases hd with ⟨_, rfl⟩ | ⟨es, sp, hd, rfl⟩
    · omega
    · have hd' : d3 = .slice es sp := hd
      subst hd'
      have := sized_slice hsz (j := 3) (t := 22) (e := 26) rfl rfl Tryf.underlying22
      rw [show Tryf.checked.prog.bytesOf 26 = 48 from Tryf.bytes26] at this
      simp only [reachBytes] at this
      omega
  clear hA0 hval0
  refine (law4_any F.told s0 s1 n2 a3 b off len cap R n4 W hF hlen hlc ha hs).mono fun e W' ⟨he, bel⟩ => ?_
  unfold RetTrue at he
  subst he
  exact ⟨_, rfl, _, _, _, [], _, [], hW', trodAll_mk1 (shut_bool Tryf.underlying4 _),
    trodAll_cons_mk (shut_string Tryf.underlying9 w0) (trodAll_cons_mk (shut_string Tryf.underlying9 w1) (trodAll_cons_mk (shut_int Tryf.underlying3 w2)
      (trodAll_cons_mk (Below.trod laidOut (by kernel_rfl) (of_decide_eq_true (by kernel_rfl)) k3 bel lt3) (trodAll_cons_mk (shut_int Tryf.underlying3 w4) trodAll_mk0)))), rfl, bel.frame _, fun h => by cases h⟩

theorem split_told : Rows.FnCheckAllReadSplitAtAnyCutToldSaid :=
  Claim7.holds_of_told_any 4 Tryf.f4 "fmt.Sprintf" ["fmt.errorf"] [] _ _ _ (by kernel_rfl) rfl rfl rfl laidOut (by kernel_rfl) rfl ⟨rfl, rfl, rfl, rfl, rfl, rfl, rfl⟩ rfl rfl (by kernel_rfl) (by kernel_rfl) Tryf.func4 (by kernel_rfl)
    (of_decide_eq_true (by kernel_rfl)) (by unfold Func.isWrapper; rw [if_neg (of_decide_eq_false (by kernel_rfl))]; exact ⟨rfl, rfl⟩) stops.symm rfl stopKnobs.symm (by kernel_rfl)
    (by kernel_rfl) (by kernel_rfl) (by kernel_rfl) (by kernel_rfl) (by kernel_rfl) (by kernel_rfl) (by kernel_rfl) (by kernel_rfl) (by kernel_rfl) rfl (by kernel_rfl) rfl rfl
    rfl rfl
    rfl (by kernel_rfl) (by kernel_rfl) (by kernel_rfl) (by decide) (by kernel_rfl)
    (OpenClaim.moreEntering_of (by kernel_rfl) (by kernel_rfl) (by kernel_rfl) (by kernel_rfl) (by kernel_rfl) (by kernel_rfl) (by kernel_rfl) (by kernel_rfl) (by kernel_rfl) (by kernel_rfl))
    ⟨_, WideRow.started_initial, quiet _⟩
    (fun os started _ H enc _ => lifted4 os started H enc)

#print axioms split_told
end Go.Proofs.Qxb6628467aFmt
