/-
  FnHandlersAreTheGivenOnesInFieldOrder: the walk.
-/
import Derived.Test.Qxb6628988aPlain
import Derived.WalkSmall
namespace Go.Proofs.Qxb6628988a
open Go.RowKit

set_option maxHeartbeats 400000 in
theorem manifest_any (k : Nat) (hk : k < 4) (w : World) : Calls Try.prog 9 #[.int .i64 k] w fun e w' => e = .returned (.string (nm k)) ∧ w' = w := by
  match k, hk with
  | 0, _ =>
    go_enter Try.func9, Try.ntmps9
    go_wp2
    go_ret
    exact ⟨rfl, rfl⟩
  | 1, _ =>
    go_enter Try.func9, Try.ntmps9
    go_wp2
    go_ret
    exact ⟨rfl, rfl⟩
  | 2, _ =>
    go_enter Try.func9, Try.ntmps9
    go_wp2
    go_ret
    exact ⟨rfl, rfl⟩
  | 3, _ =>
    go_enter Try.func9, Try.ntmps9
    go_wp2
    go_ret
    exact ⟨rfl, rfl⟩

set_option maxHeartbeats 1000000 in
theorem same_any (A1 A2 : Option Addr) (r1 r2 c1 c2 : Nat) (l : List Nat) (w : World) (h1 : RowAt w A1 r1 l) (h2 : RowAt w A2 r2 l) (hl : l.length ≤ 4) :
    Calls Try.prog 10 #[.slice A1 l.length c1, .slice A2 l.length c2] w fun e w' => RetTrue e ∧ Below w.heap.size w w' := by
  have H1 := hid_of h1
  have H2 := hid_of h2
  clear h1 h2
  go_enter Try.func10, Try.ntmps10
  go_wp2
  go_loopw [5] (fun j wq => ∃ m : Nat, m ≤ l.length ∧ j = .int .i64 m ∧ Below w.heap.size w wq) (fun j _ => l.length - (intOf j).toNat)
  case atStart => exact ⟨0, by omega, rfl, Below.refl _ _⟩
  case round =>
    obtain ⟨m, hm, rfl, hb⟩ := hrel
    have HA := hid_of (H1.out.below hb (Nat.le_refl _))
    have HB := hid_of (H2.out.below hb (Nat.le_refl _))
    by_cases hlt : m < l.length
    · obtain ⟨s, ca, cb⟩ : ∃ s, wr.cell? ⟨r1, m, none⟩ = some (.string s) ∧ wr.cell? ⟨r2, m, none⟩ = some (.string s) := ⟨_, HA.out.2 m hlt, HB.out.2 m hlt⟩
      obtain rfl : A1 = some ⟨r1, 0, none⟩ := by rcases HA.out.1 with h | h; exact h; omega
      obtain rfl : A2 = some ⟨r2, 0, none⟩ := by rcases HB.out.1 with h | h; exact h; omega
      have i2 : (m : Int) < (l.length : Int) := by omega
      have i4 : (0 : Int) ≤ (m : Int) := by omega
      go_wp2_with fail
      go_region_held3 (fun w' => w'.cell? ⟨r1, m, none⟩ = some (.string s) ∧ w'.cell? ⟨r2, m, none⟩ = some (.string s)) (go_keep) (fail)
      go_wp2
      go_roundw
      case rel => exact ⟨m + 1, by omega, by go_num, hb.drew⟩
      case measure => simp [intOf]; omega
    · go_wp2
      go_ret
      exact ⟨rfl, hb⟩

theorem all4 : sel (bit true true true true) 4 = [0, 1, 2, 3] := by decide

theorem two_boxes {w w4 : World} {a0 a1 a2 a3 c0 c1 c2 c3 : Bool}
    (h : Below ((w.alloc (.cells #[.bool a0, .bool a1, .bool a2, .bool a3] 26)).alloc (.cells #[.bool c0, .bool c1, .bool c2, .bool c3] 26)).heap.size
      ((w.alloc (.cells #[.bool a0, .bool a1, .bool a2, .bool a3] 26)).alloc (.cells #[.bool c0, .bool c1, .bool c2, .bool c3] 26)) w4) :
    Below w.heap.size w w4 ∧ BitsAt w4 w.heap.size a0 a1 a2 a3 := by
  refine ⟨bthen (((Below.refl _ w).alloc (Nat.le_refl _) _).alloc (by simp only [size_alloc']; omega) _) h, ?_⟩
  exact BitsAt.below (block_alloc (heap_alloc_new w _)) h (by simp only [size_alloc']; omega)

theorem make4 (w : World) : (Instr.makeSlice 22 (.int .i64 0) (.int .i64 4)).run Try.prog w = .ok (.slice (some ⟨w.heap.size, 0, none⟩) 0 4) (w.alloc (.cells #[.string ⟨#[]⟩, .string ⟨#[]⟩, .string ⟨#[]⟩, .string ⟨#[]⟩] 9)) := by kernel_rfl

set_option maxRecDepth 100000 in
set_option maxHeartbeats 4000000 in
theorem law3_any (g0 g1 g2 g3 : Bool) (a : Option Addr) (b off len cap : Nat) (x0 x1 x2 x3 x4 : Int) (gr : Option Addr) (w : World) (hs : Strings w a b off len) :
    Calls Try.prog 3 #[.bool g0, .slice a len cap, .bool g1, .bool g2, .bool g3, .int .i32 x0, .int .i32 x1, .int .i32 x2, .int .i32 x3, .int .i32 x4, .pointer gr] w fun e w' => RetTrue e ∧ Below w.heap.size w w' := by
  have HS := hid_of hs
  obtain ⟨i, hi, hz0, hz1, hz2⟩ := info_parts Try.info9
  have CF := fun pb w h => hand_row pb true true true true w h
  have CG := fun pb w h => hand_row pb g0 g1 g2 g3 w h
  obtain ⟨LG, hLG⟩ : ∃ l, sel (bit g0 g1 g2 g3) 4 = l := ⟨_, rfl⟩
  have hl4 := sel_le (bit g0 g1 g2 g3) 4
  rw [hLG] at CG hl4
  rw [all4] at CF
  have HCF := hid_of CF
  have HCG := hid_of CG
  have HLG := hid_of hLG
  have hmk := make4
  clear hs CF CG hLG
  go_enter Try.func3, Try.ntmps3
  go_wp2_with fail
  refine (bytes5_any g0 g1 g2 g3 x0 x1 x2 x3 x4 gr a b off len cap _ HS.out).mono ?_
  rintro e w1 ⟨⟨t1, rfl⟩, rfl⟩
  cases t1 with
  | false =>
    go_wp2
    go_ret
    exact ⟨rfl, Below.refl _ _⟩
  | true =>
  go_wp2_with fail
  refine (tooBig_any a b off len cap _ HS.out).mono ?_
  rintro e w2 ⟨⟨t2, rfl⟩, rfl⟩
  cases t2 with
  | true =>
    go_wp2
    go_ret
    exact ⟨rfl, Below.refl _ _⟩
  | false =>
  go_wp2_with fail
  refine (probe_any true true true true a len cap x0 x1 x2 x3 x4 gr _).mono ?_
  rintro e w3 ⟨pa, rfl, hpa, hb3⟩
  have HPA := hid_of hpa
  clear hpa
  go_wp2_with fail
  refine (HCF.out pa _ HPA.out).mono ?_
  rintro e w4 ⟨A1, r1, c1, rfl, hr1, hb4⟩
  obtain ⟨hy4, hbg4⟩ := two_boxes (bthen hb3 hb4)
  have d0 := bits_cell hbg4 0 (by omega)
  have d1 := bits_cell hbg4 1 (by omega)
  have d2 := bits_cell hbg4 2 (by omega)
  have d3 := bits_cell hbg4 3 (by omega)
  simp only [bit] at d0 d1 d2 d3
  obtain rfl : A1 = some ⟨r1, 0, none⟩ := by rcases hr1.1 with h | h; exact h; cases h
  have HR1 := hid_of hr1
  have HBG := hid_of hbg4
  clear hr1 hb3 hb4 hbg4
  go_wp2_with fail
  refine (probe_any g0 g1 g2 g3 a len cap x0 x1 x2 x3 x4 gr _).mono ?_
  rintro e w5 ⟨pb, rfl, hpb, hb5⟩
  have HPB := hid_of hpb
  clear hpb d0 d1 d2 d3
  go_wp2_with fail
  refine (HCG.out pb _ HPB.out).mono ?_
  rintro e w6 ⟨A2, r2, c2, rfl, hr2, hb6⟩
  have hx6 := bthen hb5 hb6
  have hy6 := bthen hy4 hx6
  have HR1' := hid_of (HR1.out.below hx6 (Nat.le_refl _))
  have HBG' := hid_of (HBG.out.below hx6 (lt_of_block HBG.out))
  have HR2 := hid_of hr2
  clear hr2 hb5 hb6 hx6 HR1 HBG hy4 HPA HPB HCF HCG
  go_wp2
  go_loopw [27] (fun j wq => ∃ m : Nat, m ≤ 4 ∧ j = .int .i64 m ∧ Below w6.heap.size w6 wq) (fun j _ => 4 - (intOf j).toNat)
  case atStart => exact ⟨0, by omega, rfl, Below.refl _ _⟩
  case round =>
    obtain ⟨m, hm, rfl, hb⟩ := hrel
    obtain ⟨wq, rfl⟩ : ∃ wq : World, wq = wr := ⟨_, rfl⟩
    have HA := hid_of (HR1'.out.below hb (Nat.le_refl _))
    by_cases hlt : m < 4
    · have ca : wq.cell? ⟨r1, m, none⟩ = some (.string (nm m)) := by
        rw [HA.out.2 m hlt]
        match m, hlt with
        | 0, _ => rfl
        | 1, _ => rfl
        | 2, _ => rfl
        | 3, _ => rfl
      have i2 : (m : Int) < 4 := by omega
      have i4 : (0 : Int) ≤ (m : Int) := by omega
      go_wp2_with fail
      go_region_held3 (fun w' => w'.cell? ⟨r1, m, none⟩ = some (.string (nm m))) (go_keep) (first | (go_at_call 9; refine (manifest_any m hlt _).mono ?_; rintro e w' ⟨rfl, rfl⟩))
      all_goals go_wp2
      all_goals go_roundw
      case rel => exact ⟨m + 1, by omega, by go_num, hb.drew⟩
      case measure => simp [intOf]; omega
    · obtain rfl : m = 4 := by omega
      have HB2 := hid_of (HR2.out.below hb (Nat.le_refl _))
      have HG2 := hid_of (HBG'.out.below hb (lt_of_block HBG'.out))
      have hy := bthen hy6 hb
      clear hlt hy6 HR2 HBG' HR1' hb
      go_wp2
      go_loopw [28, 29] (fun v j wz => ∃ k : Nat, k ≤ 4 ∧ j = .int .i64 k ∧ wz.ownsRow wq.heap.size 9 1 v (sel (bit g0 g1 g2 g3) k).length (strs (sel (bit g0 g1 g2 g3) k)) ∧ Below wq.heap.size wq wz) (fun _ j _ => 4 - (intOf j).toNat)
      case atStart => exact ⟨0, by omega, rfl, World.ownsRow_made wq _ 4 (Nat.le_refl _) (by decide) rfl, (Below.refl _ _).alloc (Nat.le_refl _) _⟩
      case round =>
        obtain ⟨k, hk, rfl, hown, hbz⟩ := hrel
        obtain ⟨wz, rfl⟩ : ∃ wz : World, wz = wr := ⟨_, rfl⟩
        have hle := sel_le (bit g0 g1 g2 g3) k
        by_cases hlt : k < 4
        · have hc := bits_cell (HG2.out.below hbz (lt_of_block HG2.out)) k hlt
          have ca : wz.cell? ⟨r1, k, none⟩ = some (.string (nm k)) := by
            rw [(HA.out.below hbz (Nat.le_refl _)).2 k hlt]
            match k, hlt with
            | 0, _ => rfl
            | 1, _ => rfl
            | 2, _ => rfl
            | 3, _ => rfl
          have i2 : (k : Int) < 4 := by omega
          cases hg : bit g0 g1 g2 g3 k with
          | true =>
            rw [hg] at hc
            have HG := hid_of hg
            clear hg
            go_wp2_with (at_builtin; refine wpList_append_lies _ rfl (.tmp 93) (.tmp 98) 22 rfl wq.heap.size 9 i (.string ⟨#[]⟩) 1 16 Try.underlying22 hi hz0 hz1 hz2 rfl (by decide) _ _ _ rfl (hown.alloc _) ⟨wz.heap.size, 0, none⟩ 1 1 [.string (nm k)] rfl rfl ?c1 ?c2 (by decide) ?c3 ?c4 ?c5 (wz.heap.size + 1) ?c6 ?_)
            case c1 =>
              intro j u hj
              match j, hj with
              | 0, hj => simp at hj; subst hj; simp [Addr.add]
            case c2 => intro u hu; simp at hu; subst hu; rfl
            case c3 => unfold maxLen; omega
            case c4 => omega
            case c5 => have := hbz.size; simp; omega
            case c6 => simp
            intro g cp w7 hown' hgrow hat hltg
            have hb7 : Below wq.heap.size wq w7 := (hbz.alloc hbz.size _).grown hgrow (by have := hbz.size; simp; omega) (fun j hj => (hown.lt j hj).1)
            clear hgrow hown hat
            go_wp2
            go_roundw
            case rel =>
              have R : ∃ q : Nat, q ≤ 4 ∧ Value.int .i64 ((k : Int) + 1) = .int .i64 q ∧ w7.ownsRow wq.heap.size 9 1 _ (sel (bit g0 g1 g2 g3) q).length (strs (sel (bit g0 g1 g2 g3) q)) ∧ Below wq.heap.size wq w7 :=
                ⟨k + 1, by omega, by go_num, by rw [sel_yes HG.out, strs_snoc, List.length_append]; exact hown', hb7⟩
              first | exact R | ((repeat apply Exists.intro); exact ⟨R, rfl⟩)
            case measure => simp [intOf]; omega
          | false =>
            rw [hg] at hc
            have HG := hid_of hg
            clear hg
            go_wp2
            go_roundw
            case rel => exact ⟨k + 1, by omega, by go_num, by rw [sel_no HG.out]; exact hown, hbz⟩
            case measure => simp [intOf]; omega
        · obtain rfl : k = 4 := by omega
          rw [HLG.out] at hown
          obtain ⟨A3, r3, c3, hv, hr3⟩ := row_of_own hown
          rw [hv]
          have HR3 := hid_of hr3
          clear hown hr3 hle hlt
          go_wp2_with fail
          refine (same_any A2 A3 r2 r3 c2 c3 LG _ (HB2.out.below hbz (Nat.le_refl _)) HR3.out hl4).mono ?_
          rintro e w9 ⟨he, hb9⟩
          unfold RetTrue at he
          subst he
          go_wp2
          go_ret
          exact ⟨rfl, bthen (bthen hy hbz) hb9⟩

end Go.Proofs.Qxb6628988a
