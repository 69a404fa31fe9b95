/-
  FnHandlersOneMoreHandlerInsertsItsName: the walk.
-/
import Derived.Test.Qxb6628988aPlain
import Derived.Deep.QuietTactic
import Derived.BigQuiet
import Derived.WalkSmall
namespace Go.Proofs.Qxb6628988a
open Go.RowKit

theorem three_boxes {w w4 wo : World} {a0 a1 a2 a3 c0 c1 c2 c3 e0 e1 e2 e3 g0 g1 g2 g3 : Bool} (hb : Below w.heap.size w wo) (hbits : BitsAt wo w.heap.size g0 g1 g2 g3)
    (h : Below (((wo.alloc (.cells #[.bool a0, .bool a1, .bool a2, .bool a3] 26)).alloc (.cells #[.bool c0, .bool c1, .bool c2, .bool c3] 26)).alloc (.cells #[.bool e0, .bool e1, .bool e2, .bool e3] 26)).heap.size
      (((wo.alloc (.cells #[.bool a0, .bool a1, .bool a2, .bool a3] 26)).alloc (.cells #[.bool c0, .bool c1, .bool c2, .bool c3] 26)).alloc (.cells #[.bool e0, .bool e1, .bool e2, .bool e3] 26)) w4) :
    Below w.heap.size w w4 ∧ BitsAt w4 (wo.heap.size + 1) c0 c1 c2 c3 ∧ BitsAt w4 (wo.heap.size + 1 + 1) e0 e1 e2 e3 ∧ BitsAt w4 w.heap.size g0 g1 g2 g3 := by
  have hz := hb.size
  have hlt := lt_of_block hbits
  have e1 := size_alloc' wo (.cells #[.bool a0, .bool a1, .bool a2, .bool a3] 26)
  have e2 := size_alloc' (wo.alloc (.cells #[.bool a0, .bool a1, .bool a2, .bool a3] 26)) (.cells #[.bool c0, .bool c1, .bool c2, .bool c3] 26)
  refine ⟨?_, ?_, ?_, ?_⟩
  · refine bthen (((hb.alloc hz _).alloc (by simp only [size_alloc']; omega) _).alloc (by simp only [size_alloc']; omega) _) h
  · exact BitsAt.below (block_alloc (block_new e1)) h (by simp only [size_alloc']; omega)
  · exact BitsAt.below (block_new (by omega)) h (by simp only [size_alloc']; omega)
  · exact BitsAt.below (block_alloc (block_alloc (block_alloc hbits))) h (by simp only [size_alloc']; omega)

set_option maxRecDepth 100000 in
set_option maxHeartbeats 8000000 in
theorem law4_any (g0 g1 g2 g3 : Bool) (a : Option Addr) (b off len cap : Nat) (x0 x1 x2 x3 x4 : Int) (gr : Option Addr) (w : World) (hs : Strings w a b off len) :
    Calls Try.prog 4 #[.bool g0, .slice a len cap, .bool g1, .bool g2, .bool g3, .int .i32 x0, .int .i32 x1, .int .i32 x2, .int .i32 x3, .int .i32 x4, .pointer gr] w fun e w' => RetTrue e ∧ Below w.heap.size w w' := by
  have HS := hid_of hs
  clear hs
  go_enter Try.func4, Try.ntmps4
  go_wp2_with fail
  refine (bytes11_any g0 g1 g2 g3 x0 x1 x2 x3 x4 gr a b off len cap _ HS.out).mono ?_
  rintro e w1 ⟨⟨t1, rfl⟩, rfl⟩
  cases t1 with
  | false =>
    go_wp2
    go_ret
    exact ⟨rfl, Below.refl _ _⟩
  | true =>
  go_wp2_with fail
  refine (tooBig_any a b off len cap _ HS.out).mono ?_
  rintro e w2 ⟨⟨t2, rfl⟩, rfl⟩
  cases t2 with
  | true =>
    go_wp2
    go_ret
    exact ⟨rfl, Below.refl _ _⟩
  | false =>
  go_wp2
  go_loopw [24] (fun i wr => ∃ k : Nat, k ≤ 4 ∧ i = .int .i64 k ∧ BitsAt wr w2.heap.size g0 g1 g2 g3 ∧ Below w2.heap.size w2 wr) (fun i _ => 4 - (intOf i).toNat)
  case atStart => exact ⟨0, by omega, rfl, heap_alloc_new _ _, (Below.refl _ _).alloc (Nat.le_refl _) _⟩
  case round =>
    obtain ⟨k, hk, rfl, hbits, hbel⟩ := hrel
    obtain ⟨wo, rfl⟩ : ∃ wo : World, wo = wr := ⟨_, rfl⟩
    have HB := hid_of hbits
    have hsz := lt_of_block hbits
    clear hbits
    by_cases h4 : k = 4
    · subst h4
      go_wp2
      go_ret
      exact ⟨rfl, hbel⟩
    have b0 := bits_cell HB.out 0 (by omega)
    have b1 := bits_cell HB.out 1 (by omega)
    have b2 := bits_cell HB.out 2 (by omega)
    have b3 := bits_cell HB.out 3 (by omega)
    simp only [bit] at b0 b1 b2 b3
    rcases (show k = 0 ∨ k = 1 ∨ k = 2 ∨ k = 3 from by omega) with rfl | rfl | rfl | rfl
    · have hput := put0 g0 g1 g2 g3
      obtain ⟨LA, hLA⟩ : ∃ l, sel (bit true g1 g2 g3) 4 = l := ⟨_, rfl⟩
      obtain ⟨LB, hLB⟩ : ∃ l, sel (bit false g1 g2 g3) 4 = l := ⟨_, rfl⟩
      obtain ⟨ps, hps⟩ : ∃ p, (sel (bit g0 g1 g2 g3) 0).length = p := ⟨_, rfl⟩
      rw [hLA, hLB, hps] at hput
      obtain ⟨ho, hla, hpb, hb4, hp1, hp2, hp3, hp4⟩ := hput
      have HP : Hid ((∀ j, j < ps → LA.getD j 0 = LB.getD j 0) ∧ LA.getD ps 0 = 0 ∧ (∀ j, ps ≤ j → j < LB.length → LA.getD (j + 1) 0 = LB.getD j 0) ∧ ∀ j, j < LB.length → LB.getD j 0 ≠ 0 ∧ LB.getD j 0 < 4) := ⟨hp1, hp2, hp3, hp4⟩
      have HLB := hid_of hLB
      have HPS := hid_of hps
      have HLA := hid_of hla
      have CA := fun pb w h => hand_row pb true g1 g2 g3 w h
      have CB := fun pb w h => hand_row pb false g1 g2 g3 w h
      have CO := fun pb w h => hand_row pb true false false false w h
      rw [hLA, hla] at CA
      rw [hLB] at CB
      rw [ho] at CO
      have HCA := hid_of CA
      have HCB := hid_of CB
      have HCO := hid_of CO
      clear CA CB CO hLA hLB hps ho hla hp1 hp2 hp3 hp4
      go_wp2_with fail
      refine (probe_any true g1 g2 g3 a len cap x0 x1 x2 x3 x4 gr _).mono ?_
      rintro e w3 ⟨pa, rfl, hpa, hb3⟩
      clear b0 b1 b2 b3
      have HPA := hid_of hpa
      clear hpa
      go_wp2_with fail
      refine (HCA.out pa _ HPA.out).mono ?_
      rintro e w4 ⟨A1, r1, c1, rfl, hr1, hb4'⟩
      have hx4 := bthen hb3 hb4'
      obtain ⟨hy4, hbo4, hbn4, hbg4⟩ := three_boxes hbel HB.out hx4
      have d0 := bits_cell hbo4 0 (by omega)
      have d1 := bits_cell hbo4 1 (by omega)
      have d2 := bits_cell hbo4 2 (by omega)
      have d3 := bits_cell hbo4 3 (by omega)
      simp only [bit] at d0 d1 d2 d3
      have HR1 := hid_of hr1
      clear hr1 hb3 hb4' hx4
      go_wp2_with fail
      refine (probe_any false g1 g2 g3 a len cap x0 x1 x2 x3 x4 gr _).mono ?_
      rintro e w5 ⟨pb, rfl, hpb', hb5⟩
      clear d0 d1 d2 d3
      have HPB := hid_of hpb'
      clear hpb'
      go_wp2_with fail
      refine (HCB.out pb _ HPB.out).mono ?_
      rintro e w6 ⟨A2, r2, c2, rfl, hr2, hb6⟩
      have hx6 := bthen hb5 hb6
      have hbo6 := hbo4.below hx6 (lt_of_block hbo4)
      have hbn6 := hbn4.below hx6 (lt_of_block hbn4)
      have hbg6 := hbg4.below hx6 (lt_of_block hbg4)
      have hy6 := bthen hy4 hx6
      have HR1' := hid_of (HR1.out.below hx6 (Nat.le_refl _))
      have HR2 := hid_of hr2
      have d0 := bits_cell hbn6 0 (by omega)
      have d1 := bits_cell hbn6 1 (by omega)
      have d2 := bits_cell hbn6 2 (by omega)
      have d3 := bits_cell hbn6 3 (by omega)
      simp only [bit] at d0 d1 d2 d3
      clear hr2 hb5 hb6 hx6 HR1 hbo4 hbn4 hbg4 hy4
      go_wp2_with fail
      refine (probe_any true false false false a len cap x0 x1 x2 x3 x4 gr _).mono ?_
      rintro e w7 ⟨pc, rfl, hpc, hb7⟩
      clear d0 d1 d2 d3
      have HPC := hid_of hpc
      clear hpc
      go_wp2_with fail
      refine (HCO.out pc _ HPC.out).mono ?_
      rintro e w8 ⟨A3, r3, c3, rfl, hr3, hb8⟩
      have hx8 := bthen hb7 hb8
      have HBO := hid_of (hbo6.below hx8 (lt_of_block hbo6))
      have HBG := hid_of (hbg6.below hx8 (lt_of_block hbg6))
      have hy8 := bthen hy6 hx8
      have HR1 := hid_of (HR1'.out.below hx8 (Nat.le_refl _))
      have HR2' := hid_of (HR2.out.below hx8 (Nat.le_refl _))
      obtain rfl : A3 = some ⟨r3, 0, none⟩ := by rcases hr3.1 with h | h; exact h; cases h
      have o0 : w8.cell? ⟨r3, 0, none⟩ = some (.string (nm 0)) := by have := hr3.2 0 (by simp); simpa using this
      clear hr3 hb7 hb8 hx8 HR1' HR2 hbo6 hbn6 hbg6 hy6 HCA HCB HCO HPA HPB HPC
      obtain rfl : A1 = some ⟨r1, 0, none⟩ := by rcases HR1.out.1 with h | h; exact h; rw [HLA.out] at h; cases h
      go_wp2
      go_loop [32, 33] (fun p j => ∃ m : Nat, m ≤ 0 ∧ j = .int .i64 m ∧ p = .int .i64 (sel (bit g0 g1 g2 g3) m).length) (fun _ j => 0 - (intOf j).toNat)
      case atStart => exact ⟨0, by omega, rfl, rfl⟩
      case round =>
        obtain ⟨m, hm, rfl, rfl⟩ := hrel
        have hle := sel_le (bit g0 g1 g2 g3) m
        by_cases hlt : m < 0
        · have hc := bits_cell HBG.out m (by omega)
          have hlt' : (m : Int) < 0 := by omega
          cases hg : bit g0 g1 g2 g3 m with
          | true =>
            rw [hg] at hc
            have HG := hid_of hg
            clear hg
            go_wp2
            go_round
            case rel => exact ⟨m + 1, by omega, by go_num, by rw [sel_yes HG.out, List.length_append]; go_num⟩
            case measure => simp [intOf]; omega
          | false =>
            rw [hg] at hc
            have HG := hid_of hg
            clear hg
            go_wp2
            go_round
            case rel => exact ⟨m + 1, by omega, by go_num, by rw [sel_no HG.out]⟩
            case measure => simp [intOf]; omega
        · obtain rfl : m = 0 := by omega
          rw [HPS.out]
          clear hlt hle
          go_wp2
          go_loop [34, 35] (fun p j => ∃ m : Nat, m ≤ 4 ∧ j = .int .i64 m ∧ p = .int .i64 (sel (bit false g1 g2 g3) m).length) (fun _ j => 4 - (intOf j).toNat)
          case atStart => exact ⟨0, by omega, rfl, rfl⟩
          case round =>
            obtain ⟨m, hm4, rfl, rfl⟩ := hrel
            have hle := sel_le (bit false g1 g2 g3) m
            by_cases hlt : m < 4
            · have hc := bits_cell HBO.out m (by omega)
              have hlt' : (m : Int) < 4 := by omega
              cases hg : bit false g1 g2 g3 m with
              | true =>
                rw [hg] at hc
                have HG := hid_of hg
                clear hg
                go_wp2
                go_round
                case rel => exact ⟨m + 1, by omega, by go_num, by rw [sel_yes HG.out, List.length_append]; go_num⟩
                case measure => simp [intOf]; omega
              | false =>
                rw [hg] at hc
                have HG := hid_of hg
                clear hg
                go_wp2
                go_round
                case rel => exact ⟨m + 1, by omega, by go_num, by rw [sel_no HG.out]⟩
                case measure => simp [intOf]; omega
            · obtain rfl : m = 4 := by omega
              rw [HLB.out]
              clear hlt hle hm4
              go_wp2
              go_loopw [36] (fun j wq => ∃ m : Nat, m ≤ ps ∧ j = .int .i64 m ∧ Below w8.heap.size w8 wq) (fun j _ => ps - (intOf j).toNat)
              case atStart => exact ⟨0, by omega, rfl, Below.refl _ _⟩
              case round =>
                obtain ⟨m, hm4, rfl, hbq⟩ := hrel
                obtain ⟨wq, rfl⟩ : ∃ wq : World, wq = wr := ⟨_, rfl⟩
                have HRA := hid_of (HR1.out.below hbq (Nat.le_refl _))
                have HRB := hid_of (HR2'.out.below hbq (Nat.le_refl _))
                by_cases hlt : m < ps
                · obtain ⟨s, ca, cb⟩ : ∃ s, wq.cell? ⟨r1, m, none⟩ = some (.string s) ∧ wq.cell? ⟨r2, m, none⟩ = some (.string s) :=
                    ⟨_, HRA.out.2 m (by rw [HLA.out]; omega), by rw [HRB.out.2 m (by omega), HP.out.1 m hlt]⟩
                  obtain rfl : A2 = some ⟨r2, 0, none⟩ := by rcases HRB.out.1 with h | h; exact h; omega
                  have i1 : (m : Int) < (ps : Int) := by omega
                  have i2 : (m : Int) < (LB.length : Int) := by omega
                  have i3 : (m : Int) < (LB.length : Int) + 1 := by omega
                  have i4 : (0 : Int) ≤ (m : Int) := by omega
                  go_wp2_with fail
                  go_region_held3 (fun w' => w'.cell? ⟨r1, m, none⟩ = some (.string s) ∧ w'.cell? ⟨r2, m, none⟩ = some (.string s)) (go_keep) (fail)
                  go_wp2
                  go_roundw
                  case rel => exact ⟨m + 1, by omega, by go_num, hbq.drew⟩
                  case measure => simp [intOf]; omega
                · obtain rfl : m = ps := by omega
                  have ca : wq.cell? ⟨r1, m, none⟩ = some (.string (nm 0)) := by rw [HRA.out.2 m (by rw [HLA.out]; omega), HP.out.2.1]
                  have i3 : (m : Int) < (LB.length : Int) + 1 := by omega
                  clear hlt HRA HRB
                  go_wp2
                  go_loopw [37] (fun j wq => ∃ n : Nat, m ≤ n ∧ n ≤ LB.length ∧ j = .int .i64 n ∧ Below w8.heap.size w8 wq) (fun j _ => LB.length - (intOf j).toNat)
                  case atStart => exact ⟨m, by omega, by omega, rfl, hbq⟩
                  case round =>
                    obtain ⟨n, hn1, hn2, rfl, hbv⟩ := hrel
                    obtain ⟨wv, rfl⟩ : ∃ wv : World, wv = wr := ⟨_, rfl⟩
                    have HRA := hid_of (HR1.out.below hbv (Nat.le_refl _))
                    have HRB := hid_of (HR2'.out.below hbv (Nat.le_refl _))
                    by_cases hlt : n < LB.length
                    · obtain ⟨s, ca, cb⟩ : ∃ s, wv.cell? ⟨r1, n + 1, none⟩ = some (.string s) ∧ wv.cell? ⟨r2, n, none⟩ = some (.string s) :=
                        ⟨_, HRA.out.2 (n + 1) (by rw [HLA.out]; omega), by rw [HRB.out.2 n (by omega), HP.out.2.2.1 n hn1 hlt]⟩
                      obtain rfl : A2 = some ⟨r2, 0, none⟩ := by rcases HRB.out.1 with h | h; exact h; omega
                      have i2 : (n : Int) < (LB.length : Int) := by omega
                      have i4 : (0 : Int) ≤ (n : Int) := by omega
                      have i5 : IntKind.i64.wrap ((n : Int) + 1) = (n : Int) + 1 := by rw [IntKind.wrap_i64]; omega
                      have i6 : ((n : Int) + 1).toNat = n + 1 := by omega
                      have i7 : (0 : Int) ≤ (n : Int) + 1 := by omega
                      have i8 : (n : Int) + 1 < (LB.length : Int) + 1 := by omega
                      go_wp2_with fail
                      go_region_held3 (fun w' => w'.cell? ⟨r1, n + 1, none⟩ = some (.string s) ∧ w'.cell? ⟨r2, n, none⟩ = some (.string s)) (go_keep) (fail)
                      go_wp2
                      go_roundw
                      case rel => exact ⟨n + 1, by omega, by omega, by go_num, hbv.drew⟩
                      case measure => simp [intOf]; omega
                    · obtain rfl : n = LB.length := by omega
                      clear hlt hbq HRA ca
                      go_wp2
                      go_loop [38] (fun j => ∃ q : Nat, q ≤ LB.length ∧ j = .int .i64 q) (fun j => LB.length - (intOf j).toNat)
                      case atStart => exact ⟨0, by omega, rfl⟩
                      case round =>
                        obtain ⟨q, hq, rfl⟩ := hrel
                        by_cases hlt : q < LB.length
                        · obtain ⟨s, cb, hne⟩ : ∃ s, wv.cell? ⟨r2, q, none⟩ = some (.string s) ∧ (s.toList == (nm 0).toList) = false :=
                            ⟨_, HRB.out.2 q hlt, nm_ne _ _ (HP.out.2.2.2 q hlt).2 (by omega) (HP.out.2.2.2 q hlt).1⟩
                          obtain rfl : A2 = some ⟨r2, 0, none⟩ := by rcases HRB.out.1 with h | h; exact h; omega
                          have i2 : (q : Int) < (LB.length : Int) := by omega
                          go_wp2
                          go_round
                          case rel => exact ⟨q + 1, by omega, by go_num⟩
                          case measure => simp [intOf]; omega
                        · go_wp2
                          go_roundw
                          case rel => exact ⟨0 + 1, by omega, rfl, HBG.out.below hbv (lt_of_block HBG.out), bthen hy8 hbv⟩
                          case measure => simp [intOf]
    · have hput := put1 g0 g1 g2 g3
      obtain ⟨LA, hLA⟩ : ∃ l, sel (bit g0 true g2 g3) 4 = l := ⟨_, rfl⟩
      obtain ⟨LB, hLB⟩ : ∃ l, sel (bit g0 false g2 g3) 4 = l := ⟨_, rfl⟩
      obtain ⟨ps, hps⟩ : ∃ p, (sel (bit g0 g1 g2 g3) 1).length = p := ⟨_, rfl⟩
      rw [hLA, hLB, hps] at hput
      obtain ⟨ho, hla, hpb, hb4, hp1, hp2, hp3, hp4⟩ := hput
      have HP : Hid ((∀ j, j < ps → LA.getD j 0 = LB.getD j 0) ∧ LA.getD ps 0 = 1 ∧ (∀ j, ps ≤ j → j < LB.length → LA.getD (j + 1) 0 = LB.getD j 0) ∧ ∀ j, j < LB.length → LB.getD j 0 ≠ 1 ∧ LB.getD j 0 < 4) := ⟨hp1, hp2, hp3, hp4⟩
      have HLB := hid_of hLB
      have HPS := hid_of hps
      have HLA := hid_of hla
      have CA := fun pb w h => hand_row pb g0 true g2 g3 w h
      have CB := fun pb w h => hand_row pb g0 false g2 g3 w h
      have CO := fun pb w h => hand_row pb false true false false w h
      rw [hLA, hla] at CA
      rw [hLB] at CB
      rw [ho] at CO
      have HCA := hid_of CA
      have HCB := hid_of CB
      have HCO := hid_of CO
      clear CA CB CO hLA hLB hps ho hla hp1 hp2 hp3 hp4
      go_wp2_with fail
      refine (probe_any g0 true g2 g3 a len cap x0 x1 x2 x3 x4 gr _).mono ?_
      rintro e w3 ⟨pa, rfl, hpa, hb3⟩
      clear b0 b1 b2 b3
      have HPA := hid_of hpa
      clear hpa
      go_wp2_with fail
      refine (HCA.out pa _ HPA.out).mono ?_
      rintro e w4 ⟨A1, r1, c1, rfl, hr1, hb4'⟩
      have hx4 := bthen hb3 hb4'
      obtain ⟨hy4, hbo4, hbn4, hbg4⟩ := three_boxes hbel HB.out hx4
      have d0 := bits_cell hbo4 0 (by omega)
      have d1 := bits_cell hbo4 1 (by omega)
      have d2 := bits_cell hbo4 2 (by omega)
      have d3 := bits_cell hbo4 3 (by omega)
      simp only [bit] at d0 d1 d2 d3
      have HR1 := hid_of hr1
      clear hr1 hb3 hb4' hx4
      go_wp2_with fail
      refine (probe_any g0 false g2 g3 a len cap x0 x1 x2 x3 x4 gr _).mono ?_
      rintro e w5 ⟨pb, rfl, hpb', hb5⟩
      clear d0 d1 d2 d3
      have HPB := hid_of hpb'
      clear hpb'
      go_wp2_with fail
      refine (HCB.out pb _ HPB.out).mono ?_
      rintro e w6 ⟨A2, r2, c2, rfl, hr2, hb6⟩
      have hx6 := bthen hb5 hb6
      have hbo6 := hbo4.below hx6 (lt_of_block hbo4)
      have hbn6 := hbn4.below hx6 (lt_of_block hbn4)
      have hbg6 := hbg4.below hx6 (lt_of_block hbg4)
      have hy6 := bthen hy4 hx6
      have HR1' := hid_of (HR1.out.below hx6 (Nat.le_refl _))
      have HR2 := hid_of hr2
      have d0 := bits_cell hbn6 0 (by omega)
      have d1 := bits_cell hbn6 1 (by omega)
      have d2 := bits_cell hbn6 2 (by omega)
      have d3 := bits_cell hbn6 3 (by omega)
      simp only [bit] at d0 d1 d2 d3
      clear hr2 hb5 hb6 hx6 HR1 hbo4 hbn4 hbg4 hy4
      go_wp2_with fail
      refine (probe_any false true false false a len cap x0 x1 x2 x3 x4 gr _).mono ?_
      rintro e w7 ⟨pc, rfl, hpc, hb7⟩
      clear d0 d1 d2 d3
      have HPC := hid_of hpc
      clear hpc
      go_wp2_with fail
      refine (HCO.out pc _ HPC.out).mono ?_
      rintro e w8 ⟨A3, r3, c3, rfl, hr3, hb8⟩
      have hx8 := bthen hb7 hb8
      have HBO := hid_of (hbo6.below hx8 (lt_of_block hbo6))
      have HBG := hid_of (hbg6.below hx8 (lt_of_block hbg6))
      have hy8 := bthen hy6 hx8
      have HR1 := hid_of (HR1'.out.below hx8 (Nat.le_refl _))
      have HR2' := hid_of (HR2.out.below hx8 (Nat.le_refl _))
      obtain rfl : A3 = some ⟨r3, 0, none⟩ := by rcases hr3.1 with h | h; exact h; cases h
      have o0 : w8.cell? ⟨r3, 0, none⟩ = some (.string (nm 1)) := by have := hr3.2 0 (by simp); simpa using this
      clear hr3 hb7 hb8 hx8 HR1' HR2 hbo6 hbn6 hbg6 hy6 HCA HCB HCO HPA HPB HPC
      obtain rfl : A1 = some ⟨r1, 0, none⟩ := by rcases HR1.out.1 with h | h; exact h; rw [HLA.out] at h; cases h
      go_wp2
      go_loop [32, 33] (fun p j => ∃ m : Nat, m ≤ 1 ∧ j = .int .i64 m ∧ p = .int .i64 (sel (bit g0 g1 g2 g3) m).length) (fun _ j => 1 - (intOf j).toNat)
      case atStart => exact ⟨0, by omega, rfl, rfl⟩
      case round =>
        obtain ⟨m, hm, rfl, rfl⟩ := hrel
        have hle := sel_le (bit g0 g1 g2 g3) m
        by_cases hlt : m < 1
        · have hc := bits_cell HBG.out m (by omega)
          have hlt' : (m : Int) < 1 := by omega
          cases hg : bit g0 g1 g2 g3 m with
          | true =>
            rw [hg] at hc
            have HG := hid_of hg
            clear hg
            go_wp2
            go_round
            case rel => exact ⟨m + 1, by omega, by go_num, by rw [sel_yes HG.out, List.length_append]; go_num⟩
            case measure => simp [intOf]; omega
          | false =>
            rw [hg] at hc
            have HG := hid_of hg
            clear hg
            go_wp2
            go_round
            case rel => exact ⟨m + 1, by omega, by go_num, by rw [sel_no HG.out]⟩
            case measure => simp [intOf]; omega
        · obtain rfl : m = 1 := by omega
          rw [HPS.out]
          clear hlt hle
          go_wp2
          go_loop [34, 35] (fun p j => ∃ m : Nat, m ≤ 4 ∧ j = .int .i64 m ∧ p = .int .i64 (sel (bit g0 false g2 g3) m).length) (fun _ j => 4 - (intOf j).toNat)
          case atStart => exact ⟨0, by omega, rfl, rfl⟩
          case round =>
            obtain ⟨m, hm4, rfl, rfl⟩ := hrel
            have hle := sel_le (bit g0 false g2 g3) m
            by_cases hlt : m < 4
            · have hc := bits_cell HBO.out m (by omega)
              have hlt' : (m : Int) < 4 := by omega
              cases hg : bit g0 false g2 g3 m with
              | true =>
                rw [hg] at hc
                have HG := hid_of hg
                clear hg
                go_wp2
                go_round
                case rel => exact ⟨m + 1, by omega, by go_num, by rw [sel_yes HG.out, List.length_append]; go_num⟩
                case measure => simp [intOf]; omega
              | false =>
                rw [hg] at hc
                have HG := hid_of hg
                clear hg
                go_wp2
                go_round
                case rel => exact ⟨m + 1, by omega, by go_num, by rw [sel_no HG.out]⟩
                case measure => simp [intOf]; omega
            · obtain rfl : m = 4 := by omega
              rw [HLB.out]
              clear hlt hle hm4
              go_wp2
              go_loopw [36] (fun j wq => ∃ m : Nat, m ≤ ps ∧ j = .int .i64 m ∧ Below w8.heap.size w8 wq) (fun j _ => ps - (intOf j).toNat)
              case atStart => exact ⟨0, by omega, rfl, Below.refl _ _⟩
              case round =>
                obtain ⟨m, hm4, rfl, hbq⟩ := hrel
                obtain ⟨wq, rfl⟩ : ∃ wq : World, wq = wr := ⟨_, rfl⟩
                have HRA := hid_of (HR1.out.below hbq (Nat.le_refl _))
                have HRB := hid_of (HR2'.out.below hbq (Nat.le_refl _))
                by_cases hlt : m < ps
                · obtain ⟨s, ca, cb⟩ : ∃ s, wq.cell? ⟨r1, m, none⟩ = some (.string s) ∧ wq.cell? ⟨r2, m, none⟩ = some (.string s) :=
                    ⟨_, HRA.out.2 m (by rw [HLA.out]; omega), by rw [HRB.out.2 m (by omega), HP.out.1 m hlt]⟩
                  obtain rfl : A2 = some ⟨r2, 0, none⟩ := by rcases HRB.out.1 with h | h; exact h; omega
                  have i1 : (m : Int) < (ps : Int) := by omega
                  have i2 : (m : Int) < (LB.length : Int) := by omega
                  have i3 : (m : Int) < (LB.length : Int) + 1 := by omega
                  have i4 : (0 : Int) ≤ (m : Int) := by omega
                  go_wp2_with fail
                  go_region_held3 (fun w' => w'.cell? ⟨r1, m, none⟩ = some (.string s) ∧ w'.cell? ⟨r2, m, none⟩ = some (.string s)) (go_keep) (fail)
                  go_wp2
                  go_roundw
                  case rel => exact ⟨m + 1, by omega, by go_num, hbq.drew⟩
                  case measure => simp [intOf]; omega
                · obtain rfl : m = ps := by omega
                  have ca : wq.cell? ⟨r1, m, none⟩ = some (.string (nm 1)) := by rw [HRA.out.2 m (by rw [HLA.out]; omega), HP.out.2.1]
                  have i3 : (m : Int) < (LB.length : Int) + 1 := by omega
                  clear hlt HRA HRB
                  go_wp2
                  go_loopw [37] (fun j wq => ∃ n : Nat, m ≤ n ∧ n ≤ LB.length ∧ j = .int .i64 n ∧ Below w8.heap.size w8 wq) (fun j _ => LB.length - (intOf j).toNat)
                  case atStart => exact ⟨m, by omega, by omega, rfl, hbq⟩
                  case round =>
                    obtain ⟨n, hn1, hn2, rfl, hbv⟩ := hrel
                    obtain ⟨wv, rfl⟩ : ∃ wv : World, wv = wr := ⟨_, rfl⟩
                    have HRA := hid_of (HR1.out.below hbv (Nat.le_refl _))
                    have HRB := hid_of (HR2'.out.below hbv (Nat.le_refl _))
                    by_cases hlt : n < LB.length
                    · obtain ⟨s, ca, cb⟩ : ∃ s, wv.cell? ⟨r1, n + 1, none⟩ = some (.string s) ∧ wv.cell? ⟨r2, n, none⟩ = some (.string s) :=
                        ⟨_, HRA.out.2 (n + 1) (by rw [HLA.out]; omega), by rw [HRB.out.2 n (by omega), HP.out.2.2.1 n hn1 hlt]⟩
                      obtain rfl : A2 = some ⟨r2, 0, none⟩ := by rcases HRB.out.1 with h | h; exact h; omega
                      have i2 : (n : Int) < (LB.length : Int) := by omega
                      have i4 : (0 : Int) ≤ (n : Int) := by omega
                      have i5 : IntKind.i64.wrap ((n : Int) + 1) = (n : Int) + 1 := by rw [IntKind.wrap_i64]; omega
                      have i6 : ((n : Int) + 1).toNat = n + 1 := by omega
                      have i7 : (0 : Int) ≤ (n : Int) + 1 := by omega
                      have i8 : (n : Int) + 1 < (LB.length : Int) + 1 := by omega
                      go_wp2_with fail
                      go_region_held3 (fun w' => w'.cell? ⟨r1, n + 1, none⟩ = some (.string s) ∧ w'.cell? ⟨r2, n, none⟩ = some (.string s)) (go_keep) (fail)
                      go_wp2
                      go_roundw
                      case rel => exact ⟨n + 1, by omega, by omega, by go_num, hbv.drew⟩
                      case measure => simp [intOf]; omega
                    · obtain rfl : n = LB.length := by omega
                      clear hlt hbq HRA ca
                      go_wp2
                      go_loop [38] (fun j => ∃ q : Nat, q ≤ LB.length ∧ j = .int .i64 q) (fun j => LB.length - (intOf j).toNat)
                      case atStart => exact ⟨0, by omega, rfl⟩
                      case round =>
                        obtain ⟨q, hq, rfl⟩ := hrel
                        by_cases hlt : q < LB.length
                        · obtain ⟨s, cb, hne⟩ : ∃ s, wv.cell? ⟨r2, q, none⟩ = some (.string s) ∧ (s.toList == (nm 1).toList) = false :=
                            ⟨_, HRB.out.2 q hlt, nm_ne _ _ (HP.out.2.2.2 q hlt).2 (by omega) (HP.out.2.2.2 q hlt).1⟩
                          obtain rfl : A2 = some ⟨r2, 0, none⟩ := by rcases HRB.out.1 with h | h; exact h; omega
                          have i2 : (q : Int) < (LB.length : Int) := by omega
                          go_wp2
                          go_round
                          case rel => exact ⟨q + 1, by omega, by go_num⟩
                          case measure => simp [intOf]; omega
                        · go_wp2
                          go_roundw
                          case rel => exact ⟨1 + 1, by omega, rfl, HBG.out.below hbv (lt_of_block HBG.out), bthen hy8 hbv⟩
                          case measure => simp [intOf]
    · have hput := put2 g0 g1 g2 g3
      obtain ⟨LA, hLA⟩ : ∃ l, sel (bit g0 g1 true g3) 4 = l := ⟨_, rfl⟩
      obtain ⟨LB, hLB⟩ : ∃ l, sel (bit g0 g1 false g3) 4 = l := ⟨_, rfl⟩
      obtain ⟨ps, hps⟩ : ∃ p, (sel (bit g0 g1 g2 g3) 2).length = p := ⟨_, rfl⟩
      rw [hLA, hLB, hps] at hput
      obtain ⟨ho, hla, hpb, hb4, hp1, hp2, hp3, hp4⟩ := hput
      have HP : Hid ((∀ j, j < ps → LA.getD j 0 = LB.getD j 0) ∧ LA.getD ps 0 = 2 ∧ (∀ j, ps ≤ j → j < LB.length → LA.getD (j + 1) 0 = LB.getD j 0) ∧ ∀ j, j < LB.length → LB.getD j 0 ≠ 2 ∧ LB.getD j 0 < 4) := ⟨hp1, hp2, hp3, hp4⟩
      have HLB := hid_of hLB
      have HPS := hid_of hps
      have HLA := hid_of hla
      have CA := fun pb w h => hand_row pb g0 g1 true g3 w h
      have CB := fun pb w h => hand_row pb g0 g1 false g3 w h
      have CO := fun pb w h => hand_row pb false false true false w h
      rw [hLA, hla] at CA
      rw [hLB] at CB
      rw [ho] at CO
      have HCA := hid_of CA
      have HCB := hid_of CB
      have HCO := hid_of CO
      clear CA CB CO hLA hLB hps ho hla hp1 hp2 hp3 hp4
      go_wp2_with fail
      refine (probe_any g0 g1 true g3 a len cap x0 x1 x2 x3 x4 gr _).mono ?_
      rintro e w3 ⟨pa, rfl, hpa, hb3⟩
      clear b0 b1 b2 b3
      have HPA := hid_of hpa
      clear hpa
      go_wp2_with fail
      refine (HCA.out pa _ HPA.out).mono ?_
      rintro e w4 ⟨A1, r1, c1, rfl, hr1, hb4'⟩
      have hx4 := bthen hb3 hb4'
      obtain ⟨hy4, hbo4, hbn4, hbg4⟩ := three_boxes hbel HB.out hx4
      have d0 := bits_cell hbo4 0 (by omega)
      have d1 := bits_cell hbo4 1 (by omega)
      have d2 := bits_cell hbo4 2 (by omega)
      have d3 := bits_cell hbo4 3 (by omega)
      simp only [bit] at d0 d1 d2 d3
      have HR1 := hid_of hr1
      clear hr1 hb3 hb4' hx4
      go_wp2_with fail
      refine (probe_any g0 g1 false g3 a len cap x0 x1 x2 x3 x4 gr _).mono ?_
      rintro e w5 ⟨pb, rfl, hpb', hb5⟩
      clear d0 d1 d2 d3
      have HPB := hid_of hpb'
      clear hpb'
      go_wp2_with fail
      refine (HCB.out pb _ HPB.out).mono ?_
      rintro e w6 ⟨A2, r2, c2, rfl, hr2, hb6⟩
      have hx6 := bthen hb5 hb6
      have hbo6 := hbo4.below hx6 (lt_of_block hbo4)
      have hbn6 := hbn4.below hx6 (lt_of_block hbn4)
      have hbg6 := hbg4.below hx6 (lt_of_block hbg4)
      have hy6 := bthen hy4 hx6
      have HR1' := hid_of (HR1.out.below hx6 (Nat.le_refl _))
      have HR2 := hid_of hr2
      have d0 := bits_cell hbn6 0 (by omega)
      have d1 := bits_cell hbn6 1 (by omega)
      have d2 := bits_cell hbn6 2 (by omega)
      have d3 := bits_cell hbn6 3 (by omega)
      simp only [bit] at d0 d1 d2 d3
      clear hr2 hb5 hb6 hx6 HR1 hbo4 hbn4 hbg4 hy4
      go_wp2_with fail
      refine (probe_any false false true false a len cap x0 x1 x2 x3 x4 gr _).mono ?_
      rintro e w7 ⟨pc, rfl, hpc, hb7⟩
      clear d0 d1 d2 d3
      have HPC := hid_of hpc
      clear hpc
      go_wp2_with fail
      refine (HCO.out pc _ HPC.out).mono ?_
      rintro e w8 ⟨A3, r3, c3, rfl, hr3, hb8⟩
      have hx8 := bthen hb7 hb8
      have HBO := hid_of (hbo6.below hx8 (lt_of_block hbo6))
      have HBG := hid_of (hbg6.below hx8 (lt_of_block hbg6))
      have hy8 := bthen hy6 hx8
      have HR1 := hid_of (HR1'.out.below hx8 (Nat.le_refl _))
      have HR2' := hid_of (HR2.out.below hx8 (Nat.le_refl _))
      obtain rfl : A3 = some ⟨r3, 0, none⟩ := by rcases hr3.1 with h | h; exact h; cases h
      have o0 : w8.cell? ⟨r3, 0, none⟩ = some (.string (nm 2)) := by have := hr3.2 0 (by simp); simpa using this
      clear hr3 hb7 hb8 hx8 HR1' HR2 hbo6 hbn6 hbg6 hy6 HCA HCB HCO HPA HPB HPC
      obtain rfl : A1 = some ⟨r1, 0, none⟩ := by rcases HR1.out.1 with h | h; exact h; rw [HLA.out] at h; cases h
      go_wp2
      go_loop [32, 33] (fun p j => ∃ m : Nat, m ≤ 2 ∧ j = .int .i64 m ∧ p = .int .i64 (sel (bit g0 g1 g2 g3) m).length) (fun _ j => 2 - (intOf j).toNat)
      case atStart => exact ⟨0, by omega, rfl, rfl⟩
      case round =>
        obtain ⟨m, hm, rfl, rfl⟩ := hrel
        have hle := sel_le (bit g0 g1 g2 g3) m
        by_cases hlt : m < 2
        · have hc := bits_cell HBG.out m (by omega)
          have hlt' : (m : Int) < 2 := by omega
          cases hg : bit g0 g1 g2 g3 m with
          | true =>
            rw [hg] at hc
            have HG := hid_of hg
            clear hg
            go_wp2
            go_round
            case rel => exact ⟨m + 1, by omega, by go_num, by rw [sel_yes HG.out, List.length_append]; go_num⟩
            case measure => simp [intOf]; omega
          | false =>
            rw [hg] at hc
            have HG := hid_of hg
            clear hg
            go_wp2
            go_round
            case rel => exact ⟨m + 1, by omega, by go_num, by rw [sel_no HG.out]⟩
            case measure => simp [intOf]; omega
        · obtain rfl : m = 2 := by omega
          rw [HPS.out]
          clear hlt hle
          go_wp2
          go_loop [34, 35] (fun p j => ∃ m : Nat, m ≤ 4 ∧ j = .int .i64 m ∧ p = .int .i64 (sel (bit g0 g1 false g3) m).length) (fun _ j => 4 - (intOf j).toNat)
          case atStart => exact ⟨0, by omega, rfl, rfl⟩
          case round =>
            obtain ⟨m, hm4, rfl, rfl⟩ := hrel
            have hle := sel_le (bit g0 g1 false g3) m
            by_cases hlt : m < 4
            · have hc := bits_cell HBO.out m (by omega)
              have hlt' : (m : Int) < 4 := by omega
              cases hg : bit g0 g1 false g3 m with
              | true =>
                rw [hg] at hc
                have HG := hid_of hg
                clear hg
                go_wp2
                go_round
                case rel => exact ⟨m + 1, by omega, by go_num, by rw [sel_yes HG.out, List.length_append]; go_num⟩
                case measure => simp [intOf]; omega
              | false =>
                rw [hg] at hc
                have HG := hid_of hg
                clear hg
                go_wp2
                go_round
                case rel => exact ⟨m + 1, by omega, by go_num, by rw [sel_no HG.out]⟩
                case measure => simp [intOf]; omega
            · obtain rfl : m = 4 := by omega
              rw [HLB.out]
              clear hlt hle hm4
              go_wp2
              go_loopw [36] (fun j wq => ∃ m : Nat, m ≤ ps ∧ j = .int .i64 m ∧ Below w8.heap.size w8 wq) (fun j _ => ps - (intOf j).toNat)
              case atStart => exact ⟨0, by omega, rfl, Below.refl _ _⟩
              case round =>
                obtain ⟨m, hm4, rfl, hbq⟩ := hrel
                obtain ⟨wq, rfl⟩ : ∃ wq : World, wq = wr := ⟨_, rfl⟩
                have HRA := hid_of (HR1.out.below hbq (Nat.le_refl _))
                have HRB := hid_of (HR2'.out.below hbq (Nat.le_refl _))
                by_cases hlt : m < ps
                · obtain ⟨s, ca, cb⟩ : ∃ s, wq.cell? ⟨r1, m, none⟩ = some (.string s) ∧ wq.cell? ⟨r2, m, none⟩ = some (.string s) :=
                    ⟨_, HRA.out.2 m (by rw [HLA.out]; omega), by rw [HRB.out.2 m (by omega), HP.out.1 m hlt]⟩
                  obtain rfl : A2 = some ⟨r2, 0, none⟩ := by rcases HRB.out.1 with h | h; exact h; omega
                  have i1 : (m : Int) < (ps : Int) := by omega
                  have i2 : (m : Int) < (LB.length : Int) := by omega
                  have i3 : (m : Int) < (LB.length : Int) + 1 := by omega
                  have i4 : (0 : Int) ≤ (m : Int) := by omega
                  go_wp2_with fail
                  go_region_held3 (fun w' => w'.cell? ⟨r1, m, none⟩ = some (.string s) ∧ w'.cell? ⟨r2, m, none⟩ = some (.string s)) (go_keep) (fail)
                  go_wp2
                  go_roundw
                  case rel => exact ⟨m + 1, by omega, by go_num, hbq.drew⟩
                  case measure => simp [intOf]; omega
                · obtain rfl : m = ps := by omega
                  have ca : wq.cell? ⟨r1, m, none⟩ = some (.string (nm 2)) := by rw [HRA.out.2 m (by rw [HLA.out]; omega), HP.out.2.1]
                  have i3 : (m : Int) < (LB.length : Int) + 1 := by omega
                  clear hlt HRA HRB
                  go_wp2
                  go_loopw [37] (fun j wq => ∃ n : Nat, m ≤ n ∧ n ≤ LB.length ∧ j = .int .i64 n ∧ Below w8.heap.size w8 wq) (fun j _ => LB.length - (intOf j).toNat)
                  case atStart => exact ⟨m, by omega, by omega, rfl, hbq⟩
                  case round =>
                    obtain ⟨n, hn1, hn2, rfl, hbv⟩ := hrel
                    obtain ⟨wv, rfl⟩ : ∃ wv : World, wv = wr := ⟨_, rfl⟩
                    have HRA := hid_of (HR1.out.below hbv (Nat.le_refl _))
                    have HRB := hid_of (HR2'.out.below hbv (Nat.le_refl _))
                    by_cases hlt : n < LB.length
                    · obtain ⟨s, ca, cb⟩ : ∃ s, wv.cell? ⟨r1, n + 1, none⟩ = some (.string s) ∧ wv.cell? ⟨r2, n, none⟩ = some (.string s) :=
                        ⟨_, HRA.out.2 (n + 1) (by rw [HLA.out]; omega), by rw [HRB.out.2 n (by omega), HP.out.2.2.1 n hn1 hlt]⟩
                      obtain rfl : A2 = some ⟨r2, 0, none⟩ := by rcases HRB.out.1 with h | h; exact h; omega
                      have i2 : (n : Int) < (LB.length : Int) := by omega
                      have i4 : (0 : Int) ≤ (n : Int) := by omega
                      have i5 : IntKind.i64.wrap ((n : Int) + 1) = (n : Int) + 1 := by rw [IntKind.wrap_i64]; omega
                      have i6 : ((n : Int) + 1).toNat = n + 1 := by omega
                      have i7 : (0 : Int) ≤ (n : Int) + 1 := by omega
                      have i8 : (n : Int) + 1 < (LB.length : Int) + 1 := by omega
                      go_wp2_with fail
                      go_region_held3 (fun w' => w'.cell? ⟨r1, n + 1, none⟩ = some (.string s) ∧ w'.cell? ⟨r2, n, none⟩ = some (.string s)) (go_keep) (fail)
                      go_wp2
                      go_roundw
                      case rel => exact ⟨n + 1, by omega, by omega, by go_num, hbv.drew⟩
                      case measure => simp [intOf]; omega
                    · obtain rfl : n = LB.length := by omega
                      clear hlt hbq HRA ca
                      go_wp2
                      go_loop [38] (fun j => ∃ q : Nat, q ≤ LB.length ∧ j = .int .i64 q) (fun j => LB.length - (intOf j).toNat)
                      case atStart => exact ⟨0, by omega, rfl⟩
                      case round =>
                        obtain ⟨q, hq, rfl⟩ := hrel
                        by_cases hlt : q < LB.length
                        · obtain ⟨s, cb, hne⟩ : ∃ s, wv.cell? ⟨r2, q, none⟩ = some (.string s) ∧ (s.toList == (nm 2).toList) = false :=
                            ⟨_, HRB.out.2 q hlt, nm_ne _ _ (HP.out.2.2.2 q hlt).2 (by omega) (HP.out.2.2.2 q hlt).1⟩
                          obtain rfl : A2 = some ⟨r2, 0, none⟩ := by rcases HRB.out.1 with h | h; exact h; omega
                          have i2 : (q : Int) < (LB.length : Int) := by omega
                          go_wp2
                          go_round
                          case rel => exact ⟨q + 1, by omega, by go_num⟩
                          case measure => simp [intOf]; omega
                        · go_wp2
                          go_roundw
                          case rel => exact ⟨2 + 1, by omega, rfl, HBG.out.below hbv (lt_of_block HBG.out), bthen hy8 hbv⟩
                          case measure => simp [intOf]
    · have hput := put3 g0 g1 g2 g3
      obtain ⟨LA, hLA⟩ : ∃ l, sel (bit g0 g1 g2 true) 4 = l := ⟨_, rfl⟩
      obtain ⟨LB, hLB⟩ : ∃ l, sel (bit g0 g1 g2 false) 4 = l := ⟨_, rfl⟩
      obtain ⟨ps, hps⟩ : ∃ p, (sel (bit g0 g1 g2 g3) 3).length = p := ⟨_, rfl⟩
      rw [hLA, hLB, hps] at hput
      obtain ⟨ho, hla, hpb, hb4, hp1, hp2, hp3, hp4⟩ := hput
      have HP : Hid ((∀ j, j < ps → LA.getD j 0 = LB.getD j 0) ∧ LA.getD ps 0 = 3 ∧ (∀ j, ps ≤ j → j < LB.length → LA.getD (j + 1) 0 = LB.getD j 0) ∧ ∀ j, j < LB.length → LB.getD j 0 ≠ 3 ∧ LB.getD j 0 < 4) := ⟨hp1, hp2, hp3, hp4⟩
      have HLB := hid_of hLB
      have HPS := hid_of hps
      have HLA := hid_of hla
      have CA := fun pb w h => hand_row pb g0 g1 g2 true w h
      have CB := fun pb w h => hand_row pb g0 g1 g2 false w h
      have CO := fun pb w h => hand_row pb false false false true w h
      rw [hLA, hla] at CA
      rw [hLB] at CB
      rw [ho] at CO
      have HCA := hid_of CA
      have HCB := hid_of CB
      have HCO := hid_of CO
      clear CA CB CO hLA hLB hps ho hla hp1 hp2 hp3 hp4
      go_wp2_with fail
      refine (probe_any g0 g1 g2 true a len cap x0 x1 x2 x3 x4 gr _).mono ?_
      rintro e w3 ⟨pa, rfl, hpa, hb3⟩
      clear b0 b1 b2 b3
      have HPA := hid_of hpa
      clear hpa
      go_wp2_with fail
      refine (HCA.out pa _ HPA.out).mono ?_
      rintro e w4 ⟨A1, r1, c1, rfl, hr1, hb4'⟩
      have hx4 := bthen hb3 hb4'
      obtain ⟨hy4, hbo4, hbn4, hbg4⟩ := three_boxes hbel HB.out hx4
      have d0 := bits_cell hbo4 0 (by omega)
      have d1 := bits_cell hbo4 1 (by omega)
      have d2 := bits_cell hbo4 2 (by omega)
      have d3 := bits_cell hbo4 3 (by omega)
      simp only [bit] at d0 d1 d2 d3
      have HR1 := hid_of hr1
      clear hr1 hb3 hb4' hx4
      go_wp2_with fail
      refine (probe_any g0 g1 g2 false a len cap x0 x1 x2 x3 x4 gr _).mono ?_
      rintro e w5 ⟨pb, rfl, hpb', hb5⟩
      clear d0 d1 d2 d3
      have HPB := hid_of hpb'
      clear hpb'
      go_wp2_with fail
      refine (HCB.out pb _ HPB.out).mono ?_
      rintro e w6 ⟨A2, r2, c2, rfl, hr2, hb6⟩
      have hx6 := bthen hb5 hb6
      have hbo6 := hbo4.below hx6 (lt_of_block hbo4)
      have hbn6 := hbn4.below hx6 (lt_of_block hbn4)
      have hbg6 := hbg4.below hx6 (lt_of_block hbg4)
      have hy6 := bthen hy4 hx6
      have HR1' := hid_of (HR1.out.below hx6 (Nat.le_refl _))
      have HR2 := hid_of hr2
      have d0 := bits_cell hbn6 0 (by omega)
      have d1 := bits_cell hbn6 1 (by omega)
      have d2 := bits_cell hbn6 2 (by omega)
      have d3 := bits_cell hbn6 3 (by omega)
      simp only [bit] at d0 d1 d2 d3
      clear hr2 hb5 hb6 hx6 HR1 hbo4 hbn4 hbg4 hy4
      go_wp2_with fail
      refine (probe_any false false false true a len cap x0 x1 x2 x3 x4 gr _).mono ?_
      rintro e w7 ⟨pc, rfl, hpc, hb7⟩
      clear d0 d1 d2 d3
      have HPC := hid_of hpc
      clear hpc
      go_wp2_with fail
      refine (HCO.out pc _ HPC.out).mono ?_
      rintro e w8 ⟨A3, r3, c3, rfl, hr3, hb8⟩
      have hx8 := bthen hb7 hb8
      have HBO := hid_of (hbo6.below hx8 (lt_of_block hbo6))
      have HBG := hid_of (hbg6.below hx8 (lt_of_block hbg6))
      have hy8 := bthen hy6 hx8
      have HR1 := hid_of (HR1'.out.below hx8 (Nat.le_refl _))
      have HR2' := hid_of (HR2.out.below hx8 (Nat.le_refl _))
      obtain rfl : A3 = some ⟨r3, 0, none⟩ := by rcases hr3.1 with h | h; exact h; cases h
      have o0 : w8.cell? ⟨r3, 0, none⟩ = some (.string (nm 3)) := by have := hr3.2 0 (by simp); simpa using this
      clear hr3 hb7 hb8 hx8 HR1' HR2 hbo6 hbn6 hbg6 hy6 HCA HCB HCO HPA HPB HPC
      obtain rfl : A1 = some ⟨r1, 0, none⟩ := by rcases HR1.out.1 with h | h; exact h; rw [HLA.out] at h; cases h
      go_wp2
      go_loop [32, 33] (fun p j => ∃ m : Nat, m ≤ 3 ∧ j = .int .i64 m ∧ p = .int .i64 (sel (bit g0 g1 g2 g3) m).length) (fun _ j => 3 - (intOf j).toNat)
      case atStart => exact ⟨0, by omega, rfl, rfl⟩
      case round =>
        obtain ⟨m, hm, rfl, rfl⟩ := hrel
        have hle := sel_le (bit g0 g1 g2 g3) m
        by_cases hlt : m < 3
        · have hc := bits_cell HBG.out m (by omega)
          have hlt' : (m : Int) < 3 := by omega
          cases hg : bit g0 g1 g2 g3 m with
          | true =>
            rw [hg] at hc
            have HG := hid_of hg
            clear hg
            go_wp2
            go_round
            case rel => exact ⟨m + 1, by omega, by go_num, by rw [sel_yes HG.out, List.length_append]; go_num⟩
            case measure => simp [intOf]; omega
          | false =>
            rw [hg] at hc
            have HG := hid_of hg
            clear hg
            go_wp2
            go_round
            case rel => exact ⟨m + 1, by omega, by go_num, by rw [sel_no HG.out]⟩
            case measure => simp [intOf]; omega
        · obtain rfl : m = 3 := by omega
          rw [HPS.out]
          clear hlt hle
          go_wp2
          go_loop [34, 35] (fun p j => ∃ m : Nat, m ≤ 4 ∧ j = .int .i64 m ∧ p = .int .i64 (sel (bit g0 g1 g2 false) m).length) (fun _ j => 4 - (intOf j).toNat)
          case atStart => exact ⟨0, by omega, rfl, rfl⟩
          case round =>
            obtain ⟨m, hm4, rfl, rfl⟩ := hrel
            have hle := sel_le (bit g0 g1 g2 false) m
            by_cases hlt : m < 4
            · have hc := bits_cell HBO.out m (by omega)
              have hlt' : (m : Int) < 4 := by omega
              cases hg : bit g0 g1 g2 false m with
              | true =>
                rw [hg] at hc
                have HG := hid_of hg
                clear hg
                go_wp2
                go_round
                case rel => exact ⟨m + 1, by omega, by go_num, by rw [sel_yes HG.out, List.length_append]; go_num⟩
                case measure => simp [intOf]; omega
              | false =>
                rw [hg] at hc
                have HG := hid_of hg
                clear hg
                go_wp2
                go_round
                case rel => exact ⟨m + 1, by omega, by go_num, by rw [sel_no HG.out]⟩
                case measure => simp [intOf]; omega
            · obtain rfl : m = 4 := by omega
              rw [HLB.out]
              clear hlt hle hm4
              go_wp2
              go_loopw [36] (fun j wq => ∃ m : Nat, m ≤ ps ∧ j = .int .i64 m ∧ Below w8.heap.size w8 wq) (fun j _ => ps - (intOf j).toNat)
              case atStart => exact ⟨0, by omega, rfl, Below.refl _ _⟩
              case round =>
                obtain ⟨m, hm4, rfl, hbq⟩ := hrel
                obtain ⟨wq, rfl⟩ : ∃ wq : World, wq = wr := ⟨_, rfl⟩
                have HRA := hid_of (HR1.out.below hbq (Nat.le_refl _))
                have HRB := hid_of (HR2'.out.below hbq (Nat.le_refl _))
                by_cases hlt : m < ps
                · obtain ⟨s, ca, cb⟩ : ∃ s, wq.cell? ⟨r1, m, none⟩ = some (.string s) ∧ wq.cell? ⟨r2, m, none⟩ = some (.string s) :=
                    ⟨_, HRA.out.2 m (by rw [HLA.out]; omega), by rw [HRB.out.2 m (by omega), HP.out.1 m hlt]⟩
                  obtain rfl : A2 = some ⟨r2, 0, none⟩ := by rcases HRB.out.1 with h | h; exact h; omega
                  have i1 : (m : Int) < (ps : Int) := by omega
                  have i2 : (m : Int) < (LB.length : Int) := by omega
                  have i3 : (m : Int) < (LB.length : Int) + 1 := by omega
                  have i4 : (0 : Int) ≤ (m : Int) := by omega
                  go_wp2_with fail
                  go_region_held3 (fun w' => w'.cell? ⟨r1, m, none⟩ = some (.string s) ∧ w'.cell? ⟨r2, m, none⟩ = some (.string s)) (go_keep) (fail)
                  go_wp2
                  go_roundw
                  case rel => exact ⟨m + 1, by omega, by go_num, hbq.drew⟩
                  case measure => simp [intOf]; omega
                · obtain rfl : m = ps := by omega
                  have ca : wq.cell? ⟨r1, m, none⟩ = some (.string (nm 3)) := by rw [HRA.out.2 m (by rw [HLA.out]; omega), HP.out.2.1]
                  have i3 : (m : Int) < (LB.length : Int) + 1 := by omega
                  clear hlt HRA HRB
                  go_wp2
                  go_loopw [37] (fun j wq => ∃ n : Nat, m ≤ n ∧ n ≤ LB.length ∧ j = .int .i64 n ∧ Below w8.heap.size w8 wq) (fun j _ => LB.length - (intOf j).toNat)
                  case atStart => exact ⟨m, by omega, by omega, rfl, hbq⟩
                  case round =>
                    obtain ⟨n, hn1, hn2, rfl, hbv⟩ := hrel
                    obtain ⟨wv, rfl⟩ : ∃ wv : World, wv = wr := ⟨_, rfl⟩
                    have HRA := hid_of (HR1.out.below hbv (Nat.le_refl _))
                    have HRB := hid_of (HR2'.out.below hbv (Nat.le_refl _))
                    by_cases hlt : n < LB.length
                    · obtain ⟨s, ca, cb⟩ : ∃ s, wv.cell? ⟨r1, n + 1, none⟩ = some (.string s) ∧ wv.cell? ⟨r2, n, none⟩ = some (.string s) :=
                        ⟨_, HRA.out.2 (n + 1) (by rw [HLA.out]; omega), by rw [HRB.out.2 n (by omega), HP.out.2.2.1 n hn1 hlt]⟩
                      obtain rfl : A2 = some ⟨r2, 0, none⟩ := by rcases HRB.out.1 with h | h; exact h; omega
                      have i2 : (n : Int) < (LB.length : Int) := by omega
                      have i4 : (0 : Int) ≤ (n : Int) := by omega
                      have i5 : IntKind.i64.wrap ((n : Int) + 1) = (n : Int) + 1 := by rw [IntKind.wrap_i64]; omega
                      have i6 : ((n : Int) + 1).toNat = n + 1 := by omega
                      have i7 : (0 : Int) ≤ (n : Int) + 1 := by omega
                      have i8 : (n : Int) + 1 < (LB.length : Int) + 1 := by omega
                      go_wp2_with fail
                      go_region_held3 (fun w' => w'.cell? ⟨r1, n + 1, none⟩ = some (.string s) ∧ w'.cell? ⟨r2, n, none⟩ = some (.string s)) (go_keep) (fail)
                      go_wp2
                      go_roundw
                      case rel => exact ⟨n + 1, by omega, by omega, by go_num, hbv.drew⟩
                      case measure => simp [intOf]; omega
                    · obtain rfl : n = LB.length := by omega
                      clear hlt hbq HRA ca
                      go_wp2
                      go_loop [38] (fun j => ∃ q : Nat, q ≤ LB.length ∧ j = .int .i64 q) (fun j => LB.length - (intOf j).toNat)
                      case atStart => exact ⟨0, by omega, rfl⟩
                      case round =>
                        obtain ⟨q, hq, rfl⟩ := hrel
                        by_cases hlt : q < LB.length
                        · obtain ⟨s, cb, hne⟩ : ∃ s, wv.cell? ⟨r2, q, none⟩ = some (.string s) ∧ (s.toList == (nm 3).toList) = false :=
                            ⟨_, HRB.out.2 q hlt, nm_ne _ _ (HP.out.2.2.2 q hlt).2 (by omega) (HP.out.2.2.2 q hlt).1⟩
                          obtain rfl : A2 = some ⟨r2, 0, none⟩ := by rcases HRB.out.1 with h | h; exact h; omega
                          have i2 : (q : Int) < (LB.length : Int) := by omega
                          go_wp2
                          go_round
                          case rel => exact ⟨q + 1, by omega, by go_num⟩
                          case measure => simp [intOf]; omega
                        · go_wp2
                          go_roundw
                          case rel => exact ⟨3 + 1, by omega, rfl, HBG.out.below hbv (lt_of_block HBG.out), bthen hy8 hbv⟩
                          case measure => simp [intOf]

end Go.Proofs.Qxb6628988a
