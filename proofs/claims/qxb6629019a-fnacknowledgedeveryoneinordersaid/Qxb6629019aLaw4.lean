/-
  FnAcknowledgedEveryoneInOrder: the walk.
-/
import Derived.Test.Qxb6629019aStep
namespace Go.Proofs.Qxb6629019a
open Go.RowKit

set_option maxRecDepth 100000 in
set_option maxHeartbeats 8000000 in
theorem law4_any (held outcome token : ByteArray) (a : Option Addr) (b off cap : Nat) (L : List ByteArray) (w : World) (hs : StrsIn w a b off L) (hL : L.length * 16 ≤ 140737488351232) :
    Calls Try.prog 4 #[.string held, .string outcome, .string token, .slice a L.length cap] w fun e w' => RetTrue e ∧ Below w.heap.size w w' := by
  have HS := hid_of hs
  have hmk := run_make_row' (P := Try.prog) 22 9 (.string ⟨#[]⟩) 16 Try.underlying22 Try.info9 rfl .i64 .i64 L.length (by omega) (by omega)
  have pn : ∀ rb wx, (binOp .neq 26 (.pointer (some ⟨rb, 0, none⟩)) (.pointer none)).run Try.prog wx = .ok (.bool true) wx := fun _ _ => by kernel_rfl
  have p0 : ∀ wx, (binOp .neq 26 (.pointer none) (.pointer none)).run Try.prog wx = .ok (.bool false) wx := fun _ => by kernel_rfl
  clear hs
  go_enter Try.func4, Try.ntmps4
  go_wp2_with fail
  refine (bytes14_any held outcome token a b off cap L _ HS.out hL).mono ?_
  rintro e w1 ⟨⟨t1, rfl⟩, rfl⟩
  cases t1 with
  | false =>
    go_wp2
    go_ret
    exact ⟨rfl, Below.refl _ _⟩
  | true =>
  go_wp2
  all_goals try (go_ret; exact ⟨rfl, Below.refl _ _⟩)
  go_loop [9, 10] (fun z i => ∃ (k : Nat) (q : Int), k ≤ L.length ∧ i = .int .i64 k ∧ z = .int .i64 q) (fun _ i => L.length - (intOf i).toNat)
  case atStart => exact ⟨0, _, Nat.zero_le _, rfl, rfl⟩
  case round =>
    obtain ⟨k, q, hk, rfl, rfl⟩ := hrel
    by_cases hlt : k < L.length
    · have hc := HS.out.2 k hlt
      generalize L[k] = s at hc
      obtain rfl : a = some ⟨b, off, none⟩ := by rcases HS.out.1 with h | h; exact h; omega
      go_wp2
      all_goals try (go_ret; exact ⟨rfl, Below.refl _ _⟩)
      go_round
      case rel => exact ⟨k + 1, _, by omega, by go_num, rfl⟩
      case measure => simp [intOf]; omega
    · by_cases h0 : L.length = 0
      · go_wp2
        go_ret
        exact ⟨rfl, Below.refl _ _⟩
      · have h0' : ¬ ((L.length : Int) = 0) := by omega
        obtain rfl : a = some ⟨b, off, none⟩ := by rcases HS.out.1 with h | h; exact h; omega
        go_wp2
        go_loopw [13] (fun j wq => ∃ m : Nat, m ≤ L.length ∧ j = .int .i64 m ∧ Copies wq w1.heap.size L m ∧ Below w1.heap.size w1 wq) (fun j _ => L.length - (intOf j).toNat)
        case atStart => exact ⟨0, Nat.zero_le _, rfl, copies_zero w1 L, ((Below.refl _ _).alloc (Nat.le_refl _) _).alloc (by rw [size_alloc']; omega) _⟩
        case round =>
          obtain ⟨m, hm, rfl, hcp, hb⟩ := hrel
          obtain ⟨wq, rfl⟩ : ∃ wq : World, wq = wr := ⟨_, rfl⟩
          have HC := hid_of hcp
          have hbs := hb.size
          by_cases hlm : m < L.length
          · have hc := (HS.out.below hb (Nat.le_refl _)).2 m hlm
            have hbl : b < w1.heap.size := World.block_lt_of_cell? w1 _ (HS.out.2 m hlm)
            have hne : ¬ (b = w1.heap.size) := by omega
            have hc1 := hcp.1.cell hlm
            have hc2 := hcp.2.cell hlm
            have hf1 := hcp.1.frozen m
            have hf2 := hcp.2.frozen m
            have hf3 : (wq.setCell ⟨w1.heap.size, m, none⟩ (.string L[m])).frozen? ⟨w1.heap.size + 1, m, none⟩ = false := (hcp.2.setOther (a := ⟨w1.heap.size, m, none⟩) (by simp) _).frozen m
            have hc3 : (wq.setCell ⟨w1.heap.size, m, none⟩ (.string L[m])).cell? ⟨w1.heap.size + 1, m, none⟩ = some (cp L m m) := (hcp.2.setOther (a := ⟨w1.heap.size, m, none⟩) (by simp) _).cell hlm
            have hc4 : (wq.setCell ⟨w1.heap.size, m, none⟩ (.string L[m])).cell? ⟨b, off + m, none⟩ = some (.string L[m]) := (World.cell?_of_block (w := wq) (heap_setCell_other _ _ _ _ (by simpa using hne))).trans hc
            have hst := copies_step hcp hlm
            have HT := hid_of hst
            clear hcp hst hlt hk
            generalize L[m] = s at hc hf3 hc3 hc4 HT
            go_wp2
            go_roundw
            case rel => exact ⟨m + 1, by omega, by go_num, HT.out, (hb.setCell (Nat.le_refl _) _).setCell (Nat.le_succ _) _⟩
            case measure => simp [intOf]; omega
          · obtain rfl : m = L.length := by omega
            have hrow := hid_of (row_of_is hcp.1)
            have hown := hid_of (own_of_is hcp.2 (by unfold maxLen; omega))
            clear hcp HC hbs hk hlt
            go_wp2
            go_loopw [15, 16] (fun z j wz => ∃ kk i : Nat, i ≤ L.length ∧ kk < L.length ∧ z = .int .i64 kk ∧ j = .int .i64 i ∧ Upto L kk i ∧ Below wq.heap.size wq wz) (fun _ j _ => L.length - (intOf j).toNat)
            case atStart => exact ⟨0, 0, Nat.zero_le _, by omega, rfl, rfl, upto_zero h0, Below.refl _ _⟩
            case round =>
              obtain ⟨kk, i, hi, hkk, rfl, rfl, hup, hbz⟩ := hrel
              obtain ⟨wz, rfl⟩ : ∃ wz : World, wz = wr := ⟨_, rfl⟩
              have HUP := hid_of hup
              clear hup
              by_cases hli : i < L.length
              · go_wp2
                go_loopw [17] (fun y wy => ∃ f : Nat, f ≤ i ∧ y = .int .i64 f ∧ Fore L f i ∧ Below wz.heap.size wz wy) (fun y _ => L.length - (intOf y).toNat)
                case atStart => exact ⟨0, Nat.zero_le _, rfl, fore_zero hli, Below.refl _ _⟩
                case round =>
                  obtain ⟨f, hf, rfl, hfo, hby⟩ := hrel
                  obtain ⟨wy, rfl⟩ : ∃ wy : World, wy = wr := ⟨_, rfl⟩
                  have HFO := hid_of hfo
                  have HBY := hid_of (bthen hbz hby)
                  clear hfo
                  by_cases hfi : f < i
                  · have hfl : f < L.length := by omega
                    have c1 := (hrow.out.below HBY.out (Nat.le_refl _)).2 f hfl
                    have c2 := (hrow.out.below HBY.out (Nat.le_refl _)).2 i hli
                    have i1 : (f : Int) < (i : Int) := by omega
                    have i2 : (f : Int) < (L.length : Int) := by omega
                    have i3 : (i : Int) < (L.length : Int) := by omega
                    have i4 : (0 : Int) ≤ (f : Int) := by omega
                    have i5 : (0 : Int) ≤ (i : Int) := by omega
                    cases he : (L[f] == L[i]) with
                    | false =>
                      have he' : (L[f].toList == L[i].toList) = false := by rw [← beq_toListBytes]; exact he
                      have HF' := hid_of (fore_step HFO.out hli hfl he)
                      clear he
                      generalize L[f] = s1 at c1 he'
                      generalize L[i] = s2 at c2 he'
                      go_wp2_with fail
                      go_region_held3 (fun w' => w'.cell? ⟨w1.heap.size, f, none⟩ = some (.string s1) ∧ w'.cell? ⟨w1.heap.size, i, none⟩ = some (.string s2)) (go_keep) (fail)
                      go_wp2
                      go_roundw
                      case rel => exact ⟨f + 1, by omega, by go_num, HF'.out, hby.drew⟩
                      case measure => simp [intOf]; omega
                    | true =>
                      have he' : (L[f].toList == L[i].toList) = true := by rw [← beq_toListBytes]; exact he
                      by_cases hkf : kk < f
                      · have HU' := hid_of (upto_up HUP.out HFO.out hli hfl he hkf)
                        have i6 : (kk : Int) < (f : Int) := by omega
                        clear he
                        generalize L[f] = s1 at c1 he'
                        generalize L[i] = s2 at c2 he'
                        go_wp2_with fail
                        go_region_held3 (fun w' => w'.cell? ⟨w1.heap.size, f, none⟩ = some (.string s1) ∧ w'.cell? ⟨w1.heap.size, i, none⟩ = some (.string s2)) (go_keep) (fail)
                        go_wp2
                        go_roundw
                        case rel => exact ⟨f, i + 1, by omega, by omega, rfl, by go_num, HU'.out, HBY.out.drew⟩
                        case measure => simp [intOf]; omega
                      · have HU' := hid_of (upto_stay HUP.out hli hfl he hkf)
                        have i6 : ¬ ((kk : Int) < (f : Int)) := by omega
                        clear he
                        generalize L[f] = s1 at c1 he'
                        generalize L[i] = s2 at c2 he'
                        go_wp2_with fail
                        go_region_held3 (fun w' => w'.cell? ⟨w1.heap.size, f, none⟩ = some (.string s1) ∧ w'.cell? ⟨w1.heap.size, i, none⟩ = some (.string s2)) (go_keep) (fail)
                        go_wp2
                        go_roundw
                        case rel => exact ⟨kk, i + 1, by omega, by omega, rfl, by go_num, HU'.out, HBY.out.drew⟩
                        case measure => simp [intOf]; omega
                  · obtain rfl : f = i := by omega
                    have i1 : decide ((f : Int) < (f : Int)) = false := by simp
                    by_cases hkf : kk < f
                    · have HU' := hid_of (upto_up HUP.out HFO.out hli hli (beq_self _) hkf)
                      have i6 : (kk : Int) < (f : Int) := by omega
                      go_wp2_with fail
                      go_quiet (fail)
                      go_wp2
                      go_roundw
                      case rel => exact ⟨f, f + 1, by omega, by omega, rfl, by go_num, HU'.out, below_drewN HBY.out _⟩
                      case measure => simp [intOf]; omega
                    · have HU' := hid_of (upto_stay HUP.out hli hli (beq_self _) hkf)
                      have i6 : ¬ ((kk : Int) < (f : Int)) := by omega
                      go_wp2_with fail
                      go_quiet (fail)
                      go_wp2
                      go_roundw
                      case rel => exact ⟨kk, f + 1, by omega, by omega, rfl, by go_num, HU'.out, below_drewN HBY.out _⟩
                      case measure => simp [intOf]; omega
              · have HL := hid_of (upto_last HUP.out hli)
                clear HUP
                have HR := hid_of (hrow.out.below hbz (Nat.le_refl _))
                have HO := hid_of (own_below hown.out hbz)
                have HB := hid_of (bthen hb hbz)
                have c1 := HR.out.2 kk hkk
                clear hrow hown hbz hb
                obtain ⟨last, hlast⟩ : ∃ last, last = L[kk] := ⟨_, rfl⟩
                rw [← hlast] at c1
                have HLA := hid_of hlast
                clear hlast
                have i3 : (kk : Int) < (L.length : Int) := by omega
                go_wp2
                go_loop [19, 20] (fun z j => ∃ i : Nat, i ≤ L.length ∧ j = .int .i64 i ∧ z = .int .i64 (only (L.take i) last).length) (fun _ j => L.length - (intOf j).toNat)
                case atStart => exact ⟨0, Nat.zero_le _, rfl, rfl⟩
                case round =>
                  obtain ⟨n, hn, rfl, rfl⟩ := hrel
                  by_cases hln : n < L.length
                  · have c2 := HR.out.2 n hln
                    have hsn := only_snoc (x := last) hln
                    have hle : (only (L.take n) last).length ≤ n := Nat.le_trans (List.length_filter_le _ _) (List.length_take_le _ _)
                    have i4 : (n : Int) < (L.length : Int) := by omega
                    cases he : (L[n] == last) with
                    | true =>
                      have he' : (L[n].toList == last.toList) = true := by rw [← beq_toListBytes]; exact he
                      rw [he, if_pos rfl] at hsn
                      have hsl := hid_of (congrArg List.length hsn)
                      clear he hsn
                      generalize L[n] = s2 at c2 he' hsl
                      generalize hN : (only (L.take n) last).length = N at hle
                      have HN := hid_of hN
                      clear hN
                      go_wp2
                      go_round
                      case rel => exact ⟨n + 1, by omega, by go_num, by rw [hsl.out, List.length_append, HN.out]; go_num⟩
                      case measure => simp [intOf]; omega
                    | false =>
                      have he' : (L[n].toList == last.toList) = false := by rw [← beq_toListBytes]; exact he
                      rw [he, if_neg (by simp), List.append_nil] at hsn
                      have hsl := hid_of hsn
                      clear he hsn
                      generalize L[n] = s2 at c2 he'
                      go_wp2
                      go_round
                      case rel => exact ⟨n + 1, by omega, by go_num, by rw [hsl.out]⟩
                      case measure => simp [intOf]; omega
                  · obtain rfl : n = L.length := by omega
                    rw [List.take_length]
                    have hnum : (only L last).length = (rem L kk).length := by rw [HLA.out, ← rem_last HL.out hkk]
                    rw [hnum]
                    clear hnum
                    cases hab : abB outcome with
                    | true =>
                      have hab' : (outcome.toList == [97, 98, 111, 114, 116, 101, 100]) = true := hab
                      have HAB := hid_of hab
                      clear hab
                      go_wp2_with fail
                      refine (newCoord_any held outcome token _ _ L _ HO.out).mono ?_
                      rintro e w5 ⟨cb, rfl, hst, hb5⟩
                      have hst0 := hid_of (now_start (k := kk) hst)
                      clear hst c1
                      go_wp2
                      go_loopw [23] (fun j wv => ∃ m : Nat, m ≤ L.length ∧ j = .int .i64 m ∧ Now wz.heap.size wv cb held outcome token L kk m ∧ Below wz.heap.size wz wv) (fun j _ => L.length - (intOf j).toNat)
                      case atStart => exact ⟨0, Nat.zero_le _, rfl, hst0.out, hb5⟩
                      case round =>
                        obtain ⟨m, hm, rfl, hnow, hbv⟩ := hrel
                        have HNW := hid_of hnow
                        clear hnow
                        by_cases hlm : m < L.length
                        · have c2 := (HR.out.below hbv (Nat.le_refl _)).2 m hlm
                          have hstep := step_ab _ cb held outcome token L kk m _ HNW.out HL.out hlm hL HAB.out
                          have i4 : (m : Int) < (L.length : Int) := by omega
                          generalize L[m] = s at c2 hstep
                          have HSTP := hid_of hstep
                          clear hstep
                          go_wp2_with fail
                          refine (HSTP.out).mono ?_
                          rintro e w6 ⟨rfl, hn6, hb6⟩
                          have HN6 := hid_of hn6
                          clear hn6 c2
                          go_wp2
                          go_roundw
                          case rel => exact ⟨m + 1, by omega, by go_num, HN6.out, hbv.trans hb6⟩
                          case measure => simp [intOf]; omega
                        · have hgone := now_gone HNW.out (by omega) HAB.out
                          have HG := hid_of hgone
                          clear hgone
                          go_wp2_with fail
                          refine (entry_gone _ cb held _ HG.out).mono ?_
                          rintro e w6 ⟨rfl, rfl⟩
                          go_wp2_with fail
                          refine (entries_none _ cb _ HG.out).mono ?_
                          rintro e w7 ⟨rfl, rfl⟩
                          go_wp2
                          go_ret
                          exact ⟨rfl, HB.out.trans (hbv.mono HB.out.size)⟩
                    | false =>
                      have hab' : (outcome.toList == [97, 98, 111, 114, 116, 101, 100]) = false := hab
                      have HAB := hid_of hab
                      clear hab
                      go_wp2_with fail
                      refine (newCoord_any held outcome token _ _ L _ HO.out).mono ?_
                      rintro e w5 ⟨cb, rfl, hst, hb5⟩
                      have hst0 := hid_of (now_start (k := kk) hst)
                      clear hst c1
                      go_wp2
                      go_loopw [23] (fun j wv => ∃ m : Nat, m ≤ L.length ∧ j = .int .i64 m ∧ Now wz.heap.size wv cb held outcome token L kk m ∧ Below wz.heap.size wz wv) (fun j _ => L.length - (intOf j).toNat)
                      case atStart => exact ⟨0, Nat.zero_le _, rfl, hst0.out, hb5⟩
                      case round =>
                        obtain ⟨m, hm, rfl, hnow, hbv⟩ := hrel
                        obtain ⟨wv, rfl⟩ : ∃ wv : World, wv = wr := ⟨_, rfl⟩
                        have HNW := hid_of hnow
                        clear hnow
                        by_cases hlm : m < L.length
                        · have hrv := hid_of (HR.out.below hbv (Nat.le_refl _))
                          have c2 := hrv.out.2 m hlm
                          have i4 : (m : Int) < (L.length : Int) := by omega
                          have i5 : (0 : Int) ≤ (m : Int) := by omega
                          by_cases hmk : m < kk
                          · have hstep := step_rest _ cb held outcome token L kk m _ HNW.out HL.out hkk hlm hL HAB.out (HL.out.2.1 m hlm hmk)
                            have i6 : (m : Int) < (kk : Int) := by omega
                            generalize L[m] = s at c2 hstep
                            have HSTP := hid_of hstep
                            clear hstep
                            go_wp2_with fail
                            refine (HSTP.out).mono ?_
                            rintro e w6 ⟨rfl, hn6, hb6⟩
                            have HN6 := hid_of hn6
                            clear hn6 c2
                            go_wp2
                            go_roundw
                            case rel => exact ⟨m + 1, by omega, by go_num, HN6.out, hbv.trans hb6⟩
                            case measure => simp [intOf]; omega
                          · have i6 : ¬ ((m : Int) < (kk : Int)) := by omega
                            cases he : (L[m] == last) with
                            | false =>
                              have he' : (L[m].toList == last.toList) = false := by rw [← beq_toListBytes]; exact he
                              have hstep := step_rest _ cb held outcome token L kk m _ HNW.out HL.out hkk hlm hL HAB.out (by rw [← HLA.out]; exact he)
                              clear he
                              generalize hsm : L[m] = s at c2 hstep he'
                              have HSM := hid_of hsm
                              have HSTP := hid_of hstep
                              clear hstep hsm
                              go_wp2_with fail
                              refine (HSTP.out).mono ?_
                              rintro e w6 ⟨rfl, hn6, hb6⟩
                              have HN6 := hid_of hn6
                              have c3 : w6.cell? ⟨w1.heap.size, m, none⟩ = some (.string s) := by rw [← HSM.out]; exact (HR.out.below (hbv.trans hb6) (Nat.le_refl _)).2 m hlm
                              clear hn6 c2
                              go_wp2
                              go_roundw
                              case rel => exact ⟨m + 1, by omega, by go_num, HN6.out, hbv.trans hb6⟩
                              case measure => simp [intOf]; omega
                            | true =>
                              have he' : (L[m].toList == last.toList) = true := by rw [← beq_toListBytes]; exact he
                              have hstep := step_end _ cb held outcome token L kk m _ HNW.out HL.out hkk hlm hL HAB.out (by omega) (by rw [← HLA.out]; exact he)
                              clear he
                              generalize hsm : L[m] = s at c2 hstep he'
                              have HSM := hid_of hsm
                              have HSTP := hid_of hstep
                              clear hstep hsm
                              go_wp2_with fail
                              refine (HSTP.out).mono ?_
                              rintro e w6 ⟨rb, rfl, hre, hn6, hb6⟩
                              have HN6 := hid_of hn6
                              have HRE := hid_of hre
                              have c3 : w6.cell? ⟨w1.heap.size, m, none⟩ = some (.string s) := by rw [← HSM.out]; exact (HR.out.below (hbv.trans hb6) (Nat.le_refl _)).2 m hlm
                              have hb6' := hbv.trans hb6
                              have hsz := hb6'.size
                              clear hn6 c2 hre
                              go_wp2_with fail
                              refine (isEnd_any rb held _ HRE.out).mono ?_
                              rintro e w7 ⟨rfl, hb7⟩
                              have HN7 := hid_of (HN6.out.below hb7)
                              clear c3
                              go_wp2
                              go_roundw
                              case rel => exact ⟨m + 1, by omega, by go_num, HN7.out, hb6'.trans (hb7.mono hsz)⟩
                              case measure => simp [intOf]; omega
                        · have hkept := now_kept HNW.out (by omega) HAB.out
                          have HK := hid_of hkept
                          clear hkept
                          have hrl := rem_le L kk
                          generalize hR : rem L kk = R at HK hrl
                          have HRR := hid_of hR
                          clear hR
                          go_wp2_with fail
                          refine (entry_own _ cb held outcome token R _ HK.out).mono ?_
                          rintro e w6 ⟨A, c, rfl, ho6, hb6⟩
                          have HO6 := hid_of ho6
                          have HK6 := hid_of (HK.out.below hb6)
                          have HB6 := hid_of (hbv.trans (hb6.mono hbv.size))
                          clear ho6 hb6
                          go_wp2_with fail
                          refine (entries_one _ cb held outcome token R _ HK6.out).mono ?_
                          rintro e w7 ⟨rfl, rfl⟩
                          obtain ⟨A', r', c', hv, hrow'⟩ := row_of_own HO6.out
                          obtain ⟨rfl, rfl⟩ : A = A' ∧ c = c' := by simp at hv; exact hv
                          have HRW := hid_of hrow'
                          clear hv hrow'
                          go_wp2
                          go_loop [30] (fun j => ∃ i : Nat, i ≤ R.length ∧ j = .int .i64 i) (fun j => R.length - (intOf j).toNat)
                          case atStart => exact ⟨0, Nat.zero_le _, rfl⟩
                          case round =>
                            obtain ⟨n, hn, rfl⟩ := hrel
                            by_cases hln : n < R.length
                            · have c2 := HRW.out.2 n hln
                              have hel : R[n] = last := by
                                have hall : ∀ x ∈ R, x = last := by
                                  rw [← HRR.out, rem_last HL.out hkk, ← HLA.out]
                                  exact fun x h => only_mem h
                                exact hall _ (List.getElem_mem hln)
                              rw [hel] at c2
                              have he' : (last.toList == last.toList) = true := by rw [← beq_toListBytes]; exact beq_self _
                              obtain rfl : A = some ⟨r', 0, none⟩ := by rcases HRW.out.1 with h | h; exact h; omega
                              have i4 : (n : Int) < (R.length : Int) := by omega
                              clear hel
                              go_wp2
                              go_round
                              case rel => exact ⟨n + 1, by omega, by go_num⟩
                              case measure => simp [intOf]; omega
                            · go_wp2
                              go_ret
                              exact ⟨rfl, HB.out.trans (HB6.out.mono HB.out.size)⟩

end Go.Proofs.Qxb6629019a
