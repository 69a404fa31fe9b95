/-
  FnAcknowledgedExact: the walk.
-/
import Derived.Test.Qxb6629019aStep
namespace Go.Proofs.Qxb6629019a
open Go.RowKit

theorem drop_only (p : ByteArray) (L : List ByteArray) : (dropP p L).length + (only L p).length = L.length := by
  induction L with
  | nil => rfl
  | cons x xs ih =>
    unfold dropP only at ih ⊢
    cases h : (x == p) <;> simp [h] <;> omega

theorem EndRec.below {B : Nat} {w w' : World} {rb : Nat} {t : ByteArray} (h : EndRec w rb t) (hb : Below B w w') (hB : w.heap.size ≤ B) : EndRec w' rb t :=
  (hb.block rb (Nat.lt_of_lt_of_le (lt_of_block h) hB)).trans h

set_option maxRecDepth 100000 in
set_option maxHeartbeats 8000000 in
theorem law3_any (held outcome token t p : ByteArray) (a : Option Addr) (b off cap : Nat) (L : List ByteArray) (w : World) (hs : StrsIn w a b off L) (hL : L.length * 16 ≤ 140737488351232) :
    Calls Try.prog 3 #[.string held, .string outcome, .string token, .slice a L.length cap, .string t, .string p] w fun e w' => RetTrue e ∧ Below w.heap.size w w' := by
  have HS := hid_of hs
  have hmk := run_make_row' (P := Try.prog) 22 9 (.string ⟨#[]⟩) 16 Try.underlying22 Try.info9 rfl .i64 .i64 L.length (by omega) (by omega)
  have pn : ∀ rb wx, (binOp .eql 26 (.pointer (some ⟨rb, 0, none⟩)) (.pointer none)).run Try.prog wx = .ok (.bool false) wx := fun _ _ => by kernel_rfl
  have p0 : ∀ wx, (binOp .eql 26 (.pointer none) (.pointer none)).run Try.prog wx = .ok (.bool true) wx := fun _ => by kernel_rfl
  clear hs
  go_enter Try.func3, Try.ntmps3
  go_wp2_with fail
  refine (bytes5_any held outcome token t p a b off cap L _ HS.out hL).mono ?_
  rintro e w1 ⟨⟨t1, rfl⟩, rfl⟩
  cases t1 with
  | false =>
    go_wp2
    go_ret
    exact ⟨rfl, Below.refl _ _⟩
  | true =>
  go_wp2
  all_goals try (go_ret; exact ⟨rfl, Below.refl _ _⟩)
  go_loop [13, 14] (fun z i => ∃ (k : Nat) (q : Int), k ≤ L.length ∧ i = .int .i64 k ∧ z = .int .i64 q) (fun _ i => L.length - (intOf i).toNat)
  case atStart => exact ⟨0, _, Nat.zero_le _, rfl, rfl⟩
  case round =>
    obtain ⟨k, q, hk, rfl, rfl⟩ := hrel
    by_cases hlt : k < L.length
    · have hc := HS.out.2 k hlt
      generalize L[k] = s at hc
      obtain rfl : a = some ⟨b, off, none⟩ := by rcases HS.out.1 with h | h; exact h; omega
      go_wp2
      all_goals try (go_ret; exact ⟨rfl, Below.refl _ _⟩)
      go_round
      case rel => exact ⟨k + 1, _, by omega, by go_num, rfl⟩
      case measure => simp [intOf]; omega
    · by_cases h0 : L.length = 0
      · go_wp2
        go_ret
        exact ⟨rfl, Below.refl _ _⟩
      · have h0' : ¬ ((L.length : Int) = 0) := by omega
        obtain rfl : a = some ⟨b, off, none⟩ := by rcases HS.out.1 with h | h; exact h; omega
        go_wp2
        go_loopw [17] (fun j wq => ∃ m : Nat, m ≤ L.length ∧ j = .int .i64 m ∧ Copies wq w1.heap.size L m ∧ Below w1.heap.size w1 wq) (fun j _ => L.length - (intOf j).toNat)
        case atStart => exact ⟨0, Nat.zero_le _, rfl, copies_zero w1 L, ((Below.refl _ _).alloc (Nat.le_refl _) _).alloc (by rw [size_alloc']; omega) _⟩
        case round =>
          obtain ⟨m, hm, rfl, hcp, hb⟩ := hrel
          obtain ⟨wq, rfl⟩ : ∃ wq : World, wq = wr := ⟨_, rfl⟩
          have HC := hid_of hcp
          have hbs := hb.size
          by_cases hlm : m < L.length
          · have hc := (HS.out.below hb (Nat.le_refl _)).2 m hlm
            have hbl : b < w1.heap.size := World.block_lt_of_cell? w1 _ (HS.out.2 m hlm)
            have hne : ¬ (b = w1.heap.size) := by omega
            have hc1 := hcp.1.cell hlm
            have hc2 := hcp.2.cell hlm
            have hf1 := hcp.1.frozen m
            have hf2 := hcp.2.frozen m
            have hf3 : (wq.setCell ⟨w1.heap.size, m, none⟩ (.string L[m])).frozen? ⟨w1.heap.size + 1, m, none⟩ = false := (hcp.2.setOther (a := ⟨w1.heap.size, m, none⟩) (by simp) _).frozen m
            have hc3 : (wq.setCell ⟨w1.heap.size, m, none⟩ (.string L[m])).cell? ⟨w1.heap.size + 1, m, none⟩ = some (cp L m m) := (hcp.2.setOther (a := ⟨w1.heap.size, m, none⟩) (by simp) _).cell hlm
            have hc4 : (wq.setCell ⟨w1.heap.size, m, none⟩ (.string L[m])).cell? ⟨b, off + m, none⟩ = some (.string L[m]) := (World.cell?_of_block (w := wq) (heap_setCell_other _ _ _ _ (by simpa using hne))).trans hc
            have hst := copies_step hcp hlm
            have HT := hid_of hst
            clear hcp hst hlt hk
            generalize L[m] = s at hc hf3 hc3 hc4 HT
            go_wp2
            go_roundw
            case rel => exact ⟨m + 1, by omega, by go_num, HT.out, (hb.setCell (Nat.le_refl _) _).setCell (Nat.le_succ _) _⟩
            case measure => simp [intOf]; omega
          · obtain rfl : m = L.length := by omega
            have hrow := hid_of (row_of_is hcp.1)
            have hown := hid_of (own_of_is hcp.2 (by unfold maxLen; omega))
            clear hcp HC hbs hk hlt
            go_wp2
            go_loop [19, 20] (fun z j => ∃ i : Nat, i ≤ L.length ∧ j = .int .i64 i ∧ z = .int .i64 (only (L.take i) p).length) (fun _ j => L.length - (intOf j).toNat)
            case atStart => exact ⟨0, Nat.zero_le _, rfl, rfl⟩
            case round =>
              obtain ⟨n, hn, rfl, rfl⟩ := hrel
              by_cases hln : n < L.length
              · have c2 := hrow.out.2 n hln
                have hsn := only_snoc (x := p) hln
                have hle : (only (L.take n) p).length ≤ n := Nat.le_trans (List.length_filter_le _ _) (List.length_take_le _ _)
                have i4 : (n : Int) < (L.length : Int) := by omega
                cases he : (L[n] == p) with
                | true =>
                  have he' : (L[n].toList == p.toList) = true := by rw [← beq_toListBytes]; exact he
                  rw [he, if_pos rfl] at hsn
                  have hsl := hid_of (congrArg List.length hsn)
                  clear he hsn
                  generalize L[n] = s2 at c2 he' hsl
                  generalize hN : (only (L.take n) p).length = N at hle
                  have HN := hid_of hN
                  clear hN
                  go_wp2
                  go_round
                  case rel => exact ⟨n + 1, by omega, by go_num, by rw [hsl.out, List.length_append, HN.out]; go_num⟩
                  case measure => simp [intOf]; omega
                | false =>
                  have he' : (L[n].toList == p.toList) = false := by rw [← beq_toListBytes]; exact he
                  rw [he, if_neg (by simp), List.append_nil] at hsn
                  have hsl := hid_of hsn
                  clear he hsn
                  generalize L[n] = s2 at c2 he'
                  go_wp2
                  go_round
                  case rel => exact ⟨n + 1, by omega, by go_num, by rw [hsl.out]⟩
                  case measure => simp [intOf]; omega
              · obtain rfl : n = L.length := by omega
                rw [List.take_length]
                have hdo := drop_only p L
                generalize hC : (only L p).length = C at hdo
                have HC := hid_of hC
                clear hC
                go_wp2_with fail
                refine (newCoord_any held outcome token _ _ L _ hown.out).mono ?_
                rintro e w5 ⟨cb, rfl, hst, hb5⟩
                have HST := hid_of hst
                clear hst
                have hsz5 := hb5.size
                by_cases hth : t = held
                · subst hth
                  have ht' : (t.toList == t.toList) = true := by rw [← beq_toListBytes]; exact beq_self _
                  cases hD : dropP p L with
                  | cons x xs =>
                    have hne : dropP p L ≠ [] := by rw [hD]; simp
                    have hpos : 0 < (dropP p L).length := by rw [hD]; simp
                    clear hD
                    have HNE := hid_of hne
                    clear hne
                    have hle := dropP_le p L
                    obtain ⟨N, hN⟩ : ∃ N, (dropP p L).length = N := ⟨_, rfl⟩
                    rw [hN] at hdo hpos hle
                    have HN := hid_of hN
                    clear hN
                    have i6 : (C : Int) < (L.length : Int) := by omega
                    have i7 : (L.length : Int) - (C : Int) = (N : Int) := by omega
                    go_wp2_with fail
                    refine (ack_rest _ cb t outcome token p L _ HST.out hL HNE.out).mono ?_
                    rintro e w6 ⟨rfl, hst6, hb6⟩
                    have HST6 := hid_of hst6
                    have hb6' := hb5.trans hb6
                    clear hst6 hb6
                    go_wp2_with fail
                    refine (entry_own _ cb t outcome token (dropP p L) _ HST6.out).mono ?_
                    rintro e w7 ⟨A, c, rfl, ho7, hb7⟩
                    have HO7 := hid_of ho7
                    have HST7 := hid_of (HST6.out.below hb7)
                    have hb7' := hb6'.trans (hb7.mono hb6'.size)
                    clear ho7 hb7
                    rw [HN.out]
                    go_wp2_with fail
                    refine (entries_one _ cb t outcome token (dropP p L) _ HST7.out).mono ?_
                    rintro e w8 ⟨rfl, rfl⟩
                    obtain ⟨A', r', c', hv, hrow'⟩ := row_of_own HO7.out
                    obtain ⟨rfl, rfl⟩ : A = A' ∧ c = c' := by simp at hv; exact hv
                    have hcon := contains_no A r' c (dropP p L) p _ hrow' (fun x hx => dropP_ne hx) (by rw [HN.out]; omega)
                    have hsub := subseq_any A (some ⟨w1.heap.size, 0, none⟩) r' w1.heap.size c L.length L p _ hrow' (hrow.out.below hb7' (Nat.le_refl _)) hL
                    rw [HN.out] at hcon hsub
                    have HCON := hid_of hcon
                    have HSUB := hid_of hsub
                    clear hv hrow' hcon hsub
                    go_wp2_with fail
                    refine (HCON.out).mono ?_
                    rintro e w9 ⟨rfl, rfl⟩
                    go_wp2_with fail
                    refine (HSUB.out).mono ?_
                    rintro e w10 ⟨rfl, hb10⟩
                    go_wp2
                    go_ret
                    exact ⟨rfl, hb.trans ((hb7'.trans (hb10.mono hb7'.size)).mono hb.size)⟩
                  | nil =>
                    rw [hD] at hdo
                    have HD := hid_of hD
                    obtain rfl : C = L.length := by simpa using hdo
                    clear hD hdo
                    cases hab : abB outcome with
                    | true =>
                      have hab' : (outcome.toList == [97, 98, 111, 114, 116, 101, 100]) = true := hab
                      have HAB := hid_of hab
                      clear hab
                      go_wp2_with fail
                      refine (ack_abort _ cb t outcome token p L _ HST.out hL HD.out HAB.out).mono ?_
                      rintro e w6 ⟨rfl, hg, hb6⟩
                      have HG := hid_of hg
                      clear hg
                      have hb6' := hb5.trans hb6
                      go_wp2_with fail
                      refine (entry_gone _ cb t _ HG.out).mono ?_
                      rintro e w7 ⟨rfl, rfl⟩
                      go_wp2_with fail
                      refine (entries_none _ cb _ HG.out).mono ?_
                      rintro e w8 ⟨rfl, rfl⟩
                      go_wp2
                      go_ret
                      exact ⟨rfl, hb.trans (hb6'.mono hb.size)⟩
                    | false =>
                      have hab' : (outcome.toList == [97, 98, 111, 114, 116, 101, 100]) = false := hab
                      have HAB := hid_of hab
                      clear hab
                      go_wp2_with fail
                      refine (ack_end _ cb t outcome token p L _ HST.out hL HD.out HAB.out).mono ?_
                      rintro e w6 ⟨rb, rfl, hre, hst6, hb6⟩
                      have HRE := hid_of hre
                      have HST6 := hid_of hst6
                      have hb6' := hb5.trans hb6
                      clear hre hst6 hb6
                      go_wp2_with fail
                      refine (entry_own _ cb t outcome token L _ HST6.out).mono ?_
                      rintro e w7 ⟨A, c, rfl, ho7, hb7⟩
                      have HO7 := hid_of ho7
                      have HST7 := hid_of (HST6.out.below hb7)
                      have HRE7 := hid_of (HRE.out.below hb7 (Nat.le_refl _))
                      have hb7' := hb6'.trans (hb7.mono hb6'.size)
                      clear ho7 hb7
                      go_wp2_with fail
                      refine (entries_one _ cb t outcome token L _ HST7.out).mono ?_
                      rintro e w8 ⟨rfl, rfl⟩
                      obtain ⟨A', r', c', hv, hrow'⟩ := row_of_own HO7.out
                      obtain ⟨rfl, rfl⟩ : A = A' ∧ c = c' := by simp at hv; exact hv
                      have HRW := hid_of hrow'
                      have HRG := hid_of (hrow.out.below hb7' (Nat.le_refl _))
                      clear hv hrow'
                      go_wp2_with fail
                      refine (isEnd_any rb t _ HRE7.out).mono ?_
                      rintro e w9 ⟨rfl, hb9⟩
                      have HRW9 := hid_of (HRW.out.below hb9 (Nat.le_refl _))
                      have HRG9 := hid_of (HRG.out.below hb9 (Nat.le_refl _))
                      have hb9' := hb7'.trans (hb9.mono hb7'.size)
                      clear hb9
                      go_wp2_with fail
                      refine (same_any _ _ _ _ _ _ L _ HRW9.out HRG9.out hL).mono ?_
                      rintro e w10 ⟨rfl, hb10⟩
                      go_wp2
                      go_ret
                      exact ⟨rfl, hb.trans ((hb9'.trans (hb10.mono hb9'.size)).mono hb.size)⟩
                · have ht' : (t.toList == held.toList) = false := by rw [← beq_toListBytes]; exact beq_ne hth
                  have HTH := hid_of hth
                  clear hth
                  go_wp2_with fail
                  refine (ack_other _ cb held outcome token t p L _ HST.out HTH.out).mono ?_
                  rintro e w6 ⟨rfl, rfl⟩
                  go_wp2_with fail
                  refine (entry_own _ cb held outcome token L _ HST.out).mono ?_
                  rintro e w7 ⟨A, c, rfl, ho7, hb7⟩
                  have HO7 := hid_of ho7
                  have HST7 := hid_of (HST.out.below hb7)
                  have hb7' := hb5.trans (hb7.mono hb5.size)
                  clear ho7 hb7
                  go_wp2_with fail
                  refine (entries_one _ cb held outcome token L _ HST7.out).mono ?_
                  rintro e w8 ⟨rfl, rfl⟩
                  obtain ⟨A', r', c', hv, hrow'⟩ := row_of_own HO7.out
                  obtain ⟨rfl, rfl⟩ : A = A' ∧ c = c' := by simp at hv; exact hv
                  have HRW := hid_of hrow'
                  have HRG := hid_of (hrow.out.below hb7' (Nat.le_refl _))
                  clear hv hrow'
                  go_wp2_with fail
                  refine (same_any _ _ _ _ _ _ L _ HRW.out HRG.out hL).mono ?_
                  rintro e w9 ⟨rfl, hb9⟩
                  go_wp2
                  go_ret
                  exact ⟨rfl, hb.trans ((hb7'.trans (hb9.mono hb7'.size)).mono hb.size)⟩

end Go.Proofs.Qxb6629019a
