/-
  FnAddFlipSwapsYesAndNo: the walk.
-/
import Derived.Test.Qxb6628502aLaw3
namespace Go.Proofs.Qxb6628502a
open Go.RowKit

theorem bytes7_any (x0 x1 : Int) (x2 : Bool) (x3 : Int) (a : Option Addr) (len cap : Nat) (w : World) :
    Calls Try.prog 7 #[.int .i64 x0, .int .i64 x1, .bool x2, .int .u8 x3, .slice a len cap] w fun e w' => SomeBool e ∧ w' = w := by
  go_enter Try.func7, Try.ntmps7
  go_wp2
  all_goals (go_ret; exact ⟨⟨_, rfl⟩, rfl⟩)

theorem flip8 (v : Int) (w : World) : Calls Try.prog 8 #[.int .u8 v] w fun e w' => e = .returned (.int .u8 (flip 1 v)) ∧ w' = w := by
  by_cases h : v = 0
  · subst h
    go_enter Try.func8, Try.ntmps8
    go_wp2
    go_ret
    exact ⟨rfl, rfl⟩
  · have h' : (v == 0) = false := by simpa using h
    have e : flip 1 v = 0 := by simp [flip, h]
    rw [e]
    go_enter Try.func8, Try.ntmps8
    go_wp2
    go_ret
    exact ⟨rfl, rfl⟩

theorem TalAt.grown {w w' : World} {t s : Nat} {T : Tal} (h : TalAt w t T) (hg : w.grownBy w' (some s)) (hne : t ≠ s) : TalAt w' t T := by
  unfold TalAt at h ⊢
  rw [hg.block t (lt_of_block h) (by simpa using hne)]
  exact h

theorem wrapEq (x : Int) : IntKind.i64.wrap x = wrap64 x := by rw [IntKind.wrap_i64, wrap64]

set_option maxHeartbeats 2000000 in
theorem law4_any (e0 z0 : Int) (d0 : Bool) (v0 : Int) (a : Option Addr) (b off len cap : Nat) (K V : Nat → Int) (w : World) (we : (Lit.int .i64 e0).wf = true) (wz : (Lit.int .i64 z0).wf = true)
    (ha : a = some ⟨b, off, none⟩ ∨ len = 0) (hs : ∀ i, i < len → MsgAt w b off i (K i) (V i)) :
    Calls Try.prog 4 #[.int .i64 e0, .int .i64 z0, .bool d0, .int .u8 v0, .slice a len cap] w fun e w' => RetTrue e ∧ Below w.heap.size w w' := by
  have HS := hid_of hs
  have HA := hid_of ha
  have HE := hid_of (run_e ⟨e0, z0, d0, v0⟩ K V we len)
  have HZ := hid_of (run_z ⟨e0, z0, d0, v0⟩ K V wz len)
  have HE' := hid_of (run_e ⟨e0, z0, d0, v0⟩ K (fun j => flip (K j) (V j)) we len)
  have HZ' := hid_of (run_z ⟨e0, z0, d0, v0⟩ K (fun j => flip (K j) (V j)) wz len)
  have HD := hid_of (flip_dec ⟨e0, z0, d0, v0⟩ K V len)
  clear hs ha we wz
  go_enter Try.func4, Try.ntmps4
  go_wp2_with fail
  refine (bytes7_any _ _ _ _ _ _ _ _).mono ?_
  rintro e w1 ⟨⟨t1, rfl⟩, rfl⟩
  cases t1 with
  | false =>
    go_wp2
    go_ret
    exact ⟨rfl, Below.refl _ _⟩
  | true =>
    by_cases hl : (65536 : Int) < (len : Int)
    · go_wp2
      go_ret
      exact ⟨rfl, Below.refl _ _⟩
    · go_wp2
      go_loopw [13, 14] (fun n i wr => ∃ k : Nat, k ≤ len ∧ i = .int .i64 k ∧ n = .int .i64 (nEst K k) ∧ TalAt wr w1.heap.size (run ⟨e0, z0, d0, v0⟩ K V k) ∧ TalAt wr (w1.heap.size + 1) (run ⟨e0, z0, d0, v0⟩ K (fun j => flip (K j) (V j)) k) ∧ Below w1.heap.size w1 wr ∧ w1.heap.size + 1 < wr.heap.size) (fun _ i _ => len - (intOf i).toNat)
      case atStart =>
        refine ⟨0, Nat.zero_le _, rfl, rfl, block_alloc (heap_alloc_new _ _), ?_, ((Below.refl _ _).alloc (Nat.le_refl _) _).alloc (by simp) _, by simp⟩
        have := heap_alloc_new (w1.alloc (.cells #[.int .i64 e0, .int .i64 z0, .bool d0, .int .u8 v0] 27)) (.cells #[.int .i64 e0, .int .i64 z0, .bool d0, .int .u8 v0] 27)
        simpa [TalAt, run] using this
      case round =>
        obtain ⟨k, hk, rfl, rfl, hT, hU, hbel, hsz⟩ := hrel
        have HT := hid_of hT
        have HU := hid_of hU
        have hn1 := nEst_le K k
        clear hT hU
        by_cases hlt : k < len
        · have hm := HS.out k hlt
          obtain rfl : a = some ⟨b, off, none⟩ := by rcases HA.out with h | h; exact h; omega
          obtain ⟨m0, m1⟩ := hm.below hbel hm.lt
          have hk1 : (0 : Int) ≤ (k : Int) := by omega
          have hk2 : (k : Int) < (len : Int) := by omega
          clear hm
          go_wp2_with fail
          refine (add_any w1.heap.size (run ⟨e0, z0, d0, v0⟩ K V k) (K k) (V k) _ HT.out).mono ?_
          rintro e w2 ⟨rfl, hT2, hg⟩
          have HT2 : Hid (TalAt w2 w1.heap.size (run ⟨e0, z0, d0, v0⟩ K V (k + 1))) := hT2
          have HU2 := hid_of (HU.out.grown hg (by omega))
          have hb2 := hbel.grown hg (by omega) (fun j hj => by cases hj; exact Nat.le_refl _)
          have hsz2 : w1.heap.size + 1 < w2.heap.size := Nat.lt_of_lt_of_le hsz hg.size
          clear hT2 hg HT HU hbel hsz
          by_cases h1 : K k = 1
          · have h1' : (K k == 1) = true := by simpa using h1
            have e1 := hid_of (show nEst K (k + 1) = nEst K k + 1 by simp [nEst, h1])
            have hf : flip 1 (V k) = flip (K k) (V k) := by rw [h1]
            have HF := hid_of hf
            have H1 := hid_of h1
            clear h1 hf
            go_wp2_with fail
            refine (flip8 _ _).mono ?_
            rintro e w3 ⟨rfl, rfl⟩
            rw [HF.out]
            go_wp2_with fail
            refine (add_any (w1.heap.size + 1) (run ⟨e0, z0, d0, v0⟩ K (fun j => flip (K j) (V j)) k) (K k) (flip (K k) (V k)) _ HU2.out).mono ?_
            rintro e w4 ⟨rfl, hU4, hg4⟩
            have hT4 := HT2.out.grown hg4 (by omega)
            have hb4 := hb2.grown hg4 (by omega) (fun j hj => by cases hj; omega)
            go_wp2
            go_roundw
            case rel => exact ⟨k + 1, by omega, by go_num, by rw [e1.out]; go_num, hT4, hU4, hb4, Nat.lt_of_lt_of_le hsz2 hg4.size⟩
            case measure => simp [intOf]; omega
          · have h1' : (K k == 1) = false := by simpa using h1
            have e1 := hid_of (show nEst K (k + 1) = nEst K k by simp [nEst, h1])
            have HF : Hid (V k = flip (K k) (V k)) := by unfold flip; rw [if_neg h1]; exact rfl
            clear h1
            go_wp2_with fail
            refine (add_any (w1.heap.size + 1) (run ⟨e0, z0, d0, v0⟩ K (fun j => flip (K j) (V j)) k) (K k) (V k) _ HU2.out).mono ?_
            rintro e w4 ⟨rfl, hU4, hg4⟩
            have hU4' : TalAt w4 (w1.heap.size + 1) (run ⟨e0, z0, d0, v0⟩ K (fun j => flip (K j) (V j)) (k + 1)) := by simp only [run]; rw [← HF.out]; exact hU4
            have hT4 := HT2.out.grown hg4 (by omega)
            have hb4 := hb2.grown hg4 (by omega) (fun j hj => by cases hj; omega)
            go_wp2
            go_roundw
            case rel => exact ⟨k + 1, by omega, by go_num, by rw [e1.out], hT4, hU4', hb4, Nat.lt_of_lt_of_le hsz2 hg4.size⟩
            case measure => simp [intOf]; omega
        · have hkl : len = k := by omega
          subst hkl
          have hcA := tal_cells HT.out
          have hcB := tal_cells HU.out
          rw [HE.out] at hcA
          rw [HE'.out, HD.out.1, HD.out.2] at hcB
          have hzs : wrap64 (wrap64 ((run ⟨e0, z0, d0, v0⟩ K V len).z - z0) + wrap64 ((run ⟨e0, z0, d0, v0⟩ K (fun j => flip (K j) (V j)) len).z - z0)) = (nEst K len : Int) := by
            rw [HZ.out, HZ'.out]; exact zeros_sum _ _ _ (flip_zero K V len) (by omega)
          clear HE HZ HE' HZ' HD HS HT HU
          generalize (run ⟨e0, z0, d0, v0⟩ K V len).z = zA at hcA hzs
          generalize (run ⟨e0, z0, d0, v0⟩ K (fun j => flip (K j) (V j)) len).z = zB at hcB hzs
          generalize (run ⟨e0, z0, d0, v0⟩ K V len).d = dd at hcA hcB
          generalize (run ⟨e0, z0, d0, v0⟩ K V len).u = uu at hcA hcB
          obtain ⟨E, hE⟩ : ∃ E, IntKind.i64.wrap (e0 + (nEst K len : Int)) = E := ⟨_, rfl⟩
          obtain ⟨pA, hpA⟩ : ∃ x, IntKind.i64.wrap (zA - z0) = x := ⟨_, rfl⟩
          obtain ⟨pB, hpB⟩ : ∃ x, IntKind.i64.wrap (zB - z0) = x := ⟨_, rfl⟩
          have hsum : IntKind.i64.wrap (pA + pB) = (nEst K len : Int) := by
            rw [← hpA, ← hpB, wrapEq, wrapEq, wrapEq]; exact hzs
          rw [← wrapEq, hE] at hcA hcB
          clear hzs
          obtain ⟨a0, a1, a2, a3⟩ := hcA
          obtain ⟨b0, b1, b2, b3⟩ := hcB
          go_wp2_with fail
          go_region_held3 (fun w' => w'.cell? ⟨w1.heap.size, 0, none⟩ = some (.int .i64 E) ∧ w'.cell? ⟨w1.heap.size, 1, none⟩ = some (.int .i64 zA) ∧ w'.cell? ⟨w1.heap.size, 2, none⟩ = some (.bool dd) ∧ w'.cell? ⟨w1.heap.size, 3, none⟩ = some (.int .u8 uu) ∧
              w'.cell? ⟨w1.heap.size + 1, 0, none⟩ = some (.int .i64 E) ∧ w'.cell? ⟨w1.heap.size + 1, 1, none⟩ = some (.int .i64 zB) ∧ w'.cell? ⟨w1.heap.size + 1, 2, none⟩ = some (.bool dd) ∧ w'.cell? ⟨w1.heap.size + 1, 3, none⟩ = some (.int .u8 uu)) (go_keep) (fail)
          go_wp2
          go_ret
          exact ⟨rfl, hbel.drew⟩

end Go.Proofs.Qxb6628502a
