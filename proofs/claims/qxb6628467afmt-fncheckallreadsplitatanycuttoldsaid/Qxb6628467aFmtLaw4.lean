/-
  The second law's walk: FnCheckAllReadSplitAtAnyCut.
-/
import Derived.Test.Qxb6628467aFmtLaw
import Derived.Deep.QuietTactic
import Derived.BigQuiet
import Derived.WalkSmall
namespace Go.Proofs.Qxb6628467aFmt
open Go.RowKit Go.Extern.Stop Go.Stop Go.Extern

theorem boxOne {w2 w3 : World} {cs0 : Array Value} (hb3 : Below (w2.alloc (.cells cs0 26)).heap.size (w2.alloc (.cells cs0 26)) w3) (i : Nat) :
    w3.cell? ⟨w2.heap.size, i, none⟩ = cs0[i]? := by
  rw [hb3.cell (p := ⟨w2.heap.size, i, none⟩) (by simp), cell_new]

theorem bdrew {w w' : World} (h : Below w.drew.heap.size w.drew w') : Below w.heap.size w w' := (Below.refl _ _).drew.trans h
theorem suf_addr {a : Option Addr} {b off len cap k : Nat} (ha : a = some ⟨b, off, none⟩ ∨ len = 0) (hk : k ≤ len) (hlc : len ≤ cap) :
    (if cap = k then a else Option.map (fun x => x.add (k * 4)) a) = some ⟨b, off + k * 4, none⟩ ∨ len - k = 0 := by
  by_cases h : k = len
  · exact .inr (by omega)
  · rw [if_neg (by omega)]
    rcases ha with rfl | h0
    · left
      simp only [Option.map_some, Option.some.injEq]
      unfold Addr.add
      split <;> simp_all
    · omega
theorem suf_els {w : World} {b off len k : Nat} {R : Nat → Bool} (hs : ∀ i, i < len → ElAt w b off i (R i)) : ∀ i, i < len - k → ElAt w b (off + k * 4) i (R (k + i)) := by
  intro i hi
  have := hs (k + i) (by omega)
  unfold ElAt at this ⊢
  rwa [show off + (k + i) * 4 = off + k * 4 + i * 4 from by omega] at this
theorem split_all {len k : Nat} (R : Nat → Bool) (hk : k ≤ len) : (∀ j, j < len → R j = true) ↔ (∀ j, j < k → R j = true) ∧ ∀ j, j < len - k → R (k + j) = true := by
  refine ⟨fun h => ⟨fun j hj => h j (by omega), fun j hj => h _ (by omega)⟩, fun h j hj => ?_⟩
  by_cases e : j < k
  · exact h.1 j e
  · have := h.2 (j - k) (by omega)
    rwa [show k + (j - k) = j from by omega] at this

set_option maxHeartbeats 2000000 in
theorem law4_any (F : Interp) (kd nm : ByteArray) (l : Int) (a : Option Addr) (b off len cap : Nat) (R : Nat → Bool) (c : Int) (w : World) (hF : F.answers w.tape) (hlen : len * 48 ≤ 140737488351232) (hlc : len ≤ cap)
    (ha : a = some ⟨b, off, none⟩ ∨ len = 0) (hs : ∀ i, i < len → ElAt w b off i (R i)) :
    Calls Tryf.prog 4 #[.string kd, .string nm, .int .i64 l, .slice a len cap, .int .i64 c] w fun e w' => RetTrue e ∧ Below w.heap.size w w' := by
  have HF : Hid (F.answers w.tape) := hF
  have HS := hid_of hs
  have HA := hid_of ha
  clear hs ha hF
  go_enter Tryf.func4, Tryf.ntmps4
  go_wp2_with fail
  refine (bytes9_any kd nm l a b off len cap R c _ hlen HA.out HS.out).mono ?_
  rintro e w1 ⟨⟨t1, rfl⟩, hb1⟩
  cases t1 with
  | false =>
    go_wp2
    go_ret
    exact ⟨rfl, hb1⟩
  | true =>
    go_wp2_with fail
    refine (bytesOK_any kd nm a b off len cap R _ hlen HA.out (els_on HS.out hb1)).mono ?_
    rintro e w2 ⟨⟨t2, rfl⟩, hb2'⟩
    have hb2 : Below w.heap.size w w2 := bthen hb1 hb2'
    clear hb2' hb1
    cases t2 with
    | false =>
      go_wp2
      go_ret
      exact ⟨rfl, hb2⟩
    | true =>
      by_cases x3 : c < 0
      · go_wp2
        go_ret
        exact ⟨rfl, hb2⟩
      by_cases x4 : (len : Int) < c
      · go_wp2
        go_ret
        exact ⟨rfl, hb2⟩
      obtain ⟨k, rfl⟩ : ∃ k : Nat, c = k := ⟨c.toNat, by omega⟩
      have hk : k ≤ len := by omega
      go_wp2_with fail
      refine (build_any kd nm l a b off len cap R 0 ⟨#[]⟩ ⟨#[]⟩ 0 false false _ hlen HA.out (els_on HS.out (hb2.alloc hb2.size _))).mono ?_
      rintro e w3 ⟨sb0, gs0, rfl, hs0, hB0, hb3⟩
      have hb3' := bthen (hb2.alloc hb2.size (.cells #[.string ⟨#[]⟩, .string ⟨#[]⟩, .int .i64 0, .bool false] 26)) hb3
      have p0 := boxOne hb3 0
      have p1 := boxOne hb3 1
      have p2 := boxOne hb3 2
      have p3 := boxOne hb3 3
      simp at p0 p1 p2 p3
      have HB0 := hid_of hB0
      have HS0 := hid_of hs0
      clear hB0 hs0
      have hk1 : (0 : Int) ≤ (k : Int) := by omega
      have hk2 : (k : Int) ≤ (cap : Int) := by omega
      have hk3 : (k : Int) ≤ (len : Int) := by omega
      go_wp2_with fail
      have hz3 : w2.heap.size < w3.heap.size := by have := hb3.size; simp at this; omega
      go_region_held3 (fun w' => w'.cell? ⟨w2.heap.size, 0, none⟩ = some (.string ⟨#[]⟩) ∧ w'.cell? ⟨w2.heap.size, 1, none⟩ = some (.string ⟨#[]⟩) ∧ w'.cell? ⟨w2.heap.size, 2, none⟩ = some (.int .i64 0) ∧ w'.cell? ⟨w2.heap.size, 3, none⟩ = some (.bool false))
        (first | go_keep | exact four_below hb4 hz3 ⟨p0, p1, p2, p3⟩)
        (first | (go_at_call 7; refine (build_any kd nm l a b off k cap R 0 ⟨#[]⟩ ⟨#[]⟩ 0 false false _ (by omega) (HA.out.imp id (by omega)) (fun i hi => els_on HS.out hb3'.drew i (by omega))).mono ?_; rintro e w4 ⟨sb1, gs1, rfl, hs1, hB1, hb4⟩))
      have hb4' := bthen hb3'.drew hb4
      obtain ⟨p0', p1', p2', p3'⟩ := four_below hb4 hz3 ⟨p0, p1, p2, p3⟩
      have hz4 : w2.heap.size < w4.heap.size := by have := hb4.size; simp at this; omega
      clear p0 p1 p2 p3
      have HB1 := hid_of hB1
      have HS1 := hid_of hs1
      clear hB1 hs1
      obtain ⟨A, hA⟩ : ∃ A, (if cap = k then a else Option.map (fun x => x.add (k * 4)) a) = A := ⟨_, rfl⟩
      have HAs : Hid (A = some ⟨b, off + k * 4, none⟩ ∨ len - k = 0) := by rw [← hA]; exact suf_addr HA.out hk hlc
      go_wp2_with fail
      go_region_held3 (fun w' => w'.cell? ⟨w2.heap.size, 0, none⟩ = some (.string ⟨#[]⟩) ∧ w'.cell? ⟨w2.heap.size, 1, none⟩ = some (.string ⟨#[]⟩) ∧ w'.cell? ⟨w2.heap.size, 2, none⟩ = some (.int .i64 0) ∧ w'.cell? ⟨w2.heap.size, 3, none⟩ = some (.bool false))
        (first | go_keep | exact four_below hb5 hz4 ⟨p0', p1', p2', p3'⟩)
        (first | (go_at_call 7; refine (build_any kd nm l A b (off + k * 4) (len - k) (cap - k) (fun i => R (k + i)) 0 ⟨#[]⟩ ⟨#[]⟩ 0 false false _ (by omega) HAs.out (suf_els (els_on HS.out hb4'.drew))).mono ?_; rintro e w5 ⟨sb2, gs2, rfl, hs2, hB2, hb5⟩))
      have hb5' := bthen hb4'.drew hb5
      clear p0' p1' p2' p3'
      have hz0 := sec_below (sec_below HS0.out (bdrew hb4)) (bdrew hb5)
      have hz1 := sec_below HS1.out (bdrew hb5)
      have HZ : Hid (SecAt _ w5 sb0 gs0 ∧ SecAt _ w5 sb1 gs1 ∧ SecAt _ w5 sb2 gs2) := ⟨hz0, hz1, hs2⟩
      have hF5 : F.answers w5.tape := by rw [hb5'.tape]; exact HF.out
      have HF5 := hid_of hF5
      have HE := hid_of (els_on HS.out hb5')
      clear hz0 hz1 hs2 HS0 HS1 hF5 hb3 hb4 hb5 hb3' hb4'
      have A0 := hid_of (all_base HB0.out)
      have A1 := hid_of (all_base HB1.out)
      have A2 := hid_of (all_base hB2)
      have AW := hid_of (split_all R hk)
      clear HB0 HB1 hB2
      clear hA
      by_cases hp : ∀ j, j < k → R j = true
      · by_cases hq : ∀ j, j < len - k → R (k + j) = true
        · have HQ := hid_of hq
          have HY0 := hid_of (A0.out.2 (AW.out.2 ⟨hp, hq⟩))
          have HY1 := hid_of (A1.out.2 hp)
          have HY2 := hid_of (A2.out.2 hq)
          clear hp hq A0 A1 A2 AW
          go_wp2_with fail
          refine (check_yes F _ sb0 gs0 _ HF5.out HZ.out.1 HY0.out).mono ?_
          rintro e w6 ⟨rfl, hw6⟩
          go_wp2_with fail
          refine (check_yes F _ sb1 gs1 _ (by rw [hw6.tape]; exact HF5.out) (sec_below HZ.out.2.1 hw6) HY1.out).mono ?_
          rintro e w7 ⟨rfl, hw7⟩
          go_wp2_with fail
          refine (check_yes F _ sb2 gs2 _ (by rw [hw7.tape, hw6.tape]; exact HF5.out) (sec_below (sec_below HZ.out.2.2 hw6) hw7) HY2.out).mono ?_
          rintro e w8 ⟨rfl, hw8⟩
          have hb8' := bthen (bthen (bthen hb5' hw6) hw7) hw8
          go_wp2_with fail
          go_region_held3 (fun _ => True) (trivial) (fail)
          by_cases hkl : k < len
          · obtain ⟨key, val, n, _, _, e0, e1, e2, e3⟩ := els_on HS.out hb8' k hkl
            obtain rfl : a = some ⟨b, off, none⟩ := by rcases HA.out with h | h; exact h; omega
            have hkl' : (k : Int) < (len : Int) := by omega
            have hr : R k = true := by have := HQ.out 0 (by omega); simpa using this
            rw [hr] at e3
            go_wp2
            go_ret
            exact ⟨rfl, hb8'.drew⟩
          · go_wp2
            go_ret
            exact ⟨rfl, hb8'.drew⟩
        · have HY0 := hid_of (fun h => hq (AW.out.1 (A0.out.1 h)).2)
          have HY1 := hid_of (A1.out.2 hp)
          have HY2 := hid_of (fun h => hq (A2.out.1 h))
          clear hp hq A0 A1 A2 AW
          go_wp2_with fail
          refine (check_no F _ sb0 gs0 _ HF5.out HZ.out.1 HY0.out).mono ?_
          rintro e w6 ⟨⟨q0, rfl⟩, hw6⟩
          go_wp2_with fail
          refine (check_yes F _ sb1 gs1 _ (by rw [hw6.tape]; exact HF5.out) (sec_below HZ.out.2.1 hw6) HY1.out).mono ?_
          rintro e w7 ⟨rfl, hw7⟩
          go_wp2_with fail
          refine (check_no F _ sb2 gs2 _ (by rw [hw7.tape, hw6.tape]; exact HF5.out) (sec_below (sec_below HZ.out.2.2 hw6) hw7) HY2.out).mono ?_
          rintro e w8 ⟨⟨q2, rfl⟩, hw8⟩
          have hb8' := bthen (bthen (bthen hb5' hw6) hw7) hw8
          go_wp2_with fail
          go_region_held3 (fun _ => True) (trivial) (fail)
          by_cases hkl : k < len
          · obtain ⟨key, val, n, _, _, e0, e1, e2, e3⟩ := els_on HS.out hb8' k hkl
            obtain rfl : a = some ⟨b, off, none⟩ := by rcases HA.out with h | h; exact h; omega
            have hkl' : (k : Int) < (len : Int) := by omega
            cases hr : R k with
            | true =>
              rw [hr] at e3
              go_wp2
              go_ret
              exact ⟨rfl, hb8'.drew⟩
            | false =>
              rw [hr] at e3
              go_wp2
              go_ret
              exact ⟨rfl, hb8'.drew⟩
          · go_wp2
            go_ret
            exact ⟨rfl, hb8'.drew⟩
      · by_cases hq : ∀ j, j < len - k → R (k + j) = true
        · have HQ := hid_of hq
          have HY0 := hid_of (fun h => hp (AW.out.1 (A0.out.1 h)).1)
          have HY1 := hid_of (fun h => hp (A1.out.1 h))
          have HY2 := hid_of (A2.out.2 hq)
          clear hp hq A0 A1 A2 AW
          go_wp2_with fail
          refine (check_no F _ sb0 gs0 _ HF5.out HZ.out.1 HY0.out).mono ?_
          rintro e w6 ⟨⟨q0, rfl⟩, hw6⟩
          go_wp2_with fail
          refine (check_no F _ sb1 gs1 _ (by rw [hw6.tape]; exact HF5.out) (sec_below HZ.out.2.1 hw6) HY1.out).mono ?_
          rintro e w7 ⟨⟨q1, rfl⟩, hw7⟩
          go_wp2_with fail
          refine (check_yes F _ sb2 gs2 _ (by rw [hw7.tape, hw6.tape]; exact HF5.out) (sec_below (sec_below HZ.out.2.2 hw6) hw7) HY2.out).mono ?_
          rintro e w8 ⟨rfl, hw8⟩
          have hb8' := bthen (bthen (bthen hb5' hw6) hw7) hw8
          go_wp2_with fail
          go_quiet (fail)
          by_cases hkl : k < len
          · obtain ⟨key, val, n, _, _, e0, e1, e2, e3⟩ := els_on HS.out hb8' k hkl
            obtain rfl : a = some ⟨b, off, none⟩ := by rcases HA.out with h | h; exact h; omega
            have hkl' : (k : Int) < (len : Int) := by omega
            have hr : R k = true := by have := HQ.out 0 (by omega); simpa using this
            rw [hr] at e3
            go_wp2
            go_ret
            exact ⟨rfl, below_drewN hb8' _⟩
          · go_wp2
            go_ret
            exact ⟨rfl, below_drewN hb8' _⟩
        · have HY0 := hid_of (fun h => hp (AW.out.1 (A0.out.1 h)).1)
          have HY1 := hid_of (fun h => hp (A1.out.1 h))
          have HY2 := hid_of (fun h => hq (A2.out.1 h))
          clear hp hq A0 A1 A2 AW
          go_wp2_with fail
          refine (check_no F _ sb0 gs0 _ HF5.out HZ.out.1 HY0.out).mono ?_
          rintro e w6 ⟨⟨q0, rfl⟩, hw6⟩
          go_wp2_with fail
          refine (check_no F _ sb1 gs1 _ (by rw [hw6.tape]; exact HF5.out) (sec_below HZ.out.2.1 hw6) HY1.out).mono ?_
          rintro e w7 ⟨⟨q1, rfl⟩, hw7⟩
          go_wp2_with fail
          refine (check_no F _ sb2 gs2 _ (by rw [hw7.tape, hw6.tape]; exact HF5.out) (sec_below (sec_below HZ.out.2.2 hw6) hw7) HY2.out).mono ?_
          rintro e w8 ⟨⟨q2, rfl⟩, hw8⟩
          have hb8' := bthen (bthen (bthen hb5' hw6) hw7) hw8
          go_wp2_with fail
          go_quiet (fail)
          by_cases hkl : k < len
          · obtain ⟨key, val, n, _, _, e0, e1, e2, e3⟩ := els_on HS.out hb8' k hkl
            obtain rfl : a = some ⟨b, off, none⟩ := by rcases HA.out with h | h; exact h; omega
            have hkl' : (k : Int) < (len : Int) := by omega
            cases hr : R k with
            | true =>
              rw [hr] at e3
              go_wp2
              go_ret
              exact ⟨rfl, below_drewN hb8' _⟩
            | false =>
              rw [hr] at e3
              go_wp2
              go_ret
              exact ⟨rfl, below_drewN hb8' _⟩
          · go_wp2
            go_ret
            exact ⟨rfl, below_drewN hb8' _⟩

end Go.Proofs.Qxb6628467aFmt
