/-
  FnAddScriptMatchesCount: the walk.
-/
import Derived.Test.Qxb6628502aAdd
namespace Go.Proofs.Qxb6628502a
open Go.RowKit

/-- Message i of the slice that came in. -/
def MsgAt (w : World) (b off i : Nat) (k v : Int) : Prop :=
  w.cell? ⟨b, off + i * 2, none⟩ = some (.int .u8 k) ∧ w.cell? ⟨b, off + i * 2 + 1, none⟩ = some (.int .u8 v)

theorem MsgAt.lt {w : World} {b off i : Nat} {k v : Int} (h : MsgAt w b off i k v) : b < w.heap.size := World.block_lt_of_cell? w _ h.1
theorem MsgAt.below {B : Nat} {w w' : World} {b off i : Nat} {k v : Int} (h : MsgAt w b off i k v) (hb : Below B w w') (hB : b < B) : MsgAt w' b off i k v :=
  ⟨(hb.cell (p := ⟨b, _, none⟩) hB).trans h.1, (hb.cell (p := ⟨b, _, none⟩) hB).trans h.2⟩
theorem MsgAt.grown {w w' : World} {t b off i : Nat} {k v : Int} (h : MsgAt w b off i k v) (hg : w.grownBy w' (some t)) (hne : b ≠ t) : MsgAt w' b off i k v :=
  ⟨hg.cell h.1 (by simpa using hne), hg.cell h.2 (by simpa using hne)⟩
theorem MsgAt.drew {w : World} {b off i : Nat} {k v : Int} (h : MsgAt w b off i k v) : MsgAt w.drew b off i k v := h

def RetTrue (e : Ending) : Prop := e = .returned (.bool true)
/-- It returns a bool. -/
def SomeBool (e : Ending) : Prop := ∃ t, e = .returned (.bool t)

theorem bytes5_any (x0 x1 : Int) (x2 : Bool) (x3 : Int) (a : Option Addr) (len cap : Nat) (w : World) :
    Calls Try.prog 5 #[.int .i64 x0, .int .i64 x1, .bool x2, .int .u8 x3, .slice a len cap] w fun e w' => SomeBool e ∧ w' = w := by
  go_enter Try.func5, Try.ntmps5
  go_wp2
  all_goals (go_ret; exact ⟨⟨_, rfl⟩, rfl⟩)

theorem tal_cells {w : World} {t : Nat} {T : Tal} (h : TalAt w t T) : w.cell? ⟨t, 0, none⟩ = some (.int .i64 T.e) ∧ w.cell? ⟨t, 1, none⟩ = some (.int .i64 T.z) ∧ w.cell? ⟨t, 2, none⟩ = some (.bool T.d) ∧ w.cell? ⟨t, 3, none⟩ = some (.int .u8 T.u) := by
  unfold TalAt at h
  exact ⟨by simp [World.cell?, h], by simp [World.cell?, h], by simp [World.cell?, h], by simp [World.cell?, h]⟩

set_option maxHeartbeats 2000000 in
theorem law3_any (e0 z0 : Int) (d0 : Bool) (v0 : Int) (a : Option Addr) (b off len cap : Nat) (K V : Nat → Int) (w : World) (we : (Lit.int .i64 e0).wf = true) (wz : (Lit.int .i64 z0).wf = true)
    (ha : a = some ⟨b, off, none⟩ ∨ len = 0) (hs : ∀ i, i < len → MsgAt w b off i (K i) (V i)) :
    Calls Try.prog 3 #[.int .i64 e0, .int .i64 z0, .bool d0, .int .u8 v0, .slice a len cap] w fun e w' => RetTrue e ∧ Below w.heap.size w w' := by
  have HS := hid_of hs
  have HA := hid_of ha
  have HE := hid_of (run_e ⟨e0, z0, d0, v0⟩ K V we len)
  have HZ := hid_of (run_z ⟨e0, z0, d0, v0⟩ K V wz len)
  clear hs ha we wz
  go_enter Try.func3, Try.ntmps3
  go_wp2_with fail
  refine (bytes5_any _ _ _ _ _ _ _ _).mono ?_
  rintro e w1 ⟨⟨t1, rfl⟩, rfl⟩
  cases t1 with
  | false =>
    go_wp2
    go_ret
    exact ⟨rfl, Below.refl _ _⟩
  | true =>
    by_cases hl : (65536 : Int) < (len : Int)
    · go_wp2
      go_ret
      exact ⟨rfl, Below.refl _ _⟩
    · go_wp2
      go_loopw [12] (fun i wr => ∃ k : Nat, k ≤ len ∧ i = .int .i64 k ∧ TalAt wr w1.heap.size (run ⟨e0, z0, d0, v0⟩ K V k) ∧ Below w1.heap.size w1 wr ∧ w1.heap.size < wr.heap.size) (fun i _ => len - (intOf i).toNat)
      case atStart => exact ⟨0, Nat.zero_le _, rfl, heap_alloc_new _ _, (Below.refl _ _).alloc (Nat.le_refl _) _, by simp⟩
      case round =>
        obtain ⟨k, hk, rfl, hT, hbel, hsz⟩ := hrel
        have HT := hid_of hT
        clear hT
        by_cases hlt : k < len
        · have hm := HS.out k hlt
          obtain rfl : a = some ⟨b, off, none⟩ := by rcases HA.out with h | h; exact h; omega
          have hbne : b ≠ w1.heap.size := by have := hm.lt; omega
          obtain ⟨m0, m1⟩ := hm.below hbel hm.lt
          have hk1 : (0 : Int) ≤ (k : Int) := by omega
          have hk2 : (k : Int) < (len : Int) := by omega
          clear hm
          go_wp2_with fail
          go_region_held3 (fun w' => w'.cell? ⟨b, off + k * 2, none⟩ = some (.int .u8 (K k)) ∧ w'.cell? ⟨b, off + k * 2 + 1, none⟩ = some (.int .u8 (V k)))
            (first | go_keep | exact MsgAt.grown (w := wr.drew) (k := K k) (v := V k) ⟨m0, m1⟩ hg hbne)
            (first | (go_at_call 6; refine (add_any w1.heap.size (run ⟨e0, z0, d0, v0⟩ K V k) (K k) (V k) _ (by exact HT.out)).mono ?_; rintro e w2 ⟨rfl, hT2, hg⟩))
          go_wp2
          go_roundw
          case rel => exact ⟨k + 1, by omega, by go_num, hT2, hbel.drew.grown hg (Nat.le_of_lt hsz) (fun j hj => by cases hj; exact Nat.le_refl _), Nat.lt_of_lt_of_le hsz hg.size⟩
          case measure => simp [intOf]; omega
        · have hkl : len = k := by omega
          subst hkl
          have hc := tal_cells HT.out
          rw [HE.out, HZ.out] at hc
          have HC := hid_of hc
          have HW : Hid (∀ i, i < len → MsgAt wr b off i (K i) (V i)) := fun i hi => (HS.out i hi).below hbel (HS.out i hi).lt
          have HBl := hid_of hbel
          clear hc HE HZ HS HT hbel
          go_wp2
          go_loop [13, 14, 15] (fun n z i => ∃ k : Nat, k ≤ len ∧ i = .int .i64 k ∧ n = .int .i64 (nEst K k) ∧ z = .int .i64 (nZero K V k)) (fun _ _ i => len - (intOf i).toNat)
          case atStart => exact ⟨0, Nat.zero_le _, rfl, rfl, rfl⟩
          case round =>
            obtain ⟨k, hk, rfl, rfl, rfl⟩ := hrel
            have hn1 := nEst_le K k
            have hn2 := nZero_le K V k
            by_cases hlt : k < len
            · obtain ⟨m0, m1⟩ := HW.out k hlt
              obtain rfl : a = some ⟨b, off, none⟩ := by rcases HA.out with h | h; exact h; omega
              have hk2 : (k : Int) < (len : Int) := by omega
              by_cases h1 : K k = 1
              · have h1' : (K k == 1) = true := by simpa using h1
                have e1 := hid_of (show nEst K (k + 1) = nEst K k + 1 by simp [nEst, h1])
                by_cases h0 : V k = 0
                · have h0' : (V k == 0) = true := by simpa using h0
                  have e2 := hid_of (show nZero K V (k + 1) = nZero K V k + 1 by simp [nZero, h1, h0])
                  clear h1 h0
                  go_wp2
                  go_round
                  case rel => exact ⟨k + 1, by omega, by go_num, by rw [e1.out]; go_num, by rw [e2.out]; go_num⟩
                  case measure => simp [intOf]; omega
                · have h0' : (V k == 0) = false := by simpa using h0
                  have e2 := hid_of (show nZero K V (k + 1) = nZero K V k by simp [nZero, h0])
                  clear h1 h0
                  go_wp2
                  go_round
                  case rel => exact ⟨k + 1, by omega, by go_num, by rw [e1.out]; go_num, by rw [e2.out]⟩
                  case measure => simp [intOf]; omega
              · have h1' : (K k == 1) = false := by simpa using h1
                have e1 := hid_of (show nEst K (k + 1) = nEst K k by simp [nEst, h1])
                have e2 := hid_of (show nZero K V (k + 1) = nZero K V k by simp [nZero, h1])
                clear h1
                go_wp2
                go_round
                case rel => exact ⟨k + 1, by omega, by go_num, by rw [e1.out], by rw [e2.out]⟩
                case measure => simp [intOf]; omega
            · have hkl : len = k := by omega
              subst hkl
              go_wp2
              go_loop [16, 17, 18] (fun x y i => ∃ k : Nat, k ≤ len ∧ i = .int .i64 ((k : Int) - 1) ∧ x = .bool d0 ∧ y = .int .u8 v0 ∧ NoneFrom K k len) (fun _ _ i => (intOf i + 1).toNat)
              case atStart => exact ⟨len, Nat.le_refl _, rfl, rfl, rfl, fun j h h' => by omega⟩
              case round =>
                obtain ⟨k, hk, rfl, rfl, rfl, hnf⟩ := hrel
                have HN := hid_of hnf
                clear hnf
                by_cases h0 : k = 0
                · subst h0
                  obtain ⟨c0, c1, c2, c3⟩ := HC.out
                  have hd := run_dec ⟨e0, z0, d0, v0⟩ K V 0 len (Nat.zero_le _) HN.out
                  rw [hd.1] at c2
                  rw [hd.2] at c3
                  simp only [run] at c2 c3
                  clear hd
                  go_wp2
                  go_ret
                  exact ⟨rfl, HBl.out⟩
                · obtain ⟨m, rfl⟩ : ∃ m, k = m + 1 := ⟨k - 1, by omega⟩
                  rw [show (((m + 1 : Nat) : Int) - 1) = (m : Int) from by omega]
                  obtain ⟨m0, m1⟩ := HW.out m (by omega)
                  obtain rfl : a = some ⟨b, off, none⟩ := by rcases HA.out with h | h; exact h; omega
                  have hk2 : (m : Int) < (len : Int) := by omega
                  by_cases h2 : K m = 2
                  · have h2' : (K m == 2) = true := by simpa using h2
                    obtain ⟨c0, c1, c2, c3⟩ := HC.out
                    have hd := run_decided ⟨e0, z0, d0, v0⟩ K V m len (by omega) h2 HN.out
                    rw [hd.1] at c2
                    rw [hd.2] at c3
                    clear hd h2
                    go_wp2
                    go_ret
                    exact ⟨rfl, HBl.out⟩
                  · have h2' : (K m == 2) = false := by simpa using h2
                    have HM : Hid (NoneFrom K m len) := fun j hj hj' => by
                      by_cases e : j = m
                      · exact e ▸ h2
                      · exact HN.out j (by omega) hj'
                    clear h2
                    go_wp2
                    go_round
                    case rel => exact ⟨m, by omega, by go_num, rfl, rfl, HM.out⟩
                    case measure => simp [intOf]

end Go.Proofs.Qxb6628502a
