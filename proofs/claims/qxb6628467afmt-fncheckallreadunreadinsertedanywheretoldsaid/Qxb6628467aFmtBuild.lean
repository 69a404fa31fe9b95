/-
  zzBuild by its contract.
-/
import Derived.Test.Qxb6628467aFmtSec
namespace Go.Proofs.Qxb6628467aFmt
open Go.RowKit

theorem hid_of {p : Prop} (h : p) : Hid p := h

/-- Element i of the slice that came in: its four cells; its flag is r. -/
def ElAt (w : World) (b off i : Nat) (r : Bool) : Prop :=
  ∃ key val n, key.size ≤ maxLen ∧ val.size ≤ maxLen ∧
    w.cell? ⟨b, off + i * 4, none⟩ = some (.string key) ∧ w.cell? ⟨b, off + i * 4 + 1, none⟩ = some (.string val) ∧
    w.cell? ⟨b, off + i * 4 + 2, none⟩ = some (.int .i64 n) ∧ w.cell? ⟨b, off + i * 4 + 3, none⟩ = some (.bool r)

theorem ElAt.below {B : Nat} {w w' : World} {b off i : Nat} {r : Bool} (h : ElAt w b off i r) (hb : Below B w w') (hB : b < B) : ElAt w' b off i r := by
  obtain ⟨key, val, n, h1, h2, h3, h4, h5, h6⟩ := h
  exact ⟨key, val, n, h1, h2, (hb.cell (p := ⟨b, _, none⟩) hB).trans h3, (hb.cell (p := ⟨b, _, none⟩) hB).trans h4, (hb.cell (p := ⟨b, _, none⟩) hB).trans h5, (hb.cell (p := ⟨b, _, none⟩) hB).trans h6⟩

theorem ElAt.lt {w : World} {b off i : Nat} {r : Bool} (h : ElAt w b off i r) : b < w.heap.size := by
  obtain ⟨key, val, n, h1, h2, h3, h4, h5, h6⟩ := h
  exact World.block_lt_of_cell? w _ h3

/-- Are all of the first k flags set (of the slice's own, and of the one that is put in at place 'at')? -/
def AllTo (len : Nat) (R : Nat → Bool) (at' : Int) (r ins : Bool) (k : Nat) : Prop :=
  (∀ j, j < k → j < len → R j = true) ∧ (ins = true → 0 ≤ at' → at' < k → r = true)

/-- What the loop knows after k rounds. -/
def Built (len : Nat) (R : Nat → Bool) (at' : Int) (r ins : Bool) (k : Nat) (gs : List (Nat × Bool)) : Prop :=
  gs.length ≤ 2 * k ∧ ((∀ g ∈ gs, g.2 = true) ↔ AllTo len R at' r ins k)

theorem built_zero (len : Nat) (R : Nat → Bool) (at' : Int) (r ins : Bool) : Built len R at' r ins 0 [] :=
  ⟨Nat.le_refl _, ⟨fun _ => ⟨fun j h => by omega, fun _ h h' => by omega⟩, fun _ g h => by cases h⟩⟩

theorem built_step {len : Nat} {R : Nat → Bool} {at' : Int} {r ins : Bool} {k : Nat} {gs : List (Nat × Bool)} (h : Built len R at' r ins k gs) (L : List (Nat × Bool)) (hL : L.length ≤ 2)
    (hi : (∀ g ∈ L, g.2 = true) ↔ ((k < len → R k = true) ∧ (ins = true → at' = k → r = true))) : Built len R at' r ins (k + 1) (gs ++ L) := by
  obtain ⟨h1, h2⟩ := h
  refine ⟨by simp; omega, ?_⟩
  constructor
  · intro H
    have A := h2.1 fun g hg => H g (List.mem_append_left _ hg)
    have B := hi.1 fun g hg => H g (List.mem_append_right _ hg)
    refine ⟨fun j hj hl => ?_, fun hn h0 hk => ?_⟩
    · rcases Nat.lt_succ_iff_lt_or_eq.1 hj with e | rfl
      · exact A.1 j e hl
      · exact B.1 hl
    · by_cases e : at' = k
      · exact B.2 hn e
      · exact A.2 hn h0 (by omega)
  · intro H g hg
    rcases List.mem_append.1 hg with hg | hg
    · exact h2.2 ⟨fun j hj hl => H.1 j (by omega) hl, fun hn h0 hk => H.2 hn h0 (by omega)⟩ g hg
    · exact hi.2 ⟨fun hl => H.1 k (by omega) hl, fun hn e => H.2 hn (by omega) (by omega)⟩ g hg

theorem one_iff {g : Nat} {r : Bool} : (∀ x ∈ [(g, r)], x.2 = true) ↔ r = true := by simp
theorem step_both {len : Nat} {R : Nat → Bool} {r : Bool} {k : Nat} {gs : List (Nat × Bool)} (h : Built len R (k : Int) r true k gs) (g1 g2 : Nat) (hlt : k < len) : Built len R (k : Int) r true (k + 1) (gs ++ [(g1, r)] ++ [(g2, R k)]) := by
  have := built_step h [(g1, r), (g2, R k)] (by simp) (by simp [hlt]; exact And.comm)
  simpa using this
theorem step_own {len : Nat} {R : Nat → Bool} {at' : Int} {r ins : Bool} {k : Nat} {gs : List (Nat × Bool)} (h : Built len R at' r ins k gs) (g2 : Nat) (hlt : k < len) (hn : ¬ (ins = true ∧ at' = k)) : Built len R at' r ins (k + 1) (gs ++ [(g2, R k)]) :=
  built_step h [(g2, R k)] (by simp) (one_iff.trans ⟨fun e => ⟨fun _ => e, fun a b => absurd ⟨a, b⟩ hn⟩, fun e => e.1 hlt⟩)
theorem step_ins {len : Nat} {R : Nat → Bool} {r : Bool} {k : Nat} {gs : List (Nat × Bool)} (h : Built len R (k : Int) r true k gs) (g1 : Nat) (hlt : ¬ k < len) : Built len R (k : Int) r true (k + 1) (gs ++ [(g1, r)]) :=
  built_step h [(g1, r)] (by simp) (one_iff.trans ⟨fun e => ⟨fun a => absurd a hlt, fun _ _ => e⟩, fun e => e.2 rfl rfl⟩)
theorem step_none {len : Nat} {R : Nat → Bool} {at' : Int} {r ins : Bool} {k : Nat} {gs : List (Nat × Bool)} (h : Built len R at' r ins k gs) (hlt : ¬ k < len) (hn : ¬ (ins = true ∧ at' = k)) : Built len R at' r ins (k + 1) gs := by
  have := built_step h [] (by simp) ⟨fun _ => ⟨fun a => absurd a hlt, fun a b => absurd ⟨a, b⟩ hn⟩, fun _ g hg => by cases hg⟩
  simpa using this

theorem four_below {B : Nat} {w w' : World} {b o0 o1 o2 o3 : Nat} {v0 v1 v2 v3 : Option Value} (hb : Below B w w') (hB : b < B)
    (h : w.cell? ⟨b, o0, none⟩ = v0 ∧ w.cell? ⟨b, o1, none⟩ = v1 ∧ w.cell? ⟨b, o2, none⟩ = v2 ∧ w.cell? ⟨b, o3, none⟩ = v3) :
    w'.cell? ⟨b, o0, none⟩ = v0 ∧ w'.cell? ⟨b, o1, none⟩ = v1 ∧ w'.cell? ⟨b, o2, none⟩ = v2 ∧ w'.cell? ⟨b, o3, none⟩ = v3 :=
  ⟨(hb.cell (p := ⟨b, o0, none⟩) hB).trans h.1, (hb.cell (p := ⟨b, o1, none⟩) hB).trans h.2.1, (hb.cell (p := ⟨b, o2, none⟩) hB).trans h.2.2.1, (hb.cell (p := ⟨b, o3, none⟩) hB).trans h.2.2.2⟩

theorem sec_mono {B B' : Nat} {w : World} {sb : Nat} {gs : List (Nat × Bool)} (h : SecAt B w sb gs) (hB : B' ≤ B) : SecAt B' w sb gs := by
  obtain ⟨k, n, l, p, v, hb, h1, hown, hgs⟩ := h
  refine ⟨k, n, l, p, v, hb, by omega, ⟨hown.1, ?_⟩, fun g hg => ⟨Nat.le_trans hB (hgs g hg).1, (hgs g hg).2⟩⟩
  rcases hown.2 with h | ⟨g, cap, cur, h1, h2, h3⟩
  · exact .inl h
  · exact .inr ⟨g, cap, cur, h1, by omega, h3⟩

set_option maxHeartbeats 1000000 in
theorem build_any (kd nm : ByteArray) (l : Int) (a : Option Addr) (b off len cap : Nat) (R : Nat → Bool) (at' : Int) (ik iv : ByteArray) (il : Int) (ir ins : Bool) (w : World) (hlen : len * 48 ≤ 140737488351232)
    (ha : a = some ⟨b, off, none⟩ ∨ len = 0) (hs : ∀ i, i < len → ElAt w b off i (R i)) :
    Calls Tryf.prog 7 #[.string kd, .string nm, .int .i64 l, .slice a len cap, .int .i64 at', .agg #[.string ik, .string iv, .int .i64 il, .bool ir], .bool ins] w fun e w' =>
      ∃ sb gs, e = .returned (.pointer (some ⟨sb, 0, none⟩)) ∧ SecAt w.heap.size w' sb gs ∧ Built len R at' ir ins (len + 1) gs ∧ Below w.heap.size w w' := by
  have HS := hid_of hs
  have HA := hid_of ha
  clear hs ha
  go_enter Tryf.func7, Tryf.ntmps7
  go_wp2_with (first | (go_at_call 10; refine (newSec_any _ _ _ _).mono ?_; rintro e w' ⟨rfl, rfl⟩))
  go_loopw [16] (fun i wr => ∃ (k : Nat) (gs : List (Nat × Bool)), k ≤ len + 1 ∧ i = .int .i64 k ∧ SecAt (w.heap.size + 1) wr (w.heap.size + 1) gs ∧ Built len R at' ir ins k gs ∧
      Below (w.heap.size + 1) (w.alloc (.cells #[.string ik, .string iv, .int .i64 il, .bool ir] 26)) wr)
    (fun i _ => len + 1 - (intOf i).toNat)
  case atStart =>
    refine ⟨0, [], Nat.zero_le _, rfl, ?_, built_zero _ _ _ _ _, (Below.refl _ _).alloc (by simp) _⟩
    have := newSec_at kd nm l (w.alloc (.cells #[.string ik, .string iv, .int .i64 il, .bool ir] 26)) (w.heap.size + 1) (by simp)
    simpa using this
  case round =>
    obtain ⟨k, gs, hk, rfl, hsec, hbl, hbel⟩ := hrel
    have HB := hid_of hbl
    have hgl : gs.length ≤ 2 * k := hbl.1
    clear hbl
    by_cases hex : k = len + 1
    · subst hex
      go_wp2
      go_ret
      exact ⟨_, gs, rfl, sec_mono hsec (by omega), HB.out, ((Below.refl _ _).alloc (Nat.le_refl _) _).trans (hbel.mono (by omega))⟩
    · by_cases hlt : k < len
      · have hel := HS.out k hlt
        obtain rfl : a = some ⟨b, off, none⟩ := by rcases HA.out with h | h; exact h; omega
        by_cases hin : ins = true ∧ at' = k
        · obtain ⟨rfl, rfl⟩ := hin
          have hc0 : wr.cell? ⟨w.heap.size, 0, none⟩ = some (.string ik) := (hbel.cell (p := ⟨w.heap.size, 0, none⟩) (by simp)).trans (by simp)
          have hc1 : wr.cell? ⟨w.heap.size, 1, none⟩ = some (.string iv) := (hbel.cell (p := ⟨w.heap.size, 1, none⟩) (by simp)).trans (by simp)
          have hc2 : wr.cell? ⟨w.heap.size, 2, none⟩ = some (.int .i64 il) := (hbel.cell (p := ⟨w.heap.size, 2, none⟩) (by simp)).trans (by simp)
          have hc3 : wr.cell? ⟨w.heap.size, 3, none⟩ = some (.bool ir) := (hbel.cell (p := ⟨w.heap.size, 3, none⟩) (by simp)).trans (by simp)
          go_wp2_with (first | (go_at_call 11; refine (addSet_any (w.heap.size + 1) (w.heap.size + 1) gs ik iv il ir _ (by exact hsec) (by omega)).mono ?_; rintro e w1 ⟨rfl, ⟨g1, hsec1⟩, hbel1⟩))
          obtain ⟨key, val, n, _, _, e0, e1, e2, e3⟩ := (hel.below ((Below.refl _ _).alloc (Nat.le_refl _) _) hel.lt).below (hbel.trans hbel1) (by have := hel.lt; omega)
          have hbB : b < w.heap.size + 1 := by have := hel.lt; omega
          have hk1 : (0 : Int) ≤ (k : Int) := by omega
          have hk2 : (k : Int) < (len : Int) := by omega
          clear hel hc0 hc1 hc2 hc3 hsec
          go_region_held3 (fun w' => w'.cell? ⟨b, off + k * 4, none⟩ = some (.string key) ∧ w'.cell? ⟨b, off + k * 4 + 1, none⟩ = some (.string val) ∧ w'.cell? ⟨b, off + k * 4 + 2, none⟩ = some (.int .i64 n) ∧ w'.cell? ⟨b, off + k * 4 + 3, none⟩ = some (.bool (R k)))
            (first | go_keep | exact four_below hbel2 hbB ⟨e0, e1, e2, e3⟩)
            (first | (go_at_call 11; refine (addSet_any (w.heap.size + 1) (w.heap.size + 1) (gs ++ [(g1, ir)]) key val n (R k) _ (by exact hsec1) (by simp; omega)).mono ?_; rintro e w2 ⟨rfl, ⟨g2, hsec2⟩, hbel2⟩))
          go_wp2
          go_roundw
          case rel => exact ⟨k + 1, _, by omega, by go_num, hsec2, step_both HB.out g1 g2 hlt, (hbel.trans hbel1).drew.trans hbel2⟩
          case measure => simp [intOf]; omega
        · obtain ⟨key, val, n, _, _, e0, e1, e2, e3⟩ := (hel.below ((Below.refl _ _).alloc (Nat.le_refl _) _) hel.lt).below hbel (by have := hel.lt; omega)
          have hbB : b < w.heap.size + 1 := by have := hel.lt; omega
          have hk1 : (0 : Int) ≤ (k : Int) := by omega
          have hk2 : (k : Int) < (len : Int) := by omega
          have HN := hid_of hin
          clear hel hin
          cases ins with
          | true =>
            have hne : ((k : Int) == at') = false := by have := HN.out; simp at this ⊢; omega
            go_wp2_with fail
            go_region_held3 (fun w' => w'.cell? ⟨b, off + k * 4, none⟩ = some (.string key) ∧ w'.cell? ⟨b, off + k * 4 + 1, none⟩ = some (.string val) ∧ w'.cell? ⟨b, off + k * 4 + 2, none⟩ = some (.int .i64 n) ∧ w'.cell? ⟨b, off + k * 4 + 3, none⟩ = some (.bool (R k)))
              (first | go_keep | exact four_below hbel2 hbB ⟨e0, e1, e2, e3⟩)
              (first | (go_at_call 11; refine (addSet_any (w.heap.size + 1) (w.heap.size + 1) gs key val n (R k) _ (by exact hsec) (by omega)).mono ?_; rintro e w2 ⟨rfl, ⟨g2, hsec2⟩, hbel2⟩))
            go_wp2
            go_roundw
            case rel => exact ⟨k + 1, _, by omega, by go_num, hsec2, step_own HB.out g2 hlt (by simpa using HN.out), hbel.drew.trans hbel2⟩
            case measure => simp [intOf]; omega
          | false =>
            go_wp2_with fail
            go_region_held3 (fun w' => w'.cell? ⟨b, off + k * 4, none⟩ = some (.string key) ∧ w'.cell? ⟨b, off + k * 4 + 1, none⟩ = some (.string val) ∧ w'.cell? ⟨b, off + k * 4 + 2, none⟩ = some (.int .i64 n) ∧ w'.cell? ⟨b, off + k * 4 + 3, none⟩ = some (.bool (R k)))
              (first | go_keep | exact four_below hbel2 hbB ⟨e0, e1, e2, e3⟩)
              (first | (go_at_call 11; refine (addSet_any (w.heap.size + 1) (w.heap.size + 1) gs key val n (R k) _ (by exact hsec) (by omega)).mono ?_; rintro e w2 ⟨rfl, ⟨g2, hsec2⟩, hbel2⟩))
            go_wp2
            go_roundw
            case rel => exact ⟨k + 1, _, by omega, by go_num, hsec2, step_own HB.out g2 hlt (by simp), hbel.drew.trans hbel2⟩
            case measure => simp [intOf]; omega
      · by_cases hin : ins = true ∧ at' = k
        · obtain ⟨rfl, rfl⟩ := hin
          have hc0 : wr.cell? ⟨w.heap.size, 0, none⟩ = some (.string ik) := (hbel.cell (p := ⟨w.heap.size, 0, none⟩) (by simp)).trans (by simp)
          have hc1 : wr.cell? ⟨w.heap.size, 1, none⟩ = some (.string iv) := (hbel.cell (p := ⟨w.heap.size, 1, none⟩) (by simp)).trans (by simp)
          have hc2 : wr.cell? ⟨w.heap.size, 2, none⟩ = some (.int .i64 il) := (hbel.cell (p := ⟨w.heap.size, 2, none⟩) (by simp)).trans (by simp)
          have hc3 : wr.cell? ⟨w.heap.size, 3, none⟩ = some (.bool ir) := (hbel.cell (p := ⟨w.heap.size, 3, none⟩) (by simp)).trans (by simp)
          go_wp2_with (first | (go_at_call 11; refine (addSet_any (w.heap.size + 1) (w.heap.size + 1) gs ik iv il ir _ (by exact hsec) (by omega)).mono ?_; rintro e w1 ⟨rfl, ⟨g1, hsec1⟩, hbel1⟩))
          go_roundw
          case rel => exact ⟨k + 1, _, by omega, by go_num, hsec1, step_ins HB.out g1 hlt, hbel.trans hbel1⟩
          case measure => simp [intOf]; omega
        · have HN := hid_of hin
          clear hin
          cases ins with
          | true =>
            have hne : ((k : Int) == at') = false := by have := HN.out; simp at this ⊢; omega
            go_wp2
            go_roundw
            case rel => exact ⟨k + 1, _, by omega, by go_num, hsec, step_none HB.out hlt (by simpa using HN.out), hbel⟩
            case measure => simp [intOf]; omega
          | false =>
            go_wp2
            go_roundw
            case rel => exact ⟨k + 1, _, by omega, by go_num, hsec, step_none HB.out hlt (by simp), hbel⟩
            case measure => simp [intOf]; omega

end Go.Proofs.Qxb6628467aFmt
