/-
  The two laws' own walks.
-/
import Derived.Test.Qxb6628467aFmtBytes
namespace Go.Proofs.Qxb6628467aFmt
open Go.RowKit Go.Extern.Stop Go.Stop Go.Extern

theorem sec_below {B : Nat} {w w' : World} {sb : Nat} {gs : List (Nat × Bool)} (h : SecAt B w sb gs) (hb : Below w.heap.size w w') : SecAt B w' sb gs := by
  have old : ∀ i c, w.heap[i]? = some c → w'.heap[i]? = some c := fun i c hi => (hb.block i (lt_of_block hi)).trans hi
  obtain ⟨k, n, l, p, v, h0, h1, hown, hgs⟩ := h
  refine ⟨k, n, l, p, v, old _ _ h0, h1, ⟨hown.1, ?_⟩, fun g hg => ⟨(hgs g hg).1, ?_⟩⟩
  · rcases hown.2 with h | ⟨g, cap, cur, h1, h2, h3, h4⟩
    · exact .inl h
    · exact .inr ⟨g, cap, cur, h1, h2, old _ _ h3, h4⟩
  · obtain ⟨_, key, val, p', n', h2⟩ := hgs g hg
    exact ⟨key, val, p', n', old _ _ h2⟩

theorem set_cells {w : World} {g : Nat} {r : Bool} (h : SetBlk w g r) : SetCells w g r := by
  obtain ⟨key, val, p', n', h2⟩ := h
  exact ⟨key, p', n', by simp [World.cell?, h2], by simp [World.cell?, h2], by simp [World.cell?, h2], by simp [World.cell?, h2]⟩

theorem add_zero_off (g i : Nat) : (⟨g, 0, none⟩ : Addr).add i = ⟨g, i, none⟩ := by unfold Addr.add; split <;> simp_all

theorem check_sec (F : Interp) (B sb : Nat) (gs : List (Nat × Bool)) (w : World) (hF : F.answers w.tape) (h : SecAt B w sb gs) :
    Calls Tryf.prog 8 #[.pointer (some ⟨sb, 0, none⟩)] w fun e w' => Told gs.length (fun k => (gs.getD k (0, true)).2) e ∧ Below w.heap.size w w' := by
  obtain ⟨k, n, l, p, v, h0, h1, hown, hgs⟩ := h
  rcases hown.2 with ⟨rfl, hl⟩ | ⟨g, cap, cur, rfl, h2, h3, h4, h5, h6, h7⟩
  · rw [hl]
    exact check_nil _ sb w (by simp [World.cell?, h0])
  · refine check_row F sb g cap gs.length (fun k => (gs.getD k (0, true)).1) _ w hF (by simp [World.cell?, h0]) (by unfold maxLen at h5; omega) (fun i hi => ?_) (fun i hi => ?_)
    · have := hown.cells (g := g) rfl i (.pointer (some ⟨(gs.getD i (0, true)).1, 0, none⟩)) (by simp [hi])
      rwa [add_zero_off] at this
    · have hm : gs.getD i (0, true) ∈ gs := by simp [hi]
      exact set_cells (hgs _ hm).2

theorem all_getD {gs : List (Nat × Bool)} : (∀ k, k < gs.length → (gs.getD k (0, true)).2 = true) ↔ ∀ g ∈ gs, g.2 = true := by
  constructor
  · intro h g hg
    obtain ⟨i, hi, rfl⟩ := List.mem_iff_getElem.1 hg
    have := h i hi
    simpa [hi] using this
  · intro h k hk
    exact h _ (by simp [hk])

theorem check_yes (F : Interp) (B sb : Nat) (gs : List (Nat × Bool)) (w : World) (hF : F.answers w.tape) (h : SecAt B w sb gs) (ha : ∀ g ∈ gs, g.2 = true) :
    Calls Tryf.prog 8 #[.pointer (some ⟨sb, 0, none⟩)] w fun e w' => e = .returned .nilIface ∧ Below w.heap.size w w' := by
  refine (check_sec F B sb gs w hF h).mono fun e w' ⟨he, hb⟩ => ⟨?_, hb⟩
  rcases he with ⟨_, rfl⟩ | ⟨⟨k, hk, hr⟩, _⟩
  · rfl
  · exact absurd ((all_getD.2 ha k hk).symm.trans hr) (by decide)

theorem check_no (F : Interp) (B sb : Nat) (gs : List (Nat × Bool)) (w : World) (hF : F.answers w.tape) (h : SecAt B w sb gs) (ha : ¬ ∀ g ∈ gs, g.2 = true) :
    Calls Tryf.prog 8 #[.pointer (some ⟨sb, 0, none⟩)] w fun e w' => (∃ q, e = .returned (.iface 46 (.pointer (some ⟨q, 0, none⟩)))) ∧ Below w.heap.size w w' := by
  refine (check_sec F B sb gs w hF h).mono fun e w' ⟨he, hb⟩ => ⟨?_, hb⟩
  rcases he with ⟨hall, _⟩ | ⟨_, q, rfl⟩
  · exact absurd (all_getD.1 hall) ha
  · exact ⟨q, rfl⟩

/-- The first law returns true. -/
def RetTrue (e : Ending) : Prop := e = .returned (.bool true)

theorem all_base {len : Nat} {R : Nat → Bool} {at' : Int} {r : Bool} {gs : List (Nat × Bool)} (h : Built len R at' r false (len + 1) gs) : (∀ g ∈ gs, g.2 = true) ↔ ∀ j, j < len → R j = true :=
  h.2.trans ⟨fun H j hj => H.1 j (by omega) hj, fun H => ⟨fun j _ hj => H j hj, fun e => by cases e⟩⟩
theorem all_read {len : Nat} {R : Nat → Bool} {at' : Int} {gs : List (Nat × Bool)} (h : Built len R at' true true (len + 1) gs) : (∀ g ∈ gs, g.2 = true) ↔ ∀ j, j < len → R j = true :=
  h.2.trans ⟨fun H j hj => H.1 j (by omega) hj, fun H => ⟨fun j _ hj => H j hj, fun _ _ _ => rfl⟩⟩
theorem none_unread {len : Nat} {R : Nat → Bool} {at' : Int} {gs : List (Nat × Bool)} (h : Built len R at' false true (len + 1) gs) (h0 : 0 ≤ at') (h1 : at' ≤ len) : ¬ ∀ g ∈ gs, g.2 = true :=
  fun H => by have := (h.2.1 H).2 rfl h0 (by omega); cases this

theorem bthen {w b c : World} (h : Below w.heap.size w b) (h' : Below b.heap.size b c) : Below w.heap.size w c := h.trans (h'.mono h.size)
theorem balloc2 {w b : World} (h : Below w.heap.size w b) (o1 o2 : Obj) : Below w.heap.size w ((b.alloc o1).alloc o2) :=
  (h.alloc h.size _).alloc (by have := h.size; simp; omega) _
theorem cell_new (w : World) (cs : Array Value) (t i : Nat) : (w.alloc (.cells cs t)).cell? ⟨w.heap.size, i, none⟩ = cs[i]? := by
  simp only [World.cell?, heap_alloc_new]
  rfl
theorem boxU {w2 w3 : World} {cs0 cs1 : Array Value} (hb3 : Below ((w2.alloc (.cells cs0 26)).alloc (.cells cs1 26)).heap.size ((w2.alloc (.cells cs0 26)).alloc (.cells cs1 26)) w3) (i : Nat) :
    w3.cell? ⟨w2.heap.size, i, none⟩ = cs0[i]? := by
  rw [hb3.cell (p := ⟨w2.heap.size, i, none⟩) (by simp; omega), World.cell?_alloc_lt _ _ _ (by simp), cell_new]
theorem boxR {w2 w3 w4 : World} {cs0 cs1 : Array Value} (hb3 : Below ((w2.alloc (.cells cs0 26)).alloc (.cells cs1 26)).heap.size ((w2.alloc (.cells cs0 26)).alloc (.cells cs1 26)) w3)
    (hb4 : Below w3.heap.size w3 w4) (i : Nat) : w4.cell? ⟨w2.heap.size + 1, i, none⟩ = cs1[i]? := by
  have hz := hb3.size
  simp at hz
  have e : (w2.alloc (.cells cs0 26)).heap.size = w2.heap.size + 1 := by simp
  rw [hb4.cell (p := ⟨w2.heap.size + 1, i, none⟩) (by simp; omega), hb3.cell (p := ⟨w2.heap.size + 1, i, none⟩) (by simp), ← e, cell_new]

theorem els_on {w w' : World} {b off len : Nat} {R : Nat → Bool} (hs : ∀ i, i < len → ElAt w b off i (R i)) (hb : Below w.heap.size w w') : ∀ i, i < len → ElAt w' b off i (R i) :=
  fun i hi => (hs i hi).below hb (hs i hi).lt

set_option maxHeartbeats 2000000 in
theorem law3_any (F : Interp) (kd nm : ByteArray) (l : Int) (a : Option Addr) (b off len cap : Nat) (R : Nat → Bool) (c : Int) (k1 k2 : ByteArray) (kl : Int) (w : World) (hF : F.answers w.tape) (hlen : len * 48 ≤ 140737488351232)
    (ha : a = some ⟨b, off, none⟩ ∨ len = 0) (hs : ∀ i, i < len → ElAt w b off i (R i)) :
    Calls Tryf.prog 3 #[.string kd, .string nm, .int .i64 l, .slice a len cap, .int .i64 c, .string k1, .string k2, .int .i64 kl] w fun e w' => RetTrue e ∧ Below w.heap.size w w' := by
  have HF : Hid (F.answers w.tape) := hF
  have HS := hid_of hs
  have HA := hid_of ha
  clear hs ha hF
  go_enter Tryf.func3, Tryf.ntmps3
  go_wp2_with fail
  refine (bytes5_any kd nm l a b off len cap R c k1 k2 kl _ hlen HA.out HS.out).mono ?_
  rintro e w1 ⟨⟨t1, rfl⟩, hb1⟩
  cases t1 with
  | false =>
    go_wp2
    go_ret
    exact ⟨rfl, hb1⟩
  | true =>
    go_wp2_with fail
    refine (bytesOK_any kd nm a b off len cap R _ hlen HA.out (fun i hi => (HS.out i hi).below hb1 (HS.out i hi).lt)).mono ?_
    rintro e w2 ⟨⟨t2, rfl⟩, hb2'⟩
    have hb2 : Below w.heap.size w w2 := hb1.trans (hb2'.mono hb1.size)
    clear hb2' hb1
    cases t2 with
    | false =>
      go_wp2
      go_ret
      exact ⟨rfl, hb2⟩
    | true =>
      by_cases x1 : (65536 : Int) < k1.size
      · go_wp2
        go_ret
        exact ⟨rfl, hb2⟩
      by_cases x2 : (65536 : Int) < k2.size
      · go_wp2
        go_ret
        exact ⟨rfl, hb2⟩
      by_cases x3 : c < 0
      · go_wp2
        go_ret
        exact ⟨rfl, hb2⟩
      by_cases x4 : (len : Int) < c
      · go_wp2
        go_ret
        exact ⟨rfl, hb2⟩
      go_wp2_with fail
      refine (build_any kd nm l a b off len cap R 0 k1 k2 kl false false _ hlen HA.out (els_on HS.out (balloc2 hb2 _ _))).mono ?_
      rintro e w3 ⟨sb0, gs0, rfl, hs0, hB0, hb3⟩
      have hb3' := bthen (balloc2 hb2 (.cells #[.string k1, .string k2, .int .i64 kl, .bool false] 26) (.cells #[.string k1, .string k2, .int .i64 kl, .bool true] 26)) hb3
      have p0 := boxU hb3 0
      have p1 := boxU hb3 1
      have p2 := boxU hb3 2
      have p3 := boxU hb3 3
      simp at p0 p1 p2 p3
      have HB0 := hid_of hB0
      have HS0 := hid_of hs0
      clear hB0 hs0
      go_wp2_with fail
      refine (build_any kd nm l a b off len cap R c k1 k2 kl false true _ hlen HA.out (els_on HS.out hb3')).mono ?_
      rintro e w4 ⟨sb1, gs1, rfl, hs1, hB1, hb4⟩
      have hb4' := bthen hb3' hb4
      have q0 := boxR hb3 hb4 0
      have q1 := boxR hb3 hb4 1
      have q2 := boxR hb3 hb4 2
      have q3 := boxR hb3 hb4 3
      simp at q0 q1 q2 q3
      have HB1 := hid_of hB1
      have HS1 := hid_of hs1
      clear hB1 hs1 p0 p1 p2 p3
      go_wp2_with fail
      refine (build_any kd nm l a b off len cap R c k1 k2 kl true true _ hlen HA.out (els_on HS.out hb4')).mono ?_
      rintro e w5 ⟨sb2, gs2, rfl, hs2, hB2, hb5⟩
      have hb5' := bthen hb4' hb5
      clear q0 q1 q2 q3
      have hz0 := sec_below (sec_below HS0.out hb4) hb5
      have hz1 := sec_below HS1.out hb5
      have HZ : Hid (SecAt _ w5 sb0 gs0 ∧ SecAt _ w5 sb1 gs1 ∧ SecAt _ w5 sb2 gs2) := ⟨hz0, hz1, hs2⟩
      have HN := hid_of (none_unread HB1.out (by omega) (by omega))
      have hF5 : F.answers w5.tape := by rw [hb5'.tape]; exact HF.out
      have HF5 := hid_of hF5
      clear hz0 hz1 hs2 HS0 HS1 HB1 hF5 hb3 hb4 hb5 hb3' hb4'
      by_cases hall : ∀ j, j < len → R j = true
      · have HY0 := hid_of ((all_base HB0.out).2 hall)
        have HY2 := hid_of ((all_read hB2).2 hall)
        clear hall hB2 HB0
        go_wp2_with fail
        refine (check_yes F _ sb0 gs0 _ HF5.out HZ.out.1 HY0.out).mono ?_
        rintro e w6 ⟨rfl, hb6⟩
        go_wp2_with fail
        refine (check_no F _ sb1 gs1 _ (by rw [hb6.tape]; exact HF5.out) (sec_below HZ.out.2.1 hb6) HN.out).mono ?_
        rintro e w7 ⟨⟨q, rfl⟩, hb7⟩
        go_wp2_with fail
        refine (check_yes F _ sb2 gs2 _ (by rw [hb7.tape, hb6.tape]; exact HF5.out) (sec_below (sec_below HZ.out.2.2 hb6) hb7) HY2.out).mono ?_
        rintro e w8 ⟨rfl, hb8⟩
        go_wp2
        go_region_held3 (fun _ => True) (trivial) (fail)
        go_wp2
        go_ret
        exact ⟨rfl, (bthen (bthen (bthen hb5' hb6) hb7) hb8).drew⟩
      · have HY0 := hid_of (fun h => hall ((all_base HB0.out).1 h))
        have HY2 := hid_of (fun h => hall ((all_read hB2).1 h))
        clear hall hB2 HB0
        go_wp2_with fail
        refine (check_no F _ sb0 gs0 _ HF5.out HZ.out.1 HY0.out).mono ?_
        rintro e w6 ⟨⟨q0, rfl⟩, hb6⟩
        go_wp2_with fail
        refine (check_no F _ sb1 gs1 _ (by rw [hb6.tape]; exact HF5.out) (sec_below HZ.out.2.1 hb6) HN.out).mono ?_
        rintro e w7 ⟨⟨q1, rfl⟩, hb7⟩
        go_wp2_with fail
        refine (check_no F _ sb2 gs2 _ (by rw [hb7.tape, hb6.tape]; exact HF5.out) (sec_below (sec_below HZ.out.2.2 hb6) hb7) HY2.out).mono ?_
        rintro e w8 ⟨⟨q2, rfl⟩, hb8⟩
        go_wp2
        go_region_held3 (fun _ => True) (trivial) (fail)
        go_wp2
        go_ret
        exact ⟨rfl, (bthen (bthen (bthen hb5' hb6) hb7) hb8).drew⟩

end Go.Proofs.Qxb6628467aFmt
