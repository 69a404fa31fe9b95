/-
  (*Coordinator).Acknowledged by its contracts.
-/
import Derived.Test.Qxb6629019aEnd
namespace Go.Proofs.Qxb6629019a
open Go.RowKit Go.ChangeMaps

/-- The list without p. -/
def dropP (p : ByteArray) (l : List ByteArray) : List ByteArray := l.filter fun x => !(x == p)

theorem dropP_yes {p : ByteArray} {L : List ByteArray} {k : Nat} (hk : k < L.length) (h : (L[k] == p) = true) : dropP p (L.take (k + 1)) = dropP p (L.take k) := by
  unfold dropP
  rw [List.take_succ_eq_append_getElem hk, List.filter_append]
  simp [h]
theorem dropP_no {p : ByteArray} {L : List ByteArray} {k : Nat} (hk : k < L.length) (h : (L[k] == p) = false) : dropP p (L.take (k + 1)) = dropP p (L.take k) ++ [L[k]] := by
  unfold dropP
  rw [List.take_succ_eq_append_getElem hk, List.filter_append]
  simp [h]
theorem dropP_le (p : ByteArray) (L : List ByteArray) : (dropP p L).length ≤ L.length := List.length_filter_le _ _

theorem strs_snoc (l : List ByteArray) (s : ByteArray) : strs (l ++ [s]) = strs l ++ [.string s] := by simp [strs]

theorem add_zero_off (g i : Nat) : (⟨g, 0, none⟩ : Addr).add i = ⟨g, i, none⟩ := by unfold Addr.add; split <;> simp_all

/-- A slice (at the address A, in block r) holds the strings l. -/
def RowAt (w : World) (A : Option Addr) (r : Nat) (l : List ByteArray) : Prop :=
  (A = some ⟨r, 0, none⟩ ∨ l.length = 0) ∧ ∀ j (hj : j < l.length), w.cell? ⟨r, j, none⟩ = some (.string l[j])

theorem RowAt.below {B : Nat} {w w' : World} {A : Option Addr} {r : Nat} {l : List ByteArray} (h : RowAt w A r l) (hb : Below B w w') (hB : w.heap.size ≤ B) : RowAt w' A r l :=
  ⟨h.1, fun j hj => (hb.cell (p := ⟨r, j, none⟩) (Nat.lt_of_lt_of_le (World.block_lt_of_cell? w _ (h.2 j hj)) hB)).trans (h.2 j hj)⟩

theorem row_of_own {w : World} {B : Nat} {v : Value} {l : List ByteArray} (h : w.ownsRow B 9 1 v l.length (strs l)) : ∃ A r c, v = .slice A l.length c ∧ RowAt w A r l := by
  rcases h.2 with ⟨rfl, h0⟩ | ⟨g, cap, cur, rfl, h2⟩
  · exact ⟨none, 0, 0, by rw [h0], .inr h0, fun j hj => by omega⟩
  · refine ⟨_, g, cap, rfl, .inl rfl, fun j hj => ?_⟩
    have := h.cells (g := g) rfl j (.string l[j]) (by simp [strs, hj])
    rwa [add_zero_off] at this

theorem own_mono {w : World} {B B' e n : Nat} {v : Value} {xs : List Value} (h : w.ownsRow B e 1 v n xs) (hB : B' ≤ B) : w.ownsRow B' e 1 v n xs := by
  refine ⟨h.1, ?_⟩
  rcases h.2 with h | ⟨g, cap, cur, h1, h2, h3⟩
  · exact .inl h
  · exact .inr ⟨g, cap, cur, h1, by omega, h3⟩

theorem Try.info9 : (Try.prog.info? 9).map (fun i => (i.zero, i.size, i.bytes)) = some (some (.string ⟨#[]⟩), 1, 16) := by kernel_rfl

/-- 'aborted', as a test on a string's bytes. -/
def abB (s : ByteArray) : Bool := s.toList == [97, 98, 111, 114, 116, 101, 100]

/-- How an acknowledgement ends. -/
def Acked (B cb : Nat) (held outcome token p : ByteArray) (L : List ByteArray) (e : Ending) (w' : World) : Prop :=
  (dropP p L ≠ [] ∧ e = .returned (.pointer none) ∧ St B w' cb held outcome token (dropP p L)) ∨
  (dropP p L = [] ∧ abB outcome = true ∧ e = .returned (.pointer none) ∧ Gone B w' cb) ∨
  (dropP p L = [] ∧ abB outcome = false ∧ ∃ rb, e = .returned (.pointer (some ⟨rb, 0, none⟩)) ∧ EndRec w' rb held ∧ St B w' cb held outcome token L)

theorem ack_other (B cb : Nat) (held outcome token t p : ByteArray) (L : List ByteArray) (w : World) (h : St B w cb held outcome token L) (hne : t ≠ held) :
    Calls Try.prog 7 #[.pointer (some ⟨cb, 0, none⟩), .string t, .string p] w fun e w' => e = .returned (.pointer none) ∧ w' = w := by
  obtain ⟨mb, ub, v, h1, h2, h3, hc, ⟨n, c, he⟩, hu, hown⟩ := h
  have hcell := coord_cell hc
  have hl := run_look_one (s' := t) he
  rw [beq_ne hne] at hl
  simp only [Bool.false_eq_true, if_false] at hl
  clear hc he hu hown
  go_enter Try.func7, Try.ntmps7
  go_wp2
  go_ret
  exact ⟨rfl, rfl⟩

theorem ack_gone (B cb : Nat) (t p : ByteArray) (w : World) (h : Gone B w cb) :
    Calls Try.prog 7 #[.pointer (some ⟨cb, 0, none⟩), .string t, .string p] w fun e w' => e = .returned (.pointer none) ∧ w' = w := by
  obtain ⟨mb, h1, h2, hc, ⟨c, he⟩⟩ := h
  have hcell := coord_cell hc
  have hl := run_look_none (s' := t) he
  clear hc he
  go_enter Try.func7, Try.ntmps7
  go_wp2
  go_ret
  exact ⟨rfl, rfl⟩

/-- What the store of the new list makes of the coordinator. -/
theorem st_store {B : Nat} {w wr : World} {cb mb ub g cap : Nat} {held outcome token : ByteArray} {R : List ByteArray} {v : Value} (hB1 : B ≤ cb) (hB2 : B ≤ mb) (hB3 : B ≤ ub) (hc : Coord w cb mb) (he : Entry w mb ub held) (hu : Unacked w ub outcome token v)
    (hbel : Below w.heap.size w wr) (hown : wr.ownsRow w.heap.size 9 1 (.slice (some ⟨g, 0, none⟩) R.length cap) R.length (strs R)) :
    St B (wr.setCell ⟨ub, 2, none⟩ (.slice (some ⟨g, 0, none⟩) R.length cap)) cb held outcome token R := by
  obtain ⟨cs, hcb, hc2⟩ := hc
  obtain ⟨n, c, hmb⟩ := he
  obtain ⟨x, y, z, hub⟩ := hu
  have old : ∀ i o, w.heap[i]? = some o → wr.heap[i]? = some o := fun i o hi => (hbel.block i (lt_of_block hi)).trans hi
  refine ⟨mb, ub, .slice (some ⟨g, 0, none⟩) R.length cap, hB1, hB2, hB3, ⟨cs, ?_, hc2⟩, ⟨n, c, ?_⟩, ⟨x, y, z, ?_⟩, ?_⟩
  · rw [heap_setCell_other _ _ _ _ (fun e => by simp at e; rw [e, hub] at hcb; simp at hcb)]
    exact old _ _ hcb
  · rw [heap_setCell_other _ _ _ _ (fun e => by simp at e; rw [e, hub] at hmb; simp at hmb)]
    exact old _ _ hmb
  · have := heap_setCell_same wr ub 2 _ 42 (.slice (some ⟨g, 0, none⟩) R.length cap) (old _ _ hub)
    simpa using this
  · refine own_mono (own_other hown fun k hk => ?_) (Nat.zero_le _)
    refine heap_setCell_other _ _ _ _ (fun e => ?_)
    have h1 := (hown.lt k hk).1
    have h2 := lt_of_block hub
    simp at e
    omega

set_option maxHeartbeats 2000000 in
theorem ack_hit (B cb : Nat) (held outcome token p : ByteArray) (L : List ByteArray) (w : World) (h : St B w cb held outcome token L) (hL : L.length * 16 ≤ 140737488351232) :
    Calls Try.prog 7 #[.pointer (some ⟨cb, 0, none⟩), .string held, .string p] w fun e w' => Acked B cb held outcome token p L e w' ∧ Below B w w' := by
  have HST := hid_of h
  obtain ⟨mb, ub, v, h1, h2, h3, hc, he, hu, hown⟩ := h
  have hcell := coord_cell hc
  obtain ⟨i, hi, hz0, hz1, hz2⟩ := info_parts Try.info9
  obtain ⟨A, r, cp, rfl, hrow⟩ := row_of_own hown
  have HU := hid_of hu
  have HE := hid_of he
  have HC := hid_of hc
  have HR := hid_of hrow
  obtain ⟨n, c, hm⟩ := he
  obtain ⟨x, y, z, hub⟩ := hu
  have hl := run_look_one (s' := held) hm
  rw [beq_self] at hl
  simp only [if_true] at hl
  have c2 : w.cell? ⟨ub, 2, none⟩ = some (.slice A L.length cp) := by simp [World.cell?, hub]
  have HUB := hid_of hub
  have HM := hid_of hm
  have hBw : B ≤ w.heap.size := by have := lt_of_block hub; omega
  have hlub := lt_of_block hub
  clear hc hm hub hown hrow
  go_enter Try.func7, Try.ntmps7
  go_wp2
  go_loopw [9, 28] (fun v j wr => ∃ k : Nat, k ≤ L.length ∧ j = .int .i64 k ∧ wr.ownsRow w.heap.size 9 1 v (dropP p (L.take k)).length (strs (dropP p (L.take k))) ∧ Below w.heap.size w wr) (fun _ j _ => L.length - (intOf j).toNat)
  case atStart => exact ⟨0, by omega, rfl, World.ownsRow_nil _ _ _ _, Below.refl _ _⟩
  case round =>
    obtain ⟨k, hk, rfl, hown, hbel⟩ := hrel
    have hle := dropP_le p (L.take k)
    have hle2 : (L.take k).length ≤ k := List.length_take_le _ _
    by_cases hlt : k < L.length
    · obtain rfl : A = some ⟨r, 0, none⟩ := by rcases HR.out.1 with h | h; exact h; omega
      obtain ⟨s, hs⟩ : ∃ s, s = L[k] := ⟨_, rfl⟩
      have hck : wr.cell? ⟨r, k, none⟩ = some (.string s) := by rw [hs]; exact (HR.out.below hbel (Nat.le_refl _)).2 k hlt
      have HSs := hid_of hs
      clear hs
      have i2 : (k : Int) < (L.length : Int) := by omega
      cases hg : (s == p) with
      | true =>
        have hg' : (s.toList == p.toList) = true := by rw [← beq_toListBytes]; exact hg
        have HG := hid_of hg
        clear hg
        go_wp2
        go_roundw
        case rel => exact ⟨k + 1, by omega, by go_num, by rw [dropP_yes hlt (by rw [← HSs.out]; exact HG.out)]; exact hown, hbel⟩
        case measure => simp [intOf]; omega
      | false =>
        have hg' : (s.toList == p.toList) = false := by rw [← beq_toListBytes]; exact hg
        have HG := hid_of hg
        clear hg
        go_wp2_with (at_builtin; refine wpList_append_lies _ rfl (.tmp 35) (.tmp 37) 22 rfl w.heap.size 9 i (.string ⟨#[]⟩) 1 16 Try.underlying22 hi hz0 hz1 hz2 rfl (by decide) _ _ _ rfl (hown.alloc _) ⟨wr.heap.size, 0, none⟩ 1 1 [.string s] rfl rfl ?c1 ?c2 (by decide) ?c3 ?c4 ?c5 (wr.heap.size + 1) ?c6 ?_)
        case c1 =>
          intro j u hj
          match j, hj with
          | 0, hj => simp at hj; subst hj; simp [Addr.add]
        case c2 => intro u hu; simp at hu; subst hu; rfl
        case c3 => unfold maxLen; omega
        case c4 => omega
        case c5 => have := hbel.size; simp; omega
        case c6 => simp
        intro g cap w1 hown' hgrow hat hltg
        have hb1 : Below w.heap.size w w1 := (hbel.alloc hbel.size _).grown hgrow (by have := hbel.size; simp; omega) (fun j hj => (hown.lt j hj).1)
        clear hgrow hown hat
        go_wp2
        go_roundw
        case rel =>
          have R : ∃ q : Nat, q ≤ L.length ∧ Value.int .i64 ((k : Int) + 1) = .int .i64 q ∧ w1.ownsRow w.heap.size 9 1 _ (dropP p (L.take q)).length (strs (dropP p (L.take q))) ∧ Below w.heap.size w w1 :=
            ⟨k + 1, by omega, by go_num, by rw [dropP_no hlt (by rw [← HSs.out]; exact HG.out), strs_snoc, List.length_append, ← HSs.out]; exact hown', hb1⟩
          first | exact R | ((repeat apply Exists.intro); exact ⟨R, rfl⟩)
        case measure => simp [intOf]; omega
    · have hkl : L.take k = L := List.take_of_length_le (by omega)
      rw [hkl] at hown
      have HBl := hid_of hbel
      clear hkl hle hle2 hbel
      have hbl : wr.heap[ub]? = w.heap[ub]? := HBl.out.block ub hlub
      cases hR : dropP p L with
      | cons q qs =>
        have hne : dropP p L ≠ [] := by rw [hR]; simp
        have HN := hid_of hne
        have hpos : 0 < (dropP p L).length := by rw [hR]; simp
        clear hR hne
        obtain ⟨g, cap, hv, _, _⟩ := hown.form hpos
        rw [hv] at hown
        rw [hv]
        have hc2r : wr.cell? ⟨ub, 2, none⟩ = some (.slice A L.length cp) := (World.cell?_of_block (w := w) hbl).trans c2
        have hf2r : wr.frozen? ⟨ub, 2, none⟩ = false := by simp [World.frozen?, hbl, HUB.out]
        have hst := st_store h1 h2 h3 HC.out HE.out HU.out HBl.out hown
        have HSt := hid_of hst
        have hb' : Below B w wr := HBl.out.mono hBw
        clear hst hown hv
        generalize hN : (dropP p L).length = N at hpos HSt
        clear hN
        go_wp2
        go_ret
        exact ⟨.inl ⟨HN.out, rfl, HSt.out⟩, hb'.setCell h3 _⟩
      | nil =>
        have HN := hid_of hR
        rw [hR] at hown
        clear hR
        obtain ⟨A0, r0, c0, hv, _⟩ := row_of_own hown
        rw [hv]
        have hmr : wr.heap[mb]? = some (.map #[⟨.string held, .pointer (some ⟨ub, 0, none⟩), n⟩] c) := (HBl.out.block mb (lt_of_block HM.out)).trans HM.out
        have hc0r : wr.cell? ⟨ub, 0, none⟩ = some (.string outcome) := by simp [World.cell?, hbl, HUB.out]
        have hccr : wr.cell? ⟨cb, 2, none⟩ = some (.map (some mb)) := (HBl.out.cell (p := ⟨cb, 2, none⟩) (World.block_lt_of_cell? w _ hcell)).trans hcell
        have hb' : Below B w wr := HBl.out.mono hBw
        clear hown hv
        cases hab : abB outcome with
        | true =>
          have hab' : (outcome.toList == [97, 98, 111, 114, 116, 101, 100]) = true := hab
          have HAB := hid_of hab
          clear hab
          go_wp2_with (at_delete; refine wpList_drop_one rfl _ _ rfl rfl rfl hmr ?_)
          go_ret
          refine ⟨.inr (.inl ⟨HN.out, HAB.out, rfl, mb, h1, h2, ?_, ⟨c, setBlock_same hmr⟩⟩), below_setBlock hb' h2 _⟩
          obtain ⟨cs, hcb, hc2'⟩ := HC.out
          refine ⟨cs, ?_, hc2'⟩
          rw [setBlock_other (fun e => by rw [e, HM.out] at hcb; simp at hcb)]
          exact (HBl.out.block cb (lt_of_block hcb)).trans hcb
        | false =>
          have hab' : (outcome.toList == [97, 98, 111, 114, 116, 101, 100]) = false := hab
          have HAB := hid_of hab
          clear hab
          go_wp2
          go_ret
          exact ⟨.inr (.inr ⟨HN.out, HAB.out, _, rfl, heap_alloc_new wr _, HST.out.below (HBl.out.alloc HBl.out.size _)⟩), hb'.alloc (by have := HBl.out.size; omega) _⟩

end Go.Proofs.Qxb6629019a
