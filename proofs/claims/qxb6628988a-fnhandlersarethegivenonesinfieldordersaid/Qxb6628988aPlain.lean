/-
  What both laws of this seat ask of the names' rows; the plain facts on which names are given.
-/
import Derived.Test.Qxb6628988aGuards
namespace Go.Proofs.Qxb6628988a
open Go.RowKit

theorem bthen {w b c : World} (h : Below w.heap.size w b) (h' : Below b.heap.size b c) : Below w.heap.size w c := h.trans (h'.mono h.size)

/-- A slice (at the address A, in block r) holds the names at the indices l. -/
def RowAt (w : World) (A : Option Addr) (r : Nat) (l : List Nat) : Prop :=
  (A = some ⟨r, 0, none⟩ ∨ l.length = 0) ∧ ∀ j, j < l.length → w.cell? ⟨r, j, none⟩ = some (.string (nm (l.getD j 0)))

theorem RowAt.below {B : Nat} {w w' : World} {A : Option Addr} {r : Nat} {l : List Nat} (h : RowAt w A r l) (hb : Below B w w') (hB : w.heap.size ≤ B) : RowAt w' A r l :=
  ⟨h.1, fun j hj => (hb.cell (p := ⟨r, j, none⟩) (Nat.lt_of_lt_of_le (World.block_lt_of_cell? w _ (h.2 j hj)) hB)).trans (h.2 j hj)⟩

theorem add_zero_off (g i : Nat) : (⟨g, 0, none⟩ : Addr).add i = ⟨g, i, none⟩ := by unfold Addr.add; split <;> simp_all

theorem row_of_own {w : World} {B : Nat} {v : Value} {l : List Nat} (h : w.ownsRow B 9 1 v l.length (strs l)) : ∃ A r c, v = .slice A l.length c ∧ RowAt w A r l := by
  rcases h.2 with ⟨rfl, h0⟩ | ⟨g, cap, cur, rfl, h2⟩
  · exact ⟨none, 0, 0, by rw [h0], .inr h0, fun j hj => by omega⟩
  · refine ⟨_, g, cap, rfl, .inl rfl, fun j hj => ?_⟩
    have := h.cells (g := g) rfl j (.string (nm (l.getD j 0))) (by simp [strs, hj])
    rwa [add_zero_off] at this

theorem hand_row (pb : Nat) (g0 g1 g2 g3 : Bool) (w : World) (h : ProbeAt w pb g0 g1 g2 g3) :
    Calls Try.prog 8 #[.pointer (some ⟨pb, 0, none⟩)] w fun e w' => ∃ A r c, e = .returned (.slice A (sel (bit g0 g1 g2 g3) 4).length c) ∧
      RowAt w' A r (sel (bit g0 g1 g2 g3) 4) ∧ Below w.heap.size w w' := by
  refine (hand_any pb g0 g1 g2 g3 w h).mono fun e w' ⟨v, he, hown, hb⟩ => ?_
  obtain ⟨A, r, c, rfl, hr⟩ := row_of_own hown
  exact ⟨A, r, c, he, hr, hb⟩

/-- Block blk is an array of four bools. -/
def BitsAt (w : World) (blk : Nat) (g0 g1 g2 g3 : Bool) : Prop := w.heap[blk]? = some (.cells #[.bool g0, .bool g1, .bool g2, .bool g3] 26 (0, 0))

theorem BitsAt.below {B : Nat} {w w' : World} {blk : Nat} {g0 g1 g2 g3 : Bool} (h : BitsAt w blk g0 g1 g2 g3) (hb : Below B w w') (hB : blk < B) : BitsAt w' blk g0 g1 g2 g3 := (hb.block blk hB).trans h

theorem bits_cell {w : World} {blk : Nat} {g0 g1 g2 g3 : Bool} (h : BitsAt w blk g0 g1 g2 g3) (k : Nat) (hk : k < 4) : w.cell? ⟨blk, k, none⟩ = some (.bool (bit g0 g1 g2 g3 k)) := by
  unfold BitsAt at h
  match k, hk with
  | 0, _ => simp [World.cell?, h, bit]
  | 1, _ => simp [World.cell?, h, bit]
  | 2, _ => simp [World.cell?, h, bit]
  | 3, _ => simp [World.cell?, h, bit]

/-! ### Plain facts -/
/-- The list a is the list b with k put in at place p, and k is none of b's. -/
def Put (k p : Nat) (a b o : List Nat) : Prop :=
  o = [k] ∧ a.length = b.length + 1 ∧ p ≤ b.length ∧ b.length ≤ 4 ∧ (∀ j, j < p → a.getD j 0 = b.getD j 0) ∧ a.getD p 0 = k ∧ (∀ j, p ≤ j → j < b.length → a.getD (j + 1) 0 = b.getD j 0) ∧ ∀ j, j < b.length → b.getD j 0 ≠ k ∧ b.getD j 0 < 4

/-- The same as a test. -/
def putB (k p : Nat) (a b o : List Nat) : Bool :=
  o == [k] && a.length == b.length + 1 && decide (p ≤ b.length) && decide (b.length ≤ 4) && (List.range p).all (fun j => a.getD j 0 == b.getD j 0) && a.getD p 0 == k &&
    (List.range b.length).all (fun j => decide (j < p) || a.getD (j + 1) 0 == b.getD j 0) && (List.range b.length).all fun j => b.getD j 0 != k && decide (b.getD j 0 < 4)

theorem put_of {k p : Nat} {a b o : List Nat} (h : putB k p a b o = true) : Put k p a b o := by
  simp only [putB, Bool.and_eq_true, decide_eq_true_eq, beq_iff_eq, List.all_eq_true, List.mem_range, Bool.or_eq_true, bne_iff_ne] at h
  obtain ⟨⟨⟨⟨⟨⟨⟨h1, h2⟩, h3⟩, h4⟩, h5⟩, h6⟩, h7⟩, h8⟩ := h
  exact ⟨h1, h2, h3, h4, h5, h6, fun j hp hj => (h7 j hj).resolve_left (by omega), fun j hj => h8 j hj⟩

theorem put0 (g0 g1 g2 g3 : Bool) : Put 0 (sel (bit g0 g1 g2 g3) 0).length (sel (bit true g1 g2 g3) 4) (sel (bit false g1 g2 g3) 4) (sel (bit true false false false) 4) := by
  cases g0 <;> cases g1 <;> cases g2 <;> cases g3 <;> exact put_of (by decide)
theorem put1 (g0 g1 g2 g3 : Bool) : Put 1 (sel (bit g0 g1 g2 g3) 1).length (sel (bit g0 true g2 g3) 4) (sel (bit g0 false g2 g3) 4) (sel (bit false true false false) 4) := by
  cases g0 <;> cases g1 <;> cases g2 <;> cases g3 <;> exact put_of (by decide)
theorem put2 (g0 g1 g2 g3 : Bool) : Put 2 (sel (bit g0 g1 g2 g3) 2).length (sel (bit g0 g1 true g3) 4) (sel (bit g0 g1 false g3) 4) (sel (bit false false true false) 4) := by
  cases g0 <;> cases g1 <;> cases g2 <;> cases g3 <;> exact put_of (by decide)
theorem put3 (g0 g1 g2 g3 : Bool) : Put 3 (sel (bit g0 g1 g2 g3) 3).length (sel (bit g0 g1 g2 true) 4) (sel (bit g0 g1 g2 false) 4) (sel (bit false false false true) 4) := by
  cases g0 <;> cases g1 <;> cases g2 <;> cases g3 <;> exact put_of (by decide)

theorem nm_ne : ∀ i j : Nat, i < 4 → j < 4 → i ≠ j → ((nm i).toList == (nm j).toList) = false := by
  intro i j hi hj hne
  match i, j, hi, hj with
  | 0, 1, _, _ | 0, 2, _, _ | 0, 3, _, _ | 1, 0, _, _ | 1, 2, _, _ | 1, 3, _, _ | 2, 0, _, _ | 2, 1, _, _ | 2, 3, _, _ | 3, 0, _, _ | 3, 1, _, _ | 3, 2, _, _ => decide +kernel
  | 0, 0, _, _ | 1, 1, _, _ | 2, 2, _, _ | 3, 3, _, _ => exact absurd rfl hne

end Go.Proofs.Qxb6628988a
