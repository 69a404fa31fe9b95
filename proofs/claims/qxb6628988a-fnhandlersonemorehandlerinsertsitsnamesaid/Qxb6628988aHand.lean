/-
  (*Probe).Handlers by its contract: the names of the given fields, in field order.
-/
import Derived.Test.Qxb6628988aProbe
namespace Go.Proofs.Qxb6628988a
open Go.RowKit

/-- The i-th handler field's name. -/
def nm : Nat → ByteArray
  | 0 => ⟨#[101, 120, 101, 99]⟩
  | 1 => ⟨#[104, 116, 116, 112, 71, 101, 116]⟩
  | 2 => ⟨#[116, 99, 112, 83, 111, 99, 107, 101, 116]⟩
  | 3 => ⟨#[103, 114, 112, 99]⟩
  | _ => ⟨#[]⟩

/-- The i-th of four bools. -/
def bit (g0 g1 g2 g3 : Bool) : Nat → Bool
  | 0 => g0
  | 1 => g1
  | 2 => g2
  | 3 => g3
  | _ => false

/-- Which of the first k fields are given. -/
def sel (g : Nat → Bool) (k : Nat) : List Nat := (List.range k).filter g

theorem sel_yes {g : Nat → Bool} {k : Nat} (h : g k = true) : sel g (k + 1) = sel g k ++ [k] := by simp [sel, List.range_succ, List.filter_append, h]
theorem sel_no {g : Nat → Bool} {k : Nat} (h : g k = false) : sel g (k + 1) = sel g k := by simp [sel, List.range_succ, List.filter_append, h]
theorem sel_le (g : Nat → Bool) (k : Nat) : (sel g k).length ≤ k := by
  have := List.length_filter_le g (List.range k)
  simpa [sel] using this

/-- The names at the indices l, as values. -/
def strs (l : List Nat) : List Value := l.map fun j => .string (nm j)
theorem strs_snoc (l : List Nat) (k : Nat) : strs (l ++ [k]) = strs l ++ [.string (nm k)] := by simp [strs]

/-- The block of the four (name, given) pairs. -/
def pairs (g0 g1 g2 g3 : Bool) : Obj := .cells #[.string (nm 0), .bool g0, .string (nm 1), .bool g1, .string (nm 2), .bool g2, .string (nm 3), .bool g3] 43 (0, 0)

theorem pair_cells {w : World} {B : Nat} {g0 g1 g2 g3 : Bool} (h : w.heap[B]? = some (pairs g0 g1 g2 g3)) (k : Nat) (hk : k < 4) :
    w.cell? ⟨B, k * 2, none⟩ = some (.string (nm k)) ∧ w.cell? ⟨B, k * 2 + 1, none⟩ = some (.bool (bit g0 g1 g2 g3 k)) := by
  unfold pairs at h
  match k, hk with
  | 0, _ => exact ⟨by simp [World.cell?, h], by simp [World.cell?, h, bit]⟩
  | 1, _ => exact ⟨by simp [World.cell?, h], by simp [World.cell?, h, bit]⟩
  | 2, _ => exact ⟨by simp [World.cell?, h], by simp [World.cell?, h, bit]⟩
  | 3, _ => exact ⟨by simp [World.cell?, h], by simp [World.cell?, h, bit]⟩

theorem Try.info9 : (Try.prog.info? 9).map (fun i => (i.zero, i.size, i.bytes)) = some (some (.string ⟨#[]⟩), 1, 16) := by kernel_rfl
theorem neq32 (P : Option Addr) (w : World) : (binOp .neq 32 (.pointer P) (.pointer none)).run Try.prog w = .ok (.bool P.isSome) w := by cases P <;> kernel_rfl
theorem neq33 (P : Option Addr) (w : World) : (binOp .neq 33 (.pointer P) (.pointer none)).run Try.prog w = .ok (.bool P.isSome) w := by cases P <;> kernel_rfl

theorem own_ne {w : World} {B e n : Nat} {v : Value} {xs : List Value} {b t : Nat} {cs : Array Value} (hown : w.ownsRow B e 1 v n xs) (hb : w.heap[b]? = some (.cells cs t (0, 0))) (hne : e ≠ t) : some b ≠ v.ownBlock := by
  intro h
  rcases hown.2 with ⟨rfl, _⟩ | ⟨g, cap, cur, rfl, _, hg, _⟩
  · simp [Value.ownBlock] at h
  · simp [Value.ownBlock] at h
    subst h
    rw [hb] at hg
    simp at hg
    exact hne hg.2.symm

theorem own_mono {w : World} {B B' e n : Nat} {v : Value} {xs : List Value} (h : w.ownsRow B e 1 v n xs) (hB : B' ≤ B) : w.ownsRow B' e 1 v n xs := by
  refine ⟨h.1, ?_⟩
  rcases h.2 with h | ⟨g, cap, cur, h1, h2, h3⟩
  · exact .inl h
  · exact .inr ⟨g, cap, cur, h1, by omega, h3⟩

set_option maxHeartbeats 2000000 in
theorem hand_any (pb : Nat) (g0 g1 g2 g3 : Bool) (w : World) (h : ProbeAt w pb g0 g1 g2 g3) :
    Calls Try.prog 8 #[.pointer (some ⟨pb, 0, none⟩)] w fun e w' => ∃ v, e = .returned v ∧
      w'.ownsRow w.heap.size 9 1 v (sel (bit g0 g1 g2 g3) 4).length (strs (sel (bit g0 g1 g2 g3) 4)) ∧ Below w.heap.size w w' := by
  obtain ⟨P0, P1, P2, P3, r4, r5, r6, r7, r8, r9, r10, hb, e0, e1, e2, e3⟩ := h
  obtain ⟨i, hi, hz0, hz1, hz2⟩ := info_parts Try.info9
  have c0 : w.cell? ⟨pb, 0, none⟩ = some (.pointer P0) := by simp [World.cell?, hb]
  have c1 : w.cell? ⟨pb, 1, none⟩ = some (.pointer P1) := by simp [World.cell?, hb]
  have c2 : w.cell? ⟨pb, 2, none⟩ = some (.pointer P2) := by simp [World.cell?, hb]
  have c3 : w.cell? ⟨pb, 3, none⟩ = some (.pointer P3) := by simp [World.cell?, hb]
  have n32 := neq32
  have n33 := neq33
  clear hb
  go_enter Try.func8, Try.ntmps8
  go_wp2
  go_region_held3 (fun w' => w'.cell? ⟨pb, 0, none⟩ = some (.pointer P0) ∧ w'.cell? ⟨pb, 1, none⟩ = some (.pointer P1) ∧ w'.cell? ⟨pb, 2, none⟩ = some (.pointer P2) ∧ w'.cell? ⟨pb, 3, none⟩ = some (.pointer P3)) (go_keep) (fail)
  go_wp2
  clear c0 c1 c2 c3 n32 n33 e0 e1 e2 e3
  go_loopw [2, 33] (fun v i wr => ∃ k : Nat, k ≤ 4 ∧ i = .int .i64 k ∧ wr.ownsRow (w.heap.size + 1) 9 1 v (sel (bit g0 g1 g2 g3) k).length (strs (sel (bit g0 g1 g2 g3) k)) ∧
      wr.heap[w.heap.size]? = some (pairs g0 g1 g2 g3) ∧ Below w.heap.size w wr)
    (fun _ i _ => 4 - (intOf i).toNat)
  case atStart => exact ⟨0, by omega, rfl, World.ownsRow_nil _ _ _ _, heap_alloc_new w _, ((Below.refl _ _).alloc (Nat.le_refl _) _).drew⟩
  case round =>
    obtain ⟨k, hk, rfl, hown, hpr, hbel⟩ := hrel
    have hsz := lt_of_block hpr
    have hle := sel_le (bit g0 g1 g2 g3) k
    by_cases hlt : k < 4
    · obtain ⟨q0, q1⟩ := pair_cells hpr k hlt
      have hlt' : (k : Int) < 4 := by omega
      cases hg : bit g0 g1 g2 g3 k with
      | true =>
        rw [hg] at q1
        have HG := hid_of hg
        have HP := hid_of hpr
        clear hg hpr
        go_wp2_with (at_builtin; refine wpList_append_lies _ rfl (.tmp 39) (.tmp 42) 22 rfl (w.heap.size + 1) 9 i (.string ⟨#[]⟩) 1 16 Try.underlying22 hi hz0 hz1 hz2 rfl (by decide) _ _ _ rfl ((hown.alloc _).alloc _) ⟨wr.heap.size + 1, 0, none⟩ 1 1 [.string (nm k)] rfl rfl ?c1 ?c2 (by decide) ?c3 ?c4 ?c5 (wr.heap.size + 2) ?c6 ?_)
        case c1 =>
          intro j u hj
          match j, hj with
          | 0, hj => simp at hj; subst hj; simp [Addr.add]
        case c2 => intro u hu; simp at hu; subst hu; rfl
        case c3 => unfold maxLen; omega
        case c4 => omega
        case c5 => simp; omega
        case c6 => simp
        intro g cap w1 hown' hgrow hat hltg
        have hne := own_ne hown HP.out (by decide)
        have hp1 : w1.heap[w.heap.size]? = some (pairs g0 g1 g2 g3) := by
          rw [hgrow.block _ (by simp; omega) hne]
          exact block_alloc (block_alloc HP.out)
        have hb1 : Below w.heap.size w w1 := ((hbel.alloc hbel.size _).alloc (by have := hbel.size; simp; omega) _).grown hgrow (by have := hbel.size; simp; omega) (fun j hj => by have := (hown.lt j hj).1; omega)
        clear hgrow hown hat
        go_wp2
        go_roundw
        case rel => exact ⟨k + 1, by omega, by go_num, by rw [sel_yes HG.out, strs_snoc, List.length_append]; exact hown', hp1, hb1⟩
        case measure => simp [intOf]; omega
      | false =>
        rw [hg] at q1
        have HG := hid_of hg
        have HP := hid_of hpr
        clear hg hpr
        go_wp2
        go_roundw
        case rel => exact ⟨k + 1, by omega, by go_num, by rw [sel_no HG.out]; exact hown.alloc _, block_alloc HP.out, hbel.alloc hbel.size _⟩
        case measure => simp [intOf]; omega
    · have hk4 : 4 = k := by omega
      subst hk4
      go_wp2
      go_ret
      exact ⟨_, rfl, own_mono hown (by omega), hbel⟩

end Go.Proofs.Qxb6628988a
