/-
  THE PLAIN LAWS of a tally: no Go in sight.
-/
import Derived.WalkKit
namespace Go.Proofs.Qxb6628502a
open Go.RowKit

/-- A tally: estimates, zeros, decided, decision. -/
structure Tal where
  e : Int
  z : Int
  d : Bool
  u : Int

/-- One message of kind k and value v is counted. -/
def Tal.add (T : Tal) (k v : Int) : Tal :=
  if k = 1 then ⟨wrap64 (T.e + 1), if v = 0 then wrap64 (T.z + 1) else T.z, T.d, T.u⟩ else if k = 2 then ⟨T.e, T.z, true, v⟩ else T

theorem add_one_zero (T : Tal) (v : Int) (h : v = 0) : T.add 1 v = ⟨wrap64 (T.e + 1), wrap64 (T.z + 1), T.d, T.u⟩ := by simp [Tal.add, h]
theorem add_one_other (T : Tal) (v : Int) (h : v ≠ 0) : T.add 1 v = ⟨wrap64 (T.e + 1), T.z, T.d, T.u⟩ := by simp [Tal.add, h]
theorem add_two (T : Tal) (v : Int) : T.add 2 v = ⟨T.e, T.z, true, v⟩ := by simp [Tal.add]
theorem add_none (T : Tal) (k v : Int) (h1 : k ≠ 1) (h2 : k ≠ 2) : T.add k v = T := by simp [Tal.add, h1, h2]

/-- The first n messages are counted. -/
def run (T : Tal) (K V : Nat → Int) : Nat → Tal
  | 0 => T
  | n + 1 => (run T K V n).add (K n) (V n)

/-- How many of the first n messages are estimates; of those, how many are noughts. -/
def nEst (K : Nat → Int) : Nat → Nat
  | 0 => 0
  | n + 1 => nEst K n + if K n = 1 then 1 else 0
def nZero (K V : Nat → Int) : Nat → Nat
  | 0 => 0
  | n + 1 => nZero K V n + if K n = 1 ∧ V n = 0 then 1 else 0

theorem nEst_le (K : Nat → Int) : ∀ n, nEst K n ≤ n
  | 0 => Nat.le_refl _
  | n + 1 => by have := nEst_le K n; simp only [nEst]; split <;> omega
theorem nZero_le (K V : Nat → Int) : ∀ n, nZero K V n ≤ nEst K n
  | 0 => Nat.le_refl _
  | n + 1 => by
    have := nZero_le K V n
    simp only [nEst, nZero]
    by_cases h : K n = 1
    · by_cases h' : V n = 0 <;> simp [h, h'] <;> omega
    · simp [h]; omega

theorem wrap_succ (a : Int) (n : Nat) : wrap64 (wrap64 (a + n) + 1) = wrap64 (a + ((n + 1 : Nat) : Int)) := by unfold wrap64; omega
theorem wrap_zero {a : Int} (h : (Lit.int .i64 a).wf = true) : wrap64 (a + ((0 : Nat) : Int)) = a := by
  simp [Lit.wf, IntKind.min, IntKind.max, IntKind.signed, IntKind.bits] at h
  unfold wrap64
  omega

theorem run_e (T : Tal) (K V : Nat → Int) (h : (Lit.int .i64 T.e).wf = true) : ∀ n, (run T K V n).e = wrap64 (T.e + (nEst K n : Int))
  | 0 => (wrap_zero h).symm
  | n + 1 => by
    have ih := run_e T K V h n
    simp only [run, nEst]
    by_cases h1 : K n = 1
    · by_cases h0 : V n = 0
      · rw [h1, add_one_zero _ _ h0, if_pos rfl]; show wrap64 ((run T K V n).e + 1) = _; rw [ih, wrap_succ]
      · rw [h1, add_one_other _ _ h0, if_pos rfl]; show wrap64 ((run T K V n).e + 1) = _; rw [ih, wrap_succ]
    · rw [if_neg h1]
      by_cases h2 : K n = 2
      · rw [h2, add_two]; exact ih
      · rw [add_none _ _ _ h1 h2]; exact ih

theorem run_z (T : Tal) (K V : Nat → Int) (h : (Lit.int .i64 T.z).wf = true) : ∀ n, (run T K V n).z = wrap64 (T.z + (nZero K V n : Int))
  | 0 => (wrap_zero h).symm
  | n + 1 => by
    have ih := run_z T K V h n
    simp only [run, nZero]
    by_cases h1 : K n = 1
    · by_cases h0 : V n = 0
      · rw [h1, add_one_zero _ _ h0, if_pos ⟨rfl, h0⟩]; show wrap64 ((run T K V n).z + 1) = _; rw [ih, wrap_succ]
      · rw [h1, add_one_other _ _ h0, if_neg (fun e => h0 e.2)]; exact ih
    · rw [if_neg (fun e => h1 e.1)]
      by_cases h2 : K n = 2
      · rw [h2, add_two]; exact ih
      · rw [add_none _ _ _ h1 h2]; exact ih

/-- No decision among the messages from k on: the decision state is that behind k messages. -/
def NoneFrom (K : Nat → Int) (k n : Nat) : Prop := ∀ j, k ≤ j → j < n → K j ≠ 2

theorem run_dec (T : Tal) (K V : Nat → Int) (k : Nat) : ∀ n, k ≤ n → NoneFrom K k n → (run T K V n).d = (run T K V k).d ∧ (run T K V n).u = (run T K V k).u
  | 0, h, _ => by rw [Nat.le_zero.1 h]; exact ⟨rfl, rfl⟩
  | n + 1, h, hn => by
    by_cases e : k = n + 1
    · subst e; exact ⟨rfl, rfl⟩
    · have ih := run_dec T K V k n (by omega) (fun j a b => hn j a (by omega))
      have h2 := hn n (by omega) (by omega)
      simp only [run]
      by_cases h1 : K n = 1
      · by_cases h0 : V n = 0
        · rw [h1, add_one_zero _ _ h0]; exact ih
        · rw [h1, add_one_other _ _ h0]; exact ih
      · rw [add_none _ _ _ h1 h2]; exact ih

theorem run_decided (T : Tal) (K V : Nat → Int) (k n : Nat) (h : k < n) (hk : K k = 2) (hn : NoneFrom K (k + 1) n) : (run T K V n).d = true ∧ (run T K V n).u = V k := by
  have := run_dec T K V (k + 1) n (by omega) hn
  simp only [run, hk, add_two] at this
  exact this

/-- The vote flipped. -/
def flip (k v : Int) : Int := if k = 1 then (if v = 0 then 1 else 0) else v

theorem flip_zero (K V : Nat → Int) : ∀ n, nZero K V n + nZero K (fun j => flip (K j) (V j)) n = nEst K n
  | 0 => rfl
  | n + 1 => by
    have ih := flip_zero K V n
    simp only [nZero, nEst]
    by_cases h1 : K n = 1
    · by_cases h0 : V n = 0
      · rw [if_pos ⟨h1, h0⟩, if_neg (by simp [flip, h1, h0]), if_pos h1]; omega
      · rw [if_neg (by simp [h0]), if_pos (by simp [flip, h1, h0]), if_pos h1]; omega
    · simp [h1]; omega

theorem flip_dec (T : Tal) (K V : Nat → Int) : ∀ n, (run T K (fun j => flip (K j) (V j)) n).d = (run T K V n).d ∧ (run T K (fun j => flip (K j) (V j)) n).u = (run T K V n).u
  | 0 => ⟨rfl, rfl⟩
  | n + 1 => by
    have ih := flip_dec T K V n
    simp only [run]
    by_cases h1 : K n = 1
    · rw [h1]
      simp only [Tal.add, if_true]
      exact ih
    · by_cases h2 : K n = 2
      · rw [h2, add_two, add_two]; exact ⟨rfl, by simp [flip]⟩
      · rw [add_none _ _ _ h1 h2, add_none _ _ _ h1 h2]; exact ih

theorem zeros_sum {z : Int} (p q n : Nat) (hn : p + q = n) (hb : n ≤ 65536) : wrap64 (wrap64 (wrap64 (z + p) - z) + wrap64 (wrap64 (z + q) - z)) = (n : Int) := by
  unfold wrap64
  omega

end Go.Proofs.Qxb6628502a
