/-
  akIsEnd at an end record.
-/
import Derived.Test.Qxb6629019aEntry
namespace Go.Proofs.Qxb6629019a
open Go.RowKit Go.ChangeMaps

/-- Block rb is the end record of txid. -/
def EndRec (w : World) (rb : Nat) (txid : ByteArray) : Prop :=
  w.heap[rb]? = some (.cells #[.string ⟨#[101, 110, 100]⟩, .string txid, .slice none 0 0, .bool false, .string ⟨#[]⟩, .string ⟨#[]⟩, .slice none 0 0, .slice none 0 0, .slice none 0 0, .slice none 0 0, .string ⟨#[]⟩, .int .u64 0, .int .i64 0, .pointer none, .int .u64 0, .int .i64 0] 58 (0, 0))

theorem isZero_any (w : World) : Calls Try.prog 15 #[.agg #[.int .u64 0, .int .i64 0, .pointer none]] w fun e w' => e = .returned (.bool true) ∧ w' = w.alloc (.cells #[.int .u64 0, .int .i64 0, .pointer none] 40) := by
  go_enter Try.func15, Try.ntmps15
  go_wp2
  go_ret
  exact ⟨rfl, rfl⟩

set_option maxRecDepth 100000 in
set_option maxHeartbeats 2000000 in
theorem isEnd_any (rb : Nat) (txid : ByteArray) (w : World) (h : EndRec w rb txid) :
    Calls Try.prog 13 #[.pointer (some ⟨rb, 0, none⟩), .string txid] w fun e w' => e = .returned (.bool true) ∧ Below w.heap.size w w' := by
  unfold EndRec at h
  have hlt := lt_of_block h
  have c0 : w.cell? ⟨rb, 0, none⟩ = some (.string ⟨#[101, 110, 100]⟩) := by simp [World.cell?, h]
  have c1 : w.cell? ⟨rb, 1, none⟩ = some (.string txid) := by simp [World.cell?, h]
  have c2 : w.cell? ⟨rb, 2, none⟩ = some (.slice none 0 0) := by simp [World.cell?, h]
  have c3 : w.cell? ⟨rb, 3, none⟩ = some (.bool false) := by simp [World.cell?, h]
  have c4 : w.cell? ⟨rb, 4, none⟩ = some (.string ⟨#[]⟩) := by simp [World.cell?, h]
  have c5 : w.cell? ⟨rb, 5, none⟩ = some (.string ⟨#[]⟩) := by simp [World.cell?, h]
  have c6 : w.cell? ⟨rb, 6, none⟩ = some (.slice none 0 0) := by simp [World.cell?, h]
  have c7 : w.cell? ⟨rb, 7, none⟩ = some (.slice none 0 0) := by simp [World.cell?, h]
  have c8 : w.cell? ⟨rb, 8, none⟩ = some (.slice none 0 0) := by simp [World.cell?, h]
  have c9 : w.cell? ⟨rb, 9, none⟩ = some (.slice none 0 0) := by simp [World.cell?, h]
  have c10 : w.cell? ⟨rb, 10, none⟩ = some (.string ⟨#[]⟩) := by simp [World.cell?, h]
  have c11 : w.cell? ⟨rb, 11, none⟩ = some (.int .u64 0) := by simp [World.cell?, h]
  have c12 : w.cell? ⟨rb, 12, none⟩ = some (.int .i64 0) := by simp [World.cell?, h]
  have c13 : w.cell? ⟨rb, 13, none⟩ = some (.pointer none) := by simp [World.cell?, h]
  have c14 : w.cell? ⟨rb, 14, none⟩ = some (.int .u64 0) := by simp [World.cell?, h]
  have c15 : w.cell? ⟨rb, 15, none⟩ = some (.int .i64 0) := by simp [World.cell?, h]
  have p26 : ∀ wx, (binOp .neq 26 (.pointer (some ⟨rb, 0, none⟩)) (.pointer none)).run Try.prog wx = .ok (.bool true) wx := fun _ => by kernel_rfl
  have s22 : ∀ wx, (binOp .eql 22 (.slice none 0 0) (.slice none 0 0)).run Try.prog wx = .ok (.bool true) wx := fun _ => by kernel_rfl
  have s55 : ∀ wx, (binOp .eql 55 (.slice none 0 0) (.slice none 0 0)).run Try.prog wx = .ok (.bool true) wx := fun _ => by kernel_rfl
  have s56 : ∀ wx, (binOp .eql 56 (.slice none 0 0) (.slice none 0 0)).run Try.prog wx = .ok (.bool true) wx := fun _ => by kernel_rfl
  clear h
  go_enter Try.func13, Try.ntmps13
  go_wp2_with (first | (go_at_call 15; refine (isZero_any _).mono ?_; rintro e w' ⟨rfl, rfl⟩))
  go_ret
  exact ⟨rfl, (Below.refl _ _).alloc (Nat.le_refl _) _⟩

end Go.Proofs.Qxb6629019a
