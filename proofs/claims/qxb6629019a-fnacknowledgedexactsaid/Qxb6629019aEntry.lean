/-
  ZZentry, ZZentries by their contracts.
-/
import Derived.Test.Qxb6629019aCoord
namespace Go.Proofs.Qxb6629019a
open Go.RowKit Go.ChangeMaps

theorem coord_cell {w : World} {cb mb : Nat} (h : Coord w cb mb) : w.cell? ⟨cb, 2, none⟩ = some (.map (some mb)) := by
  obtain ⟨cs, hc, h2⟩ := h
  simp only [World.cell?, hc]
  exact h2

theorem beq_self (s : ByteArray) : (s == s) = true := (Go.MapKept.bytes_beq s s).2 rfl
theorem beq_ne {s t : ByteArray} (h : s ≠ t) : (s == t) = false := by
  cases hb : (s == t) with
  | true => exact absurd ((Go.MapKept.bytes_beq s t).1 hb) h
  | false => rfl

theorem entries_one (B cb : Nat) (held outcome token : ByteArray) (L : List ByteArray) (w : World) (h : St B w cb held outcome token L) :
    Calls Try.prog 9 #[.pointer (some ⟨cb, 0, none⟩)] w fun e w' => e = .returned (.int .i64 1) ∧ w' = w := by
  obtain ⟨mb, ub, v, h1, h2, h3, hc, ⟨n, c, he⟩, hu, hown⟩ := h
  have hcell := coord_cell hc
  clear hc hu hown
  go_enter Try.func9, Try.ntmps9
  go_wp2_with (at_len; refine wpList_len_map rfl _ rfl rfl he ?_)
  go_ret
  exact ⟨rfl, rfl⟩

theorem entries_none (B cb : Nat) (w : World) (h : Gone B w cb) :
    Calls Try.prog 9 #[.pointer (some ⟨cb, 0, none⟩)] w fun e w' => e = .returned (.int .i64 0) ∧ w' = w := by
  obtain ⟨mb, h1, h2, hc, ⟨c, he⟩⟩ := h
  have hcell := coord_cell hc
  clear hc
  go_enter Try.func9, Try.ntmps9
  go_wp2_with (at_len; refine wpList_len_map rfl _ rfl rfl he ?_)
  go_ret
  exact ⟨rfl, rfl⟩

set_option maxHeartbeats 1000000 in
theorem entry_gone (B cb : Nat) (t : ByteArray) (w : World) (h : Gone B w cb) :
    Calls Try.prog 8 #[.pointer (some ⟨cb, 0, none⟩), .string t] w fun e w' => e = .returned (.tuple #[.string ⟨#[]⟩, .string ⟨#[]⟩, .slice none 0 0, .bool false]) ∧ w' = w := by
  obtain ⟨mb, h1, h2, hc, ⟨c, he⟩⟩ := h
  have hcell := coord_cell hc
  have hl := run_look_none (s' := t) he
  clear hc he
  go_enter Try.func8, Try.ntmps8
  go_wp2
  exact bodyPost_ret (v := .tuple #[.string ⟨#[]⟩, .string ⟨#[]⟩, .slice none 0 0, .bool false]) (by simp [results, Try.results8, go_sem]) rfl ⟨rfl, rfl⟩

set_option maxHeartbeats 1000000 in
theorem entry_own (B cb : Nat) (held outcome token : ByteArray) (L : List ByteArray) (w : World) (h : St B w cb held outcome token L) :
    Calls Try.prog 8 #[.pointer (some ⟨cb, 0, none⟩), .string held] w fun e w' => ∃ A c, e = .returned (.tuple #[.string outcome, .string token, .slice A L.length c, .bool true]) ∧
      w'.ownsRow 0 9 1 (.slice A L.length c) L.length (strs L) ∧ Below w.heap.size w w' := by
  obtain ⟨mb, ub, v, h1, h2, h3, hc, ⟨n, c, he⟩, ⟨x, y, z, hu⟩, hown⟩ := h
  have hcell := coord_cell hc
  have hl := run_look_one (s' := held) he
  rw [beq_self] at hl
  simp only [if_true] at hl
  obtain ⟨A, cp, rfl⟩ : ∃ A cp, v = .slice A L.length cp := by
    rcases hown.2 with ⟨rfl, h0⟩ | ⟨g, cap, cur, rfl, _⟩
    · exact ⟨none, 0, by rw [h0]⟩
    · exact ⟨_, _, rfl⟩
  have c0 : w.cell? ⟨ub, 0, none⟩ = some (.string outcome) := by simp [World.cell?, hu]
  have c1 : w.cell? ⟨ub, 1, none⟩ = some (.string token) := by simp [World.cell?, hu]
  have c2 : w.cell? ⟨ub, 2, none⟩ = some (.slice A L.length cp) := by simp [World.cell?, hu]
  have HO := hid_of hown
  clear hc he hu hown
  go_enter Try.func8, Try.ntmps8
  go_wp2
  go_region_held3 (fun w' => w'.cell? ⟨ub, 0, none⟩ = some (.string outcome) ∧ w'.cell? ⟨ub, 1, none⟩ = some (.string token) ∧ w'.cell? ⟨ub, 2, none⟩ = some (.slice A L.length cp)) (go_keep) (fail)
  go_wp2
  exact bodyPost_ret (v := .tuple #[.string outcome, .string token, .slice A L.length cp, .bool true]) (by simp [results, Try.results8, go_sem]) rfl ⟨A, cp, rfl, HO.out, (Below.refl _ _).drew⟩

end Go.Proofs.Qxb6629019a
