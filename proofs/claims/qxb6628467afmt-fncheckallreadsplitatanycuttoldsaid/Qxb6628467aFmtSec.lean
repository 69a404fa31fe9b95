/-
  A section that the call itself builds, as a relation on the world; ZZnewSection, ZZaddSetting by their contracts.
-/
import Derived.Test.Qxb6628467aFmtCheck
import Derived.Deep.AppendLies
namespace Go.Proofs.Qxb6628467aFmt
open Go.RowKit

/-- Block g is a setting whose flag is r. -/
def SetBlk (w : World) (g : Nat) (r : Bool) : Prop :=
  ∃ key val p n, w.heap[g]? = some (.cells #[.string key, .string val, .int .i64 n, .string p, .bool r] 40 (0, 0))

/-- Block sb is a section whose settings are the blocks gs, all of them from block B on. -/
def SecAt (B : Nat) (w : World) (sb : Nat) (gs : List (Nat × Bool)) : Prop :=
  ∃ k n l p v, w.heap[sb]? = some (.cells #[.string k, .string n, .int .i64 l, .string p, v] 37 (0, 0)) ∧ B ≤ sb ∧
    w.ownsRow B 38 1 v gs.length (gs.map fun g => .pointer (some ⟨g.1, 0, none⟩)) ∧ ∀ g ∈ gs, B ≤ g.1 ∧ SetBlk w g.1 g.2

theorem own_ne {w : World} {B e n : Nat} {v : Value} {xs : List Value} {b t : Nat} {cs : Array Value} (hown : w.ownsRow B e 1 v n xs) (hb : w.heap[b]? = some (.cells cs t (0, 0))) (hne : e ≠ t) : some b ≠ v.ownBlock := by
  intro h
  rcases hown.2 with ⟨rfl, _⟩ | ⟨g, cap, cur, rfl, _, hg, _⟩
  · simp [Value.ownBlock] at h
  · simp [Value.ownBlock] at h
    subst h
    rw [hb] at hg
    simp at hg
    exact hne hg.2.symm

theorem Tryf.info38 : (Tryf.prog.info? 38).map (fun i => (i.zero, i.size, i.bytes)) = some (some (.pointer none), 1, 8) := by kernel_rfl

theorem newSec_any (k n : ByteArray) (l : Int) (w : World) :
    Calls Tryf.prog 10 #[.string k, .string n, .int .i64 l] w fun e w' => e = .returned (.pointer (some ⟨w.heap.size, 0, none⟩)) ∧
      w' = w.alloc (.cells #[.string k, .string n, .int .i64 l, .string ⟨#[]⟩, .slice none 0 0] 37) := by
  go_enter Tryf.func10, Tryf.ntmps10
  go_wp2
  go_ret
  exact ⟨rfl, rfl⟩

theorem newSec_at (k n : ByteArray) (l : Int) (w : World) (B : Nat) (hB : B ≤ w.heap.size) :
    SecAt B (w.alloc (.cells #[.string k, .string n, .int .i64 l, .string ⟨#[]⟩, .slice none 0 0] 37)) w.heap.size [] :=
  ⟨k, n, l, _, _, heap_alloc_new w _, hB, World.ownsRow_nil _ _ _ _, fun g h => by cases h⟩

/-- What the new setting and the store make of the section. -/
theorem add_step {B sb : Nat} {gs : List (Nat × Bool)} {w w1 : World} {k n p : ByteArray} {l : Int} {v v' : Value} {key val : ByteArray} {line : Int} {r : Bool} {o : Obj}
    (hb : w.heap[sb]? = some (.cells #[.string k, .string n, .int .i64 l, .string p, v] 37 (0, 0))) (hB : B ≤ sb)
    (hown : w.ownsRow B 38 1 v gs.length (gs.map fun g => .pointer (some ⟨g.1, 0, none⟩))) (hgs : ∀ g ∈ gs, B ≤ g.1 ∧ SetBlk w g.1 g.2)
    (hown' : w1.ownsRow B 38 1 v' (gs.length + 1) ((gs.map fun g => .pointer (some ⟨g.1, 0, none⟩)) ++ [.pointer (some ⟨w.heap.size, 0, none⟩)]))
    (hgrow : ((w.alloc (.cells #[.string key, .string val, .int .i64 line, .string ⟨#[]⟩, .bool r] 40)).alloc o).grownBy w1 v.ownBlock) :
    SecAt B (w1.setCell ⟨sb, 4, none⟩ v') sb (gs ++ [(w.heap.size, r)]) ∧ Below B w (w1.setCell ⟨sb, 4, none⟩ v') := by
  have hlt := lt_of_block hb
  have hne := own_ne hown hb (by decide)
  have old : ∀ i c, w.heap[i]? = some c → some i ≠ v.ownBlock → w1.heap[i]? = some c := fun i c hi hi' => by
    have := lt_of_block hi
    rw [hgrow.block i (by simp; omega) hi', Below.heap_alloc _ _ _ (by simp; omega), Below.heap_alloc _ _ _ this, hi]
  have hb1 := old sb _ hb hne
  have hnew : w1.heap[w.heap.size]? = some (.cells #[.string key, .string val, .int .i64 line, .string ⟨#[]⟩, .bool r] 40 (0, 0)) := by
    rw [hgrow.block _ (by simp; omega) (fun h => by have := (hown.lt _ h.symm).2; omega), Below.heap_alloc _ _ _ (by simp), heap_alloc_new]
  have hsn : sb ≠ w.heap.size := by omega
  refine ⟨⟨k, n, l, p, v', ?_, hB, ?_, ?_⟩, ?_⟩
  · have := heap_setCell_same w1 sb 4 _ 37 v' hb1
    simpa using this
  · have h := ownsRow_setCell_other hown' (a := ⟨sb, 4, none⟩) (Ne.symm (own_ne hown' hb1 (by decide))) v'
    simpa using h
  · intro g hg
    rcases List.mem_append.1 hg with hg | hg
    · obtain ⟨h1, key', val', p', n', h2⟩ := hgs g hg
      refine ⟨h1, key', val', p', n', ?_⟩
      rw [heap_setCell_other _ _ _ _ (fun e => by simp at e; rw [e, hb] at h2; simp at h2)]
      exact old _ _ h2 (own_ne hown h2 (by decide))
    · simp at hg
      subst hg
      refine ⟨by show B ≤ w.heap.size; omega, key, val, ⟨#[]⟩, line, ?_⟩
      rw [heap_setCell_other _ _ _ _ (by simpa using hsn.symm)]
      exact hnew
  · exact ((((Below.refl B w).alloc (by omega) _).alloc (by simp; omega) _).grown hgrow (by simp; omega) (fun k hk => (hown.lt k hk).1)).setCell hB _

set_option maxHeartbeats 400000 in
theorem addSet_any (B sb : Nat) (gs : List (Nat × Bool)) (key val : ByteArray) (line : Int) (r : Bool) (w : World) (h : SecAt B w sb gs) (hlen : (gs.length + 1) * 8 ≤ 140737488355328) :
    Calls Tryf.prog 11 #[.pointer (some ⟨sb, 0, none⟩), .string key, .string val, .int .i64 line, .bool r] w fun e w' =>
      e = .returned (.tuple #[]) ∧ (∃ g, SecAt B w' sb (gs ++ [(g, r)])) ∧ Below B w w' := by
  obtain ⟨k, n, l, p, v, hb, hB, hown, hgs⟩ := h
  obtain ⟨i, hi, hz0, hz1, hz2⟩ := info_parts Tryf.info38
  have hlt := lt_of_block hb
  have hc : w.cell? ⟨sb, 4, none⟩ = some v := by simp [World.cell?, hb]
  go_enter Tryf.func11, Tryf.ntmps11
  go_wp2_with (at_builtin; refine wpList_append_lies _ rfl (.tmp 14) (.tmp 21) 35 rfl B 38 i (.pointer none) 1 8 Tryf.underlying35 hi hz0 hz1 hz2 rfl (by decide) v gs.length _ rfl ((hown.alloc _).alloc _) ⟨w.heap.size + 1, 0, none⟩ 1 1 [.pointer (some ⟨w.heap.size, 0, none⟩)] rfl rfl ?c1 ?c2 (by decide) ?c3 hlen ?c4 (w.heap.size + 2) ?c5 ?_)
  case c1 =>
    intro j u hj
    match j, hj with
    | 0, hj => simp at hj; subst hj; simp [Addr.add]
  case c2 => intro u hu; simp at hu; subst hu; rfl
  case c3 => unfold maxLen; omega
  case c4 => simp; omega
  case c5 => simp
  intro g cap w1 hown' hgrow hat hltg
  have hne := own_ne hown hb (by decide)
  have R := add_step hb hB hown hgs hown' hgrow
  have hc1 : w1.cell? ⟨sb, 4, none⟩ = some v := by
    rw [hgrow.cell_far _ (by simp; omega) hne, World.cell?_alloc_lt _ _ _ (by simp; omega), World.cell?_alloc_lt _ _ _ hlt]; exact hc
  have hf1 : w1.frozen? ⟨sb, 4, none⟩ = false := by
    rw [World.frozen?_of_block (w := w) (by rw [hgrow.block sb (by simp; omega) hne, Below.heap_alloc _ _ _ (by simp; omega), Below.heap_alloc _ _ _ hlt])]; simp [World.frozen?, hb]
  clear hown' hgrow hown hgs hat
  go_wp2
  go_end0
  exact ⟨rfl, ⟨_, R.1⟩, R.2⟩

end Go.Proofs.Qxb6628467aFmt
