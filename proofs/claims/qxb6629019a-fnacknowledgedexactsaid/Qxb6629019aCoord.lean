/-
  The coordinator that the laws build, as a relation on the world; ZZnewCoordinator, ZZentry, ZZentries by their contracts.
-/
import Derived.Test.Qxb6629019aMaps
import Derived.Deep.RegionHeld3
import Derived.Deep.DrawnRows
import Derived.Deep.AppendLies
namespace Go.Proofs.Qxb6629019a
open Go.RowKit Go.ChangeMaps

/-- Strings as values. -/
def strs (l : List ByteArray) : List Value := l.map .string

/-- Block cb is a coordinator whose map of unacknowledged decisions is block mb. -/
def Coord (w : World) (cb mb : Nat) : Prop := ∃ cs, w.heap[cb]? = some (.cells cs 52 (0, 0)) ∧ cs[2]? = some (.map (some mb))
def Entry (w : World) (mb ub : Nat) (held : ByteArray) : Prop := ∃ n c, w.heap[mb]? = some (.map #[⟨.string held, .pointer (some ⟨ub, 0, none⟩), n⟩] c)
def NoEntry (w : World) (mb : Nat) : Prop := ∃ c, w.heap[mb]? = some (.map #[] c)
def Unacked (w : World) (ub : Nat) (outcome token : ByteArray) (v : Value) : Prop := ∃ x y z, w.heap[ub]? = some (.cells #[.string outcome, .string token, v, x, y, z] 42 (0, 0))

/-- The coordinator at cb holds one decision, under 'held', with the participants L still waiting. -/
def St (B : Nat) (w : World) (cb : Nat) (held outcome token : ByteArray) (L : List ByteArray) : Prop :=
  ∃ mb ub v, B ≤ cb ∧ B ≤ mb ∧ B ≤ ub ∧ Coord w cb mb ∧ Entry w mb ub held ∧ Unacked w ub outcome token v ∧ w.ownsRow 0 9 1 v L.length (strs L)
/-- It holds none. -/
def Gone (B : Nat) (w : World) (cb : Nat) : Prop := ∃ mb, B ≤ cb ∧ B ≤ mb ∧ Coord w cb mb ∧ NoEntry w mb

theorem block_alloc {w : World} {t : Nat} {o o' : Obj} (h : w.heap[t]? = some o) : (w.alloc o').heap[t]? = some o := (Below.heap_alloc w o' t (lt_of_block h)).trans h
theorem block_new {w : World} {o : Obj} {t : Nat} (h : w.heap.size = t) : (w.alloc o).heap[t]? = some o := h ▸ heap_alloc_new w o
theorem size_alloc' (w : World) (o : Obj) : (w.alloc o).heap.size = w.heap.size + 1 := by simp
theorem bthen {w b c : World} (h : Below w.heap.size w b) (h' : Below b.heap.size b c) : Below w.heap.size w c := h.trans (h'.mono h.size)

theorem own_other {w w' : World} {B : Nat} {v : Value} {n : Nat} {xs : List Value} (h : w.ownsRow B 9 1 v n xs) (hk : ∀ g, v.ownBlock = some g → w'.heap[g]? = w.heap[g]?) : w'.ownsRow B 9 1 v n xs := by
  refine ⟨h.1, ?_⟩
  rcases h.2 with h | ⟨g, cap, cur, rfl, h2, h3, h4⟩
  · exact .inl h
  · exact .inr ⟨g, cap, cur, rfl, h2, (hk g rfl).trans h3, h4⟩

theorem own_below {w w' : World} {B : Nat} {v : Value} {n : Nat} {xs : List Value} (h : w.ownsRow B 9 1 v n xs) (hb : Below w.heap.size w w') : w'.ownsRow B 9 1 v n xs :=
  own_other h fun g hg => hb.block g (h.lt g hg).2

theorem St.below {B : Nat} {w w' : World} {cb : Nat} {held outcome token : ByteArray} {L : List ByteArray} (h : St B w cb held outcome token L) (hb : Below w.heap.size w w') : St B w' cb held outcome token L := by
  obtain ⟨mb, ub, v, h1, h2, h3, ⟨cs, hc, hc2⟩, ⟨n, c, he⟩, ⟨x, y, z, hu⟩, hown⟩ := h
  have old : ∀ i o, w.heap[i]? = some o → w'.heap[i]? = some o := fun i o hi => (hb.block i (lt_of_block hi)).trans hi
  exact ⟨mb, ub, v, h1, h2, h3, ⟨cs, old _ _ hc, hc2⟩, ⟨n, c, old _ _ he⟩, ⟨x, y, z, old _ _ hu⟩, own_below hown hb⟩
theorem Gone.below {B : Nat} {w w' : World} {cb : Nat} (h : Gone B w cb) (hb : Below w.heap.size w w') : Gone B w' cb := by
  obtain ⟨mb, h1, h2, ⟨cs, hc, hc2⟩, ⟨c, he⟩⟩ := h
  have old : ∀ i o, w.heap[i]? = some o → w'.heap[i]? = some o := fun i o hi => (hb.block i (lt_of_block hi)).trans hi
  exact ⟨mb, h1, h2, ⟨cs, old _ _ hc, hc2⟩, ⟨c, old _ _ he⟩⟩

set_option maxHeartbeats 1000000 in
theorem newCoord_any (held outcome token : ByteArray) (A : Option Addr) (c : Nat) (L : List ByteArray) (w : World) (h : w.ownsRow 0 9 1 (.slice A L.length c) L.length (strs L)) :
    Calls Try.prog 6 #[.string held, .string outcome, .string token, .slice A L.length c] w fun e w' => ∃ cb, e = .returned (.pointer (some ⟨cb, 0, none⟩)) ∧ St w.heap.size w' cb held outcome token L ∧ Below w.heap.size w w' := by
  have HO := hid_of h
  clear h
  have hmm := @run_makeMap Try.prog
  obtain ⟨X, hX⟩ : ∃ X, X = (w.alloc (.map #[] 0)).alloc (.cells #[.string outcome, .string token, .slice A L.length c, .int .u64 0, .int .i64 0, .pointer none] 42) := ⟨_, rfl⟩
  have hm0 : X.heap[w.heap.size]? = some (.map #[] 0) := by rw [hX]; exact block_alloc (heap_alloc_new w _)
  have hu0 : X.heap[w.heap.size + 1]? = some (.cells #[.string outcome, .string token, .slice A L.length c, .int .u64 0, .int .i64 0, .pointer none] 42) := by rw [hX]; exact block_new (size_alloc' _ _)
  have hxs : X.heap.size = w.heap.size + 2 := by rw [hX]; simp
  have hxb : Below w.heap.size w X := by rw [hX]; exact ((Below.refl _ _).alloc (Nat.le_refl _) _).alloc (by simp) _
  have hrun := run_put_new (s := held) (v := .pointer (some ⟨w.heap.size + 1, 0, none⟩)) hm0
  obtain ⟨w1, hw1⟩ : ∃ w1, setBlock X w.heap.size (.map #[⟨.string held, .pointer (some ⟨w.heap.size + 1, 0, none⟩), 0⟩] (0 + 1)) = w1 := ⟨_, rfl⟩
  rw [hw1] at hrun
  have hm1 : w1.heap[w.heap.size]? = some (.map #[⟨.string held, .pointer (some ⟨w.heap.size + 1, 0, none⟩), 0⟩] (0 + 1)) := by rw [← hw1]; exact setBlock_same hm0
  have hu1 : w1.heap[w.heap.size + 1]? = some (.cells #[.string outcome, .string token, .slice A L.length c, .int .u64 0, .int .i64 0, .pointer none] 42) := by rw [← hw1, setBlock_other (by omega)]; exact hu0
  have hs1 : w1.heap.size = w.heap.size + 2 := by rw [← hw1, setBlock_size, hxs]
  have hb1 : Below w.heap.size w w1 := by rw [← hw1]; exact below_setBlock hxb (Nat.le_refl _) _
  rw [hX] at hrun
  have HM := hid_of hm1
  have HU := hid_of hu1
  have HS := hid_of hs1
  clear hm1 hu1 hs1 hw1 hm0 hu0 hxs hxb hX
  go_enter Try.func6, Try.ntmps6
  go_wp2
  go_ret
  refine ⟨_, rfl, ⟨w.heap.size, w.heap.size + 1, _, by rw [HS.out]; omega, Nat.le_refl _, by omega, ⟨_, heap_alloc_new w1 _, rfl⟩, ⟨_, _, block_alloc HM.out⟩, ⟨_, _, _, block_alloc HU.out⟩, ?_⟩, hb1.alloc hb1.size _⟩
  exact own_below (HO.out) (hb1.alloc hb1.size _)

end Go.Proofs.Qxb6629019a
