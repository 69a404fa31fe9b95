/-
  A map of at most one entry, keyed by a string: what a look-up, a store, a delete and a count do to it.
-/
import Derived.Test.Qxb6629019aRows
import Derived.WalkKit
import Derived.WalkSpells
import Derived.Maps.OwnSet
namespace Go.Proofs.Qxb6629019a
open Go.RowKit Go.ChangeMaps

theorem hid_of {p : Prop} (h : p) : Hid p := h

theorem run_check (em : Bool) (n : Nat) (s : ByteArray) (w : World) : (Instr.checkKey em (n + 1) 9 (.string s)).run Try.prog w = .ok () w := by
  simp [Instr.checkKey, run_underlying (P := Try.prog) (w := w) Try.underlying9]

section
variable {w : World} {b n c : Nat} {s s' : ByteArray} {v : Value}

theorem run_look_one (hb : w.heap[b]? = some (.map #[⟨.string s, v, n⟩] c)) :
    (Instr.lookup 43 (.map (some b)) (.string s') true).run Try.prog w = .ok (.tuple #[if s' == s then v else .pointer none, .bool (s' == s)]) w := by
  have hu := run_underlying (P := Try.prog) (w := w) Try.underlying43
  have hk := run_underlying (P := Try.prog) (w := w) Try.underlying9
  have hg := Go.MapKept.run_getObj_map (P := Try.prog) hb
  have hc : (Instr.checkKey false 10000 9 (.string s')).run Try.prog w = .ok () w := run_check false 9999 s' w
  cases h : (s' == s) with
  | true =>
    have hf : (Instr.findKey 9 (.string s') [⟨.string s, v, n⟩]).run Try.prog w = .ok (some (0, v)) w := by
      simp [Instr.findKey, hk, Instr.findNow, Instr.sameNow, h]
    simp [Instr.lookup, hu, hg, hc, hf]
  | false =>
    have hf : (Instr.findKey 9 (.string s') [⟨.string s, v, n⟩]).run Try.prog w = .ok none w := by
      simp [Instr.findKey, hk, Instr.findNow, Instr.sameNow, h]
    simp [Instr.lookup, hu, hg, hc, hf]

theorem run_look_none (hb : w.heap[b]? = some (.map #[] c)) :
    (Instr.lookup 43 (.map (some b)) (.string s') true).run Try.prog w = .ok (.tuple #[.pointer none, .bool false]) w := by
  have hu := run_underlying (P := Try.prog) (w := w) Try.underlying43
  have hk := run_underlying (P := Try.prog) (w := w) Try.underlying9
  have hg := Go.MapKept.run_getObj_map (P := Try.prog) hb
  have hc : (Instr.checkKey true 10000 9 (.string s')).run Try.prog w = .ok () w := run_check true 9999 s' w
  have hf : (Instr.findKey 9 (.string s') []).run Try.prog w = .ok none w := by
    simp [Instr.findKey, hk, Instr.findNow]
  simp [Instr.lookup, hu, hg, hc, hf]

theorem run_put_new (hb : w.heap[b]? = some (.map #[] c)) :
    (Instr.mapUpdate 43 (.map (some b)) (.string s) v).run Try.prog w = .ok () (setBlock w b (.map #[⟨.string s, v, c⟩] (c + 1))) := by
  have hu := run_underlying (P := Try.prog) (w := w) Try.underlying43
  have hk := run_underlying (P := Try.prog) (w := w) Try.underlying9
  have hg := Go.MapKept.run_getObj_map (P := Try.prog) hb
  have hc : (Instr.checkKey false 10000 9 (.string s)).run Try.prog w = .ok () w := run_check false 9999 s w
  have hf : (Instr.findKey 9 (.string s) []).run Try.prog w = .ok none w := by
    simp [Instr.findKey, hk, Instr.findNow]
  have hs := fun o => Go.MapKept.run_setObj_map (P := Try.prog) o hb
  simp [Instr.mapUpdate, hu, hg, hc, hf, hs, setBlock]

theorem run_drop_one (hb : w.heap[b]? = some (.map #[⟨.string s, v, n⟩] c)) (ty : TypeId) :
    (Builtin.delete_ #[43, 9] ty #[.map (some b), .string s]).run Try.prog w = .ok (.tuple #[]) (setBlock w b (.map #[] c)) := by
  have hu := run_underlying (P := Try.prog) (w := w) Try.underlying43
  have hk := run_underlying (P := Try.prog) (w := w) Try.underlying9
  have hg := Go.MapKept.run_getObj_map (P := Try.prog) hb
  have hc : (Instr.checkKey false 10000 9 (.string s)).run Try.prog w = .ok () w := run_check false 9999 s w
  have hf : (Instr.findKey 9 (.string s) [⟨.string s, v, n⟩]).run Try.prog w = .ok (some (0, v)) w := by
    simp [Instr.findKey, hk, Instr.findNow, Instr.sameNow, (Go.MapKept.bytes_beq s s).2 rfl]
  have hs := fun o => Go.MapKept.run_setObj_map (P := Try.prog) o hb
  simp [Builtin.delete_, hu, hg, hc, hf, hs, setBlock]

theorem run_len_map {es : Array MapEntry} (hb : w.heap[b]? = some (.map es c)) (ty : TypeId) : (Builtin.len_ #[43] ty #[.map (some b)]).run Try.prog w = .ok (.int .i64 es.size) w := by
  simp [Builtin.len_, run_underlying (P := Try.prog) (w := w) Try.underlying43, Go.MapKept.run_getObj_map hb, goInt, Result.andThen]

variable {ops : Array Oper} {rest : List Oper} {o : Oper} {a : Act} {Q : Exit → Act → World → Prop}

theorem wpList_drop_one (hg : o.guard = none) (m x : Operand) (hop : o.op = Op.call { callee := Callee.builtin Builtin.delete, args := #[m, x], argTypes := #[43, 9] })
    (hm : a.eval m = .map (some b)) (hx : a.eval x = .string s) (hb : w.heap[b]? = some (.map #[⟨.string s, v, n⟩] c))
    (hK : wpList Try.prog ops Q rest (a.put o.dst (.tuple #[])) (setBlock w b (.map #[] c))) : wpList Try.prog ops Q (o :: rest) a w := by
  refine wpList_plain hg fun K' hK' => ?_
  unfold Oper.wp
  simp [execOp, hop, resolve, invoke, builtin, hm, hx, run_drop_one hb o.type, Result.andThen]
  exact hK' _ _ hK

theorem wpList_len_map (hg : o.guard = none) (m : Operand) (hop : o.op = Op.call { callee := Callee.builtin Builtin.len, args := #[m], argTypes := #[43] }) {es : Array MapEntry}
    (hm : a.eval m = .map (some b)) (hb : w.heap[b]? = some (.map es c))
    (hK : wpList Try.prog ops Q rest (a.put o.dst (.int .i64 es.size)) w) : wpList Try.prog ops Q (o :: rest) a w := by
  refine wpList_plain hg fun K' hK' => ?_
  unfold Oper.wp
  simp [execOp, hop, resolve, invoke, builtin, hm, run_len_map hb o.type, Result.andThen]
  exact hK' _ _ hK

theorem below_setBlock {B : Nat} {w0 : World} (h : Below B w0 w) (hB : B ≤ b) (o : Obj) : Below B w0 (setBlock w b o) :=
  h.trans ⟨rfl, rfl, rfl, by simp [setBlock], fun k hk => by simp [setBlock, Array.getElem?_setIfInBounds]; omega⟩
theorem setBlock_same {o o' : Obj} (hb : w.heap[b]? = some o) : (setBlock w b o').heap[b]? = some o' := (Go.MapKept.heap_set hb).1
theorem setBlock_other {i : Nat} {o : Obj} (h : i ≠ b) : (setBlock w b o).heap[i]? = w.heap[i]? := by simp [setBlock, Ne.symm h]
theorem setBlock_size (o : Obj) : (setBlock w b o).heap.size = w.heap.size := by simp [setBlock]
end

end Go.Proofs.Qxb6629019a
