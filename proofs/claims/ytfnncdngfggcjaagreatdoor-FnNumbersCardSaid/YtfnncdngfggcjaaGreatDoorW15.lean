/- What a call keeps of the memory; laws at maps, at the sentinels; walks: a reader of no bytes. -/
import Derived.Test.YtfnncdngfggcjaaGreatDoorW14
import Derived.BigQuiet
import Derived.BigRegion
import Derived.LaidEql
import Derived.Deep.RegionWith
import Derived.Maps.OwnOps
namespace Go.Proofs.YtfnncdngfggcjaaGreatDoor
open Go.RowKit

/-- Every old block but those of S stands. -/
structure Keep (S : List Nat) (w w' : World) : Prop where
  os : w'.os = w.os
  tape : w'.tape = w.tape
  output : w'.output = w.output
  size : w.heap.size ≤ w'.heap.size
  block : ∀ k, k < w.heap.size → k ∉ S → w'.heap[k]? = w.heap[k]?

namespace Keep
theorem refl (S : List Nat) (w : World) : Keep S w w := ⟨rfl, rfl, rfl, Nat.le_refl _, fun _ _ _ => rfl⟩
theorem trans {S : List Nat} {a b c : World} (h : Keep S a b) (k : Keep S b c) : Keep S a c :=
  ⟨k.os.trans h.os, k.tape.trans h.tape, k.output.trans h.output, Nat.le_trans h.size k.size, fun i hi hs => (k.block i (Nat.lt_of_lt_of_le hi h.size) hs).trans (h.block i hi hs)⟩
theorem mono {S T : List Nat} {a b : World} (h : Keep S a b) (hs : ∀ k, k < a.heap.size → k ∈ S → k ∈ T) : Keep T a b :=
  ⟨h.os, h.tape, h.output, h.size, fun i hi hn => h.block i hi fun hm => hn (hs i hi hm)⟩
theorem drew {S : List Nat} {a w : World} (h : Keep S a w) : Keep S a w.drew := ⟨h.os, h.tape, h.output, h.size, h.block⟩
theorem alloc {S : List Nat} {a w : World} (h : Keep S a w) (o : Obj) : Keep S a (w.alloc o) :=
  ⟨h.os, h.tape, h.output, by have := h.size; simp; omega, fun k hk hs => (Lib.alloc_old w o k (Nat.lt_of_lt_of_le hk h.size)).trans (h.block k hk hs)⟩
theorem setCell {S : List Nat} {a w : World} (h : Keep S a w) (p : Addr) (v : Value) (hp : p.block ∈ S ∨ a.heap.size ≤ p.block) : Keep S a (w.setCell p v) :=
  ⟨h.os, h.tape, h.output, by have := h.size; simpa [World.setCell] using this, fun k hk hs => by
    rw [Below.heap_setCell _ _ _ _ (by rintro rfl; rcases hp with hp | hp; exact hs hp; omega)]
    exact h.block k hk hs⟩
theorem grown {S : List Nat} {a w w' : World} {row : Option Nat} (h : Keep S a w) (hg : w.grownBy w' row) (hr : ∀ k, row = some k → k ∈ S ∨ a.heap.size ≤ k) : Keep S a w' :=
  ⟨hg.os.trans h.os, hg.tape.trans h.tape, hg.output.trans h.output, Nat.le_trans h.size hg.size, fun k hk hs => by
    rw [hg.block k (Nat.lt_of_lt_of_le hk h.size) (fun e => by rcases hr k e.symm with h' | h'; exact hs h'; omega)]
    exact h.block k hk hs⟩
theorem of_below {S : List Nat} {a w w' : World} (h : Keep S a w) {B : Nat} (hb : Below B w w') (hB : w.heap.size ≤ B) : Keep S a w' :=
  ⟨hb.os.trans h.os, hb.tape.trans h.tape, hb.output.trans h.output, Nat.le_trans h.size hb.size, fun k hk hs => (hb.block k (by have := h.size; omega)).trans (h.block k hk hs)⟩
theorem below {S : List Nat} {a b : World} (h : Keep S a b) {B : Nat} (hB : B ≤ a.heap.size) (hs : ∀ k ∈ S, B ≤ k) : Below B a b :=
  ⟨h.os, h.tape, h.output, h.size, fun k hk => h.block k (by omega) fun hm => by have := hs k hm; omega⟩
theorem heap {S : List Nat} {a b : World} (h : Keep S a b) {k : Nat} {o : Obj} (hk : a.heap[k]? = some o) (hs : k ∉ S) : b.heap[k]? = some o :=
  (h.block k (Array.getElem?_eq_some_iff.1 hk).1 hs).trans hk
theorem cell {S : List Nat} {a b : World} (h : Keep S a b) {p : Addr} {v : Value} (hk : a.cell? p = some v) (hs : p.block ∉ S) : b.cell? p = some v :=
  (World.cell?_of_block (w := a) (h.block p.block (World.block_lt_of_cell? _ _ hk) hs)).trans hk
end Keep

/-- A block set anew. -/
def putAt (w : World) (b : Nat) (o : Obj) : World := { w with heap := w.heap.setIfInBounds b o }
theorem putAt_size (w : World) (b : Nat) (o : Obj) : (putAt w b o).heap.size = w.heap.size := by simp [putAt]
theorem putAt_same (w : World) (b : Nat) (o : Obj) (h : b < w.heap.size) : (putAt w b o).heap[b]? = some o := by simp [putAt, h]
theorem putAt_other (w : World) (b : Nat) (o : Obj) (k : Nat) (h : k ≠ b) : (putAt w b o).heap[k]? = w.heap[k]? := by
  simp [putAt, Ne.symm h]
theorem Keep.putAt {S : List Nat} {a w : World} (h : Keep S a w) (b : Nat) (o : Obj) (hp : b ∈ S ∨ a.heap.size ≤ b) : Keep S a (putAt w b o) :=
  ⟨h.os, h.tape, h.output, by have := h.size; rw [putAt_size]; exact this, fun k hk hs => by
    rw [putAt_other _ _ _ _ (by rintro rfl; rcases hp with hp | hp; exact hs hp; omega)]
    exact h.block k hk hs⟩

/-! ### Maps with strings as keys -/
section
variable {P : Program}
theorem run_checkKey_str (w : World) (b : Bool) (n : Nat) (k : TypeId) (s : ByteArray) (hk : P.underlying k = some .string) : (Instr.checkKey b (n + 1) k (.string s)).run P w = .ok () w := by
  simp [Instr.checkKey, run_underlying hk]

theorem run_look_miss (w : World) (t k e : TypeId) (b : Nat) (es : Array MapEntry) (clock : Nat) (s : ByteArray) (z : Value) (ht : P.underlying t = some (.map k e)) (hk : P.underlying k = some .string)
    (hz : (zeroValue e).run P w = .ok z w) (hb : w.heap[b]? = some (.map es clock)) (hf : Instr.findNow .string (.string s) es.toList 0 = some none) :
    (Instr.lookup t (.map (some b)) (.string s) false).run P w = .ok z w := by
  simp [Instr.lookup, run_underlying ht, MapKept.run_getObj_map hb, run_checkKey_str w _ 9999 k s hk, Instr.findKey, run_underlying hk, hf, hz, Result.andThen]

theorem run_look_hit (w : World) (t k e : TypeId) (b : Nat) (es : Array MapEntry) (clock : Nat) (s : ByteArray) (j : Nat) (z : Value) (ht : P.underlying t = some (.map k e)) (hk : P.underlying k = some .string)
    (hb : w.heap[b]? = some (.map es clock)) (hf : Instr.findNow .string (.string s) es.toList 0 = some (some (j, z))) :
    (Instr.lookup t (.map (some b)) (.string s) false).run P w = .ok z w := by
  simp [Instr.lookup, run_underlying ht, MapKept.run_getObj_map hb, run_checkKey_str w _ 9999 k s hk, Instr.findKey, run_underlying hk, hf, Result.andThen]

theorem run_upd_new (w : World) (t k e : TypeId) (b : Nat) (es : Array MapEntry) (clock : Nat) (s : ByteArray) (v : Value) (ht : P.underlying t = some (.map k e)) (hk : P.underlying k = some .string)
    (hb : w.heap[b]? = some (.map es clock)) (hf : Instr.findNow .string (.string s) es.toList 0 = some none) :
    (Instr.mapUpdate t (.map (some b)) (.string s) v).run P w = .ok () (putAt w b (.map (es.push { key := .string s, val := v, born := clock }) (clock + 1))) := by
  simp [Instr.mapUpdate, run_underlying ht, MapKept.run_getObj_map hb, run_checkKey_str w _ 9999 k s hk, Instr.findKey, run_underlying hk, hf, MapKept.run_setObj_map _ hb, Result.andThen, putAt]

theorem wpList_look_miss (w : World) {ops : Array Oper} {rest : List Oper} {o : Oper} {a : Act} {Q : Exit → Act → World → Prop}
    (hg : o.guard = none) (m x : Operand) (t : TypeId) (hop : o.op = Op.lookup t m x false) (k e : TypeId) (b : Nat) (es : Array MapEntry) (clock : Nat) (s : ByteArray) (z : Value)
    (ht : P.underlying t = some (.map k e)) (hk : P.underlying k = some .string) (hm : a.eval m = .map (some b)) (hx : a.eval x = .string s)
    (hz : (zeroValue e).run P w = .ok z w) (hb : w.heap[b]? = some (.map es clock)) (hf : Instr.findNow .string (.string s) es.toList 0 = some none)
    (hK : wpList P ops Q rest (a.put o.dst z) w) : wpList P ops Q (o :: rest) a w := by
  refine wpList_plain hg fun K' hK' => ?_
  have hrun := run_look_miss w t k e b es clock s z ht hk hz hb hf
  unfold Oper.wp
  simp [execOp, hop, hm, hx, hrun, Result.andThen]
  exact hK' _ _ hK

theorem wpList_look_hit (w : World) {ops : Array Oper} {rest : List Oper} {o : Oper} {a : Act} {Q : Exit → Act → World → Prop}
    (hg : o.guard = none) (m x : Operand) (t : TypeId) (hop : o.op = Op.lookup t m x false) (k e : TypeId) (b : Nat) (es : Array MapEntry) (clock : Nat) (s : ByteArray) (j : Nat) (z : Value)
    (ht : P.underlying t = some (.map k e)) (hk : P.underlying k = some .string) (hm : a.eval m = .map (some b)) (hx : a.eval x = .string s)
    (hb : w.heap[b]? = some (.map es clock)) (hf : Instr.findNow .string (.string s) es.toList 0 = some (some (j, z)))
    (hK : wpList P ops Q rest (a.put o.dst z) w) : wpList P ops Q (o :: rest) a w := by
  refine wpList_plain hg fun K' hK' => ?_
  have hrun := run_look_hit w t k e b es clock s j z ht hk hb hf
  unfold Oper.wp
  simp [execOp, hop, hm, hx, hrun, Result.andThen]
  exact hK' _ _ hK

theorem wpList_upd_new (w : World) {ops : Array Oper} {rest : List Oper} {o : Oper} {a : Act} {Q : Exit → Act → World → Prop}
    (hg : o.guard = none) (m x v : Operand) (t : TypeId) (hop : o.op = Op.mapUpdate t m x v) (k e : TypeId) (b : Nat) (es : Array MapEntry) (clock : Nat) (s : ByteArray) (val : Value)
    (ht : P.underlying t = some (.map k e)) (hk : P.underlying k = some .string) (hm : a.eval m = .map (some b)) (hx : a.eval x = .string s) (hv : a.eval v = val)
    (hb : w.heap[b]? = some (.map es clock)) (hf : Instr.findNow .string (.string s) es.toList 0 = some none)
    (hK : wpList P ops Q rest (a.put o.dst undef) (putAt w b (.map (es.push { key := .string s, val := val, born := clock }) (clock + 1)))) : wpList P ops Q (o :: rest) a w := by
  refine wpList_plain hg fun K' hK' => ?_
  have hrun := run_upd_new w t k e b es clock s val ht hk hb hf
  unfold Oper.wp
  simp [execOp, hop, hm, hx, hv, hrun, Result.andThen]
  exact hK' _ _ hK
end

/-! ### The two sentinels -/
/-- io.EOF and bufio.ErrBufferFull: two errors apart. -/
def Sents (w : World) (a b : Addr) : Prop :=
  11 < w.heap.size ∧ a.block < w.heap.size ∧ b.block < w.heap.size ∧ w.cell? ⟨9, 0, none⟩ = some (.iface 135 (.pointer (some a))) ∧ w.cell? ⟨11, 0, none⟩ = some (.iface 135 (.pointer (some b))) ∧ a ≠ b ∧
    (∃ ca ta, w.heap[a.block]? = some (.cells ca ta (0, 0))) ∧ ∃ cb tb, w.heap[b.block]? = some (.cells cb tb (0, 0))
theorem Sents.below {w w' : World} {a b : Addr} (h : Sents w a b) {B : Nat} (hb : Below B w w') (hB : w.heap.size ≤ B) : Sents w' a b := by
  obtain ⟨h1, h2, h3, h4, h5, h6, ⟨ca, ta, h7⟩, cb, tb, h8⟩ := h
  exact ⟨Nat.lt_of_lt_of_le h1 hb.size, Nat.lt_of_lt_of_le h2 hb.size, Nat.lt_of_lt_of_le h3 hb.size, (hb.cell (show 9 < B by omega)).trans h4, (hb.cell (show 11 < B by omega)).trans h5, h6,
    ⟨ca, ta, (hb.block _ (by omega)).trans h7⟩, cb, tb, (hb.block _ (by omega)).trans h8⟩

theorem ptr135 : (Tryz.prog.info? 135).map (fun i => i.comparable) = some true := by kernel_rfl
theorem ptr137 : (Tryz.prog.info? 137).map (fun i => i.size) = some 1 := by kernel_rfl
theorem eof_eql (w : World) (a : Addr) : (binOp .eql 65 (.iface 135 (.pointer (some a))) (.iface 135 (.pointer (some a)))).run Tryz.prog w = .ok (.bool true) w := by
  obtain ⟨i, hi, hc⟩ := Option.map_eq_some_iff.1 ptr135
  obtain ⟨j, hj, _⟩ := Option.map_eq_some_iff.1 ptr137
  exact run_eql_iface_ptr_same w a Tryz.underlying65 Tryz.underlying135 hi hc hj
theorem eof_neq (w : World) (a : Addr) : (binOp .neq 65 (.iface 135 (.pointer (some a))) (.iface 135 (.pointer (some a)))).run Tryz.prog w = .ok (.bool false) w := by
  obtain ⟨i, hi, hc⟩ := Option.map_eq_some_iff.1 ptr135
  obtain ⟨j, hj, _⟩ := Option.map_eq_some_iff.1 ptr137
  simp only [binOp]
  simp [Op.equal, Op.maxDepth, run_equalIn_iface_ptr_same w 9998 a Tryz.underlying65 Tryz.underlying135 hi hc hj]
theorem full_neq (w : World) (a b : Addr) (h : Sents w a b) : (binOp .neq 65 (.iface 135 (.pointer (some a))) (.iface 135 (.pointer (some b)))).run Tryz.prog w = .ok (.bool true) w := by
  obtain ⟨_, _, _, _, _, h6, ⟨ca, ta, h7⟩, cb, tb, h8⟩ := h
  obtain ⟨i, hi, hc⟩ := Option.map_eq_some_iff.1 ptr135
  obtain ⟨j, hj, hs⟩ := Option.map_eq_some_iff.1 ptr137
  simp only [binOp]
  simp [Op.equal, Op.maxDepth, run_equalIn_iface_ptr_other w 9998 Tryz.underlying65 Tryz.underlying135 hi hc hj (by rw [hs]; decide) h6 h7 h8]
end Go.Proofs.YtfnncdngfggcjaaGreatDoor
