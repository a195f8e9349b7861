/- Walks: a buffered reader over no bytes. -/
import Derived.Test.YtfnncdngfggcjaaGreatDoorW15
namespace Go.Proofs.YtfnncdngfggcjaaGreatDoor
open Go.RowKit

theorem drewN_two (w : World) (a b : Nat) : (w.drewN a).drewN b = w.drewN (a + b) := by
  simp [World.drewN, Nat.add_assoc]

set_option maxRecDepth 100000 in
set_option maxHeartbeats 2000000 in
/-- (*bytes.Reader).Read at the end. -/
theorem read_end (rb : Nat) (b : Value) (ao : Option Addr) (cap : Nat) (te : TypeId) (pe : Value) (w : World) (c0 : w.cell? ⟨rb, 0, none⟩ = some (.slice ao 0 cap)) (c1 : w.cell? ⟨rb, 1, none⟩ = some (.int .i64 0)) (hg : w.cell? ⟨9, 0, none⟩ = some (.iface te pe)) :
    Calls Tryz.prog 253 #[.pointer (some ⟨rb, 0, none⟩), b] w fun e w' => e = .returned (.tuple #[.int .i64 0, .iface te pe]) ∧ ∃ n, w' = w.drewN n := by
  go_enter Tryz.func253, Tryz.ntmps253
  go_wp2_with fail
  go_quiet (fail)
  go_wp2_with fail
  go_quiet (fail)
  go_wp2_with fail
  go_ret2
  exact ⟨rfl, _, drewN_two _ _ _⟩

set_option maxRecDepth 100000 in
set_option maxHeartbeats 2000000 in
/-- (*bufio.Reader).readErr. -/
theorem readErr_any (rb : Nat) (te : TypeId) (pe : Value) (w : World) (c4 : w.cell? ⟨rb, 4, none⟩ = some (.iface te pe)) (f4 : w.frozen? ⟨rb, 4, none⟩ = false) :
    Calls Tryz.prog 168 #[.pointer (some ⟨rb, 0, none⟩)] w fun e w' => e = .returned (.iface te pe) ∧ w' = w.setCell ⟨rb, 4, none⟩ .nilIface := by
  go_enter Tryz.func168, Tryz.ntmps168
  go_wp2_with fail
  go_ret
  exact ⟨rfl, rfl⟩

/-- A bufio.Reader's cells. -/
def rd7 (buf rd : Value) (r w : Int) (err : Value) (lb lr : Int) : Array Value := #[buf, rd, .int .i64 r, .int .i64 w, err, .int .i64 lb, .int .i64 lr]

set_option maxRecDepth 100000 in
set_option maxHeartbeats 2000000 in
/-- (*bufio.Reader).reset. -/
theorem reset_any (rb bb n c : Nat) (t : TypeId) (rd : Value) (w : World) (v0 v1 v4 : Value) (z2 z3 z5 z6 : Int) (hrb : w.heap[rb]? = some (.cells #[v0, v1, .int .i64 z2, .int .i64 z3, v4, .int .i64 z5, .int .i64 z6] 252 (0, 0))) :
    Calls Tryz.prog 183 #[.pointer (some ⟨rb, 0, none⟩), (.slice (some ⟨bb, 0, none⟩) n c), (.iface t rd)] w fun e w' => e = .returned (.tuple #[]) ∧ Keep [rb] w w' ∧ w'.heap[rb]? = some (.cells (rd7 (.slice (some ⟨bb, 0, none⟩) n c) (.iface t rd) 0 0 .nilIface (-1) (-1)) 252 (0, 0)) := by
  have c0 : w.cell? ⟨rb, 0, none⟩ = some v0 := by rw [Lib.cell_of_heap hrb]; rfl
  have c1 : w.cell? ⟨rb, 1, none⟩ = some v1 := by rw [Lib.cell_of_heap hrb]; rfl
  have c2 : w.cell? ⟨rb, 2, none⟩ = some (.int .i64 z2) := by rw [Lib.cell_of_heap hrb]; rfl
  have c3 : w.cell? ⟨rb, 3, none⟩ = some (.int .i64 z3) := by rw [Lib.cell_of_heap hrb]; rfl
  have c4 : w.cell? ⟨rb, 4, none⟩ = some v4 := by rw [Lib.cell_of_heap hrb]; rfl
  have c5 : w.cell? ⟨rb, 5, none⟩ = some (.int .i64 z5) := by rw [Lib.cell_of_heap hrb]; rfl
  have c6 : w.cell? ⟨rb, 6, none⟩ = some (.int .i64 z6) := by rw [Lib.cell_of_heap hrb]; rfl
  have f0 : w.frozen? ⟨rb, 0, none⟩ = false := Lib.frozen_of_heap hrb 0
  have f1 : w.frozen? ⟨rb, 1, none⟩ = false := Lib.frozen_of_heap hrb 1
  have f2 : w.frozen? ⟨rb, 2, none⟩ = false := Lib.frozen_of_heap hrb 2
  have f3 : w.frozen? ⟨rb, 3, none⟩ = false := Lib.frozen_of_heap hrb 3
  have f4 : w.frozen? ⟨rb, 4, none⟩ = false := Lib.frozen_of_heap hrb 4
  have f5 : w.frozen? ⟨rb, 5, none⟩ = false := Lib.frozen_of_heap hrb 5
  have f6 : w.frozen? ⟨rb, 6, none⟩ = false := Lib.frozen_of_heap hrb 6
  have Hrb := Lib.hid hrb
  clear hrb
  go_enter Tryz.func183, Tryz.ntmps183
  go_wp2_with fail
  go_end0
  refine ⟨rfl, ((((((((Keep.refl [rb] w).setCell _ _ ?_).setCell _ _ ?_).setCell _ _ ?_).setCell _ _ ?_).setCell _ _ ?_).setCell _ _ ?_).setCell _ _ ?_), ?_⟩
  all_goals first | exact .inl (by simp) | skip
  have h := Hrb.out
  simp [World.setCell, Array.getElem?_modify, h, rd7]

set_option maxRecDepth 100000 in
set_option maxHeartbeats 2000000 in
/-- bytes.NewReader. -/
theorem newReader_any (ao : Option Addr) (n c : Nat) (w : World) :
    Calls Tryz.prog 241 #[.slice ao n c] w fun e w' => e = .returned (.pointer (some ⟨w.heap.size, 0, none⟩)) ∧ w' = w.alloc (.cells #[.slice ao n c, .int .i64 0, .int .i64 (-1)] 318) := by
  go_enter Tryz.func241, Tryz.ntmps241
  go_wp2_with fail
  go_ret
  exact ⟨rfl, rfl⟩

theorem assert170 (p : Value) (w : World) : (Instr.typeAssert (.iface 315 p) 151 170 true).run Tryz.prog w = .ok (.tuple #[.iface 315 p, .bool true]) w := by kernel_rfl
set_option maxRecDepth 100000 in
set_option maxHeartbeats 2000000 in
/-- io.NopCloser of a *bytes.Reader. -/
theorem nopCloser_any (p : Value) (w : World) :
    Calls Tryz.prog 86 #[.iface 315 p] w fun e w' => e = .returned (.iface 173 (.agg #[.iface 315 p])) ∧ w' = w := by
  have h := assert170 p
  go_enter Tryz.func86, Tryz.ntmps86
  go_wp2_with fail
  go_ret
  exact ⟨rfl, rfl⟩

set_option maxRecDepth 100000 in
set_option maxHeartbeats 2000000 in
/-- (io.nopCloserWriterTo).Close. -/
theorem close_any (v : Value) (w : World) :
    Calls Tryz.prog 243 #[.agg #[.iface 315 v]] w fun e w' => e = .returned .nilIface ∧ w' = w.alloc (.cells #[.iface 315 v] 173) := by
  go_enter Tryz.func243, Tryz.ntmps243
  go_wp2_with fail
  go_ret
  exact ⟨rfl, rfl⟩
end Go.Proofs.YtfnncdngfggcjaaGreatDoor
