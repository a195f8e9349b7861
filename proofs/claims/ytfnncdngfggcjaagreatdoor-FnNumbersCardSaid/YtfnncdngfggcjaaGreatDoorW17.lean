/- Walks: a buffered reader over no bytes: fill. -/
import Derived.Test.YtfnncdngfggcjaaGreatDoorW16
namespace Go.Proofs.YtfnncdngfggcjaaGreatDoor
open Go.RowKit

theorem Keep.drewN {S : List Nat} {a w : World} (h : Keep S a w) (n : Nat) : Keep S a (w.drewN n) := ⟨h.os, h.tape, h.output, h.size, h.block⟩
theorem cells_ne {w : World} {a b : Nat} {ca cb : Array Value} {ta tb : TypeId} {fa fb : Nat × Nat} (ha : w.heap[a]? = some (.cells ca ta fa)) (hb : w.heap[b]? = some (.cells cb tb fb)) (h : ta ≠ tb) : a ≠ b := by
  rintro rfl
  rw [ha] at hb
  injection hb with hb
  injection hb with _ ht
  exact h ht

/-- The buffered reader over a reader of no bytes. -/
structure RdAt (w : World) (rb bb r0 : Nat) (err : Value) : Prop where
  rd : w.heap[rb]? = some (.cells (rd7 (.slice (some ⟨bb, 0, none⟩) 4096 4096) (.iface 173 (.agg #[.iface 315 (.pointer (some ⟨r0, 0, none⟩))])) 0 0 err (-1) (-1)) 252 (0, 0))
  src : ∃ ao cap, w.heap[r0]? = some (.cells #[.slice ao 0 cap, .int .i64 0, .int .i64 (-1)] 318 (0, 0))
theorem RdAt.keep {S : List Nat} {w w' : World} {rb bb r0 : Nat} {err : Value} (h : RdAt w rb bb r0 err) (hk : Keep S w w') (h1 : rb ∉ S) (h2 : r0 ∉ S) : RdAt w' rb bb r0 err := by
  obtain ⟨hr, ao, cap, hs⟩ := h
  exact ⟨hk.heap hr h1, ao, cap, hk.heap hs h2⟩

theorem read_end_q (rb : Nat) (b : Value) (ao : Option Addr) (cap : Nat) (te : TypeId) (pe : Value) (w : World) (n m : Nat) (c0 : w.cell? ⟨rb, 0, none⟩ = some (.slice ao 0 cap)) (c1 : w.cell? ⟨rb, 1, none⟩ = some (.int .i64 0)) (hg : w.cell? ⟨9, 0, none⟩ = some (.iface te pe)) :
    Calls Tryz.prog 253 #[.pointer (some ⟨rb, 0, none⟩), b] (w.drewN (n + m)) fun e w'' => e = .returned (.tuple #[.int .i64 0, .iface te pe]) ∧ ∃ k, w'' = w.drewN (n + k) :=
  (read_end rb b ao cap te pe (w.drewN (n + m)) c0 c1 hg).mono fun _ _ ⟨he, k, hk⟩ => ⟨he, m + k, by rw [hk, drewN_two, Nat.add_assoc]⟩

theorem meth_read (n : Nat) (p : Value) (w : World) : (method (n + 2) 173 (.agg #[.iface 315 p]) "Read").run Tryz.prog w = .ok (253, p) w := by kernel_rfl

set_option maxRecDepth 100000 in
set_option maxHeartbeats 2000000 in
/-- (*bufio.Reader).fill at the end of what is read. -/
theorem fill_end (rb bb r0 : Nat) (a b : Addr) (w : World) (hr : RdAt w rb bb r0 .nilIface) (hs : Sents w a b) :
    Calls Tryz.prog 167 #[.pointer (some ⟨rb, 0, none⟩)] w fun e w' => e = .returned (.tuple #[]) ∧ Keep [rb] w w' ∧ RdAt w' rb bb r0 (.iface 135 (.pointer (some a))) := by
  obtain ⟨hrd, ao, cap, hsrc⟩ := hr
  have c0 : w.cell? ⟨rb, 0, none⟩ = some (.slice (some ⟨bb, 0, none⟩) 4096 4096) := by rw [Lib.cell_of_heap hrd]; rfl
  have c1 : w.cell? ⟨rb, 1, none⟩ = some (.iface 173 (.agg #[.iface 315 (.pointer (some ⟨r0, 0, none⟩))])) := by rw [Lib.cell_of_heap hrd]; rfl
  have c2 : w.cell? ⟨rb, 2, none⟩ = some (.int .i64 0) := by rw [Lib.cell_of_heap hrd]; rfl
  have c3 : w.cell? ⟨rb, 3, none⟩ = some (.int .i64 0) := by rw [Lib.cell_of_heap hrd]; rfl
  have c4 : w.cell? ⟨rb, 4, none⟩ = some .nilIface := by rw [Lib.cell_of_heap hrd]; rfl
  have f3 : w.frozen? ⟨rb, 3, none⟩ = false := Lib.frozen_of_heap hrd 3
  have f4 : w.frozen? ⟨rb, 4, none⟩ = false := Lib.frozen_of_heap hrd 4
  have s0 : w.cell? ⟨r0, 0, none⟩ = some (.slice ao 0 cap) := by rw [Lib.cell_of_heap hsrc]; rfl
  have s1 : w.cell? ⟨r0, 1, none⟩ = some (.int .i64 0) := by rw [Lib.cell_of_heap hsrc]; rfl
  have g9 : w.cell? ⟨9, 0, none⟩ = some (.iface 135 (.pointer (some a))) := hs.2.2.2.1
  have hne := cells_ne hsrc hrd (by decide)
  have Hrd := Lib.hid hrd
  have Hsrc := Lib.hid hsrc
  have Hs := Lib.hid hs
  clear hrd hsrc hs
  go_enter Tryz.func167, Tryz.ntmps167
  go_wp2_with fail
  go_quiet (fail)
  go_wp2_with fail
  refine wp_loop_once ?_
  go_wp2_with fail
  have hm := meth_read
  go_quiet ((go_at_call 253; exact read_end_q r0 _ ao cap _ _ _ _ _ s0 s1 g9))
  go_wp2_with fail
  refine bodyPost_ret (results_none rfl _ _ _) rfl ?_
  have hh := Hrd.out
  refine ⟨rfl, (((((Keep.refl [rb] w).drewN _).setCell _ _ (.inl (by simp))).setCell _ _ (.inl (by simp)))), ?_, ao, cap, ?_⟩
  · simp [World.setCell, Array.getElem?_modify, hh, rd7]
  · rw [Below.heap_setCell _ _ _ _ hne, Below.heap_setCell _ _ _ _ hne]
    exact Hsrc.out
end Go.Proofs.YtfnncdngfggcjaaGreatDoor
