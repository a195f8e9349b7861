/- Walks: a buffered reader over no bytes: Peek, the mark of an order of bytes. -/
import Derived.Test.YtfnncdngfggcjaaGreatDoorW17
namespace Go.Proofs.YtfnncdngfggcjaaGreatDoor
open Go.RowKit

/-- The blocks of S are none of what the sentinels stand in. -/
def Off (a b : Addr) (S : List Nat) : Prop := ∀ k ∈ S, 11 < k ∧ a.block ≠ k ∧ b.block ≠ k
theorem Sents.keep {S : List Nat} {w w' : World} {a b : Addr} (h : Sents w a b) (hk : Keep S w w') (ho : Off a b S) : Sents w' a b := by
  obtain ⟨h1, h2, h3, h4, h5, h6, ⟨ca, ta, h7⟩, cb, tb, h8⟩ := h
  have n9 : (9 : Nat) ∉ S := fun hm => by have := (ho 9 hm).1; omega
  have n11 : (11 : Nat) ∉ S := fun hm => by have := (ho 11 hm).1; omega
  have na : a.block ∉ S := fun hm => (ho _ hm).2.1 rfl
  have nb : b.block ∉ S := fun hm => (ho _ hm).2.2 rfl
  exact ⟨Nat.lt_of_lt_of_le h1 hk.size, Nat.lt_of_lt_of_le h2 hk.size, Nat.lt_of_lt_of_le h3 hk.size, hk.cell h4 n9, hk.cell h5 n11, h6, ⟨ca, ta, hk.heap h7 na⟩, cb, tb, hk.heap h8 nb⟩

theorem RdAt.cells {w : World} {rb bb r0 : Nat} {err : Value} (h : RdAt w rb bb r0 err) : w.cell? ⟨rb, 0, none⟩ = some (.slice (some ⟨bb, 0, none⟩) 4096 4096) ∧ w.cell? ⟨rb, 2, none⟩ = some (.int .i64 0) ∧ w.cell? ⟨rb, 3, none⟩ = some (.int .i64 0) ∧
    w.cell? ⟨rb, 4, none⟩ = some err ∧ w.cell? ⟨rb, 5, none⟩ = some (.int .i64 (-1)) ∧ w.cell? ⟨rb, 6, none⟩ = some (.int .i64 (-1)) ∧ w.frozen? ⟨rb, 2, none⟩ = false ∧ w.frozen? ⟨rb, 4, none⟩ = false ∧ w.frozen? ⟨rb, 5, none⟩ = false ∧ w.frozen? ⟨rb, 6, none⟩ = false :=
  ⟨by rw [Lib.cell_of_heap h.rd]; rfl, by rw [Lib.cell_of_heap h.rd]; rfl, by rw [Lib.cell_of_heap h.rd]; rfl, by rw [Lib.cell_of_heap h.rd]; rfl, by rw [Lib.cell_of_heap h.rd]; rfl, by rw [Lib.cell_of_heap h.rd]; rfl,
    Lib.frozen_of_heap h.rd 2, Lib.frozen_of_heap h.rd 4, Lib.frozen_of_heap h.rd 5, Lib.frozen_of_heap h.rd 6⟩
theorem RdAt.ne {w : World} {rb bb r0 : Nat} {err : Value} (h : RdAt w rb bb r0 err) : r0 ≠ rb := by
  obtain ⟨ao, cap, h'⟩ := h.src
  exact cells_ne h' h.rd (by decide)
theorem RdAt.set {w : World} {rb bb r0 : Nat} {err : Value} (h : RdAt w rb bb r0 err) (i : Nat) (v : Value) (hv : w.cell? ⟨rb, i, none⟩ = some v) : RdAt (w.setCell ⟨rb, i, none⟩ v) rb bb r0 err ∧ Keep [rb] w (w.setCell ⟨rb, i, none⟩ v) := by
  have hne := h.ne
  obtain ⟨hr, ao, cap, hs⟩ := h
  refine ⟨⟨?_, ao, cap, ?_⟩, (Keep.refl _ _).setCell _ _ (.inl (by simp))⟩
  · rw [Lib.cell_of_heap hr] at hv
    simp only [World.setCell, Array.getElem?_modify, hr]
    simp
    obtain ⟨h1, h2⟩ := Array.getElem?_eq_some_iff.1 hv
    apply Array.ext
    · simp
    · intro j hj1 hj2
      simp only [Array.getElem_setIfInBounds hj2]
      split
      · rename_i e; subst e; exact h2.symm
      · rfl
  · rw [Below.heap_setCell _ _ _ _ hne]
    exact hs
theorem RdAt.err {w : World} {rb bb r0 : Nat} {err : Value} (h : RdAt w rb bb r0 err) (v : Value) : RdAt (w.setCell ⟨rb, 4, none⟩ v) rb bb r0 v ∧ Keep [rb] w (w.setCell ⟨rb, 4, none⟩ v) := by
  have hne := h.ne
  obtain ⟨hr, ao, cap, hs⟩ := h
  refine ⟨⟨?_, ao, cap, ?_⟩, (Keep.refl _ _).setCell _ _ (.inl (by simp))⟩
  · simp [World.setCell, Array.getElem?_modify, hr, rd7]
  · rw [Below.heap_setCell _ _ _ _ hne]
    exact hs

set_option maxRecDepth 100000 in
set_option maxHeartbeats 2000000 in
/-- (*bufio.Reader).Peek of two bytes where there are none. -/
theorem peek_end (rb bb r0 : Nat) (a b : Addr) (w : World) (hr : RdAt w rb bb r0 .nilIface) (hs : Sents w a b) (ho : Off a b [rb]) :
    Calls Tryz.prog 137 #[.pointer (some ⟨rb, 0, none⟩), .int .i64 2] w fun e w' => e = .returned (.tuple #[.slice (some ⟨bb, 0, none⟩) 0 4096, .iface 135 (.pointer (some a))]) ∧ Keep [rb] w w' ∧ RdAt w' rb bb r0 .nilIface := by
  obtain ⟨c0, c2, c3, c4, c5, c6, f2, f4, f5, f6⟩ := hr.cells
  have Hr := Lib.hid hr
  have Hs := Lib.hid hs
  have Ho := Lib.hid ho
  clear hr hs ho
  go_enter Tryz.func137, Tryz.ntmps137
  go_wp2_with fail
  obtain ⟨hr1, hk1⟩ := Hr.out.set 5 _ c5
  obtain ⟨hr2, hk2⟩ := hr1.set 6 _ hr1.cells.2.2.2.2.2.1
  have hk2 := hk1.trans hk2
  clear hr1 hk1 c0 c2 c3 c4 c5 c6 f2 f4 f5 f6
  generalize (w.setCell ⟨rb, 5, none⟩ (.int .i64 (-1))).setCell ⟨rb, 6, none⟩ (.int .i64 (-1)) = w1 at *
  obtain ⟨c0, c2, c3, c4, c5, c6, f2, f4, f5, f6⟩ := hr2.cells
  have hs1 := Hs.out.keep hk2 Ho.out
  have Hf := Lib.hid fun (n : Nat) => fill_end rb bb r0 a b (w1.drewN n) ⟨hr2.rd, hr2.src⟩ hs1
  have Hk1 := Lib.hid hk2
  clear hr2 hs1 hk2
  refine wp_loop_rounds 2 ?_; rw [rounds_succ]
  go_wp2_with fail
  go_quiet (fail)
  go_wp2_with fail
  refine (Hf.out _).mono ?_
  rintro e w2 ⟨rfl, hk2, hr2⟩
  have hk2' : Keep [rb] w1 w2 := ⟨hk2.os, hk2.tape, hk2.output, hk2.size, hk2.block⟩
  have hk3 := Hk1.out.trans hk2'
  obtain ⟨c0, c2, c3, c4, c5, c6, f2, f4, f5, f6⟩ := hr2.cells
  have Hr2 := Lib.hid hr2
  have Hk3 := Lib.hid hk3
  clear hr2 hk3 hk2 hk2' Hf
  go_wp2_with fail
  rw [rounds_succ]
  go_wp2_with fail
  go_quiet (fail)
  go_wp2_with fail
  go_quiet (fail)
  go_wp2_with fail
  refine (readErr_any rb 135 (.pointer (some a)) (w2.drewN _) c4 f4).mono ?_
  rintro e w3 ⟨rfl, hw3⟩
  obtain ⟨hr3, hk3⟩ := RdAt.err (w := w2.drewN _) ⟨Hr2.out.rd, Hr2.out.src⟩ .nilIface
  rw [← hw3] at hr3 hk3
  have hk3' : Keep [rb] w2 w3 := ⟨hk3.os, hk3.tape, hk3.output, hk3.size, hk3.block⟩
  have hk4 := Hk3.out.trans hk3'
  clear c0 c2 c3 c4 c5 c6 f2 f4 f5 f6 hk3 hk3' hw3
  obtain ⟨c0, c2, c3, c4, c5, c6, f2, f4, f5, f6⟩ := hr3.cells
  go_wp2_with fail
  go_quiet (fail)
  go_wp2_with fail
  go_ret2
  exact ⟨rfl, hk4.drewN _, ⟨hr3.rd, hr3.src⟩⟩
end Go.Proofs.YtfnncdngfggcjaaGreatDoor
