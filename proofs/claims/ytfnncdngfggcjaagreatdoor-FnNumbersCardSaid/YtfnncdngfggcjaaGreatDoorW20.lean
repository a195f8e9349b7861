/- Walks: a parser over no bytes: its making, a line. -/
import Derived.Test.YtfnncdngfggcjaaGreatDoorW19
namespace Go.Proofs.YtfnncdngfggcjaaGreatDoor
open Go.RowKit

theorem alloc_last (w : World) (o : Obj) (k : Nat) (h : k = w.heap.size) : (w.alloc o).heap[k]? = some o := by
  subst h
  simp [World.alloc, -World.alloc_eq]

set_option maxRecDepth 100000 in
set_option maxHeartbeats 2000000 in
/-- (*parser).readUntil where there are no bytes. -/
theorem readUntil_end (pb rb bb r0 : Nat) (v9 : Value) (a b : Addr) (w : World) (hp : w.cell? ⟨pb, 0, none⟩ = some (.pointer (some ⟨rb, 0, none⟩))) (hp9 : w.cell? ⟨pb, 9, none⟩ = some v9) (hf9 : w.frozen? ⟨pb, 9, none⟩ = false)
    (hpr : pb ≠ rb) (hr : RdAt w rb bb r0 .nilIface) (hs : Sents w a b) (ho : Off a b [rb]) :
    Calls Tryz.prog 138 #[.pointer (some ⟨pb, 0, none⟩), .int .u8 10] w fun e w' => ∃ nb c, e = .returned (.tuple #[.slice (some ⟨nb, 0, none⟩) 0 c, .nilIface]) ∧ Keep [rb, pb] w w' ∧ w'.cell? ⟨pb, 9, none⟩ = some (.bool true) := by
  have Hp := Lib.hid (readBytes_end rb bb r0 a b w hr hs ho)
  have hn := fun (wx : World) => eof_eql wx a
  have Hs := Lib.hid hs
  have Ho := Lib.hid ho
  have Hp9 := Lib.hid hp9
  have Hf9 := Lib.hid hf9
  clear hr hs ho hp9 hf9
  go_enter Tryz.func138, Tryz.ntmps138
  go_wp2_with fail
  refine Hp.out.mono ?_
  rintro e w1 ⟨nb, c, rfl, hk1, hr1⟩
  have g9 := (Hs.out.keep hk1 Ho.out).2.2.2.1
  have q9 := hk1.cell Hp9.out (by simpa using hpr)
  have q8 : w1.frozen? ⟨pb, 9, none⟩ = false := (World.frozen?_of_block (w := w) (hk1.block pb (World.block_lt_of_cell? _ _ Hp9.out) (by simpa using hpr))).trans Hf9.out
  go_wp2_with fail
  go_ret2
  refine ⟨_, _, rfl, (hk1.mono (by simp; omega)).setCell _ _ (.inl (by simp)), ?_⟩
  exact World.cell?_setCell_same _ _ _ q9

set_option maxRecDepth 100000 in
set_option maxHeartbeats 2000000 in
/-- bytes.TrimLeftFunc of no bytes. -/
theorem trimLeft_none (nb c : Nat) (fv : Value) (w : World) :
    Calls Tryz.prog 141 #[.slice (some ⟨nb, 0, none⟩) 0 c, fv] w fun e w' => e = .returned (.slice none 0 0) ∧ w' = w := by
  have hi : Calls Tryz.prog 171 #[.slice (some ⟨nb, 0, none⟩) 0 c, fv, .bool false] w fun e w' => e = .returned (.int .i64 (-1)) ∧ w' = w := by
    go_enter Tryz.func171, Tryz.ntmps171
    go_wp2_with fail
    refine wp_loop_once ?_
    go_wp2_with fail
    go_ret
    exact ⟨rfl, rfl⟩
  have Hi := Lib.hid hi
  clear hi
  go_enter Tryz.func141, Tryz.ntmps141
  go_wp2_with fail
  refine Hi.out.mono ?_
  rintro e w1 ⟨rfl, rfl⟩
  go_wp2_with fail
  go_ret
  exact ⟨rfl, rfl⟩

theorem assert211 (p : Value) (w : World) : (Instr.typeAssert (.iface 173 p) 151 211 true).run Tryz.prog w = .ok (.tuple #[.pointer none, .bool false]) w := by kernel_rfl

set_option maxRecDepth 100000 in
set_option maxHeartbeats 2000000 in
/-- bufio.NewReaderSize. -/
theorem newReaderSize_any (r0 : Nat) (ao : Option Addr) (cap : Nat) (w : World) (hsrc : w.heap[r0]? = some (.cells #[.slice ao 0 cap, .int .i64 0, .int .i64 (-1)] 318 (0, 0))) :
    Calls Tryz.prog 165 #[.iface 173 (.agg #[.iface 315 (.pointer (some ⟨r0, 0, none⟩))]), .int .i64 4096] w fun e w' => ∃ rb bb, e = .returned (.pointer (some ⟨rb, 0, none⟩)) ∧ Keep [] w w' ∧ RdAt w' rb bb r0 .nilIface ∧ w.heap.size ≤ rb := by
  have ha := assert211
  obtain ⟨i0, hi, hz0, hz1, hz2⟩ := info_parts Tryz.info5
  have Hsrc := Lib.hid hsrc
  clear hsrc
  go_enter Tryz.func165, Tryz.ntmps165
  go_wp2_with (at_make; refine wpList_make_full _ rfl _ _ 49 rfl w.heap.size 5 i0 (.int .u8 0) 1 Tryz.underlying49 hi hz0 hz1 .i64 .i64 _ _ 4096 rfl rfl rfl rfl (by rw [hz2]; omega) (by unfold maxLen; omega) (by simp) ?_; intro w2 hown2 hgrow2)
  have hk0 : Keep [] w w2 := ((Keep.refl [] w).alloc _).grown hgrow2 (fun k h => by cases h)
  have hrb : w2.heap[w.heap.size]? = some (.cells #[.slice none 0 0, .nilIface, .int .i64 0, .int .i64 0, .nilIface, .int .i64 0, .int .i64 0] 252 (0, 0)) := by
    rw [hgrow2.block _ (by simp) (by simp)]
    simp [World.alloc, -World.alloc_eq]
  refine (reset_any w.heap.size _ 4096 4096 173 _ w2 _ _ _ _ _ _ _ hrb).mono ?_
  rintro e w3 ⟨rfl, hk3, hr3⟩
  go_wp2_with fail
  go_ret
  have hlt : r0 < w.heap.size := (Array.getElem?_eq_some_iff.1 Hsrc.out).1
  have hk4 : Keep [] w w3 := ⟨hk3.os.trans hk0.os, hk3.tape.trans hk0.tape, hk3.output.trans hk0.output, Nat.le_trans hk0.size hk3.size, fun k hk _ => (hk3.block k (Nat.lt_of_lt_of_le hk hk0.size) (by simp; omega)).trans (hk0.block k hk (by simp))⟩
  exact ⟨_, _, rfl, hk4, ⟨hr3, ao, cap, hk4.heap Hsrc.out (by simp)⟩, Nat.le_refl _⟩

/-- The options of a parser that newFile's file gives. -/
def opts8 : Array Value := #[.bool false, .bool false, .bool false, .bool false, .bool false, .bool false, .bool false, .int .i64 0]

theorem opts_cells {w : World} {b : Nat} (h : w.heap[b]? = some (.cells #[.bool false, .bool false, .bool false, .bool false, .bool false, .bool false, .bool false, .int .i64 0] 209 (0, 0))) :
    w.cell? ⟨b, 0, none⟩ = some (.bool false) ∧ w.cell? ⟨b, 1, none⟩ = some (.bool false) ∧ w.cell? ⟨b, 2, none⟩ = some (.bool false) ∧ w.cell? ⟨b, 3, none⟩ = some (.bool false) ∧ w.cell? ⟨b, 4, none⟩ = some (.bool false) ∧
    w.cell? ⟨b, 5, none⟩ = some (.bool false) ∧ w.cell? ⟨b, 6, none⟩ = some (.bool false) ∧ w.cell? ⟨b, 7, none⟩ = some (.int .i64 0) := by
  refine ⟨?_, ?_, ?_, ?_, ?_, ?_, ?_, ?_⟩ <;> (rw [Lib.cell_of_heap h]; rfl)

/-- newParser's call: the block of its options stands. -/
theorem nrs_step (r0 ob : Nat) (ao : Option Addr) (cap : Nat) (wx : World) (h0 : wx.heap[r0]? = some (.cells #[.slice ao 0 cap, .int .i64 0, .int .i64 (-1)] 318 (0, 0)))
    (h1 : wx.heap[ob]? = some (.cells #[.bool false, .bool false, .bool false, .bool false, .bool false, .bool false, .bool false, .int .i64 0] 209 (0, 0))) :
    Calls Tryz.prog 165 #[.iface 173 (.agg #[.iface 315 (.pointer (some ⟨r0, 0, none⟩))]), .int .i64 4096] wx fun e w' => ∃ rb bb, e = .returned (.pointer (some ⟨rb, 0, none⟩)) ∧ Keep [] wx w' ∧ RdAt w' rb bb r0 .nilIface ∧ wx.heap.size ≤ rb ∧
      w'.cell? ⟨ob, 0, none⟩ = some (.bool false) ∧ w'.cell? ⟨ob, 1, none⟩ = some (.bool false) ∧ w'.cell? ⟨ob, 2, none⟩ = some (.bool false) ∧ w'.cell? ⟨ob, 3, none⟩ = some (.bool false) ∧ w'.cell? ⟨ob, 4, none⟩ = some (.bool false) ∧
    w'.cell? ⟨ob, 5, none⟩ = some (.bool false) ∧ w'.cell? ⟨ob, 6, none⟩ = some (.bool false) ∧ w'.cell? ⟨ob, 7, none⟩ = some (.int .i64 0) ∧
      (w'.alloc (.cells #[.slice none 0 0, .int .i64 0, .int .i8 0] 93)).cell? ⟨ob, 0, none⟩ = some (.bool false) ∧ (w'.alloc (.cells #[.slice none 0 0, .int .i64 0, .int .i8 0] 93)).cell? ⟨ob, 1, none⟩ = some (.bool false) ∧ (w'.alloc (.cells #[.slice none 0 0, .int .i64 0, .int .i8 0] 93)).cell? ⟨ob, 2, none⟩ = some (.bool false) ∧ (w'.alloc (.cells #[.slice none 0 0, .int .i64 0, .int .i8 0] 93)).cell? ⟨ob, 3, none⟩ = some (.bool false) ∧ (w'.alloc (.cells #[.slice none 0 0, .int .i64 0, .int .i8 0] 93)).cell? ⟨ob, 4, none⟩ = some (.bool false) ∧
    (w'.alloc (.cells #[.slice none 0 0, .int .i64 0, .int .i8 0] 93)).cell? ⟨ob, 5, none⟩ = some (.bool false) ∧ (w'.alloc (.cells #[.slice none 0 0, .int .i64 0, .int .i8 0] 93)).cell? ⟨ob, 6, none⟩ = some (.bool false) ∧ (w'.alloc (.cells #[.slice none 0 0, .int .i64 0, .int .i8 0] 93)).cell? ⟨ob, 7, none⟩ = some (.int .i64 0) := by
  refine (newReaderSize_any r0 ao cap wx h0).mono ?_
  rintro e w' ⟨rb, bb, he, hk, hr, hl⟩
  have h2 := hk.heap h1 (by simp)
  obtain ⟨p0, p1, p2, p3, p4, p5, p6, p7⟩ := opts_cells h2
  exact ⟨rb, bb, he, hk, hr, hl, p0, p1, p2, p3, p4, p5, p6, p7, opts_cells ((Lib.alloc_old _ _ _ (Array.getElem?_eq_some_iff.1 h2).1).trans h2)⟩

set_option maxRecDepth 100000 in
set_option maxHeartbeats 2000000 in
/-- newParser. -/
theorem newParser_any (r0 : Nat) (ao : Option Addr) (cap : Nat) (w : World) (hsrc : w.heap[r0]? = some (.cells #[.slice ao 0 cap, .int .i64 0, .int .i64 (-1)] 318 (0, 0))) :
    Calls Tryz.prog 135 #[.iface 173 (.agg #[.iface 315 (.pointer (some ⟨r0, 0, none⟩))]), .agg opts8] w fun e w' => ∃ pb rb bb, e = .returned (.pointer (some ⟨pb, 0, none⟩)) ∧ Keep [] w w' ∧ RdAt w' rb bb r0 .nilIface ∧
      w'.cell? ⟨pb, 0, none⟩ = some (.pointer (some ⟨rb, 0, none⟩)) ∧ w'.cell? ⟨pb, 9, none⟩ = some (.bool false) ∧ w'.frozen? ⟨pb, 9, none⟩ = false ∧ w.heap.size ≤ rb ∧ w.heap.size ≤ pb ∧ pb ≠ rb := by
  unfold opts8
  go_enter Tryz.func135, Tryz.ntmps135
  go_wp2_with fail
  have hlt : r0 < w.heap.size := (Array.getElem?_eq_some_iff.1 hsrc).1
  have h1 : (w.alloc (.cells #[.bool false, .bool false, .bool false, .bool false, .bool false, .bool false, .bool false, .int .i64 0] 209)).heap[w.heap.size]? = some (.cells #[.bool false, .bool false, .bool false, .bool false, .bool false, .bool false, .bool false, .int .i64 0] 209 (0, 0)) := by simp [World.alloc, -World.alloc_eq]
  have h0 := (Lib.alloc_old w (.cells #[.bool false, .bool false, .bool false, .bool false, .bool false, .bool false, .bool false, .int .i64 0] 209) _ hlt).trans hsrc
  have l1 := (Array.getElem?_eq_some_iff.1 h1).1
  have l0 := (Array.getElem?_eq_some_iff.1 h0).1
  obtain ⟨t0, t1, t2, t3, t4, t5, t6, t7⟩ := opts_cells (w := (w.alloc (.cells #[.bool false, .bool false, .bool false, .bool false, .bool false, .bool false, .bool false, .int .i64 0] 209)).drew.alloc (.cells #[.slice none 0 0, .int .i64 0, .int .i8 0] 93)) ((Lib.alloc_old _ _ _ l1).trans h1)
  have H1 := Lib.hid h1
  have H0 := Lib.hid h0
  clear h1 h0 hsrc
  go_region_with ((go_at_call 165; go_loud (refine (nrs_step r0 w.heap.size ao cap _ (by first | exact H0.out | exact (Lib.alloc_old _ _ _ l0).trans H0.out) (by first | exact H1.out | exact (Lib.alloc_old _ _ _ l1).trans H1.out)).mono ?_; rintro e w1 ⟨rb, bb, rfl, hk1, hr1, hl1, q0, q1, q2, q3, q4, q5, q6, q7, m0, m1, m2, m3, m4, m5, m6, m7⟩)))
  all_goals (
    have hK : Keep [] w w1 := by
      first
        | exact (((Keep.refl [] w).alloc _).drew).trans hk1
        | exact ((((Keep.refl [] w).alloc _).drew).alloc _).trans hk1
    have hl2 : w.heap.size ≤ rb := by
      first
        | exact Nat.le_trans (((Keep.refl [] w).alloc _).drew).size hl1
        | exact Nat.le_trans ((((Keep.refl [] w).alloc _).drew).alloc _).size hl1
    clear hk1 hl1 q0 q1 q2 q3 q4 q5 q6 q7 m0 m1 m2 m3 m4 m5 m6 m7 t0 t1 t2 t3 t4 t5 t6 t7
    go_wp2_with fail
    go_ret
    have hlt2 := (Array.getElem?_eq_some_iff.1 hr1.rd).1
    refine ⟨_, rb, bb, rfl, ?_, ?_, ?_, ?_, ?_, hl2, ?_, ?_⟩
    · first
        | exact hK.alloc _
        | exact (hK.alloc _).alloc _
    · first
        | exact hr1.keep ((Keep.refl [] w1).alloc _) (by simp) (by simp)
        | exact hr1.keep (((Keep.refl [] w1).alloc _).alloc _) (by simp) (by simp)
    · refine (Lib.cell_of_heap (alloc_last _ _ _ ?_) _).trans rfl
      first | rfl | simp
    · refine (Lib.cell_of_heap (alloc_last _ _ _ ?_) _).trans rfl
      first | rfl | simp
    · refine Lib.frozen_of_heap (alloc_last _ _ _ ?_) 9
      first | rfl | simp
    · have := hK.size
      simp; omega
    · simp; omega)
end Go.Proofs.YtfnncdngfggcjaaGreatDoor
