/- Walks: a buffered reader over no bytes: the mark of an order of bytes; a line. -/
import Derived.Test.YtfnncdngfggcjaaGreatDoorW18
import Derived.Laws.IdiomCopy
namespace Go.Proofs.YtfnncdngfggcjaaGreatDoor
open Go.RowKit

theorem results_tmp4 {fn : Func} {t u v x : Tmp} (h : fn.results = #[.tmp t, .tmp u, .tmp v, .tmp x]) (tmps : Array Value) (P : Program) (w : World) :
    (results fn tmps).run P w = .ok (.tuple #[tmps.getD t undef, tmps.getD u undef, tmps.getD v undef, tmps.getD x undef]) w := by
  simp [results, h]

set_option maxRecDepth 100000 in
set_option maxHeartbeats 2000000 in
/-- (*parser).BOM where there are no bytes. -/
theorem bom_end (pb rb bb r0 : Nat) (a b : Addr) (w : World) (hp : w.cell? ⟨pb, 0, none⟩ = some (.pointer (some ⟨rb, 0, none⟩))) (hr : RdAt w rb bb r0 .nilIface) (hs : Sents w a b) (ho : Off a b [rb]) :
    Calls Tryz.prog 136 #[.pointer (some ⟨pb, 0, none⟩)] w fun e w' => e = .returned .nilIface ∧ Keep [rb] w w' ∧ RdAt w' rb bb r0 .nilIface := by
  have Hp := Lib.hid (peek_end rb bb r0 a b w hr hs ho)
  have hn := fun (wx : World) => eof_neq wx a
  have Hs := Lib.hid hs
  have Ho := Lib.hid ho
  clear hr hs ho
  go_enter Tryz.func136, Tryz.ntmps136
  go_wp2_with fail
  refine Hp.out.mono ?_
  rintro e w1 ⟨rfl, hk1, hr1⟩
  have g9 := (Hs.out.keep hk1 Ho.out).2.2.2.1
  go_wp2_with fail
  go_ret
  exact ⟨rfl, hk1, hr1⟩

set_option maxRecDepth 100000 in
set_option maxHeartbeats 2000000 in
/-- (*bufio.Reader).Buffered. -/
theorem buffered_end (rb bb r0 : Nat) (err : Value) (w : World) (hr : RdAt w rb bb r0 err) :
    Calls Tryz.prog 184 #[.pointer (some ⟨rb, 0, none⟩)] w fun e w' => e = .returned (.int .i64 0) ∧ ∃ n, w' = w.drewN n := by
  obtain ⟨c0, c2, c3, c4, c5, c6, f2, f4, f5, f6⟩ := hr.cells
  clear hr
  go_enter Tryz.func184, Tryz.ntmps184
  go_wp2_with fail
  go_quiet (fail)
  go_wp2_with fail
  go_ret
  exact ⟨rfl, _, rfl⟩
theorem buffered_q (rb bb r0 : Nat) (err : Value) (w : World) (n m : Nat) (hr : RdAt w rb bb r0 err) :
    Calls Tryz.prog 184 #[.pointer (some ⟨rb, 0, none⟩)] (w.drewN (n + m)) fun e w'' => e = .returned (.int .i64 0) ∧ ∃ k, w'' = w.drewN (n + k) :=
  (buffered_end rb bb r0 err (w.drewN (n + m)) ⟨hr.rd, hr.src⟩).mono fun _ _ ⟨he, k, hk⟩ => ⟨he, m + k, by rw [hk, drewN_two, Nat.add_assoc]⟩

theorem index_none (bb c : Nat) (w : World) : Calls Tryz.prog 208 #[.slice (some ⟨bb, 0, none⟩) 0 c, .int .u8 10] w fun e w' => e = .returned (.int .i64 (-1)) ∧ w' = w :=
  Tryz.bytes_IndexByte bb 0 0 c [] 10 w rfl (fun i hi => by omega)

set_option maxRecDepth 100000 in
set_option maxHeartbeats 2000000 in
/-- (*bufio.Reader).ReadSlice where there are no bytes. -/
theorem readSlice_end (rb bb r0 : Nat) (a b : Addr) (w : World) (hr : RdAt w rb bb r0 .nilIface) (hs : Sents w a b) :
    Calls Tryz.prog 197 #[.pointer (some ⟨rb, 0, none⟩), .int .u8 10] w fun e w' => e = .returned (.tuple #[.slice (some ⟨bb, 0, none⟩) 0 4096, .iface 135 (.pointer (some a))]) ∧ Keep [rb] w w' ∧ RdAt w' rb bb r0 .nilIface := by
  obtain ⟨c0, c2, c3, c4, c5, c6, f2, f4, f5, f6⟩ := hr.cells
  have Hf := Lib.hid fun (n : Nat) => fill_end rb bb r0 a b (w.drewN n) ⟨hr.rd, hr.src⟩ hs
  have Hr := Lib.hid hr
  clear hr hs
  go_enter Tryz.func197, Tryz.ntmps197
  go_wp2_with fail
  refine wp_loop_rounds 2 ?_; rw [rounds_succ]
  go_wp2_with fail
  go_quiet ((go_at_call 208; exact (index_none _ _ _).mono fun _ _ ⟨he, hw⟩ => ⟨he, _, hw⟩))
  go_wp2_with fail
  go_quiet ((go_at_call 184; exact buffered_q _ _ _ _ _ _ _ Hr.out))
  go_wp2_with fail
  go_quiet (fail)
  go_wp2_with fail
  refine (Hf.out _).mono ?_
  rintro e w2 ⟨rfl, hk2, hr2⟩
  have hk2' : Keep [rb] w w2 := ⟨hk2.os, hk2.tape, hk2.output, hk2.size, hk2.block⟩
  obtain ⟨c0, c2, c3, c4, c5, c6, f2, f4, f5, f6⟩ := hr2.cells
  have Hr2 := Lib.hid hr2
  have Hk2 := Lib.hid hk2'
  clear hr2 hk2 hk2' Hf
  go_wp2_with fail
  rw [rounds_succ]
  go_wp2_with fail
  go_quiet ((go_at_call 208; exact (index_none _ _ _).mono fun _ _ ⟨he, hw⟩ => ⟨he, _, hw⟩))
  go_wp2_with fail
  go_quiet (fail)
  go_wp2_with fail
  obtain ⟨hr3, hk3⟩ := RdAt.set (w := w2.drewN _) ⟨Hr2.out.rd, Hr2.out.src⟩ 2 (.int .i64 0) c2
  have hd3 := hr3.cells.2.2.2.1
  have hg3 := hr3.cells.2.2.2.2.2.2.2.1
  refine (readErr_any rb 135 (.pointer (some a)) _ hd3 hg3).mono ?_
  rintro e w4 ⟨rfl, hw4⟩
  obtain ⟨hr4, hk4⟩ := hr3.err .nilIface
  rw [← hw4] at hr4 hk4
  have hk5 := hk3.trans hk4
  have hk5' : Keep [rb] w2 w4 := ⟨hk5.os, hk5.tape, hk5.output, hk5.size, hk5.block⟩
  have hk6 := Hk2.out.trans hk5'
  clear c0 c2 c3 c4 c5 c6 f2 f4 f5 f6 hk3 hk4 hk5 hk5' hw4 hr3 hd3 hg3
  obtain ⟨c0, c2, c3, c4, c5, c6, f2, f4, f5, f6⟩ := hr4.cells
  go_wp2_with fail
  go_ret2
  exact ⟨rfl, hk6, hr4⟩

set_option maxRecDepth 100000 in
set_option maxHeartbeats 2000000 in
/-- (*bufio.Reader).collectFragments where there are no bytes. -/
theorem collect_end (rb bb r0 : Nat) (a b : Addr) (w : World) (hr : RdAt w rb bb r0 .nilIface) (hs : Sents w a b) (ho : Off a b [rb]) :
    Calls Tryz.prog 185 #[.pointer (some ⟨rb, 0, none⟩), .int .u8 10] w fun e w' => e = .returned (.tuple #[.slice none 0 0, .slice (some ⟨bb, 0, none⟩) 0 4096, .int .i64 0, .iface 135 (.pointer (some a))]) ∧ Keep [rb] w w' ∧ RdAt w' rb bb r0 .nilIface := by
  have Hp := Lib.hid (readSlice_end rb bb r0 a b w hr hs)
  have Hs := Lib.hid hs
  have Ho := Lib.hid ho
  clear hr hs ho
  go_enter Tryz.func185, Tryz.ntmps185
  go_wp2_with fail
  refine wp_loop_once ?_
  go_wp2_with fail
  refine Hp.out.mono ?_
  rintro e w1 ⟨rfl, hk1, hr1⟩
  have g11 := (Hs.out.keep hk1 Ho.out).2.2.2.2.1
  have hn := full_neq w1 a b (Hs.out.keep hk1 Ho.out)
  go_wp2_with fail
  refine bodyPost_ret (results_tmp4 rfl _ _ _) rfl ?_
  exact ⟨rfl, hk1, hr1⟩

theorem Tryz.info5 : (Tryz.prog.info? 5).map (fun i => (i.zero, i.size, i.bytes)) = some (some (.int .u8 0), 1, 1) := by kernel_rfl

set_option maxRecDepth 100000 in
set_option maxHeartbeats 2000000 in
/-- (*bufio.Reader).ReadBytes where there are no bytes. -/
theorem readBytes_end (rb bb r0 : Nat) (a b : Addr) (w : World) (hr : RdAt w rb bb r0 .nilIface) (hs : Sents w a b) (ho : Off a b [rb]) :
    Calls Tryz.prog 169 #[.pointer (some ⟨rb, 0, none⟩), .int .u8 10] w fun e w' => ∃ nb c, e = .returned (.tuple #[.slice (some ⟨nb, 0, none⟩) 0 c, .iface 135 (.pointer (some a))]) ∧ Keep [rb] w w' ∧ RdAt w' rb bb r0 .nilIface := by
  have Hp := Lib.hid (collect_end rb bb r0 a b w hr hs ho)
  clear hr hs ho
  go_enter Tryz.func169, Tryz.ntmps169
  go_wp2_with fail
  refine Hp.out.mono ?_
  rintro e w1 ⟨rfl, hk1, hr1⟩
  obtain ⟨i0, hi, hz0, hz1, hz2⟩ := info_parts Tryz.info5
  go_wp2_with (at_make; refine wpList_make_own _ rfl _ _ 49 rfl w1.heap.size 5 i0 (.int .u8 0) 1 Tryz.underlying49 hi hz0 hz1 .i64 .i64 _ 0 rfl rfl rfl (by rw [hz2]; omega) (by unfold maxLen; omega) (Nat.le_refl _) ?_; intro w2 hown2 hgrow2)
  have hk2 : Keep [rb] w w2 := hk1.grown hgrow2 (fun k h => by cases h)
  have hr2 : RdAt w2 rb bb r0 .nilIface := by
    obtain ⟨h1, ao, cap, h2⟩ := hr1
    have hg : Keep [] w1 w2 := (Keep.refl [] w1).grown hgrow2 (fun k h => by cases h)
    exact ⟨hg.heap h1 (by simp), ao, cap, hg.heap h2 (by simp)⟩
  have hcopy := fun (d : Nat) => run_copy_none w2 49 49 3 5 (some ⟨d, 0, none⟩) (some ⟨bb, 0, none⟩) 0 0 0 4096 Tryz.underlying49 (by rw [hi]; simp [hz1]) (by decide)
  refine wp_loop_once ?_
  go_wp2_with fail
  go_ret2
  exact ⟨_, _, rfl, hk2, hr2⟩
end Go.Proofs.YtfnncdngfggcjaaGreatDoor
