/- Walks: a file loaded from no bytes. -/
import Derived.Test.YtfnncdngfggcjaaGreatDoorW22
namespace Go.Proofs.YtfnncdngfggcjaaGreatDoor
open Go.RowKit

set_option maxRecDepth 100000 in
set_option maxHeartbeats 2000000 in
/-- (*sourceData).ReadCloser. -/
theorem readCloser_any (sb : Nat) (ao : Option Addr) (cap : Nat) (w : World) (hs : w.cell? ⟨sb, 0, none⟩ = some (.slice ao 0 cap)) :
    Calls Tryz.prog 240 #[.pointer (some ⟨sb, 0, none⟩)] w fun e w' => e = .returned (.tuple #[.iface 173 (.agg #[.iface 315 (.pointer (some ⟨w.heap.size, 0, none⟩))]), .nilIface]) ∧ w' = w.alloc (.cells #[.slice ao 0 cap, .int .i64 0, .int .i64 (-1)] 318) := by
  go_enter Tryz.func240, Tryz.ntmps240
  go_wp2_with fail
  refine (newReader_any _ _ _ _).mono ?_
  rintro e w1 ⟨rfl, rfl⟩
  go_wp2_with fail
  refine (nopCloser_any _ _).mono ?_
  rintro e w1 ⟨rfl, rfl⟩
  go_wp2_with fail
  go_ret2
  exact ⟨rfl, rfl⟩

theorem meth_rc (n : Nat) (p : Value) (w : World) : (method (n + 2) 142 p "ReadCloser").run Tryz.prog w = .ok (240, p) w := by kernel_rfl
theorem meth_close (n : Nat) (p : Value) (w : World) : (method (n + 2) 173 p "Close").run Tryz.prog w = .ok (243, p) w := by kernel_rfl

set_option maxRecDepth 100000 in
set_option maxHeartbeats 2000000 in
/-- (io.nopCloserWriterTo).Close, deferred. -/
theorem close_d (v : Value) (w : World) :
    CallsD Tryz.prog 243 #[.agg #[.iface 315 v]] .returning w fun e u' w' => u' = .returning ∧ (e = .returned .nilIface ∧ w' = w.alloc (.cells #[.iface 315 v] 173)) := by
  go_enter_d Tryz.func243, Tryz.ntmps243
  go_wp2_with fail
  go_ret
  exact ⟨rfl, rfl⟩

theorem invoke_close (v : Value) (w : World) : (invoke (.fn (.method "Close") #[]) #[.iface 173 v]).run Tryz.prog w = .ok (.enter 243 #[v]) w := by
  kernel_rfl

set_option maxRecDepth 100000 in
set_option maxHeartbeats 2000000 in
/-- (*File).reload of a source of no bytes. -/
theorem reload_none (fb mb sb : Nat) (ao : Option Addr) (cap : Nat) (ds : Value) (a b : Addr) (w : World) (hf : FileAt w fb ds (.slice none 0 0) (.slice none 0 0) mb #[] 0) (hsb : w.cell? ⟨sb, 0, none⟩ = some (.slice ao 0 cap))
    (hs : Sents w a b) (ho : Off a b [fb, mb]) :
    Calls Tryz.prog 87 #[.pointer (some ⟨fb, 0, none⟩), .iface 142 (.pointer (some ⟨sb, 0, none⟩))] w fun e w' => e = .returned .nilIface ∧ Keep [fb, mb] w w' ∧
      ∃ g c g2 c2 v, FileAt w' fb ds (.slice (some ⟨g, 0, none⟩) 1 c) (.slice (some ⟨g2, 0, none⟩) 1 c2) mb #[{ key := .string ⟨#[68, 69, 70, 65, 85, 76, 84]⟩, val := v, born := 0 }] 1 ∧
        w'.ownsRow 0 9 1 (.slice (some ⟨g, 0, none⟩) 1 c) 1 [.string ⟨#[68, 69, 70, 65, 85, 76, 84]⟩] ∧ w'.ownsRow 0 3 1 (.slice (some ⟨g2, 0, none⟩) 1 c2) 1 [.int .i64 0] ∧ w.heap.size ≤ g ∧ w.heap.size ≤ g2 := by
  have hm1 := meth_rc
  have hm2 := meth_close
  have h1 : Keep [] w (w.alloc (.cells #[.slice ao 0 cap, .int .i64 0, .int .i64 (-1)] 318)) := (Keep.refl [] w).alloc _
  have Hp := Lib.hid (parse_none fb mb w.heap.size ao cap ds a b (w.alloc (.cells #[.slice ao 0 cap, .int .i64 0, .int .i64 (-1)] 318)) (hf.keep h1 (by simp) (by simp)) (alloc_last _ _ _ rfl) (hs.keep h1 (by intro k hk; simp at hk)) ho)
  have H1 := Lib.hid h1
  clear h1 hf hs ho
  go_enter_defers Tryz.func87, Tryz.ntmps87
  go_wp2_with fail
  refine (readCloser_any sb ao cap w hsb).mono ?_
  rintro e w1 ⟨rfl, rfl⟩
  go_wp2_with fail
  refine Hp.out.mono ?_
  rintro e w2 ⟨rfl, hk2, g, c, g2, c2, v, f2, r9, r3, hg, hg2⟩
  go_wp2_with fail
  change Leaves Tryz.prog _ _ _ _ _ _
  refine leaves_cons (by simp) (invoke_close _ _) ?_
  refine (close_d _ _).mono ?_
  rintro e u w3 ⟨rfl, rfl, rfl⟩
  have hz : w.heap.size ≤ (w.alloc (.cells #[.slice ao 0 cap, .int .i64 0, .int .i64 (-1)] 318)).heap.size := H1.out.size
  exact ⟨_, results_tmp rfl _ _ _, rfl, ((H1.out.mono (by simp)).trans hk2).alloc _, g, c, g2, c2, v, f2.keep ((Keep.refl [] w2).alloc _) (by simp) (by simp), r9.alloc _, r3.alloc _, Nat.le_trans hz hg, Nat.le_trans hz hg2⟩

set_option maxRecDepth 100000 in
set_option maxHeartbeats 2000000 in
/-- (*File).Reload of a file of one source of no bytes. -/
theorem reloadAll_none (fb mb sb db : Nat) (ao : Option Addr) (cap : Nat) (a b : Addr) (w : World) (hf : FileAt w fb (.slice (some ⟨db, 0, none⟩) 1 1) (.slice none 0 0) (.slice none 0 0) mb #[] 0)
    (hdb : w.cell? ⟨db, 0, none⟩ = some (.iface 142 (.pointer (some ⟨sb, 0, none⟩)))) (hsb : w.cell? ⟨sb, 0, none⟩ = some (.slice ao 0 cap)) (hs : Sents w a b) (ho : Off a b [fb, mb]) :
    Calls Tryz.prog 64 #[.pointer (some ⟨fb, 0, none⟩)] w fun e w' => e = .returned .nilIface ∧ Keep [fb, mb] w w' ∧
      ∃ g c g2 c2 v, FileAt w' fb (.slice (some ⟨db, 0, none⟩) 1 1) (.slice (some ⟨g, 0, none⟩) 1 c) (.slice (some ⟨g2, 0, none⟩) 1 c2) mb #[{ key := .string ⟨#[68, 69, 70, 65, 85, 76, 84]⟩, val := v, born := 0 }] 1 ∧
        w'.ownsRow 0 9 1 (.slice (some ⟨g, 0, none⟩) 1 c) 1 [.string ⟨#[68, 69, 70, 65, 85, 76, 84]⟩] ∧ w'.ownsRow 0 3 1 (.slice (some ⟨g2, 0, none⟩) 1 c2) 1 [.int .i64 0] ∧ w.heap.size ≤ g ∧ w.heap.size ≤ g2 := by
  have c23 : w.cell? ⟨fb, 23, none⟩ = some (.slice (some ⟨db, 0, none⟩) 1 1) := by rw [Lib.cell_of_heap hf.fl]; rfl
  have Hr := Lib.hid (reload_none fb mb sb ao cap (.slice (some ⟨db, 0, none⟩) 1 1) a b w hf hsb hs ho)
  clear hf hs ho hsb
  go_enter Tryz.func64, Tryz.ntmps64
  go_wp2_with fail
  refine wp_loop_rounds 2 ?_; rw [rounds_succ]
  go_wp2_with fail
  refine Hr.out.mono ?_
  rintro e w2 ⟨rfl, hk2, g, c, g2, c2, v, f2, r9, r3, hg, hg2⟩
  have c7 : w2.cell? ⟨fb, 7, none⟩ = some (.bool false) := by rw [Lib.cell_of_heap f2.fl]; rfl
  go_wp2_with fail
  rw [rounds_succ]
  go_wp2_with fail
  go_ret
  exact ⟨rfl, hk2, g, c, g2, c2, v, f2, r9, r3, hg, hg2⟩
end Go.Proofs.YtfnncdngfggcjaaGreatDoor
