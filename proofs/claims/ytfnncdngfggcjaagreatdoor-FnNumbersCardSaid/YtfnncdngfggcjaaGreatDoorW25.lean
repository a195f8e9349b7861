/- Walks: an empty file: LoadSources, Empty. -/
import Derived.Test.YtfnncdngfggcjaaGreatDoorW24
import Derived.Lib.SlBytesConst
namespace Go.Proofs.YtfnncdngfggcjaaGreatDoor
open Go.RowKit

theorem Tryz.info110 : (Tryz.prog.info? 110).map (fun i => (i.zero, i.size, i.bytes)) = some (some .nilIface, 1, 16) := by kernel_rfl

/-- A file as Empty makes it. -/
def EmptyFile (B : Nat) (w : World) (fb : Nat) : Prop :=
  ∃ mb ds g c g2 c2 v, FileAt w fb ds (.slice (some ⟨g, 0, none⟩) 1 c) (.slice (some ⟨g2, 0, none⟩) 1 c2) mb #[{ key := .string ⟨#[68, 69, 70, 65, 85, 76, 84]⟩, val := v, born := 0 }] 1 ∧
    w.ownsRow 0 9 1 (.slice (some ⟨g, 0, none⟩) 1 c) 1 [.string ⟨#[68, 69, 70, 65, 85, 76, 84]⟩] ∧ w.ownsRow 0 3 1 (.slice (some ⟨g2, 0, none⟩) 1 c2) 1 [.int .i64 0] ∧ B ≤ g ∧ B ≤ g2 ∧ B ≤ fb ∧ B ≤ mb

set_option maxRecDepth 100000 in
set_option maxHeartbeats 2000000 in
/-- LoadSources of no bytes. -/
theorem loadSources_none (ao : Option Addr) (cap : Nat) (a b : Addr) (w : World) (hs : Sents w a b) :
    Calls Tryz.prog 41 #[.agg opts0, .iface 49 (.slice ao 0 cap), .slice none 0 0] w fun e w' => ∃ fb, e = .returned (.tuple #[.pointer (some ⟨fb, 0, none⟩), .nilIface]) ∧ Keep [] w w' ∧ EmptyFile w.heap.size w' fb := by
  obtain ⟨j0, hj, hy0, hy1, hy2⟩ := info_parts Tryz.info110
  have hi61 : (Tryz.prog.info? 61).map (·.size) = some 23 := by kernel_rfl
  have Hs := Lib.hid hs
  clear hs
  have hk1 : Keep [] w (w.alloc (.cells opts0 61)) := (Keep.refl [] w).alloc _
  have hb1 : (w.alloc (.cells opts0 61)).heap[w.heap.size]? = some (.cells opts0 61 (0, 0)) := alloc_last _ _ _ rfl
  unfold opts0 at hk1 hb1 ⊢
  go_enter Tryz.func41, Tryz.ntmps41
  go_upto_region 1 with fail
  generalize w.alloc _ = w1 at *
  have Hb1 := Lib.hid hb1
  have Hk1 := Lib.hid hk1
  clear hb1 hk1
  go_upto_region 2 with (at_make; refine wpList_make_full _ rfl _ _ 99 rfl 0 110 j0 .nilIface 1 Tryz.underlying99 hj hy0 hy1 .i64 .i64 _ _ 1 rfl rfl rfl rfl (by rw [hy2]; omega) (by unfold maxLen; omega) (Nat.zero_le _) ?_; intro w2 hown2 hgrow2)
  have hk2 : Keep [] w w2 := Hk1.out.grown hgrow2 (fun k h => by cases h)
  have lb1 := (Array.getElem?_eq_some_iff.1 Hb1.out).1
  have hb2 := (hgrow2.block _ lb1 (by simp)).trans Hb1.out
  obtain ⟨cur, hcur, hc0⟩ : ∃ cur, w2.heap[w1.heap.size]? = some (.cells cur 110 (0, 0)) ∧ cur[0]? = some .nilIface := by
    rcases hown2.2 with ⟨h, _⟩ | ⟨g, cap', cur, hv, _, hh, _⟩
    · cases h
    · have e1 : g = w1.heap.size := by injection hv with hv; injection hv with hv; injection hv with hv; exact hv.symm
      subst e1
      have := hown2.cells (g := w1.heap.size) rfl 0 .nilIface (by simp [madeCells, Value.cells])
      refine ⟨cur, hh, ?_⟩
      rw [show ((⟨w1.heap.size, 0, none⟩ : Addr).add 0) = ⟨w1.heap.size, 0, none⟩ from rfl, Lib.cell_of_heap hh] at this
      exact this
  have lb2 := (Array.getElem?_eq_some_iff.1 hb2).1
  have ld2 := (Array.getElem?_eq_some_iff.1 hcur).1
  have hk3 : Keep [] w (w2.alloc (.cells #[.slice ao 0 cap] 144)) := hk2.alloc _
  have hb3 : (w2.alloc (.cells #[.slice ao 0 cap] 144)).heap[w.heap.size]? = some (.cells opts0 61 (0, 0)) := (Lib.alloc_old _ _ _ lb2).trans hb2
  have hd3 : (w2.alloc (.cells #[.slice ao 0 cap] 144)).heap[w1.heap.size]? = some (.cells cur 110 (0, 0)) := (Lib.alloc_old _ _ _ ld2).trans hcur
  have hs3 : (w2.alloc (.cells #[.slice ao 0 cap] 144)).heap[w2.heap.size]? = some (.cells #[.slice ao 0 cap] 144 (0, 0)) := alloc_last _ _ _ rfl
  have hl1 := Hk1.out.size
  go_wp2_with fail
  refine (parseSource_any ao 0 cap w2).mono ?_
  rintro e w' ⟨rfl, rfl⟩
  clear hown2 hgrow2 hb2 hcur hk2 Hb1 lb1
  generalize w2.alloc (.cells #[.slice ao 0 cap] 144) = w3 at *
  generalize w2.heap.size = sb at *
  clear lb2 ld2 Hk1
  generalize w1.heap.size = db at *
  have d0 : w3.cell? ⟨db, 0, none⟩ = some .nilIface := by rw [Lib.cell_of_heap hd3]; exact hc0
  have df : w3.frozen? ⟨db, 0, none⟩ = false := Lib.frozen_of_heap hd3 0
  have hne1 := cells_ne hb3 hd3 (by decide)
  have hne2 := cells_ne hs3 hd3 (by decide)
  have hb4 : (w3.setCell ⟨db, 0, none⟩ (.iface 142 (.pointer (some ⟨sb, 0, none⟩)))).heap[w.heap.size]? = some (.cells opts0 61 (0, 0)) := (Below.heap_setCell _ _ _ _ hne1).trans hb3
  have hs4 : (w3.setCell ⟨db, 0, none⟩ (.iface 142 (.pointer (some ⟨sb, 0, none⟩)))).heap[sb]? = some (.cells #[.slice ao 0 cap] 144 (0, 0)) := (Below.heap_setCell _ _ _ _ hne2).trans hs3
  have hd4 := World.cell?_setCell_same w3 ⟨db, 0, none⟩ (.iface 142 (.pointer (some ⟨sb, 0, none⟩))) d0
  have hk4 : Keep [] w (w3.setCell ⟨db, 0, none⟩ (.iface 142 (.pointer (some ⟨sb, 0, none⟩)))) := hk3.setCell _ _ (.inr hl1)
  unfold opts0 at hb4
  have Hs4 := Lib.hid hs4
  have Hd4 := Lib.hid hd4
  have Hk4 := Lib.hid hk4
  clear hb3 hd3 hs3 hk3 hc0 hs4 hd4 hk4 hne1 hne2
  go_upto_region 5 with fail
  generalize w3.setCell ⟨db, 0, none⟩ (.iface 142 (.pointer (some ⟨sb, 0, none⟩))) = w4 at *
  go_wp2_with fail
  refine wp_loop_once ?_
  go_wp2_with (refine wpList_load_row rfl 61 (.tmp 3) rfl w.heap.size rfl 61 _ (0, 0) _ hb4 Tryz.underlying61 rfl hi61 ?_)
  have Hn := newFile_any (some ⟨db, 0, none⟩) 1 1 w4
  unfold opts0 at Hn
  refine Hn.mono ?_
  rintro e w5 ⟨fb, mb, rfl, hk5, f5, hf, hm⟩
  have k5 := Hk4.out.trans hk5
  have hl4 := Hk4.out.size
  have s5 := Hs.out.keep k5 (by intro k hk; simp at hk)
  have hoff : Off a b [fb, mb] := by
    intro k hk
    simp at hk
    have h1 := Hs.out.1
    have h2 := Hs.out.2.1
    have h3 := Hs.out.2.2.1
    have hkk : w.heap.size ≤ k := by omega
    exact ⟨by omega, by omega, by omega⟩
  have hsc : w5.cell? ⟨sb, 0, none⟩ = some (.slice ao 0 cap) := by
    rw [Lib.cell_of_heap (hk5.heap Hs4.out (by simp))]; rfl
  have hdc := hk5.cell Hd4.out (by simp)
  have Hr := Lib.hid (reloadAll_none fb mb sb db ao cap a b w5 f5 hdc hsc s5 hoff)
  have K5 := Lib.hid k5
  clear Hn hk5 f5 s5 hoff hsc hdc hb4 Hs4 Hd4 Hk4 d0 df k5
  go_wp2_with fail
  refine Hr.out.mono ?_
  rintro e w6 ⟨rfl, hk6, g, c, g2, c2, v, f6, r9, r3, hg, hg2⟩
  go_wp2_with fail
  go_ret2
  have h5 := K5.out.size
  refine ⟨fb, rfl, ⟨hk6.os.trans K5.out.os, hk6.tape.trans K5.out.tape, hk6.output.trans K5.out.output, Nat.le_trans h5 hk6.size, fun k hk _ => ?_⟩, mb, _, g, c, g2, c2, v, f6, r9, r3, by omega, by omega, by omega, by omega⟩
  rw [hk6.block k (by omega) (by simp; omega)]
  exact K5.out.block k hk (by simp)

set_option maxRecDepth 100000 in
set_option maxHeartbeats 2000000 in
/-- Empty, without options. -/
theorem empty_any (a b : Addr) (w : World) (hs : Sents w a b) :
    Calls Tryz.prog 36 #[.slice none 0 0] w fun e w' => ∃ fb, e = .returned (.pointer (some ⟨fb, 0, none⟩)) ∧ Keep [] w w' ∧ EmptyFile w.heap.size w' fb := by
  have hi61 : (Tryz.prog.info? 61).map (·.size) = some 23 := by kernel_rfl
  have hk1 : Keep [] w (w.alloc (.cells opts0 61)) := (Keep.refl [] w).alloc _
  have hb1 : (w.alloc (.cells opts0 61)).heap[w.heap.size]? = some (.cells opts0 61 (0, 0)) := alloc_last _ _ _ rfl
  have Hs := Lib.hid hs
  clear hs
  unfold opts0 at hk1 hb1
  go_enter Tryz.func36, Tryz.ntmps36
  go_upto_region 2 with fail
  generalize w.alloc _ = w1 at *
  have Hk1 := Lib.hid hk1
  clear hk1
  have kc := Lib.run_convert_bytes_const (P := Tryz.prog) w1 49 5 #[] 0 0 Tryz.underlying49 Tryz.underlying5
  go_wp2_with (refine wpList_load_row rfl 61 (.tmp 3) rfl w.heap.size rfl 61 _ (0, 0) _ hb1 Tryz.underlying61 rfl hi61 ?_)
  have k2 : Keep [] w (w1.alloc (.cells #[] 5 (0, 1))) := Hk1.out.alloc _
  have hl := loadSources_none (some ⟨w1.heap.size, 0, none⟩) 0 a b _ (Hs.out.keep k2 (by intro k hk; simp at hk))
  unfold opts0 at hl
  refine hl.mono ?_
  rintro e w3 ⟨fb, rfl, hk3, mb, ds, g, c, g2, c2, v, f, r9, r3, h1, h2, h3, h4⟩
  go_wp2_with fail
  go_ret
  have h5 := k2.size
  exact ⟨fb, rfl, k2.trans hk3, mb, ds, g, c, g2, c2, v, f, r9, r3, by omega, by omega, by omega, by omega⟩
end Go.Proofs.YtfnncdngfggcjaaGreatDoor
