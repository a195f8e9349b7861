/- Walks: an empty file. -/
import Derived.Test.YtfnncdngfggcjaaGreatDoorW23
namespace Go.Proofs.YtfnncdngfggcjaaGreatDoor
open Go.RowKit

theorem assert49 (ao : Option Addr) (n c : Nat) (w : World) : (Instr.typeAssert (.iface 49 (.slice ao n c)) 20 49 true).run Tryz.prog w = .ok (.tuple #[.slice ao n c, .bool true]) w := by kernel_rfl

set_option maxRecDepth 100000 in
set_option maxHeartbeats 2000000 in
/-- parseDataSource of bytes. -/
theorem parseSource_any (ao : Option Addr) (n c : Nat) (w : World) :
    Calls Tryz.prog 62 #[.iface 49 (.slice ao n c)] w fun e w' => e = .returned (.tuple #[.iface 142 (.pointer (some ⟨w.heap.size, 0, none⟩)), .nilIface]) ∧ w' = w.alloc (.cells #[.slice ao n c] 144) := by
  have ha := assert49 ao n c
  go_enter Tryz.func62, Tryz.ntmps62
  go_wp2_with fail
  go_ret2
  exact ⟨rfl, rfl⟩

/-- The options that Empty makes. -/
def opts0 : Array Value := #[.bool false, .bool false, .bool false, .bool false, .bool false, .bool false, .bool false, .bool false, .bool false, .bool false, .bool false, .bool false, .bool false, .bool false, .bool false,
  .slice none 0 0, .string ⟨#[]⟩, .string ⟨#[]⟩, .string ⟨#[]⟩, .bool false, .int .i64 0, .bool false, .bool false]

/-- The options that newFile makes of them. -/
def opts1 : Array Value := #[.bool false, .bool false, .bool false, .bool false, .bool false, .bool false, .bool false, .bool false, .bool false, .bool false, .bool false, .bool false, .bool false, .bool false, .bool false,
  .slice none 0 0, .string ⟨#[61, 58]⟩, .string ⟨#[61]⟩, .string ⟨#[46]⟩, .bool false, .int .i64 0, .bool false, .bool false]

set_option maxRecDepth 100000 in
set_option maxHeartbeats 2000000 in
/-- newFile. -/
theorem newFile_any (ao : Option Addr) (n c : Nat) (w : World) :
    Calls Tryz.prog 63 #[.slice ao n c, .agg opts0] w fun e w' => ∃ fb mb, e = .returned (.pointer (some ⟨fb, 0, none⟩)) ∧ Keep [] w w' ∧ FileAt w' fb (.slice ao n c) (.slice none 0 0) (.slice none 0 0) mb #[] 0 ∧ w.heap.size ≤ fb ∧ w.heap.size ≤ mb := by
  unfold opts0
  have hm := make_map 100
  go_enter Tryz.func63, Tryz.ntmps63
  go_upto_region 1 with fail
  have hk1 : Keep [] w (w.alloc (.cells opts0 61)) := (Keep.refl [] w).alloc _
  have hb1 : (w.alloc (.cells opts0 61)).heap[w.heap.size]? = some (.cells opts0 61 (0, 0)) := alloc_last _ _ _ rfl
  have hz1 : (w.alloc (.cells opts0 61)).heap.size = w.heap.size + 1 := by simp
  unfold opts0 at hk1 hb1 hz1
  generalize w.alloc _ = w1 at *
  have c16 : w1.cell? ⟨w.heap.size, 16, none⟩ = some (.string ⟨#[]⟩) := by rw [Lib.cell_of_heap hb1]; rfl
  have c17 : w1.cell? ⟨w.heap.size, 17, none⟩ = some (.string ⟨#[]⟩) := by rw [Lib.cell_of_heap hb1]; rfl
  have c18 : w1.cell? ⟨w.heap.size, 18, none⟩ = some (.string ⟨#[]⟩) := by rw [Lib.cell_of_heap hb1]; rfl
  have f16 : w1.frozen? ⟨w.heap.size, 16, none⟩ = false := Lib.frozen_of_heap hb1 16
  have f17 : w1.frozen? ⟨w.heap.size, 17, none⟩ = false := Lib.frozen_of_heap hb1 17
  have f18 : w1.frozen? ⟨w.heap.size, 18, none⟩ = false := Lib.frozen_of_heap hb1 18
  have Hb1 := Lib.hid hb1
  have Hk1 := Lib.hid hk1
  clear hb1 hk1
  go_upto_region 7 with fail
  have hb2 : (((w1.setCell ⟨w.heap.size, 16, none⟩ (.string ⟨#[61, 58]⟩)).setCell ⟨w.heap.size, 17, none⟩ (.string ⟨#[61]⟩)).setCell ⟨w.heap.size, 18, none⟩ (.string ⟨#[46]⟩)).heap[w.heap.size]? = some (.cells opts1 61 (0, 0)) := by
    have h := Hb1.out
    simp [World.setCell, Array.getElem?_modify, h, opts1]
  have hk2 : Keep [] w (((w1.setCell ⟨w.heap.size, 16, none⟩ (.string ⟨#[61, 58]⟩)).setCell ⟨w.heap.size, 17, none⟩ (.string ⟨#[61]⟩)).setCell ⟨w.heap.size, 18, none⟩ (.string ⟨#[46]⟩)) :=
    ((Hk1.out.setCell _ _ (.inr (Nat.le_refl _))).setCell _ _ (.inr (Nat.le_refl _))).setCell _ _ (.inr (Nat.le_refl _))
  clear c16 c17 c18 f16 f17 f18 Hb1 Hk1
  generalize ((w1.setCell ⟨w.heap.size, 16, none⟩ (.string ⟨#[61, 58]⟩)).setCell ⟨w.heap.size, 17, none⟩ (.string ⟨#[61]⟩)).setCell ⟨w.heap.size, 18, none⟩ (.string ⟨#[46]⟩) = w2 at *
  have lb := (Array.getElem?_eq_some_iff.1 hb2).1
  have hl := (Lib.alloc_old w2 (.map #[] 0) _ lb).trans hb2
  have Hk2 := Lib.hid hk2
  have hi61 : (Tryz.prog.info? 61).map (·.size) = some 23 := by kernel_rfl
  clear hk2 hb2
  unfold opts1 at hl
  go_wp2_with (refine wpList_load_row rfl 61 (.tmp 3) rfl w.heap.size rfl 61 _ (0, 0) _ hl Tryz.underlying61 rfl hi61 ?_)
  go_ret
  have hs := Hk2.out.size
  refine ⟨_, w2.heap.size, rfl, (Hk2.out.alloc _).alloc _, ⟨?_, ?_⟩, ?_, hs⟩
  · refine alloc_last _ _ _ ?_
    simp
  · exact (Lib.alloc_old (w2.alloc (.map #[] 0)) _ w2.heap.size (by simp)).trans (alloc_last w2 _ _ rfl)
  · omega
end Go.Proofs.YtfnncdngfggcjaaGreatDoor
