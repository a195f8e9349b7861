/- Walks: strings.Builder at this program: copyCheck, WriteRune, Reset. -/
import Derived.Test.YtfnncdngfggcjaaGreatDoorW10
import Derived.Lib.FrozenHead2
import Derived.Lib.OthersKept
import Derived.Lib.BufferKept
import Derived.Lib.RuneBytes
namespace Go.Proofs.YtfnncdngfggcjaaGreatDoor
open Go.RowKit

set_option maxHeartbeats 1000000 in
set_option maxRecDepth 100000 in
theorem copyCheck_used (b : Nat) (w : World) (h0 : w.cell? ⟨b, 0, none⟩ = some (.pointer (some ⟨b, 0, none⟩))) :
    Calls Tryz.prog 95 #[.pointer (some ⟨b, 0, none⟩)] w fun e w' => e = .returned (.tuple #[]) ∧ w = w' := by
  have hne := fun (wx : World) => Lib.run_neq_ptr_same (P := Tryz.prog) wx ⟨b, 0, none⟩ Tryz.underlying122 (j := Tryz.t124) rfl
  go_enter Tryz.func95, Tryz.ntmps95
  go_wp2_with fail
  go_end0
  exact ⟨rfl, rfl⟩

set_option maxHeartbeats 1000000 in
set_option maxRecDepth 100000 in
theorem copyCheck_fresh (b : Nat) (w : World) (h0 : w.cell? ⟨b, 0, none⟩ = some (.pointer none)) (hsh : w.shape? b = some (124, 2)) (hfz : w.frozen? ⟨b, 0, none⟩ = false) :
    Calls Tryz.prog 95 #[.pointer (some ⟨b, 0, none⟩)] w fun e w' => e = .returned (.tuple #[]) ∧ w' = w.setCell ⟨b, 0, none⟩ (.pointer (some ⟨b, 0, none⟩)) := by
  have hne := fun (wx : World) => Lib.run_neq_ptr_same (P := Tryz.prog) wx ⟨b, 0, none⟩ Tryz.underlying122 (j := Tryz.t124) rfl
  have h0' := World.cell?_setCell_same w ⟨b, 0, none⟩ (.pointer (some ⟨b, 0, none⟩)) h0
  have hto := Lib.run_to_unsafe (P := Tryz.prog) (src := 122) (dst := 186) (t := 124) (e := 124) (j := Tryz.t124) (cells := 2) w ⟨b, 0, none⟩ Tryz.underlying122 Tryz.underlying186 rfl (by decide +kernel) hsh (Nat.zero_lt_succ 1)
  have hfrom := Lib.run_from_unsafe (P := Tryz.prog) (src := 186) (dst := 122) (u := 124) (e := 124) (j := Tryz.t124) (cells := 2) w ⟨b, 0, none⟩ Tryz.underlying186 Tryz.underlying122 rfl hsh (by kernel_rfl)
  have hx : ∀ wx : World, (callFunc 117 #[.pointer (some ⟨b, 0, none⟩)]).run Tryz.prog wx = .ok (.value (.pointer (some ⟨b, 0, none⟩))) wx := fun wx => by
    rw [run_callFunc_extern Tryz.func117 (by kernel_rfl) (by kernel_rfl) (by kernel_rfl) (e := Extern.AbiNoEscape.same) (by kernel_rfl), Lib.run_noEscape]
    rfl
  clear hsh
  go_enter Tryz.func95, Tryz.ntmps95
  go_wp2_with fail
  go_end0
  exact ⟨rfl, rfl⟩

theorem copyCheck_k (B b : Nat) (bs : List Value) (w : World) (h : Lib.IsBuilderF 124 5 B b bs w) :
    Calls Tryz.prog 95 #[.pointer (some ⟨b, 0, none⟩)] w fun e w' => e = .returned (.tuple #[]) ∧ (Lib.BuilderAtF 124 5 B b (.pointer (some ⟨b, 0, none⟩)) bs w' ∧ Below B w w' ∧ Lib.OthersKept 5 (some b) w w') := by
  rcases h with h | h
  · refine (copyCheck_fresh b w h.cell0 h.shape h.frozen0).mono ?_
    rintro e w' ⟨rfl, rfl⟩
    exact ⟨rfl, h.used _, (Below.refl B w).setCell (p := ⟨b, 0, none⟩) h.1 _, (Lib.OthersKept.refl _ _ w).setCell ⟨b, 0, none⟩ rfl _⟩
  · refine (copyCheck_used b w h.cell0).mono ?_
    rintro e w' ⟨rfl, rfl⟩
    exact ⟨rfl, h, Below.refl B _, Lib.OthersKept.refl _ _ _⟩

set_option maxHeartbeats 2000000 in
set_option maxRecDepth 100000 in
/-- (*strings.Builder).WriteRune. -/
theorem writeRune_k (B b : Nat) (bs : List Value) (r : Int) (hr0 : 0 ≤ r) (hr1 : r ≤ 127) (w : World) (h : Lib.IsBuilderF 124 5 B b bs w) (hlen : bs.length + 4 ≤ 140737488355328) (hBw : B ≤ w.heap.size) :
    Calls Tryz.prog 74 #[.pointer (some ⟨b, 0, none⟩), .int .i32 r] w fun e w' => e = .returned (.tuple #[.int .i64 1, .nilIface]) ∧ (Lib.IsBuilderF 124 5 B b (bs ++ [.int .u8 r]) w' ∧ Below B w w' ∧ Lib.OthersKept 5 (some b) w w') := by
  have hrc : Lib.runeCells r = [.int .u8 r] := by unfold Lib.runeCells; rw [Lib.encodeRuneZ_one hr0 hr1]; rfl
  go_enter Tryz.func74, Tryz.ntmps74
  go_wp2_with (go_at_call 95; refine (copyCheck_k B b bs _ h).mono ?_)
  rintro e w1 ⟨rfl, h1, hb1, hk1⟩
  obtain ⟨hB, v, hbk, hown, hne⟩ := h1
  obtain ⟨ao, cap, rfl⟩ : ∃ ao cap, v = .slice ao bs.length cap := by
    rcases hown.2 with ⟨hv, h0⟩ | ⟨g, cap, cur, fz, hv, _⟩
    · exact ⟨none, 0, by rw [hv, h0]⟩
    · exact ⟨_, _, hv⟩
  have c0 : w1.cell? ⟨b, 0, none⟩ = some (.pointer (some ⟨b, 0, none⟩)) := by rw [Lib.cell_of_heap hbk]; rfl
  have c1 : w1.cell? ⟨b, 1, none⟩ = some (.slice ao bs.length cap) := by rw [Lib.cell_of_heap hbk]; rfl
  have Hrc := Lib.hid hrc
  clear hrc
  go_wp2_with (go_at_call 98; refine (Tryz.utf8_AppendRune_row B _ bs.length bs r (by omega) (by omega) _ hown hlen (by have := hb1.size; omega)).mono ?_)
  rintro e w2 ⟨v', rfl, hown', o, hgrow⟩
  rw [Hrc.out] at hown'
  have hlt : b < w1.heap.size := by
    rcases Nat.lt_or_ge b w1.heap.size with h' | h'
    · exact h'
    · simp [Array.getElem?_eq_none h'] at hbk
  have hb2 : w2.heap[b]? = some (.cells #[.pointer (some ⟨b, 0, none⟩), .slice ao bs.length cap] 124 (0, 0)) := by
    rw [hgrow.block b (by simp; omega) (fun e => hne e.symm), Lib.alloc_old w1 _ b hlt]
    exact hbk
  have d0 : w2.cell? ⟨b, 0, none⟩ = some (.pointer (some ⟨b, 0, none⟩)) := by rw [Lib.cell_of_heap hb2]; rfl
  have d1 : w2.cell? ⟨b, 1, none⟩ = some (.slice ao bs.length cap) := by rw [Lib.cell_of_heap hb2]; rfl
  have f1 : w2.frozen? ⟨b, 1, none⟩ = false := Lib.frozen_of_heap hb2 1
  obtain ⟨g, cap', rfl⟩ : ∃ g cap', v' = .slice (some ⟨g, 0, none⟩) (bs.length + 1) cap' := by
    rcases hown'.2 with ⟨_, h0⟩ | ⟨g, cap', cur, fz, hv, _⟩
    · simp at h0
    · exact ⟨g, cap', by simpa using hv⟩
  go_wp2
  go_ret2
  refine ⟨?_, .inr ?_, ?_, ((hk1.alloc _).grown hgrow (Lib.ownsRowF_kind (hown.alloc _))).setCell ⟨b, 1, none⟩ rfl _⟩
  · have e : ((bs.length : Int) + 1 - (bs.length : Int)) = 1 := by omega
    simp [e]
  · exact Lib.BuilderAtF.put (T := 124) (e := 5) hB hb2 (bs' := bs ++ [.int .u8 r]) (by simpa using hown') (by decide)
  · exact ((hb1.alloc (by have := hb1.size; omega) _).grown hgrow (by have := hb1.size; simp; omega) (fun k hk => (hown.lt k hk).1)).setCell (p := ⟨b, 1, none⟩) hB _

set_option maxHeartbeats 2000000 in
set_option maxRecDepth 100000 in
/-- (*strings.Builder).Reset. -/
theorem reset_k (B b : Nat) (bs : List Value) (w : World) (h : Lib.IsBuilderF 124 5 B b bs w) :
    Calls Tryz.prog 78 #[.pointer (some ⟨b, 0, none⟩)] w fun e w' => e = .returned (.tuple #[]) ∧ (Lib.IsBuilderF 124 5 B b [] w' ∧ Below B w w' ∧ Lib.OthersKept 5 (some b) w w') := by
  obtain ⟨p, hB, v, hbk, hown, hne⟩ : ∃ p, Lib.BuilderAtF 124 5 B b p bs w := by
    rcases h with h | h
    · exact ⟨_, h⟩
    · exact ⟨_, h⟩
  have hlt : b < w.heap.size := (Array.getElem?_eq_some_iff.1 hbk).1
  have c0 : w.cell? ⟨b, 0, none⟩ = some p := by rw [Lib.cell_of_heap hbk]; rfl
  have c1 : w.cell? ⟨b, 1, none⟩ = some v := by rw [Lib.cell_of_heap hbk]; rfl
  have f0 : w.frozen? ⟨b, 0, none⟩ = false := Lib.frozen_of_heap hbk 0
  have f1 : w.frozen? ⟨b, 1, none⟩ = false := Lib.frozen_of_heap hbk 1
  go_enter Tryz.func78, Tryz.ntmps78
  go_wp2
  go_end0
  refine ⟨rfl, .inl ⟨hB, .slice none 0 0, ?_, World.ownsRowF_of (World.ownsRow_nil _ _ _ _), by simp [Value.ownBlock]⟩, ((Below.refl B w).setCell (p := ⟨b, 0, none⟩) hB _).setCell (p := ⟨b, 1, none⟩) hB _, ((Lib.OthersKept.refl _ _ w).setCell ⟨b, 0, none⟩ rfl _).setCell ⟨b, 1, none⟩ rfl _⟩
  simp [World.setCell, Array.getElem?_modify, hbk]
end Go.Proofs.YtfnncdngfggcjaaGreatDoor
