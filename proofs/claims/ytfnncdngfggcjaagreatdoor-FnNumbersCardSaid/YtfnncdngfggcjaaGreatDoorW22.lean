/- Walks: a file parsed from no bytes. -/
import Derived.Test.YtfnncdngfggcjaaGreatDoorW21
import Derived.StillTailTactics
namespace Go.Proofs.YtfnncdngfggcjaaGreatDoor
open Go.RowKit

theorem FileAt.opts {w : World} {fb : Nat} {ds sl ix : Value} {mb : Nat} {es : Array MapEntry} {clock : Nat} (h : FileAt w fb ds sl ix mb es clock) :
    w.cell? ⟨fb, 1, none⟩ = some (.bool false) ∧ w.cell? ⟨fb, 2, none⟩ = some (.bool false) ∧ w.cell? ⟨fb, 4, none⟩ = some (.bool false) ∧ w.cell? ⟨fb, 5, none⟩ = some (.bool false) ∧ w.cell? ⟨fb, 10, none⟩ = some (.bool false) ∧ w.cell? ⟨fb, 11, none⟩ = some (.bool false) ∧
    w.cell? ⟨fb, 12, none⟩ = some (.bool false) ∧ w.cell? ⟨fb, 13, none⟩ = some (.bool false) ∧ w.cell? ⟨fb, 14, none⟩ = some (.bool false) ∧ w.cell? ⟨fb, 19, none⟩ = some (.bool false) ∧ w.cell? ⟨fb, 20, none⟩ = some (.int .i64 0) := by
  refine ⟨?_, ?_, ?_, ?_, ?_, ?_, ?_, ?_, ?_, ?_, ?_⟩ <;> (rw [Lib.cell_of_heap h.fl]; rfl)

set_option maxRecDepth 100000 in
set_option maxHeartbeats 4000000 in
/-- (*File).parse of no bytes. -/
theorem parse_none (fb mb r0 : Nat) (ao : Option Addr) (cap : Nat) (ds : Value) (a b : Addr) (w : World) (hf : FileAt w fb ds (.slice none 0 0) (.slice none 0 0) mb #[] 0) (hsrc : w.heap[r0]? = some (.cells #[.slice ao 0 cap, .int .i64 0, .int .i64 (-1)] 318 (0, 0)))
    (hs : Sents w a b) (ho : Off a b [fb, mb]) :
    Calls Tryz.prog 108 #[.pointer (some ⟨fb, 0, none⟩), .iface 173 (.agg #[.iface 315 (.pointer (some ⟨r0, 0, none⟩))])] w fun e w' => e = .returned .nilIface ∧ Keep [fb, mb] w w' ∧
      ∃ g c g2 c2 v, FileAt w' fb ds (.slice (some ⟨g, 0, none⟩) 1 c) (.slice (some ⟨g2, 0, none⟩) 1 c2) mb #[{ key := .string ⟨#[68, 69, 70, 65, 85, 76, 84]⟩, val := v, born := 0 }] 1 ∧
        w'.ownsRow 0 9 1 (.slice (some ⟨g, 0, none⟩) 1 c) 1 [.string ⟨#[68, 69, 70, 65, 85, 76, 84]⟩] ∧ w'.ownsRow 0 3 1 (.slice (some ⟨g2, 0, none⟩) 1 c2) 1 [.int .i64 0] ∧ w.heap.size ≤ g ∧ w.heap.size ≤ g2 := by
  obtain ⟨o1, o2, o4, o5, o10, o11, o12, o13, o14, o19, o20⟩ := hf.opts
  have Hn := Lib.hid (newParser_any r0 ao cap w.drew hsrc)
  unfold opts8 at Hn
  have Hf := Lib.hid hf
  have Hsrc := Lib.hid hsrc
  have Hs := Lib.hid hs
  have Ho := Lib.hid ho
  clear hf hsrc hs ho
  go_enter Tryz.func108, Tryz.ntmps108
  go_upto_region 1 with fail
  go_still_tail 42, (by kernel_rfl)
  change wpList _ _ _ _ _ w.drew
  go_wp2_with fail
  refine Hn.out.mono ?_
  rintro e w1 ⟨pb, rb, bb, rfl, hk1, hr1, p0, p9, q9, hl1, hl2, hne⟩
  have k1 : Keep [fb, mb] w w1 := ((Keep.refl _ w).drew.trans (hk1.mono (by simp)))
  have kk1 : Keep [] w w1 := (Keep.refl [] w).drew.trans hk1
  have s1 := Hs.out.keep kk1 (by intro k hk; simp at hk)
  have lf := (Array.getElem?_eq_some_iff.1 Hf.out.fl).1
  have lm := (Array.getElem?_eq_some_iff.1 Hf.out.mp).1
  have hl1' : w.heap.size ≤ rb := hl1
  have hl2' : w.heap.size ≤ pb := hl2
  have ho1 : Off a b [rb] := by
    intro k hk
    simp at hk
    subst hk
    have h1 := Hs.out.1
    have h2 := Hs.out.2.1
    have h3 := Hs.out.2.2.1
    exact ⟨by omega, by omega, by omega⟩
  have Hb := Lib.hid (bom_end pb rb bb r0 a b w1 p0 hr1 s1 ho1)
  have Hp0 := Lib.hid p0
  have Hp9 := Lib.hid p9
  have Hq9 := Lib.hid q9
  clear Hn hk1 hr1 p0 p9 q9 hl1 hl2 o1 o2 o4 o5 o10 o11 o12 o13 o14 o19 o20
  go_wp2_with fail
  refine Hb.out.mono ?_
  rintro e w2 ⟨rfl, hk2, hr2⟩
  have kk2 : Keep [rb] w w2 := (kk1.mono (by simp)).trans hk2
  have f2 : FileAt w2 fb ds (.slice none 0 0) (.slice none 0 0) mb #[] 0 := Hf.out.keep kk2 (by simp; omega) (by simp; omega)
  obtain ⟨o1, o2, o4, o5, o10, o11, o12, o13, o14, o19, o20⟩ := f2.opts
  have Hns := Lib.hid (newSection_file fb mb 0 0 0 ⟨#[68, 69, 70, 65, 85, 76, 84]⟩ ds (.slice none 0 0) (.slice none 0 0) #[] [] [] [fb, mb] w2 (by decide) f2 (World.ownsRow_nil _ _ _ _) (World.ownsRow_nil _ _ _ _) (by omega) (by omega) (inSlice_nil _ _) (by rfl) (by simp) (by simp) (by simp [Value.ownBlock]) (by simp [Value.ownBlock]))
  go_wp2_with fail
  refine Hns.out.mono ?_
  rintro e w3 ⟨sb, rfl, hk3, hs3, hl3, g, c, g2, c2, v, f3, r9, r3, hg, hg2⟩
  have hr0f : r0 ≠ fb := cells_ne Hsrc.out Hf.out.fl (by decide)
  have hr0m : r0 ≠ mb := by
    rintro rfl
    have h1 := Hf.out.mp
    rw [Hsrc.out] at h1
    cases h1
  have z2 : Keep [] w w2 := kk2.mono (by intro k hk hm; simp at hm; omega)
  have z3 : Keep [fb, mb] w w3 := (z2.mono (by simp)).trans hk3
  have s3 := Hs.out.keep z3 Ho.out
  have n1 : pb ∉ ([fb, mb] : List Nat) := by simp; omega
  have n2 : pb ∉ ([rb] : List Nat) := by simpa using hne
  have p0' := hk3.cell (hk2.cell Hp0.out n2) n1
  have p9' := hk3.cell (hk2.cell Hp9.out n2) n1
  have lp2 : pb < w2.heap.size := World.block_lt_of_cell? _ _ (hk2.cell Hp9.out n2)
  have lp1 : pb < w1.heap.size := World.block_lt_of_cell? _ _ Hp9.out
  have q9' : w3.frozen? ⟨pb, 9, none⟩ = false := (World.frozen?_of_block (w := w2) (hk3.block pb lp2 n1)).trans ((World.frozen?_of_block (w := w1) (hk2.block pb lp1 n2)).trans Hq9.out)
  have hr3 := hr2.keep hk3 (by simp; omega) (by simp; omega)
  have lw3 := z3.size
  have Hru := Lib.hid (readUntil_end pb rb bb r0 (.bool false) a b w3 p0' p9' q9' hne hr3 s3 ho1)
  have F3 := Lib.hid f3
  have R9 := Lib.hid r9
  have R3 := Lib.hid r3
  have Z3 := Lib.hid z3
  have hl2s := z2.size
  have lr2 := (Array.getElem?_eq_some_iff.1 hr2.rd).1
  have hgg : w.heap.size ≤ g ∧ w.heap.size ≤ g2 ∧ rb < g ∧ pb < g ∧ rb < g2 ∧ pb < g2 := by
    simp [Value.ownBlock] at hg hg2
    omega
  clear lr2
  obtain ⟨o1, o2, o4, o5, o10, o11, o12, o13, o14, o19, o20⟩ := f3.opts
  clear f3 r9 r3 z3 hg hg2 hk3 hk2 hr2 kk2 f2 hs3 hl3 Hns Hb hr3 s3 z2 n1 n2 lp2 lp1 s1 k1 kk1 Hp0 Hp9 Hq9 q9' p0' lw3
  go_wp2_with fail
  refine wp_loop_rounds 2 ?_; rw [rounds_succ]
  go_wp2_with fail
  refine Hru.out.mono ?_
  rintro e w4 ⟨nb, c4, rfl, hk4, p9t⟩
  have m1 : fb ∉ ([rb, pb] : List Nat) := by simp; omega
  have m2 : mb ∉ ([rb, pb] : List Nat) := by simp; omega
  have f4 := F3.out.keep hk4 m1 m2
  have z4 : Keep [fb, mb] w w4 := by
    refine ⟨hk4.os.trans Z3.out.os, hk4.tape.trans Z3.out.tape, hk4.output.trans Z3.out.output, Nat.le_trans Z3.out.size hk4.size, fun k hk hn => ?_⟩
    have h3 := Z3.out.size
    rw [hk4.block k (by omega) (by simp; omega)]
    exact Z3.out.block k hk hn
  have e9 := own_keep (w' := w4) R9.out (fun k hk => by
    obtain ⟨cc, fz, hc⟩ := own_row R9.out hk
    have ek : g = k := by simpa [Value.ownBlock] using hk
    exact hk4.block k (Array.getElem?_eq_some_iff.1 hc).1 (by simp; omega))
  have e3 := own_keep (w' := w4) R3.out (fun k hk => by
    obtain ⟨cc, fz, hc⟩ := own_row R3.out hk
    have ek : g2 = k := by simpa [Value.ownBlock] using hk
    exact hk4.block k (Array.getElem?_eq_some_iff.1 hc).1 (by simp; omega))
  obtain ⟨o1, o2, o4, o5, o10, o11, o12, o13, o14, o19, o20⟩ := f4.opts
  have F4 := Lib.hid f4
  clear f4 Hru m1 m2
  go_wp2_with fail
  refine (trimLeft_none _ _ _ _).mono ?_
  rintro e w5 ⟨rfl, rfl⟩
  go_wp2_with fail
  rw [rounds_succ]
  go_wp2_with fail
  go_ret
  exact ⟨rfl, z4, g, c, g2, c2, v, F4.out, e9, e3, hgg.1, hgg.2.1⟩
end Go.Proofs.YtfnncdngfggcjaaGreatDoor
