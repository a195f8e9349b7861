/- Walks: a file, its sections. -/
import Derived.Test.YtfnncdngfggcjaaGreatDoorW20
import Derived.Deep.DeepCutAuto
import Derived.Deep.AppendLies
import Derived.Deep.RegionLaw
namespace Go.Proofs.YtfnncdngfggcjaaGreatDoor
open Go.RowKit

theorem Tryz.info63 : (Tryz.prog.info? 63).map (fun i => (i.zero, i.size, i.bytes)) = some (some (.pointer none), 1, 8) := by kernel_rfl

theorem make_map (t : TypeId) (wx : World) : (Instr.makeMap t none).run Tryz.prog wx = .ok (.map (some wx.heap.size)) (wx.alloc (.map #[] 0)) := rfl

theorem own_le {w : World} {base base' size n : Nat} {e : TypeId} {v : Value} {xs : List Value} (h : w.ownsRow base e size v n xs) (hb : base' ≤ base) : w.ownsRow base' e size v n xs :=
  ⟨h.1, h.2.elim Or.inl (fun ⟨g, cap, cur, hv, hg, r⟩ => Or.inr ⟨g, cap, cur, hv, Nat.le_trans hb hg, r⟩)⟩

/-- A file's cells. -/
def fcells (ds sl ix : Value) (mb : Nat) : Array Value := #[.bool false, .bool false, .bool false, .bool false, .bool false, .bool false, .bool false, .bool false, .bool false, .bool false, .bool false, .bool false, .bool false, .bool false, .bool false,
  .slice none 0 0, .string ⟨#[61, 58]⟩, .string ⟨#[61]⟩, .string ⟨#[46]⟩, .bool false, .int .i64 0, .bool false, .bool false, ds, .bool true, sl, ix, .map (some mb), .nilFunc]
/-- A section's cells. -/
def scells (fb : Nat) (name : ByteArray) (k3 : Nat) (kl : Value) (k5 : Nat) : Array Value := #[.pointer (some ⟨fb, 0, none⟩), .string ⟨#[]⟩, .string name, .map (some k3), kl, .map (some k5), .bool false, .string ⟨#[]⟩]

/-- A section as newSection makes it; its maps are no older than block B. -/
structure SecAt (w : World) (B fb sb : Nat) (name : ByteArray) : Prop where
  parts : ∃ k3 g c k5, w.heap[sb]? = some (.cells (scells fb name k3 (.slice (some ⟨g, 0, none⟩) 0 c) k5) 71 (0, 0)) ∧ w.heap[k3]? = some (.map #[] 0) ∧ w.heap[k5]? = some (.map #[] 0) ∧ w.ownsRow B 9 1 (.slice (some ⟨g, 0, none⟩) 0 c) 0 [] ∧ k3 ≠ k5 ∧ B ≤ k3 ∧ B ≤ k5
theorem SecAt.keep {w w' : World} {B fb sb : Nat} {name : ByteArray} (h : SecAt w B fb sb name) (hk : Keep [] w w') : SecAt w' B fb sb name := by
  obtain ⟨k3, g, c, k5, h1, h2, h3, h4, h5⟩ := h.parts
  exact ⟨k3, g, c, k5, hk.heap h1 (by simp), hk.heap h2 (by simp), hk.heap h3 (by simp), own_below h4 (hk.below (Nat.le_refl _) (by simp)), h5⟩
theorem SecAt.mono {w : World} {B B' fb sb : Nat} {name : ByteArray} (h : SecAt w B fb sb name) (hb : B' ≤ B) : SecAt w B' fb sb name := by
  obtain ⟨k3, g, c, k5, h1, h2, h3, h4, h5, h6, h7⟩ := h.parts
  exact ⟨k3, g, c, k5, h1, h2, h3, own_le h4 hb, h5, by omega, by omega⟩

set_option maxRecDepth 100000 in
set_option maxHeartbeats 2000000 in
/-- newSection. -/
theorem newSection_any (fb : Nat) (name : ByteArray) (w : World) :
    Calls Tryz.prog 58 #[.pointer (some ⟨fb, 0, none⟩), .string name] w fun e w' => ∃ sb, e = .returned (.pointer (some ⟨sb, 0, none⟩)) ∧ Keep [] w w' ∧ SecAt w' w.heap.size fb sb name ∧ w.heap.size ≤ sb := by
  obtain ⟨i0, hi, hz0, hz1, hz2⟩ := info_parts Tryz.info9
  have hm := make_map
  go_enter Tryz.func58, Tryz.ntmps58
  go_wp2_with (at_make; refine wpList_make_own _ rfl _ _ 29 rfl w.heap.size 9 i0 (.string ⟨#[]⟩) 1 Tryz.underlying29 hi hz0 hz1 .i64 .i64 _ 10 rfl rfl rfl (by rw [hz2]; omega) (by unfold maxLen; omega) (by simp) ?_; intro w2 hown2 hgrow2)
  go_ret
  have h3 : w2.heap[w.heap.size]? = some (.map #[] 0) := by
    rw [hgrow2.block _ (by simp) (by simp)]
    exact alloc_last _ _ _ rfl
  have hk2 : Keep [] w w2 := ((Keep.refl [] w).alloc _).grown hgrow2 (fun k h => by cases h)
  have hl := hgrow2.size
  have e1 : (w.alloc (.map #[] 0)).heap.size = w.heap.size + 1 := by simp
  rw [e1] at hown2
  have hlt3 := (Array.getElem?_eq_some_iff.1 h3).1
  refine ⟨_, rfl, (hk2.alloc _).alloc _, ⟨w.heap.size, w.heap.size + 1, 10, w2.heap.size, ?_, ?_, ?_, ?_, ?_, Nat.le_refl _, by omega⟩, ?_⟩
  · exact alloc_last _ _ _ (by simp)
  · exact (Lib.alloc_old _ _ _ (by simp; omega)).trans ((Lib.alloc_old _ _ _ hlt3).trans h3)
  · exact (Lib.alloc_old _ _ _ (by simp)).trans (alloc_last _ _ _ rfl)
  · exact (hown2.alloc _).alloc _
  · omega
  · have := hk2.size
    simp; omega

/-- A file: its cells, its map of sections. -/
structure FileAt (w : World) (fb : Nat) (ds sl ix : Value) (mb : Nat) (es : Array MapEntry) (clock : Nat) : Prop where
  fl : w.heap[fb]? = some (.cells (fcells ds sl ix mb) 103 (0, 0))
  mp : w.heap[mb]? = some (.map es clock)
theorem FileAt.keep {S : List Nat} {w w' : World} {fb : Nat} {ds sl ix : Value} {mb : Nat} {es : Array MapEntry} {clock : Nat} (h : FileAt w fb ds sl ix mb es clock) (hk : Keep S w w') (h1 : fb ∉ S) (h2 : mb ∉ S) : FileAt w' fb ds sl ix mb es clock :=
  ⟨hk.heap h.fl h1, hk.heap h.mp h2⟩
theorem FileAt.ne {w : World} {fb : Nat} {ds sl ix : Value} {mb : Nat} {es : Array MapEntry} {clock : Nat} (h : FileAt w fb ds sl ix mb es clock) : mb ≠ fb := by
  rintro rfl
  have h1 := h.fl
  rw [h.mp] at h1
  cases h1
theorem FileAt.cells {w : World} {fb : Nat} {ds sl ix : Value} {mb : Nat} {es : Array MapEntry} {clock : Nat} (h : FileAt w fb ds sl ix mb es clock) :
    w.cell? ⟨fb, 1, none⟩ = some (.bool false) ∧ w.cell? ⟨fb, 2, none⟩ = some (.bool false) ∧ w.cell? ⟨fb, 21, none⟩ = some (.bool false) ∧ w.cell? ⟨fb, 25, none⟩ = some sl ∧ w.cell? ⟨fb, 26, none⟩ = some ix ∧ w.cell? ⟨fb, 27, none⟩ = some (.map (some mb)) ∧
    w.frozen? ⟨fb, 25, none⟩ = false ∧ w.frozen? ⟨fb, 26, none⟩ = false :=
  ⟨by rw [Lib.cell_of_heap h.fl]; rfl, by rw [Lib.cell_of_heap h.fl]; rfl, by rw [Lib.cell_of_heap h.fl]; rfl, by rw [Lib.cell_of_heap h.fl]; rfl, by rw [Lib.cell_of_heap h.fl]; rfl, by rw [Lib.cell_of_heap h.fl]; rfl, Lib.frozen_of_heap h.fl 25, Lib.frozen_of_heap h.fl 26⟩
theorem FileAt.set25 {w : World} {fb : Nat} {ds sl ix : Value} {mb : Nat} {es : Array MapEntry} {clock : Nat} (h : FileAt w fb ds sl ix mb es clock) (v : Value) : FileAt (w.setCell ⟨fb, 25, none⟩ v) fb ds v ix mb es clock := by
  have hne := h.ne
  obtain ⟨h1, h2⟩ := h
  exact ⟨by simp [World.setCell, Array.getElem?_modify, h1, fcells], (Below.heap_setCell _ _ _ _ hne).trans h2⟩
theorem FileAt.set26 {w : World} {fb : Nat} {ds sl ix : Value} {mb : Nat} {es : Array MapEntry} {clock : Nat} (h : FileAt w fb ds sl ix mb es clock) (v : Value) : FileAt (w.setCell ⟨fb, 26, none⟩ v) fb ds sl v mb es clock := by
  have hne := h.ne
  obtain ⟨h1, h2⟩ := h
  exact ⟨by simp [World.setCell, Array.getElem?_modify, h1, fcells], (Below.heap_setCell _ _ _ _ hne).trans h2⟩

theorem own_keep {w w' : World} {base : Nat} {e : TypeId} {s : Nat} {v : Value} {n : Nat} {xs : List Value} (h : w.ownsRow base e s v n xs) (hk : ∀ k, v.ownBlock = some k → w'.heap[k]? = w.heap[k]?) : w'.ownsRow base e s v n xs := by
  obtain ⟨h1, h2⟩ := h
  refine ⟨h1, ?_⟩
  rcases h2 with h2 | ⟨g, cap, cur, rfl, hb, hh, r⟩
  · exact .inl h2
  · exact .inr ⟨g, cap, cur, rfl, hb, (hk g (by simp [Value.ownBlock])).trans hh, r⟩

theorem SecAt.putMap {w : World} {B fb sb : Nat} {name : ByteArray} (h : SecAt w B fb sb name) {mb : Nat} {es : Array MapEntry} {clock : Nat} (hm : w.heap[mb]? = some (.map es clock)) (hb : mb < B) (o : Obj) : SecAt (putAt w mb o) B fb sb name := by
  obtain ⟨k3, g, c, k5, h1, h2, h3, h4, h5, h6, h7⟩ := h.parts
  refine ⟨k3, g, c, k5, (putAt_other _ _ _ _ ?_).trans h1, (putAt_other _ _ _ _ (by omega)).trans h2, (putAt_other _ _ _ _ (by omega)).trans h3, own_keep h4 fun k hk => putAt_other _ _ _ _ ?_, h5, h6, h7⟩
  · rintro rfl
    rw [hm] at h1
    cases h1
  · rintro rfl
    rcases h4.2 with ⟨h, _⟩ | ⟨g', cap', cur, hv, _, hh, _⟩
    · cases h
    · have e1 : g' = g := by injection hv with hv; injection hv with hv; injection hv with hv; exact hv.symm
      have e2 : g = k := by simpa [Value.ownBlock] using hk
      subst e1 e2
      rw [hm] at hh
      cases hh

/-- An owned row's block is a row. -/
theorem own_row {w : World} {base : Nat} {e : TypeId} {s : Nat} {v : Value} {n : Nat} {xs : List Value} (h : w.ownsRow base e s v n xs) {k : Nat} (hk : v.ownBlock = some k) : ∃ c fz, w.heap[k]? = some (.cells c e fz) := by
  rcases h.2 with ⟨rfl, _⟩ | ⟨g, cap, cur, rfl, _, hh, _⟩
  · simp [Value.ownBlock] at hk
  · have : g = k := by simpa [Value.ownBlock] using hk
    subst this
    exact ⟨_, _, hh⟩
theorem own_apart {w : World} {base : Nat} {e : TypeId} {s : Nat} {v : Value} {n : Nat} {xs : List Value} (h : w.ownsRow base e s v n xs) {b : Nat} {o : Obj} (hb : w.heap[b]? = some o) (ho : ∀ c fz, o ≠ .cells c e fz) : some b ≠ v.ownBlock := by
  intro he
  obtain ⟨c, fz, hc⟩ := own_row h he.symm
  rw [hb] at hc
  exact ho c fz (Option.some.inj hc)

theorem FileAt.grown {w w2 : World} {fb : Nat} {ds sl ix : Value} {mb : Nat} {es : Array MapEntry} {clock : Nat} {o : Obj} {row : Option Nat} (h : FileAt w fb ds sl ix mb es clock) (hg : (w.alloc o).grownBy w2 row) (h1 : some fb ≠ row) (h2 : some mb ≠ row) : FileAt w2 fb ds sl ix mb es clock := by
  have l1 := (Array.getElem?_eq_some_iff.1 h.fl).1
  have l2 := (Array.getElem?_eq_some_iff.1 h.mp).1
  exact ⟨(hg.block fb (by simp; omega) h1).trans ((Lib.alloc_old _ _ _ l1).trans h.fl), (hg.block mb (by simp; omega) h2).trans ((Lib.alloc_old _ _ _ l2).trans h.mp)⟩
theorem FileAt.off {w w' : World} {fb : Nat} {ds sl ix : Value} {mb : Nat} {es : Array MapEntry} {clock : Nat} {e : TypeId} {v : Value} {k : Nat} {zs : List Value} (h : FileAt w fb ds sl ix mb es clock) (ho : w'.ownsRow 0 e 1 v k zs) (hw : w'.heap = w.heap) (he : e ≠ 103) : some fb ≠ v.ownBlock ∧ some mb ≠ v.ownBlock :=
  ⟨own_apart ho (by rw [hw]; exact h.fl) (by intro c fz e'; injection e' with _ ht; exact he ht.symm), own_apart ho (by rw [hw]; exact h.mp) (by intro c fz e'; cases e')⟩

set_option maxRecDepth 100000 in
set_option maxHeartbeats 4000000 in
/-- (*File).NewSection of a name that is not there. -/
theorem newSection_file (fb mb clock n m : Nat) (name : ByteArray) (ds sl ix : Value) (es : Array MapEntry) (xs ys : List Value) (S : List Nat) (w : World)
    (hn0 : ((name.size : Int) == 0) = false) (hf : FileAt w fb ds sl ix mb es clock) (hsl : w.ownsRow 0 9 1 sl n xs) (hix : w.ownsRow 0 3 1 ix m ys) (hn : n ≤ 10) (hm : m ≤ 10)
    (hin : Calls Tryz.prog 57 #[.string name, sl] w fun e w' => e = .returned (.bool false) ∧ w = w') (hes : Instr.findNow .string (.string name) es.toList 0 = some none)
    (h1 : fb ∈ S) (h2 : mb ∈ S) (h3 : ∀ k, sl.ownBlock = some k → k ∈ S) (h4 : ∀ k, ix.ownBlock = some k → k ∈ S) :
    Calls Tryz.prog 38 #[.pointer (some ⟨fb, 0, none⟩), .string name] w fun e w' => ∃ sb, e = .returned (.tuple #[.pointer (some ⟨sb, 0, none⟩), .nilIface]) ∧ Keep S w w' ∧ SecAt w' w.heap.size fb sb name ∧ w.heap.size ≤ sb ∧
      ∃ g c g2 c2 v, FileAt w' fb ds (.slice (some ⟨g, 0, none⟩) (n + 1) c) (.slice (some ⟨g2, 0, none⟩) (m + 1) c2) mb (es.push { key := .string name, val := v, born := clock }) (clock + 1) ∧
        w'.ownsRow 0 9 1 (.slice (some ⟨g, 0, none⟩) (n + 1) c) (n + 1) (xs ++ [.string name]) ∧ w'.ownsRow 0 3 1 (.slice (some ⟨g2, 0, none⟩) (m + 1) c2) (m + 1) (ys ++ [.int .i64 0]) ∧ (sl.ownBlock = some g ∨ w.heap.size ≤ g) ∧ (ix.ownBlock = some g2 ∨ w.heap.size ≤ g2) := by
  obtain ⟨i0, hi, hz0, hz1, hz2⟩ := info_parts Tryz.info9
  obtain ⟨c1, c2, c21, c25, c26, c27, f25, f26⟩ := hf.cells
  have Hin := Lib.hid hin
  have Hf := Lib.hid hf
  have Hsl := Lib.hid hsl
  have Hix := Lib.hid hix
  have Hes := Lib.hid hes
  have Hs3 := Lib.hid h3
  have Hs4 := Lib.hid h4
  clear hin hf hsl hix hes h3 h4
  go_enter Tryz.func38, Tryz.ntmps38
  go_wp2_with fail
  refine Hin.out.mono ?_
  rintro e w' ⟨rfl, rfl⟩
  go_upto_region 8 with (at_builtin; refine wpList_append_lies _ rfl (.tmp 55) (.tmp 57) 29 rfl 0 9 i0 (.string ⟨#[]⟩) 1 16 Tryz.underlying29 hi hz0 hz1 hz2 rfl (by decide) sl n xs rfl (Hsl.out.alloc _) ⟨w.heap.size, 0, none⟩ 1 1 [.string name] rfl rfl (cell_one_new _ _ _) (by intro u hu; simp at hu; subst hu; rfl) (by omega) (by unfold maxLen; omega) (by omega) (by omega) _ rfl ?_; intro g cap w2 hown2 hgrow2 hat hlt; have hf2 := Hf.out.grown hgrow2 (Hf.out.off Hsl.out rfl (by decide)).1 (Hf.out.off Hsl.out rfl (by decide)).2; obtain ⟨d1, d2, d21, d25, d26, d27, e25, e26⟩ := hf2.cells)
  have hf3 := hf2.set25 (.slice (some ⟨g, 0, none⟩) (n + 1) cap)
  have hk3 : Keep S w (w2.setCell ⟨fb, 25, none⟩ (.slice (some ⟨g, 0, none⟩) (n + 1) cap)) := (((Keep.refl S w).alloc _).grown hgrow2 (fun k hk => .inl (Hs3.out k hk))).setCell _ _ (.inl h1)
  have hix2 := (Hix.out.alloc (.cells #[.string name] 9)).kept hgrow2 (own_ne Hix.out Hsl.out (by decide))
  have hix3 : (w2.setCell ⟨fb, 25, none⟩ (.slice (some ⟨g, 0, none⟩) (n + 1) cap)).ownsRow 0 3 1 ix m ys := own_keep hix2 fun k hk => Below.heap_setCell _ _ _ _ fun he => (hf2.off hix2 rfl (by decide)).1 (by rw [hk, he])
  have hown3 : (w2.setCell ⟨fb, 25, none⟩ (.slice (some ⟨g, 0, none⟩) (n + 1) cap)).ownsRow 0 9 1 (.slice (some ⟨g, 0, none⟩) (n + 1) cap) (n + 1) (xs ++ [.string name]) := own_keep hown2 fun k hk => Below.heap_setCell _ _ _ _ fun he => (hf2.off hown2 rfl (by decide)).1 (by rw [hk, he])
  have hat3 : sl.ownBlock = some g ∨ w.heap.size ≤ g := by
    rcases hat with h | h
    · exact .inl h
    · right; simp at h; omega
  clear hf2 hix2 hown2 hgrow2 hat hlt d1 d2 d21 d25 d26 d27 e25 e26 c1 c2 c21 c25 c26 c27 f25 f26
  generalize w2.setCell ⟨fb, 25, none⟩ (.slice (some ⟨g, 0, none⟩) (n + 1) cap) = w3 at *
  have Hf3 := Lib.hid hf3
  have Hix3 := Lib.hid hix3
  have Hown3 := Lib.hid hown3
  have Hk3 := Lib.hid hk3
  clear hf3 hix3 hown3 hk3
  go_cut [] from 7 (fun wx => ∃ g2 c2, FileAt wx fb ds (.slice (some ⟨g, 0, none⟩) (n + 1) cap) (.slice (some ⟨g2, 0, none⟩) (m + 1) c2) mb es clock ∧ wx.ownsRow 0 9 1 (.slice (some ⟨g, 0, none⟩) (n + 1) cap) (n + 1) (xs ++ [.string name]) ∧
    wx.ownsRow 0 3 1 (.slice (some ⟨g2, 0, none⟩) (m + 1) c2) (m + 1) (ys ++ [.int .i64 0]) ∧ Keep S w wx ∧ (ix.ownBlock = some g2 ∨ w.heap.size ≤ g2))
  case first =>
    obtain ⟨j0, hj, hy0, hy1, hy2⟩ := info_parts Tryz.info3
    obtain ⟨c1, c2, c21, c25, c26, c27, f25, f26⟩ := Hf3.out.cells
    have hlook := run_look_miss (P := Tryz.prog) w3.drew 100 9 80 mb es clock name (.slice none 0 0) Tryz.underlying100 Tryz.underlying9 (Tryz.zeroValue80 _) Hf3.out.mp Hes.out
    have hfb := (Array.getElem?_eq_some_iff.1 Hf3.out.fl).1
    have ha26 : (w3.drew.alloc (.cells #[.int .i64 0] 3)).cell? ⟨fb, 26, none⟩ = some ix := (World.cell?_of_block (w := w3.drew) (Lib.alloc_old _ _ _ hfb)).trans c26
    go_region_law (first | (refine step_append_lies _ rfl (.tmp 65) (.tmp 73) 38 rfl 0 3 j0 (.int .i64 0) 1 8 Tryz.underlying38 hj hy0 hy1 hy2 rfl (by decide) ix m ys (by simp [Act.eval]) (Hix3.out.drew.alloc _) ⟨w3.heap.size, 0, none⟩ 1 1 [.int .i64 0] (by simp [Act.eval]) rfl (cell_one_new _ _ _) (by intro u hu; simp at hu; subst hu; rfl) (by omega) (by unfold maxLen; omega) (by omega) (by omega) _ rfl ?_; intro g2 cap2 w4 hown4 hgrow4 hat4 hlt4; have hf4 := FileAt.grown (w := w3.drew) ⟨Hf3.out.fl, Hf3.out.mp⟩ hgrow4 (Hf3.out.off Hix3.out rfl (by decide)).1 (Hf3.out.off Hix3.out rfl (by decide)).2; obtain ⟨d1, d2, d21, d25, d26, d27, e25, e26⟩ := hf4.cells))
    all_goals (
      have hsz := Hk3.out.size
      have r9 := (Hown3.out.drew.alloc (.cells #[.int .i64 0] 3)).kept hgrow4 (own_ne Hown3.out Hix3.out (by decide))
      have q9 := own_keep (w' := w4.setCell ⟨fb, 26, none⟩ (.slice (some ⟨g2, 0, none⟩) (m + 1) cap2)) r9 fun k hk => Below.heap_setCell _ _ _ _ fun he => (hf4.off r9 rfl (by decide)).1 (by rw [hk, he])
      have q3 := own_keep (w' := w4.setCell ⟨fb, 26, none⟩ (.slice (some ⟨g2, 0, none⟩) (m + 1) cap2)) hown4 fun k hk => Below.heap_setCell _ _ _ _ fun he => (hf4.off hown4 rfl (by decide)).1 (by rw [hk, he])
      have kk : Keep S w (w4.setCell ⟨fb, 26, none⟩ (.slice (some ⟨g2, 0, none⟩) (m + 1) cap2)) := (((Hk3.out.drew).alloc _).grown hgrow4 (fun k hk => .inl (Hs4.out k hk))).setCell _ _ (.inl h1)
      have ha : ix.ownBlock = some g2 ∨ w.heap.size ≤ g2 := by
        rcases hat4 with h | h
        · exact .inl h
        · right; simp at h; omega
      have hf5 := hf4.set26 (.slice (some ⟨g2, 0, none⟩) (m + 1) cap2)
      clear r9 hgrow4 hat4 hown4 hf4
      go_wp2_with fail
      go_meet
      case rel => exact ⟨g2, cap2, hf5, q9, q3, kk, ha⟩)
  case rest =>
    obtain ⟨g2, cap2, hf5, q9, q3, kk, ha⟩ := hcut
    obtain ⟨c1, c2, c21, c25, c26, c27, f25, f26⟩ := hf5.cells
    go_wp2_with fail
    refine (newSection_any fb name wc).mono ?_
    rintro e w6 ⟨sb, rfl, hk6, hs6, hl6⟩
    have hf6 : FileAt w6 fb ds (.slice (some ⟨g, 0, none⟩) (n + 1) cap) (.slice (some ⟨g2, 0, none⟩) (m + 1) cap2) mb es clock := hf5.keep hk6 (by simp) (by simp)
    have p9 := own_below q9 (hk6.below (Nat.le_refl _) (by simp))
    have p3 := own_below q3 (hk6.below (Nat.le_refl _) (by simp))
    have k6 : Keep S w w6 := kk.trans (hk6.mono (by simp))
    have hl7 : w.heap.size ≤ sb := Nat.le_trans kk.size hl6
    have hs7 := hs6.mono kk.size
    clear hs6
    clear hf5 q9 q3 kk hk6 hl6 c1 c2 c21 c25 c26 c27 f25 f26
    have hmb : mb < w.heap.size := (Array.getElem?_eq_some_iff.1 Hf.out.mp).1
    go_upto_region 10 with fail
    obtain ⟨j0, hj, hy0, hy1, hy2⟩ := info_parts Tryz.info63
    obtain ⟨c1, c2, c21, c25, c26, c27, f25, f26⟩ := hf6.cells
    have hlk1 := run_look_miss (P := Tryz.prog) w6.drew 100 9 80 mb es clock name (.slice none 0 0) Tryz.underlying100 Tryz.underlying9 (Tryz.zeroValue80 _) hf6.mp Hes.out
    have hfb := (Array.getElem?_eq_some_iff.1 hf6.fl).1
    have hmb6 := (Array.getElem?_eq_some_iff.1 hf6.mp).1
    have hlk2 := run_look_miss (P := Tryz.prog) (w6.alloc (.cells #[.pointer (some ⟨sb, 0, none⟩)] 63)).drew 100 9 80 mb es clock name (.slice none 0 0) Tryz.underlying100 Tryz.underlying9 (Tryz.zeroValue80 _) ((Lib.alloc_old _ _ _ hmb6).trans hf6.mp) Hes.out
    have ha27 : (w6.alloc (.cells #[.pointer (some ⟨sb, 0, none⟩)] 63)).cell? ⟨fb, 27, none⟩ = some (.map (some mb)) := (World.cell?_of_block (w := w6) (Lib.alloc_old _ _ _ hfb)).trans c27
    clear c1 c2 c21 c25 c26 f25 f26
    go_region_law (first | (refine step_append_lies _ rfl (.tmp 90) (.tmp 92) 80 rfl 0 63 j0 (.pointer none) 1 8 Tryz.underlying80 hj hy0 hy1 hy2 rfl (by decide) (.slice none 0 0) 0 [] (by simp [Act.eval]) (World.ownsRow_nil _ _ _ _) ⟨w6.heap.size, 0, none⟩ 1 1 [.pointer (some ⟨sb, 0, none⟩)] (by simp [Act.eval]) rfl (cell_one_new _ _ _) (by intro u hu; simp at hu; subst hu; rfl) (by omega) (by unfold maxLen; omega) (by omega) (by omega) _ rfl ?_; intro g3 cap3 w7 hown7 hgrow7 hat7 hlt7; have hf7 := FileAt.grown (w := w6.drew) ⟨hf6.fl, hf6.mp⟩ hgrow7 (by simp [Value.ownBlock]) (by simp [Value.ownBlock]); have d27 := hf7.cells.2.2.2.2.2.1; have hup := run_upd_new (P := Tryz.prog) w7 100 9 80 mb es clock name (.slice (some ⟨g3, 0, none⟩) 1 cap3) Tryz.underlying100 Tryz.underlying9 hf7.mp Hes.out))
    all_goals (
      clear hlk1 hlk2 ha27 hup c27 d27
      have kk7 : Keep [] w6 w7 := ((Keep.refl [] w6).drew.alloc _).grown hgrow7 (fun k hk => by simp [Value.ownBlock] at hk)
      have kk8 : Keep S w w7 := ((k6.drew).alloc _).grown hgrow7 (fun k hk => by simp [Value.ownBlock] at hk)
      have r9 := own_below p9 (kk7.below (Nat.le_refl _) (by simp))
      have r3 := own_below p3 (kk7.below (Nat.le_refl _) (by simp))
      have s7 := (hs7.keep kk7).putMap hf7.mp hmb
      have hm7 := (Array.getElem?_eq_some_iff.1 hf7.mp).1
      go_wp2_with fail
      go_ret2
      refine ⟨sb, rfl, kk8.putAt _ _ (.inl h2), s7 _, hl7, g, cap, g2, cap2, _, ⟨(putAt_other _ _ _ _ hf7.ne.symm).trans hf7.fl, putAt_same _ _ _ hm7⟩, own_keep r9 fun k hk => putAt_other _ _ _ _ ?_, own_keep r3 fun k hk => putAt_other _ _ _ _ ?_, hat3, ha⟩
      · intro he
        exact (hf7.off r9 rfl (by decide)).2 (by rw [hk, he])
      · intro he
        exact (hf7.off r3 rfl (by decide)).2 (by rw [hk, he]))

end Go.Proofs.YtfnncdngfggcjaaGreatDoor
