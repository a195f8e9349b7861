/- Walks: a key made in a section. -/
import Derived.Test.YtfnncdngfggcjaaGreatDoorW25
namespace Go.Proofs.YtfnncdngfggcjaaGreatDoor
open Go.RowKit

/-- A key's cells. -/
def kcells (sb : Nat) (name value : ByteArray) : Array Value := #[.pointer (some ⟨sb, 0, none⟩), .string ⟨#[]⟩, .string name, .string value, .bool false, .bool false, .bool false, .slice none 0 0, .slice none 0 0]

set_option maxRecDepth 100000 in
set_option maxHeartbeats 2000000 in
/-- newKey. -/
theorem newKey_any (sb : Nat) (name value : ByteArray) (w : World) :
    Calls Tryz.prog 60 #[.pointer (some ⟨sb, 0, none⟩), .string name, .string value] w fun e w' => e = .returned (.pointer (some ⟨w.heap.size, 0, none⟩)) ∧ w' = w.alloc (.cells (kcells sb name value) 76) := by
  go_enter Tryz.func60, Tryz.ntmps60
  go_wp2_with fail
  go_ret
  exact ⟨rfl, rfl⟩

theorem newKey_new (sb : Nat) (name value : ByteArray) (w : World) :
    Calls Tryz.prog 60 #[.pointer (some ⟨sb, 0, none⟩), .string name, .string value] w fun e w' => ∃ kb, e = .returned (.pointer (some ⟨kb, 0, none⟩)) ∧ Keep [] w w' ∧ w'.heap[kb]? = some (.cells (kcells sb name value) 76 (0, 0)) := by
  refine (newKey_any sb name value w).mono ?_
  rintro e w' ⟨rfl, rfl⟩
  exact ⟨_, rfl, (Keep.refl [] w).alloc _, alloc_last _ _ _ rfl⟩

set_option maxRecDepth 100000 in
set_option maxHeartbeats 4000000 in
/-- (*Section).NewKey of a section with no key. -/
theorem newKey_section (B fb sb mb clock : Nat) (ds sl ix : Value) (es : Array MapEntry) (sname value : ByteArray) (w : World) (hsec : SecAt w B fb sb sname) (hf : FileAt w fb ds sl ix mb es clock) (hB : B ≤ sb) (hBw : B ≤ w.heap.size) :
    Calls Tryz.prog 39 #[.pointer (some ⟨sb, 0, none⟩), .string ⟨#[107]⟩, .string value] w fun e w' => ∃ kb, e = .returned (.tuple #[.pointer (some ⟨kb, 0, none⟩), .nilIface]) ∧ Below B w w' ∧ w'.heap[kb]? = some (.cells (kcells sb ⟨#[107]⟩ value) 76 (0, 0)) ∧
      w'.cell? ⟨sb, 0, none⟩ = some (.pointer (some ⟨fb, 0, none⟩)) ∧ w'.heap[fb]? = some (.cells (fcells ds sl ix mb) 103 (0, 0)) := by
  obtain ⟨k3, g, c, k5, hs, h3, h5, hown, hne, hb3, hb5⟩ := hsec.parts
  obtain ⟨i0, hi, hz0, hz1, hz2⟩ := info_parts Tryz.info9
  have hin : Calls Tryz.prog 57 #[.string ⟨#[107]⟩, .slice (some ⟨g, 0, none⟩) 0 c] w fun e w' => e = .returned (.bool false) ∧ w = w' :=
    inSlice_no ⟨#[107]⟩ g 0 c (fun _ => ⟨#[]⟩) w (by omega) (fun j h => by omega) (fun j h => by omega)
  have a1 : w.cell? ⟨fb, 1, none⟩ = some (.bool false) := by rw [Lib.cell_of_heap hf.fl]; rfl
  have a3 : w.cell? ⟨fb, 3, none⟩ = some (.bool false) := by rw [Lib.cell_of_heap hf.fl]; rfl
  have s0 : w.cell? ⟨sb, 0, none⟩ = some (.pointer (some ⟨fb, 0, none⟩)) := by rw [Lib.cell_of_heap hs]; rfl
  have s4 : w.cell? ⟨sb, 4, none⟩ = some (.slice (some ⟨g, 0, none⟩) 0 c) := by rw [Lib.cell_of_heap hs]; rfl
  have Hin := Lib.hid hin
  have Hs := Lib.hid hs
  have H3 := Lib.hid h3
  have H5 := Lib.hid h5
  have Hown := Lib.hid hown
  have Hf := Lib.hid hf
  clear hin hs h3 h5 hown hf hsec
  go_enter Tryz.func39, Tryz.ntmps39
  go_wp2_with fail
  refine Hin.out.mono ?_
  rintro e w' ⟨rfl, rfl⟩
  have ngs : sb ≠ g := by
    obtain ⟨cc, fz, hc⟩ := own_row Hown.out (k := g) (by simp [Value.ownBlock])
    exact cells_ne Hs.out hc (by decide)
  have ngf : fb ≠ g := by
    obtain ⟨cc, fz, hc⟩ := own_row Hown.out (k := g) (by simp [Value.ownBlock])
    exact cells_ne Hf.out.fl hc (by decide)
  have hgB : B ≤ g := (Hown.out.lt g (by simp [Value.ownBlock])).1
  have hmapg : ∀ k es' cl, w.heap[k]? = some (.map es' cl) → k ≠ g := by
    rintro k es' cl hk rfl
    obtain ⟨cc, fz, hc⟩ := own_row Hown.out (k := k) (by simp [Value.ownBlock])
    rw [hk] at hc
    cases hc
  have hmaps : ∀ k es' cl, w.heap[k]? = some (.map es' cl) → k ≠ sb := by
    rintro k es' cl hk rfl
    have := Hs.out
    rw [hk] at this
    cases this
  have n3g := hmapg _ _ _ H3.out
  have n5g := hmapg _ _ _ H5.out
  have n3s := hmaps _ _ _ H3.out
  have n5s := hmaps _ _ _ H5.out
  have nfs : fb ≠ sb := cells_ne Hf.out.fl Hs.out (by decide)
  clear hmapg hmaps
  go_upto_region 14 with (at_builtin; refine wpList_append_lies _ rfl (.tmp 83) (.tmp 85) 29 rfl B 9 i0 (.string ⟨#[]⟩) 1 16 Tryz.underlying29 hi hz0 hz1 hz2 rfl (by decide) (.slice (some ⟨g, 0, none⟩) 0 c) 0 [] rfl (Hown.out.alloc _) ⟨w.heap.size, 0, none⟩ 1 1 [.string ⟨#[107]⟩] rfl rfl (cell_one_new _ _ _) (by intro u hu; simp at hu; subst hu; rfl) (by omega) (by unfold maxLen; omega) (by omega) (by simp; omega) _ rfl ?_; intro g' cap' w2 hown2 hgrow2 hat hlt; have hs2 : w2.heap[sb]? = some (.cells (scells fb sname k3 (.slice (some ⟨g, 0, none⟩) 0 c) k5) 71 (0, 0)) := (hgrow2.block sb (by have := (Array.getElem?_eq_some_iff.1 Hs.out).1; simp; omega) (by simp [Value.ownBlock]; exact ngs)).trans ((Lib.alloc_old _ _ _ (Array.getElem?_eq_some_iff.1 Hs.out).1).trans Hs.out); have d4 : w2.cell? ⟨sb, 4, none⟩ = some (.slice (some ⟨g, 0, none⟩) 0 c) := (by rw [Lib.cell_of_heap hs2]; rfl); have e4 : w2.frozen? ⟨sb, 4, none⟩ = false := Lib.frozen_of_heap hs2 4)
  have hs3 : (w2.setCell ⟨sb, 4, none⟩ (.slice (some ⟨g', 0, none⟩) 1 cap')).heap[sb]? = some (.cells (scells fb sname k3 (.slice (some ⟨g', 0, none⟩) 1 cap') k5) 71 (0, 0)) := by
    simp [World.setCell, Array.getElem?_modify, hs2, scells]
  have keep2 : ∀ k o, w.heap[k]? = some o → k ≠ g → k ≠ sb → (w2.setCell ⟨sb, 4, none⟩ (.slice (some ⟨g', 0, none⟩) 1 cap')).heap[k]? = some o := by
    intro k o hk n1 n2
    have hlt := (Array.getElem?_eq_some_iff.1 hk).1
    exact (Below.heap_setCell _ _ _ _ n2).trans ((hgrow2.block k (by simp; omega) (by simp [Value.ownBlock]; exact n1)).trans ((Lib.alloc_old _ _ _ hlt).trans hk))
  have hb3 : Below B w (w2.setCell ⟨sb, 4, none⟩ (.slice (some ⟨g', 0, none⟩) 1 cap')) :=
    (((Below.refl B w).alloc hBw _).grown hgrow2 (by simp; omega) (fun k hk => by simp [Value.ownBlock] at hk; omega)).setCell hB _
  have h33 := keep2 _ _ H3.out n3g n3s
  have h53 := keep2 _ _ H5.out n5g n5s
  have ff3 := keep2 _ _ Hf.out.fl ngf nfs
  have hBw3 : B ≤ (w2.setCell ⟨sb, 4, none⟩ (.slice (some ⟨g', 0, none⟩) 1 cap')).heap.size := Nat.le_trans hBw hb3.size
  clear keep2 hown2 hgrow2 hat hlt hs2 d4 e4
  generalize w2.setCell ⟨sb, 4, none⟩ (.slice (some ⟨g', 0, none⟩) 1 cap') = w3 at *
  have c3 : w3.cell? ⟨sb, 3, none⟩ = some (.map (some k3)) := by rw [Lib.cell_of_heap hs3]; rfl
  have Hnk := Lib.hid (fun (wx : World) => newKey_new sb ⟨#[107]⟩ value wx)
  have Hs3 := Lib.hid hs3
  have H33 := Lib.hid h33
  clear hs3 h33
  go_region_with ((go_at_call 60; refine (Hnk.out _).mono ?_; rintro e w4 ⟨kb, rfl, hk4, hkb⟩; have d3 := hk4.cell (p := ⟨sb, 3, none⟩) c3 (by simp); have hup := run_upd_new (P := Tryz.prog) w4 68 9 54 k3 #[] 0 ⟨#[107]⟩ (.pointer (some ⟨kb, 0, none⟩)) Tryz.underlying68 Tryz.underlying9 (hk4.heap H33.out (by simp)) rfl))
  all_goals (
    have hs4 := hk4.heap Hs3.out (by simp)
    have h34 := hk4.heap H33.out (by simp)
    have h54 := hk4.heap h53 (by simp)
    have ff4 := hk4.heap ff3 (by simp)
    have hb4 : Below B w w4 := hb3.drew.trans (Below.mono (hk4.below (Nat.le_refl _) (by simp)) hBw3)
    have l34 := (Array.getElem?_eq_some_iff.1 h34).1
    have nk3 : ∀ k cs T fz, w4.heap[k]? = some (.cells cs T fz) → k ≠ k3 := by
      rintro k cs T fz hk rfl
      rw [h34] at hk
      cases hk
    have nk5 : ∀ k cs T fz, w4.heap[k]? = some (.cells cs T fz) → k ≠ k5 := by
      rintro k cs T fz hk rfl
      rw [h54] at hk
      cases hk
    have hs5 := (putAt_other w4 k3 (.map #[{ key := .string ⟨#[107]⟩, val := .pointer (some ⟨kb, 0, none⟩), born := 0 }] 1) sb (nk3 _ _ _ _ hs4)).trans hs4
    have ff5 := (putAt_other w4 k3 (.map #[{ key := .string ⟨#[107]⟩, val := .pointer (some ⟨kb, 0, none⟩), born := 0 }] 1) fb (nk3 _ _ _ _ ff4)).trans ff4
    have hkb5 := (putAt_other w4 k3 (.map #[{ key := .string ⟨#[107]⟩, val := .pointer (some ⟨kb, 0, none⟩), born := 0 }] 1) kb (nk3 _ _ _ _ hkb)).trans hkb
    have h55 := (putAt_other w4 k3 (.map #[{ key := .string ⟨#[107]⟩, val := .pointer (some ⟨kb, 0, none⟩), born := 0 }] 1) k5 hne.symm).trans h54
    have h35 := putAt_same w4 k3 (.map #[{ key := .string ⟨#[107]⟩, val := .pointer (some ⟨kb, 0, none⟩), born := 0 }] 1) l34
    have hb5 : Below B w (putAt w4 k3 (.map #[{ key := .string ⟨#[107]⟩, val := .pointer (some ⟨kb, 0, none⟩), born := 0 }] 1)) :=
      ⟨hb4.os, hb4.tape, hb4.output, by rw [putAt_size]; exact hb4.size, fun k hk => (putAt_other _ _ _ _ (by omega)).trans (hb4.block k hk)⟩
    have ns5 := nk5 _ _ _ _ hs4
    have nf5 := nk5 _ _ _ _ ff4
    have nkb5 := nk5 _ _ _ _ hkb
    clear hk4 d3 hup hs4 h34 h54 ff4 hb4 l34 nk3 nk5 hkb
    generalize putAt w4 k3 (.map #[{ key := .string ⟨#[107]⟩, val := .pointer (some ⟨kb, 0, none⟩), born := 0 }] 1) = w5 at *
    have d5 : w5.cell? ⟨sb, 5, none⟩ = some (.map (some k5)) := by rw [Lib.cell_of_heap hs5]; rfl
    have hup5 := run_upd_new (P := Tryz.prog) w5 69 9 9 k5 #[] 0 ⟨#[107]⟩ (.string value) Tryz.underlying69 Tryz.underlying9 h55 rfl
    have hs6 := (putAt_other w5 k5 (.map #[{ key := .string ⟨#[107]⟩, val := .string value, born := 0 }] 1) sb ns5).trans hs5
    have ff6 := (putAt_other w5 k5 (.map #[{ key := .string ⟨#[107]⟩, val := .string value, born := 0 }] 1) fb nf5).trans ff5
    have hkb6 := (putAt_other w5 k5 (.map #[{ key := .string ⟨#[107]⟩, val := .string value, born := 0 }] 1) kb nkb5).trans hkb5
    have h36 := (putAt_other w5 k5 (.map #[{ key := .string ⟨#[107]⟩, val := .string value, born := 0 }] 1) k3 hne).trans h35
    have hb6 : Below B w (putAt w5 k5 (.map #[{ key := .string ⟨#[107]⟩, val := .string value, born := 0 }] 1)) :=
      ⟨hb5.os, hb5.tape, hb5.output, by rw [putAt_size]; exact hb5.size, fun k hk => (putAt_other _ _ _ _ (by omega)).trans (hb5.block k hk)⟩
    have Hs6 := Lib.hid hs6
    have Ff6 := Lib.hid ff6
    have Hkb6 := Lib.hid hkb6
    have H36 := Lib.hid h36
    have Hb6 := Lib.hid hb6
    clear hs6 ff6 hkb6 h36 hb6 hs5 ff5 hkb5 h55 h35 hb5 c3
    go_upto_region 16 with fail
    generalize putAt w5 k5 (.map #[{ key := .string ⟨#[107]⟩, val := .string value, born := 0 }] 1) = w6 at *
    have d6 : w6.cell? ⟨sb, 3, none⟩ = some (.map (some k3)) := by rw [Lib.cell_of_heap Hs6.out]; rfl
    have hlk := run_look_hit (P := Tryz.prog) w6 68 9 54 k3 _ _ ⟨#[107]⟩ 0 (.pointer (some ⟨kb, 0, none⟩)) Tryz.underlying68 Tryz.underlying9 H36.out rfl
    go_wp2_with fail
    go_ret2
    exact ⟨kb, rfl, Hb6.out, Hkb6.out, by rw [Lib.cell_of_heap Hs6.out]; rfl, Ff6.out⟩)
end Go.Proofs.YtfnncdngfggcjaaGreatDoor
