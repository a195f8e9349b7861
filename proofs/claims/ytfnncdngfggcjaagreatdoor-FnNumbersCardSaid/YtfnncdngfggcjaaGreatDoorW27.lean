/- Walks: impl.alone. -/
import Derived.Test.YtfnncdngfggcjaaGreatDoorW26
namespace Go.Proofs.YtfnncdngfggcjaaGreatDoor
open Go.RowKit

set_option maxRecDepth 100000 in
set_option maxHeartbeats 4000000 in
/-- impl.alone of a text without a sign of percent: a key that holds it. -/
theorem alone_any (s : ByteArray) (a b : Addr) (w : World) (hs : s.size ≤ 4096) (hp : NoPct s) (hse : Sents w a b) :
    Calls Tryz.prog 29 #[.string s] w fun e w' => ∃ kb, e = .returned (.pointer (some ⟨kb, 0, none⟩)) ∧ Below w.heap.size w w' ∧ KeyAt w' kb s := by
  have He := Lib.hid (empty_any a b w hse)
  clear hse
  go_enter Tryz.func29, Tryz.ntmps29
  go_wp2_with fail
  refine He.out.mono ?_
  rintro e w1 ⟨fb, rfl, hk1, mb, ds, g, c, g2, c2, v, f1, r9, r3, hg, hg2, hfb, hmb⟩
  obtain ⟨g', cap', hv, _, _, hcell⟩ := own_form r9 (by omega)
  have e1 : g' = g := by injection hv with hv; injection hv with hv; injection hv with hv; exact hv.symm
  subst e1
  have hin := inSlice_no ⟨#[115]⟩ g' 1 c (fun _ => ⟨#[68, 69, 70, 65, 85, 76, 84]⟩) w1 (by omega) (fun j hj => by
    have : j = 0 := by omega
    subst this
    exact hcell 0 _ rfl) (fun _ _ => (by decide +kernel : ((⟨#[115]⟩ : ByteArray).toList == (⟨#[68, 69, 70, 65, 85, 76, 84]⟩ : ByteArray).toList) = false))
  have Hn := Lib.hid (newSection_file fb mb 1 1 1 ⟨#[115]⟩ ds _ _ _ _ _ [fb, mb, g', g2] w1 (by decide) f1 r9 r3 (by omega) (by omega) hin (by kernel_rfl) (by simp) (by simp) (by intro k hk; simp [Value.ownBlock] at hk; simp [hk]) (by intro k hk; simp [Value.ownBlock] at hk; simp [hk]))
  clear hcell hin He
  go_wp2_with fail
  refine Hn.out.mono ?_
  rintro e w2 ⟨sb, rfl, hk2, hsec, hsb, g3, c3, g4, c4, v2, f2, _, _, _, _⟩
  have hl1 := hk1.size
  have hb2 : Below w.heap.size w w2 := (hk1.below (Nat.le_refl _) (by simp)).trans (hk2.below hl1 (by intro k hk; simp at hk; omega))
  have hl2 := hb2.size
  have Hk := Lib.hid (newKey_section w.heap.size fb sb mb 2 ds _ _ _ ⟨#[115]⟩ s w2 (hsec.mono hl1) f2 (by omega) hl2)
  clear Hn f1 r9 r3
  go_wp2_with fail
  refine Hk.out.mono ?_
  rintro e w3 ⟨kb, rfl, hb3, hkb, hsb0, f3⟩
  have Hen := Lib.hid (ends_any kb (kcells sb ⟨#[107]⟩ s) s w3 hs hp hkb rfl)
  have hb3' := hb2.trans hb3
  clear Hk hb3 hb2 f2
  go_wp2_with fail
  refine Hen.out.mono ?_
  rintro e w4 ⟨rfl, hb4⟩
  go_wp2_with fail
  go_ret
  have l3 := hb3'.size
  have lk := (Array.getElem?_eq_some_iff.1 hkb).1
  have lf := (Array.getElem?_eq_some_iff.1 f3).1
  have ls : sb < w3.heap.size := World.block_lt_of_cell? _ _ hsb0
  have hka : KeyAt w3 kb s := ⟨lk, by rw [Lib.cell_of_heap hkb]; rfl, sb, fb, ls, lf, by rw [Lib.cell_of_heap hkb]; rfl, hsb0, by rw [Lib.cell_of_heap f3]; rfl⟩
  exact ⟨kb, rfl, hb3'.trans (hb4.mono l3), hka.below hb4⟩
end Go.Proofs.YtfnncdngfggcjaaGreatDoor
