/- Walks: slices.Clone of numbers. -/
import Derived.Test.YtfnncdngfggcjaaGreatDoorW8
namespace Go.Proofs.YtfnncdngfggcjaaGreatDoor
open Go.RowKit

set_option maxRecDepth 100000 in
set_option maxHeartbeats 2000000 in
theorem clone_any (v : Value) (n : Nat) (r : Nat → Int) (base : Nat) (w : World) (hn1 : 1 ≤ n) (hn : n ≤ 4096) (hown : w.ownsRow base 3 1 v n (ints r n)) :
    Calls Tryz.prog 30 #[v] w (GivesInts r n w) := by
  obtain ⟨i0, hi, hz0, hz1, hz2⟩ := info_parts Tryz.info3
  obtain ⟨g, cap, rfl, hg, hg', hcell⟩ := own_form hown (by omega)
  have hnil := fun (wx : World) => Lib.run_eql_slice_nil (P := Tryz.prog) wx 38 3 (some ⟨g, 0, none⟩) n cap 0 0 Tryz.underlying38
  have Hcell := Lib.hid hcell
  clear hcell hown
  have hmade : (w.alloc (.cells #[] 3)).ownsRow w.heap.size 3 1 (.slice (some ⟨w.heap.size, 0, none⟩) 0 0) 0 [] := World.ownsRow_made w #[] 0 (Nat.le_refl _) (by unfold maxLen; omega) rfl
  have hcells : ∀ j u, (ints r n)[j]? = some u → (w.alloc (.cells #[] 3)).cell? ((⟨g, 0, none⟩ : Addr).add j) = some u := by
    intro j u hu
    rw [show ((⟨g, 0, none⟩ : Addr).add j) = ⟨g, j, none⟩ from by unfold Addr.add; split <;> simp_all, World.cell?_alloc_lt _ _ _ hg']
    exact Hcell.out j u hu
  have hone : ∀ u ∈ ints r n, u.oneCell' = true := by
    intro u hu
    simp only [ints, List.mem_map] at hu
    obtain ⟨_, _, rfl⟩ := hu
    rfl
  have hlen : (ints r n).length = n * 1 := by simp [ints]
  have Hcells := Lib.hid hcells
  have Hone := Lib.hid hone
  have Hlen := Lib.hid hlen
  clear hcells hone hlen
  go_enter Tryz.func30, Tryz.ntmps30
  go_wp2_with (at_builtin; refine wpList_append_own _ rfl (.tmp 5) (.tmp 6) 38 rfl w.heap.size 3 i0 (.int .i64 0) 1 8 Tryz.underlying38 hi hz0 hz1 hz2 rfl (by decide) _ _ _ rfl hmade ⟨g, 0, none⟩ n cap (ints r n) rfl Hlen.out Hcells.out Hone.out (by unfold maxLen; omega) (by omega) (by simp) ?_; intro v2 w2 hown2 hgrow2 _)
  simp only [Nat.zero_add, List.nil_append] at hown2
  go_ret
  exact ⟨v2, rfl, hown2, ((Below.refl _ _).alloc (Nat.le_refl _) _).grown hgrow2 (by simp) (fun j hj => (hmade.lt j hj).1)⟩
end Go.Proofs.YtfnncdngfggcjaaGreatDoor
