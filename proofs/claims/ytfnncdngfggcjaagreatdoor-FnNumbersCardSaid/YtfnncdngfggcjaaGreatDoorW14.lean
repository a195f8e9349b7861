/- Walks: ini.Key.Ints. -/
import Derived.Test.YtfnncdngfggcjaaGreatDoorW8
import Derived.Test.YtfnncdngfggcjaaGreatDoorW13
namespace Go.Proofs.YtfnncdngfggcjaaGreatDoor
open Go.RowKit

theorem strV_at (f : Nat → ByteArray) (n j : Nat) (h : j < n) : (strV ((List.range n).map fun j => (f j).data.toList))[j]? = some (.string (f j)) := by
  simp [strV, h]

set_option maxRecDepth 100000 in
set_option maxHeartbeats 2000000 in
theorem ints_any (kb : Nat) (s : ByteArray) (n : Nat) (f : Nat → ByteArray) (r : Nat → Int) (w : World) (hs : Plain1 s) (hk : KeyAt w kb s) (ht : SpaceTab w) (he : ErrVar w) (hn1 : 1 ≤ n) (hn : n ≤ 4096)
    (hparts : (splitC s.data.toList []).map Lib.trimSpace = (List.range n).map fun j => (f j).data.toList) (hr : ∀ j, j < n → Readable (f j) (r j)) :
    Calls Tryz.prog 31 #[.pointer (some ⟨kb, 0, none⟩), .string ⟨#[44]⟩] w (GivesInts r n w) := by
  have Hs := Lib.hid (strings_any kb s w hs hk ht)
  have Hr := Lib.hid hr
  have He := Lib.hid he
  have Hp := Lib.hid hparts
  clear hs hk ht he hr hparts
  go_enter Tryz.func31, Tryz.ntmps31
  go_wp2_with fail
  refine Hs.out.mono ?_
  rintro e w1 ⟨v, rfl, hown, hb⟩
  rw [Hp.out] at hown
  obtain ⟨g, cap, rfl, hg, hg', hcell⟩ := own_form hown (by simp; omega)
  have hlen : ((List.range n).map fun j => (f j).data.toList).length = n := by simp
  rw [hlen] at hown ⊢
  have hsize := hb.size
  have H2 := Lib.hid (parseInts_any (.pointer (some ⟨kb, 0, none⟩)) g n cap f r w1 hn1 hn hg' (fun j hj => hcell j _ (strV_at f n j hj)) Hr.out (He.out.below hb))
  clear hcell hown
  go_wp2_with fail
  refine H2.out.mono ?_
  rintro e w2 ⟨v2, rfl, hown2, hb2⟩
  go_wp2_with fail
  go_ret
  refine ⟨_, rfl, ⟨hown2.1, ?_⟩, hb.trans (hb2.mono hsize)⟩
  rcases hown2.2 with h | ⟨g2, c2, cur2, e2, h2, h3⟩
  · exact .inl h
  · exact .inr ⟨g2, c2, cur2, e2, by omega, h3⟩
end Go.Proofs.YtfnncdngfggcjaaGreatDoor
