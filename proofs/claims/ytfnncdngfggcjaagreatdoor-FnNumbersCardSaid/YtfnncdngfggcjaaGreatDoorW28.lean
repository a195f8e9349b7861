/- Walks: impl.Numbers. -/
import Derived.Test.YtfnncdngfggcjaaGreatDoorW27
import Derived.Test.YtfnncdngfggcjaaGreatDoorW9
namespace Go.Proofs.YtfnncdngfggcjaaGreatDoor
open Go.RowKit

theorem SpaceTab.below {w w' : World} (h : SpaceTab w) (hb : Below w.heap.size w w') : SpaceTab w' :=
  fun w'' hb' => h w'' (hb.trans (hb'.mono hb.size))

set_option maxRecDepth 100000 in
set_option maxHeartbeats 4000000 in
/-- impl.Numbers of texts that are read as the numbers r. -/
theorem numbers_any (s : ByteArray) (n : Nat) (f : Nat → ByteArray) (r : Nat → Int) (a b : Addr) (w : World) (hs : Plain1 s) (ht : SpaceTab w) (he : ErrVar w) (hse : Sents w a b) (hn1 : 1 ≤ n) (hn : n ≤ 4096)
    (hparts : (splitC s.data.toList []).map Lib.trimSpace = (List.range n).map fun j => (f j).data.toList) (hr : ∀ j, j < n → Readable (f j) (r j)) :
    Calls Tryz.prog 15 #[.string s, .string ⟨#[44]⟩] w (GivesInts r n w) := by
  have Ha := Lib.hid (alone_any s a b w hs.len hs.pct hse)
  have Hs := Lib.hid hs
  have Ht := Lib.hid ht
  have He := Lib.hid he
  have Hp := Lib.hid hparts
  have Hr := Lib.hid hr
  clear hs ht he hse hparts hr
  go_enter Tryz.func15, Tryz.ntmps15
  go_wp2_with fail
  refine Ha.out.mono ?_
  rintro e w1 ⟨kb, rfl, hb1, hk⟩
  have Hi := Lib.hid (ints_any kb s n f r w1 Hs.out hk (Ht.out.below hb1) (He.out.below hb1) hn1 hn Hp.out Hr.out)
  have hl1 := hb1.size
  clear hk
  go_wp2_with fail
  refine Hi.out.mono ?_
  rintro e w2 ⟨v, rfl, hown, hb2⟩
  have hb2' := hb1.trans (hb2.mono hl1)
  have hl2 := hb2'.size
  have Hc := Lib.hid (clone_any v n r _ w2 hn1 hn hown)
  clear hown hb2
  go_wp2_with fail
  refine Hc.out.mono ?_
  rintro e w3 ⟨v3, rfl, hown3, hb3⟩
  go_wp2_with fail
  go_ret
  exact ⟨_, rfl, own_le hown3 hl2, hb2'.trans (hb3.mono hl2)⟩
end Go.Proofs.YtfnncdngfggcjaaGreatDoor
