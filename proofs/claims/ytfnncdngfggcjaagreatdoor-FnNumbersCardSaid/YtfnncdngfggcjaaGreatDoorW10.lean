/- Walks: a key's value as a text. -/
import Derived.Test.YtfnncdngfggcjaaGreatDoorW9
namespace Go.Proofs.YtfnncdngfggcjaaGreatDoor
open Go.RowKit

/-- A key's block, its section's and its file's, as far as the value's text asks for them. -/
structure KeyAt (w : World) (kb : Nat) (s : ByteArray) : Prop where
  lt : kb < w.heap.size
  val : w.cell? ⟨kb, 3, none⟩ = some (.string s)
  sect : ∃ sb fb, sb < w.heap.size ∧ fb < w.heap.size ∧ w.cell? ⟨kb, 0, none⟩ = some (.pointer (some ⟨sb, 0, none⟩)) ∧ w.cell? ⟨sb, 0, none⟩ = some (.pointer (some ⟨fb, 0, none⟩)) ∧ w.cell? ⟨fb, 28, none⟩ = some .nilFunc
theorem KeyAt.below {w w' : World} {kb : Nat} {s : ByteArray} (h : KeyAt w kb s) (hb : Below w.heap.size w w') : KeyAt w' kb s := by
  obtain ⟨h1, h2, sb, fb, h3, h4, h5, h6, h7⟩ := h
  exact ⟨Nat.lt_of_lt_of_le h1 hb.size, (hb.cell h1).trans h2, sb, fb, Nat.lt_of_lt_of_le h3 hb.size, Nat.lt_of_lt_of_le h4 hb.size, (hb.cell h1).trans h5, (hb.cell h3).trans h6, (hb.cell h4).trans h7⟩

theorem neq_nilFunc (w : World) : (binOp .neq 101 .nilFunc .nilFunc).run Tryz.prog w = .ok (.bool false) w := by kernel_rfl

set_option maxRecDepth 100000 in
set_option maxHeartbeats 2000000 in
theorem transform_any (kb : Nat) (s : ByteArray) (w : World) (hs : s.size ≤ 4096) (hp : NoPct s) (hk : KeyAt w kb s) :
    Calls Tryz.prog 94 #[.pointer (some ⟨kb, 0, none⟩), .string s] w fun e w' => e = .returned (.string s) ∧ w = w' := by
  obtain ⟨_, _, sb, fb, _, _, h5, h6, h7⟩ := hk
  have hnf := neq_nilFunc
  go_enter Tryz.func94, Tryz.ntmps94
  go_wp2_with fail
  refine (zzIndex_pct s _ hs hp).mono ?_
  rintro e w' ⟨rfl, rfl⟩
  go_wp2_with fail
  go_ret
  exact ⟨rfl, rfl⟩

set_option maxRecDepth 100000 in
set_option maxHeartbeats 2000000 in
theorem string_any (kb : Nat) (s : ByteArray) (w : World) (hs : s.size ≤ 4096) (hp : NoPct s) (hk : KeyAt w kb s) :
    Calls Tryz.prog 70 #[.pointer (some ⟨kb, 0, none⟩)] w fun e w' => e = .returned (.string s) ∧ w = w' := by
  have H := Lib.hid (transform_any kb s w hs hp hk)
  have h2 := hk.val
  clear hk
  go_enter Tryz.func70, Tryz.ntmps70
  go_wp2_with fail
  refine H.out.mono ?_
  rintro e w' ⟨rfl, rfl⟩
  go_wp2_with fail
  go_ret
  exact ⟨rfl, rfl⟩
end Go.Proofs.YtfnncdngfggcjaaGreatDoor
