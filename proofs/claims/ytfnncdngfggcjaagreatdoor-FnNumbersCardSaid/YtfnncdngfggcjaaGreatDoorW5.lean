/- Walks: numbers read out of texts. -/
import Derived.Test.YtfnncdngfggcjaaGreatDoorA1
import Derived.Test.YtfnncdngfggcjaaGreatDoorW4
import Derived.Test.YtfnncdngfggcjaaGreatDoorShelf
namespace Go.Proofs.YtfnncdngfggcjaaGreatDoor
open Go.RowKit

theorem take_snoc (s : ByteArray) (k : Nat) (h : k < s.size) : s.data.toList.take (k + 1) = s.data.toList.take k ++ [s[k]] := by
  rw [List.take_succ_eq_append_getElem (by simpa using h)]; rfl

set_option maxRecDepth 100000 in
set_option maxHeartbeats 1000000 in
/-- internal/strconv.ParseUint at base 0 of figures, the first of which is no 0. -/
theorem parseUint_num (t : ByteArray) (w : World) (h1 : 1 ≤ t.size) (h7 : t.size ≤ 7) (hdig : ∀ k (h : k < t.size), 48 ≤ t[k].toNat ∧ t[k].toNat ≤ 57) (hhead : t[0].toNat ≠ 48)
    (hval : numOf t.data.toList ≤ 1000000) :
    Calls Tryz.prog 111 #[.string t, .int .i64 0, .int .i64 64] w fun e w' => e = .returned (.tuple #[.int .u64 (numOf t.data.toList), .nilIface]) ∧ Below w.heap.size w w' := by
  have hconv := fun (wx : World) => Lib.run_convert_string_bytes (P := Tryz.prog) wx 9 49 5 t Tryz.underlying9 Tryz.underlying49 Tryz.underlying5
  have hcell := Lib.bytesWorld_cell w 5 t
  have hemp : t.toList.isEmpty = false := by
    rw [ByteArray.toList_eq]
    have : t.data.toList.length ≠ 0 := by have : t.data.toList.length = t.size := rfl
                                          omega
    cases h : t.data.toList with
    | nil => rw [h] at this; simp at this
    | cons a l => rfl
  have hh : (((t[0].toNat : Nat) : Int) == 48) = false := by rw [beq_eq_false_iff_ne]; omega
  have Hdig := Lib.hid hdig
  have Hcell := Lib.hid hcell
  have Hb := Lib.hid (below_conv w t)
  clear hdig hcell hhead
  go_enter Tryz.func111, Tryz.ntmps111
  go_wp2_with fail
  have hmx : (2000000 : Int) ≤ IntKind.u64.wrap (IntKind.u64.wrap 18446744073709551616 - 1) := by decide
  generalize IntKind.u64.wrap (IntKind.u64.wrap 18446744073709551616 - 1) = mx at hmx
  have hco : (2000000 : Int) ≤ 1844674407370955162 := by decide
  generalize (1844674407370955162 : Int) = co at hco
  generalize grownCap w t.size 0 5 = cap
  generalize IntKind.u64.wrap 18446744073709551616 = m2
  go_loop [12, 13, 101] (fun u n i => ∃ k : Nat, i = .int .i64 k ∧ k ≤ t.size ∧ u = .bool false ∧ n = .int .u64 (numOf (t.data.toList.take k))) (fun _ _ i => t.size - (intOf i).toNat)
  case atStart => exact ⟨0, rfl, Nat.zero_le _, rfl, rfl⟩
  case round =>
    obtain ⟨k, rfl, hk, rfl, rfl⟩ := hrel
    have hv := numOf_take_le t.data.toList k
    have hv' := numOf_take_le t.data.toList (k + 1)
    by_cases hlt : k < t.size
    · have hd := Hdig.out k hlt
      have hc := Hcell.out k hlt
      have hg : t.data.toList.getD k 0 = t[k] := by
        have : k < t.data.toList.length := hlt
        rw [List.getD_eq_getElem?_getD, List.getElem?_eq_getElem this]; rfl
      rw [hg] at hc
      rw [take_snoc t k hlt, numOf_snoc] at hv'
      have Hsn := Lib.hid (show numOf (t.data.toList.take (k + 1)) = numOf (t.data.toList.take k) * 10 + (t[k].toNat - 48) by rw [take_snoc t k hlt, numOf_snoc])
      clear hg
      generalize numOf (t.data.toList.take k) = m at *
      have h57 : (t[k].toNat : Int) ≤ 57 := by omega
      have h48 : (48 : Int) ≤ (t[k].toNat : Int) := by omega
      have h95 : (((t[k].toNat : Nat) : Int) == 95) = false := by rw [beq_eq_false_iff_ne]; omega
      go_wp2_with fail
      exact ⟨⟨k + 1, by go_num, by omega, rfl, by rw [Hsn.out]; congr 1; omega⟩, by simp [intOf]; omega⟩
    · have hall : t.data.toList.take k = t.data.toList := List.take_of_length_le (by show t.size ≤ k; omega)
      have Hall := Lib.hid hall
      clear hall
      go_wp2_with fail
      go_ret2
      exact ⟨congrArg (fun x : List UInt8 => Ending.returned (.tuple #[.int .u64 (numOf x), .nilIface])) Hall.out, Hb.out⟩

set_option maxRecDepth 100000 in
set_option maxHeartbeats 1000000 in
/-- internal/strconv.ParseUint at base 0 of the figure 0. -/
theorem parseUint_zero (w : World) :
    Calls Tryz.prog 111 #[.string ⟨#[48]⟩, .int .i64 0, .int .i64 64] w fun e w' => e = .returned (.tuple #[.int .u64 0, .nilIface]) ∧ Below w.heap.size w w' := by
  have hconv := fun (wx : World) (t : ByteArray) => Lib.run_convert_string_bytes (P := Tryz.prog) wx 9 49 5 t Tryz.underlying9 Tryz.underlying49 Tryz.underlying5
  have Hb := Lib.hid (below_conv w)
  go_enter Tryz.func111, Tryz.ntmps111
  go_wp2_with fail
  generalize grownCap w 0 0 5 = cap
  generalize IntKind.u64.wrap (IntKind.u64.wrap 18446744073709551616 - 1) = mx
  generalize IntKind.u64.wrap 18446744073709551616 = m2
  generalize (2305843009213693952 : Int) = m3
  generalize (2305843009213693951 : Int) = m4
  go_loop [12, 13, 101] (fun u n i => u = .bool false ∧ n = .int .u64 0 ∧ i = .int .i64 0) (fun _ _ _ => 0)
  case atStart => exact ⟨rfl, rfl, rfl⟩
  case round =>
    obtain ⟨rfl, rfl, rfl⟩ := hrel
    go_wp2_with fail
    go_ret2
    exact ⟨rfl, Hb.out _⟩

theorem low_letter : ∀ n : Nat, n < 256 → ((65 ≤ n ∧ n ≤ 90) ∨ (97 ≤ n ∧ n ≤ 122)) → 97 ≤ bits .or .u8 (n : Int) 32 ∧ bits .or .u8 (n : Int) 32 ≤ 122 := by decide +kernel

/-- Neither a stroke nor a figure: a letter. -/
def LetC (c : UInt8) : Prop := (65 ≤ c.toNat ∧ c.toNat ≤ 90) ∨ (97 ≤ c.toNat ∧ c.toNat ≤ 122)

set_option maxRecDepth 100000 in
set_option maxHeartbeats 1000000 in
/-- internal/strconv.ParseUint at base 0 of a text with a letter first: its ErrSyntax. -/
theorem parseUint_word (t : ByteArray) (w : World) (h1 : 1 ≤ t.size) (h30 : t.size ≤ 30) (hlet : LetC t[0]) :
    Calls Tryz.prog 111 #[.string t, .int .i64 0, .int .i64 64] w fun e w' => e = .returned (.tuple #[.int .u64 0, .iface 178 (.int .i64 2)]) ∧ Below w.heap.size w w' := by
  have hconv := fun (wx : World) => Lib.run_convert_string_bytes (P := Tryz.prog) wx 9 49 5 t Tryz.underlying9 Tryz.underlying49 Tryz.underlying5
  have hcell := Lib.bytesWorld_cell w 5 t 0 (by omega)
  have hg : t.data.toList.getD 0 0 = t[0] := by
    have : 0 < t.data.toList.length := h1
    rw [List.getD_eq_getElem?_getD, List.getElem?_eq_getElem this]; rfl
  rw [hg] at hcell
  clear hg
  have hemp : t.toList.isEmpty = false := by
    rw [ByteArray.toList_eq]
    have : t.data.toList.length ≠ 0 := by have : t.data.toList.length = t.size := rfl
                                          omega
    cases h : t.data.toList with
    | nil => rw [h] at this; simp at this
    | cons a l => rfl
  have hh : (((t[0].toNat : Nat) : Int) == 48) = false := by rw [beq_eq_false_iff_ne]; unfold LetC at hlet; omega
  have h95 : (((t[0].toNat : Nat) : Int) == 95) = false := by rw [beq_eq_false_iff_ne]; unfold LetC at hlet; omega
  have hge : (57 : Int) < (t[0].toNat : Int) := by unfold LetC at hlet; omega
  have hlow : 97 ≤ bits .or .u8 (t[0].toNat : Int) 32 ∧ bits .or .u8 (t[0].toNat : Int) 32 ≤ 122 := by
    exact low_letter _ t[0].toNat_lt hlet
  obtain ⟨hl1, hl2⟩ := hlow
  have Hb := Lib.hid (below_conv w t)
  clear hlet
  generalize hlo : bits .or .u8 (t[0].toNat : Int) 32 = lo at *
  have Hlo := Lib.hid hlo
  clear hlo
  have h255 : (t[0].toNat : Int) ≤ 255 := by have := t[0].toNat_lt; omega
  go_enter Tryz.func111, Tryz.ntmps111
  go_wp2_with fail
  generalize grownCap w t.size 0 5 = cap
  generalize IntKind.u64.wrap (IntKind.u64.wrap 18446744073709551616 - 1) = mx
  generalize IntKind.u64.wrap 18446744073709551616 = m2
  generalize (1844674407370955162 : Int) = m3
  refine wp_loop_once ?_
  go_wp2_with (go_at_call 152; refine (Tryz.internal_strconv_lower _ _).mono ?_; rintro e w' ⟨rfl, rfl⟩; rw [Hlo.out])
  go_ret2
  exact ⟨rfl, Hb.out⟩
end Go.Proofs.YtfnncdngfggcjaaGreatDoor
