/- Walks: strconv.ParseInt of figures, and of a text with a letter first. -/
import Derived.Test.YtfnncdngfggcjaaGreatDoorW5
import Derived.Deep.DeepCutAuto
namespace Go.Proofs.YtfnncdngfggcjaaGreatDoor
open Go.RowKit

section
variable {P : Program} (w : World)
theorem run_equalIn_iface_int (d : Nat) {ti tn : TypeId} {ms : Array (String × TypeId)} {i : TypeInfo} {k : IntKind} (a b : Int)
    (hi : P.underlying ti = some (.interface ms)) (hn : P.underlying tn = some (.int k)) (hinfo : P.info? tn = some i) (hcomp : i.comparable = true) :
    (Op.equalIn (d + 2) ti (.iface tn (.int k a)) (.iface tn (.int k b))).run P w = .ok (a == b) w := by
  simp [Op.equalIn, run_underlying hi, run_underlying hn, typeInfo, hinfo, hcomp]
theorem run_neq_iface_int {ti tn : TypeId} {ms : Array (String × TypeId)} {i : TypeInfo} {k : IntKind} (a b : Int)
    (hi : P.underlying ti = some (.interface ms)) (hn : P.underlying tn = some (.int k)) (hinfo : P.info? tn = some i) (hcomp : i.comparable = true) :
    (binOp .neq ti (.iface tn (.int k a)) (.iface tn (.int k b))).run P w = .ok (.bool (!(a == b))) w := by
  simp only [binOp]
  simp [Op.equal, Op.maxDepth, run_equalIn_iface_int w 9998 a b hi hn hinfo hcomp]
end

theorem head_emp (t : ByteArray) (h1 : 1 ≤ t.size) : t.toList.isEmpty = false := by
  rw [ByteArray.toList_eq]
  have : t.data.toList.length ≠ 0 := by have : t.data.toList.length = t.size := rfl
                                        omega
  cases h : t.data.toList with
  | nil => rw [h] at this; simp at this
  | cons a l => rfl

set_option maxRecDepth 100000 in
set_option maxHeartbeats 1000000 in
/-- internal/strconv.ParseInt at base 0 of figures without a sign, the first of which is no 0. -/
theorem iParse_num (t : ByteArray) (w : World) (h1 : 1 ≤ t.size) (h7 : t.size ≤ 7) (hdig : ∀ k (h : k < t.size), 48 ≤ t[k].toNat ∧ t[k].toNat ≤ 57) (hhead : t[0].toNat ≠ 48)
    (hval : numOf t.data.toList ≤ 1000000) :
    Calls Tryz.prog 92 #[.string t, .int .i64 0, .int .i64 64] w fun e w' => e = .returned (.tuple #[.int .i64 (numOf t.data.toList), .nilIface]) ∧ Below w.heap.size w w' := by
  have H := Lib.hid (parseUint_num t w h1 h7 hdig hhead hval)
  have hemp := head_emp t h1
  have hd0 := hdig 0 (by omega)
  have h43 : (((t[0].toNat : Nat) : Int) == 43) = false := by rw [beq_eq_false_iff_ne]; omega
  have h45 : (((t[0].toNat : Nat) : Int) == 45) = false := by rw [beq_eq_false_iff_ne]; omega
  clear hdig hhead hd0
  generalize numOf t.data.toList = m at *
  go_enter Tryz.func92, Tryz.ntmps92
  go_wp2_with fail
  refine H.out.mono ?_
  rintro e w' ⟨rfl, hb⟩
  go_upto_region 17 with fail
  have hco : (2000000 : Int) ≤ 9223372036854775808 := by decide
  generalize (9223372036854775808 : Int) = co at hco ⊢
  go_wp2_with fail
  go_ret2
  exact ⟨rfl, hb⟩

set_option maxRecDepth 100000 in
set_option maxHeartbeats 1000000 in
theorem iParse_zero (w : World) :
    Calls Tryz.prog 92 #[.string ⟨#[48]⟩, .int .i64 0, .int .i64 64] w fun e w' => e = .returned (.tuple #[.int .i64 0, .nilIface]) ∧ Below w.heap.size w w' := by
  have H := Lib.hid (parseUint_zero w)
  go_enter Tryz.func92, Tryz.ntmps92
  go_wp2_with fail
  refine H.out.mono ?_
  rintro e w' ⟨rfl, hb⟩
  go_upto_region 17 with fail
  have hco : (2000000 : Int) ≤ 9223372036854775808 := by decide
  generalize (9223372036854775808 : Int) = co at hco ⊢
  go_wp2_with fail
  go_ret2
  exact ⟨rfl, hb⟩

set_option maxRecDepth 100000 in
set_option maxHeartbeats 1000000 in
/-- internal/strconv.ParseInt at base 0 of a stroke and figures. -/
theorem iParse_neg (s t : ByteArray) (w : World) (hs1 : 2 ≤ s.size) (hs2 : s.size ≤ 8) (hst : s.extract 1 s.size = t) (h0 : s[0].toNat = 45) (h1 : 1 ≤ t.size) (h7 : t.size ≤ 7) (hdig : ∀ k (h : k < t.size), 48 ≤ t[k].toNat ∧ t[k].toNat ≤ 57) (hhead : t[0].toNat ≠ 48)
    (hval : numOf t.data.toList ≤ 1000000) :
    Calls Tryz.prog 92 #[.string s, .int .i64 0, .int .i64 64] w fun e w' => e = .returned (.tuple #[.int .i64 (-(numOf t.data.toList : Int)), .nilIface]) ∧ Below w.heap.size w w' := by
  have H := Lib.hid (parseUint_num t w h1 h7 hdig hhead hval)
  have hemp := head_emp s (by omega)
  have h43 : (((s[0].toNat : Nat) : Int) == 43) = false := by rw [beq_eq_false_iff_ne]; omega
  have h45 : (((s[0].toNat : Nat) : Int) == 45) = true := by rw [beq_iff_eq]; omega
  clear hdig hhead h0
  generalize numOf t.data.toList = m at *
  go_enter Tryz.func92, Tryz.ntmps92
  go_wp2_with fail
  refine H.out.mono ?_
  rintro e w' ⟨rfl, hb⟩
  go_upto_region 17 with fail
  have hco : (2000000 : Int) ≤ 9223372036854775808 := by decide
  generalize (9223372036854775808 : Int) = co at hco ⊢
  go_wp2_with fail
  go_ret2
  exact ⟨rfl, hb⟩

set_option maxRecDepth 100000 in
set_option maxHeartbeats 1000000 in
/-- internal/strconv.ParseInt at base 0 of a text with a letter first: its ErrSyntax. -/
theorem iParse_word (t : ByteArray) (w : World) (h1 : 1 ≤ t.size) (h30 : t.size ≤ 30) (hlet : LetC t[0]) :
    Calls Tryz.prog 92 #[.string t, .int .i64 0, .int .i64 64] w fun e w' => e = .returned (.tuple #[.int .i64 0, .iface 178 (.int .i64 2)]) ∧ Below w.heap.size w w' := by
  have H := Lib.hid (parseUint_word t w h1 h30 hlet)
  have hemp := head_emp t h1
  have h43 : (((t[0].toNat : Nat) : Int) == 43) = false := by rw [beq_eq_false_iff_ne]; unfold LetC at hlet; omega
  have h45 : (((t[0].toNat : Nat) : Int) == 45) = false := by rw [beq_eq_false_iff_ne]; unfold LetC at hlet; omega
  have hneq := fun (wx : World) => run_neq_iface_int (P := Tryz.prog) wx (k := .i64) 2 1 Tryz.underlying65 Tryz.underlying178 (i := _) rfl (by kernel_rfl)
  clear hlet
  go_enter Tryz.func92, Tryz.ntmps92
  go_wp2_with fail
  refine H.out.mono ?_
  rintro e w' ⟨rfl, hb⟩
  go_wp2_with fail
  go_ret2
  exact ⟨rfl, hb⟩

/-- A tuple of an int and nothing wrong. -/
def IntOk (n : Int) (w : World) (e : Ending) (w' : World) : Prop := e = .returned (.tuple #[.int .i64 n, .nilIface]) ∧ Below w.heap.size w w'
/-- 0 and an error. -/
def IntErr (w : World) (e : Ending) (w' : World) : Prop := ∃ N : Nat, e = .returned (.tuple #[.int .i64 0, .iface 183 (.pointer (some ⟨N, 0, none⟩))]) ∧ Below w.heap.size w w'

set_option maxHeartbeats 1000000 in
theorem parse_of_ok (s : ByteArray) (n : Int) (w : World)
    (H : Calls Tryz.prog 92 #[.string s, .int .i64 0, .int .i64 64] w fun e w' => e = .returned (.tuple #[.int .i64 n, .nilIface]) ∧ Below w.heap.size w w') :
    Calls Tryz.prog 68 #[.string s, .int .i64 0, .int .i64 64] w (IntOk n w) := by
  have H' := Lib.hid H
  clear H
  go_enter Tryz.func68, Tryz.ntmps68
  go_wp2_with fail
  refine H'.out.mono ?_
  rintro e w' ⟨rfl, hb⟩
  go_wp2_with fail
  go_ret2
  exact ⟨rfl, hb⟩

set_option maxHeartbeats 1000000 in
theorem parse_word (s : ByteArray) (ev : Value) (w : World) (h1 : 1 ≤ s.size) (h30 : s.size ≤ 30) (hlet : LetC s[0])
    (hv : w.cell? ⟨6, 0, none⟩ = some ev) (hev : ev = .nilIface ∨ ∃ te pe, ev = .iface te pe) (hsz : 6 < w.heap.size) :
    Calls Tryz.prog 68 #[.string s, .int .i64 0, .int .i64 64] w (IntErr w) := by
  have H' := Lib.hid (iParse_word s w h1 h30 hlet)
  have Hv := Lib.hid hv
  have Hev := Lib.hid hev
  clear hv hev
  go_enter Tryz.func68, Tryz.ntmps68
  go_wp2_with fail
  refine H'.out.mono ?_
  rintro e w' ⟨rfl, hb⟩
  have hv' : w'.cell? ⟨6, 0, none⟩ = some ev := (hb.cell hsz).trans Hv.out
  have H2 := Lib.hid (Tryz.strconv_toError_syntax ⟨#[80, 97, 114, 115, 101, 73, 110, 116]⟩ s 0 64 ev w' (by omega) hv' Hev.out)
  clear hv'
  go_wp2_with fail
  refine H2.out.mono ?_
  rintro e w2 ⟨N, rfl, _, _, hb2⟩
  go_wp2_with fail
  go_ret2
  exact ⟨N, rfl, hb.trans (hb2.mono hb.size)⟩

theorem bytes_at (l : List UInt8) (k : Nat) (h : k < (ByteArray.mk l.toArray).size) : (ByteArray.mk l.toArray)[k] = l[k]'(by simpa [ByteArray.size] using h) := by
  show l.toArray[k] = _
  simp
theorem parseInt_figs (n : Int) (w : World) (h0 : -1000000 ≤ n) (h1 : n ≤ 1000000) :
    Calls Tryz.prog 68 #[.string ⟨(figs n).toArray⟩, .int .i64 0, .int .i64 64] w (IntOk n w) := by
  refine parse_of_ok _ n w ?_
  have facts : ∀ m : Nat, 1 ≤ m → m ≤ 1000000 → ∃ hne : 0 < (ByteArray.mk (figsN m).toArray).size, (ByteArray.mk (figsN m).toArray).size ≤ 7 ∧
      (∀ k (h : k < (ByteArray.mk (figsN m).toArray).size), 48 ≤ (ByteArray.mk (figsN m).toArray)[k].toNat ∧ (ByteArray.mk (figsN m).toArray)[k].toNat ≤ 57) ∧
      (ByteArray.mk (figsN m).toArray)[0].toNat ≠ 48 ∧ numOf (ByteArray.mk (figsN m).toArray).data.toList = m := by
    intro m hm1 hm2
    have hs : (ByteArray.mk (figsN m).toArray).size = (figsN m).length := by simp [ByteArray.size]
    have hne : 0 < (figsN m).length := List.length_pos_iff.2 (figsN_ne m)
    refine ⟨by omega, by rw [hs]; exact figsN_len6 m hm2, fun k h => ?_, ?_, by simpa using numOf_figsN m⟩
    · rw [bytes_at]
      exact figsN_digit m _ (List.getElem_mem _)
    · rw [bytes_at]
      have := figsN_head m hm1 ((figsN m)[0]) (by rw [List.head?_eq_getElem?, List.getElem?_eq_getElem hne])
      omega
  by_cases hn : n < 0
  · have hf : figs n = 45 :: figsN (-n).toNat := by unfold figs; rw [if_pos hn]
    rw [hf]
    obtain ⟨hne, h7, hdig, hhead, hval⟩ := facts (-n).toNat (by omega) (by omega)
    have hsz : (ByteArray.mk (45 :: figsN (-n).toNat).toArray).size = (ByteArray.mk (figsN (-n).toNat).toArray).size + 1 := by simp [ByteArray.size]
    have := iParse_neg ⟨(45 :: figsN (-n).toNat).toArray⟩ ⟨(figsN (-n).toNat).toArray⟩ w (by omega) (by omega) (by rw [ByteArray.extract_mk]; simp [ByteArray.size]) (by rw [bytes_at]; rfl) hne h7 hdig hhead (by omega)
    rw [hval, show (-(((-n).toNat : Nat) : Int)) = n from by omega] at this
    exact this
  · have hf : figs n = figsN n.toNat := by unfold figs; rw [if_neg hn]
    rw [hf]
    by_cases hz : n = 0
    · subst hz
      have : figsN (Int.toNat 0) = [48] := by rw [figsN_lt (by decide)]; rfl
      rw [this]
      exact iParse_zero w
    · obtain ⟨hne, h7, hdig, hhead, hval⟩ := facts n.toNat (by omega) (by omega)
      have := iParse_num ⟨(figsN n.toNat).toArray⟩ w hne h7 hdig hhead (by omega)
      rw [hval, show ((n.toNat : Nat) : Int) = n from by omega] at this
      exact this
end Go.Proofs.YtfnncdngfggcjaaGreatDoor
