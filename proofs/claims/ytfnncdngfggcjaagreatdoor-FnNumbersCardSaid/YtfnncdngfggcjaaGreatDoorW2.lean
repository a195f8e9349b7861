/- Walks of the plain functions of the reference: figures, joined texts. -/
import Derived.Test.YtfnncdngfggcjaaGreatDoorW1
import Derived.BigQuiet
import Derived.Deep.QuietTactic
namespace Go.Proofs.YtfnncdngfggcjaaGreatDoor
open Go.RowKit

def figsN (n : Nat) : List UInt8 := if n < 10 then [UInt8.ofNat (48 + n)] else figsN (n / 10) ++ [UInt8.ofNat (48 + n % 10)]
  termination_by n
  decreasing_by omega
/-- What Figures tells of a number. -/
def figs (n : Int) : List UInt8 := if n < 0 then 45 :: figsN (-n).toNat else figsN n.toNat

theorem figsN_len (n : Nat) : (figsN n).length ≤ n + 1 := by
  induction n using Nat.strongRecOn with
  | _ n ih =>
    rw [figsN]
    split
    · simp
    · have := ih (n / 10) (by omega)
      simp only [List.length_append, List.length_cons, List.length_nil]
      omega
theorem run_digit (d : Nat) (h9 : d ≤ 9) (w : World) : (convert 21 9 (.int .i32 (48 + (d : Int)))).run Tryz.prog w = .ok (.string ⟨#[UInt8.ofNat (48 + d)]⟩) w := by
  match d, h9 with
  | 0, _ => (change _ = _; kernel_rfl)
  | 1, _ => (change _ = _; kernel_rfl)
  | 2, _ => (change _ = _; kernel_rfl)
  | 3, _ => (change _ = _; kernel_rfl)
  | 4, _ => (change _ = _; kernel_rfl)
  | 5, _ => (change _ = _; kernel_rfl)
  | 6, _ => (change _ = _; kernel_rfl)
  | 7, _ => (change _ = _; kernel_rfl)
  | 8, _ => (change _ = _; kernel_rfl)
  | 9, _ => (change _ = _; kernel_rfl)
theorem run_digit' (d : Int) (h0 : 0 ≤ d) (h9 : d ≤ 9) (v : ByteArray) (hv : v = ⟨#[UInt8.ofNat (48 + d.toNat)]⟩) : ∀ w : World, (convert 21 9 (.int .i32 (48 + d))).run Tryz.prog w = .ok (.string v) w := by
  intro w
  obtain ⟨k, rfl⟩ := Int.eq_ofNat_of_zero_le h0
  rw [hv]
  exact run_digit k (by omega) w
theorem ret_str {a b : ByteArray} (h : a = b) : Ending.returned (.string a) = .returned (.string b) := by rw [h]
theorem mk_add (a b : List UInt8) : (ByteArray.mk a.toArray ++ ByteArray.mk b.toArray) = ByteArray.mk (a ++ b).toArray := by
  apply ByteArray.ext
  simp
theorem figsN_lt {n : Nat} (h : n < 10) : figsN n = [UInt8.ofNat (48 + n)] := by rw [figsN, if_pos h]
theorem figsN_ge {n : Nat} (h : ¬ n < 10) : figsN n = figsN (n / 10) ++ [UInt8.ofNat (48 + n % 10)] := by rw [figsN, if_neg h]

set_option maxHeartbeats 400000 in
theorem figsN_any (k : Nat) : ∀ (n : Int) (w : World), 0 ≤ n → n ≤ k → n ≤ 1000000 →
    Calls Tryz.prog 14 #[.int .i64 n] w fun e w' => e = .returned (.string ⟨(figsN n.toNat).toArray⟩) ∧ w = w' := by
  have small : ∀ (n : Int) (w : World), 0 ≤ n → n < 10 → Calls Tryz.prog 14 #[.int .i64 n] w fun e w' => e = .returned (.string ⟨(figsN n.toNat).toArray⟩) ∧ w = w' := by
    intro n w h0 h
    obtain ⟨v, hv⟩ : ∃ v : ByteArray, v = ⟨#[UInt8.ofNat (48 + n.toNat)]⟩ := ⟨_, rfl⟩
    have hd := run_digit' n h0 (by omega) v hv
    have Hv := Lib.hid hv
    clear hv
    go_enter Tryz.func14, Tryz.ntmps14
    go_wp2_with fail
    go_ret
    exact ⟨ret_str (by rw [figsN_lt (by omega)]; exact Hv.out), rfl⟩
  induction k with
  | zero =>
    intro n w h0 hk _
    exact small n w h0 (by omega)
  | succ k ih =>
    intro n w h0 hk hm
    by_cases h : n < 10
    · exact small n w h0 h
    · obtain ⟨v, hv⟩ : ∃ v : ByteArray, v = ⟨#[UInt8.ofNat (48 + (n % 10).toNat)]⟩ := ⟨_, rfl⟩
      have hd := run_digit' (n % 10) (by omega) (by omega) v hv
      have hb : 0 ≤ n % 10 := by omega
      have hb' : n % 10 ≤ 9 := by omega
      have hvs : v.size = 1 := by rw [hv]; rfl
      have hvs' : v.size ≤ 1 := by omega
      clear hvs
      have Hv := Lib.hid hv
      clear hv
      have hl := figsN_len (n / 10).toNat
      have hl' : (n / 10).toNat ≤ 1000000 := by omega
      go_enter Tryz.func14, Tryz.ntmps14
      go_wp2_with (go_at_call 14; refine (ih (n / 10) _ (by omega) (by omega) (by omega)).mono ?_; rintro e w' ⟨rfl, rfl⟩)
      go_ret
      refine ⟨ret_str ?_, rfl⟩
      rw [Hv.out, figsN_ge (n := n.toNat) (by omega), show n.toNat / 10 = (n / 10).toNat from by omega, show n.toNat % 10 = (n % 10).toNat from by omega]
      exact mk_add _ _

set_option maxHeartbeats 400000 in
theorem figs_any (n : Int) (w : World) (h0 : -1000000 ≤ n) (h1 : n ≤ 1000000) :
    Calls Tryz.prog 14 #[.int .i64 n] w fun e w' => e = .returned (.string ⟨(figs n).toArray⟩) ∧ w = w' := by
  by_cases h : n < 0
  · have hl := figsN_len (-n).toNat
    have hl' : (-n).toNat ≤ 1000000 := by omega
    have hf : figs n = 45 :: figsN (-n).toNat := by unfold figs; rw [if_pos h]
    have Hf := Lib.hid hf
    clear hf
    go_enter Tryz.func14, Tryz.ntmps14
    go_wp2_with (go_at_call 14; refine (figsN_any (-n).toNat (-n) _ (by omega) (by omega) (by omega)).mono ?_; rintro e w' ⟨rfl, rfl⟩)
    go_ret
    refine ⟨ret_str ?_, rfl⟩
    rw [Hf.out]
    exact mk_add [45] _
  · have hf : figs n = figsN n.toNat := by unfold figs; rw [if_neg h]
    rw [hf]
    exact figsN_any n.toNat n w (by omega) (by omega) h1
end Go.Proofs.YtfnncdngfggcjaaGreatDoor
