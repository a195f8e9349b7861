/- Plain laws of figures: what a number's figures are read as. -/
import Derived.Test.YtfnncdngfggcjaaGreatDoorW2
namespace Go.Proofs.YtfnncdngfggcjaaGreatDoor

/-- What figures are read as. -/
def numOf (l : List UInt8) : Nat := l.foldl (fun a c => a * 10 + (c.toNat - 48)) 0
theorem numOf_snoc (l : List UInt8) (c : UInt8) : numOf (l ++ [c]) = numOf l * 10 + (c.toNat - 48) := by
  simp [numOf, List.foldl_append]
theorem figsN_digit (n : Nat) : ∀ c ∈ figsN n, 48 ≤ c.toNat ∧ c.toNat ≤ 57 := by
  induction n using Nat.strongRecOn with
  | _ n ih =>
    intro c hc
    by_cases h : n < 10
    · rw [figsN_lt h, List.mem_singleton] at hc
      subst hc
      rw [UInt8.toNat_ofNat']
      omega
    · rw [figsN_ge h, List.mem_append, List.mem_singleton] at hc
      rcases hc with hc | hc
      · exact ih (n / 10) (by omega) c hc
      · subst hc
        rw [UInt8.toNat_ofNat']
        omega
theorem numOf_figsN (n : Nat) : numOf (figsN n) = n := by
  induction n using Nat.strongRecOn with
  | _ n ih =>
    by_cases h : n < 10
    · rw [figsN_lt h]
      simp only [numOf, List.foldl_cons, List.foldl_nil]
      rw [UInt8.toNat_ofNat']
      omega
    · rw [figsN_ge h, numOf_snoc, ih (n / 10) (by omega), UInt8.toNat_ofNat']
      omega
theorem numOf_take_le (l : List UInt8) : ∀ k, numOf (l.take k) ≤ numOf l := by
  have key : ∀ (a b : List UInt8), numOf a ≤ numOf (a ++ b) := by
    intro a b
    induction b generalizing a with
    | nil => simp
    | cons c b ih =>
      have h1 := ih (a ++ [c])
      rw [numOf_snoc] at h1
      have h2 : a ++ c :: b = a ++ [c] ++ b := by simp
      rw [h2]
      omega
  intro k
  have := key (l.take k) (l.drop k)
  rwa [List.take_append_drop] at this
theorem figsN_ne (n : Nat) : figsN n ≠ [] := by
  intro h
  by_cases hn : n < 10
  · rw [figsN_lt hn] at h; cases h
  · rw [figsN_ge hn] at h; simp at h
theorem figsN_head (n : Nat) (h : 1 ≤ n) : ∀ c, (figsN n).head? = some c → 49 ≤ c.toNat := by
  induction n using Nat.strongRecOn with
  | _ n ih =>
    intro c hc
    by_cases hn : n < 10
    · rw [figsN_lt hn] at hc
      simp only [List.head?_cons, Option.some.injEq] at hc
      subst hc
      rw [UInt8.toNat_ofNat']
      omega
    · rw [figsN_ge hn] at hc
      have hne := figsN_ne (n / 10)
      have hi := ih (n / 10) (by omega) (by omega)
      cases hf : figsN (n / 10) with
      | nil => exact absurd hf hne
      | cons a l =>
        rw [hf] at hc hi
        exact hi c (by simpa using hc)
theorem figsN_len6 (n : Nat) (h : n ≤ 1000000) : (figsN n).length ≤ 7 := by
  have step : ∀ n m k, n / 10 ≤ m → (∀ j, j ≤ m → (figsN j).length ≤ k) → 1 ≤ k → (figsN n).length ≤ k + 1 := by
    intro n m k h1 h2 h3
    by_cases hn : n < 10
    · rw [figsN_lt hn]; simp
    · rw [figsN_ge hn]
      have := h2 _ h1
      simp only [List.length_append, List.length_cons, List.length_nil]
      omega
  have h0 : ∀ j, j ≤ 9 → (figsN j).length ≤ 1 := fun j hj => by rw [figsN_lt (by omega)]; simp
  have h1 : ∀ j, j ≤ 99 → (figsN j).length ≤ 2 := fun j hj => step j 9 1 (by omega) h0 (by omega)
  have h2 : ∀ j, j ≤ 999 → (figsN j).length ≤ 3 := fun j hj => step j 99 2 (by omega) h1 (by omega)
  have h3 : ∀ j, j ≤ 9999 → (figsN j).length ≤ 4 := fun j hj => step j 999 3 (by omega) h2 (by omega)
  have h4 : ∀ j, j ≤ 99999 → (figsN j).length ≤ 5 := fun j hj => step j 9999 4 (by omega) h3 (by omega)
  have h5 : ∀ j, j ≤ 999999 → (figsN j).length ≤ 6 := fun j hj => step j 99999 5 (by omega) h4 (by omega)
  exact step n 999999 6 (by omega) h5 (by omega)
end Go.Proofs.YtfnncdngfggcjaaGreatDoor
