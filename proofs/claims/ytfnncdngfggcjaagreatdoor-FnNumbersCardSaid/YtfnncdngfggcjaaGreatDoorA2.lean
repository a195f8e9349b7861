/- Plain laws of a text divided at commas. -/
import Derived.Test.YtfnncdngfggcjaaGreatDoorW3
import Derived.Lib.Space
namespace Go.Proofs.YtfnncdngfggcjaaGreatDoor

/-- The parts of a text between commas; 'acc' is what has been read of the first one. -/
def splitC : List UInt8 → List UInt8 → List (List UInt8)
  | [], acc => if acc = [] then [] else [acc]
  | c :: l, acc => if c = 44 then acc :: splitC l [] else splitC l (acc ++ [c])
theorem splitC_run (p l : List UInt8) (hp : ∀ c ∈ p, c ≠ 44) : ∀ acc, splitC (p ++ l) acc = splitC l (acc ++ p) := by
  induction p with
  | nil => intro acc; simp
  | cons c p ih =>
    intro acc
    have hc : c ≠ 44 := hp c (by simp)
    simp only [List.cons_append, splitC, if_neg hc]
    rw [ih (fun d hd => hp d (by simp [hd]))]
    simp
/-- The list of a joined text. -/
def joinL (f : Nat → List UInt8) : Nat → List UInt8
  | 0 => []
  | k + 1 => (if k = 0 then joinL f k else joinL f k ++ [44]) ++ f k
theorem joinL_split (f : Nat → List UInt8) (n : Nat) (hf : ∀ j, j < n → f j ≠ [] ∧ ∀ c ∈ f j, c ≠ 44) : ∀ k, 1 ≤ k → k ≤ n →
    (∀ l, splitC (joinL f k ++ 44 :: l) [] = (List.range k).map f ++ splitC l []) ∧ splitC (joinL f k) [] = (List.range k).map f := by
  intro k
  induction k with
  | zero => intro h; omega
  | succ k ih =>
    intro _ hk
    obtain ⟨hne, hc⟩ := hf k (by omega)
    by_cases h0 : k = 0
    · subst h0
      have hj : joinL f 1 = f 0 := by simp [joinL]
      rw [hj]
      refine ⟨fun l => ?_, ?_⟩
      · rw [splitC_run _ _ hc]
        simp [splitC]
      · have := splitC_run (f 0) [] hc []
        rw [List.append_nil] at this
        rw [this]
        simp [splitC, hne]
    · obtain ⟨ih1, _⟩ := ih (by omega) (by omega)
      have hj : joinL f (k + 1) = joinL f k ++ 44 :: f k := by simp [joinL, h0]
      rw [hj]
      refine ⟨fun l => ?_, ?_⟩
      · rw [List.append_assoc, List.cons_append, ih1, splitC_run _ _ hc, List.range_succ]
        simp [splitC]
      · have h2 := splitC_run (f k) [] hc []
        rw [List.append_nil] at h2
        rw [ih1, h2, List.range_succ]
        simp [splitC, hne]
theorem joinN_list (f : Nat → ByteArray) : ∀ k, (joinN ⟨#[44]⟩ f k).data.toList = joinL (fun j => (f j).data.toList) k
  | 0 => rfl
  | k + 1 => by
    have ih := joinN_list f k
    unfold joinN joinL
    split
    · rw [ByteArray.data_append, Array.toList_append, ih]
    · rw [ByteArray.data_append, Array.toList_append, ByteArray.data_append, Array.toList_append, ih]
theorem dropWhile_none {p : UInt8 → Bool} {l : List UInt8} (h : ∀ c ∈ l, p c = false) : l.dropWhile p = l := by
  cases l with
  | nil => rfl
  | cons a l => rw [List.dropWhile_cons, h a (by simp)]; rfl
theorem trim_none (l : List UInt8) (h : ∀ c ∈ l, Lib.isSp c = false) : Lib.trimSpace l = l := by
  unfold Lib.trimSpace
  rw [dropWhile_none h, dropWhile_none (fun c hc => h c (List.mem_reverse.1 hc)), List.reverse_reverse]
end Go.Proofs.YtfnncdngfggcjaaGreatDoor
