/- Walks: joined texts; a text among others; the place of a text in another. -/
import Derived.Test.YtfnncdngfggcjaaGreatDoorW2
namespace Go.Proofs.YtfnncdngfggcjaaGreatDoor
open Go.RowKit

/-- The first n texts with another one between them. -/
def joinN (sep : ByteArray) (f : Nat → ByteArray) : Nat → ByteArray
  | 0 => ⟨#[]⟩
  | k + 1 => (if k = 0 then joinN sep f k else joinN sep f k ++ sep) ++ f k

theorem joinN_size (sep : ByteArray) (f : Nat → ByteArray) (hs : sep.size ≤ 1) (n : Nat) (hf : ∀ j, j < n → (f j).size ≤ 30) : ∀ k, k ≤ n → (joinN sep f k).size ≤ 31 * k
  | 0, _ => by simp [joinN, ByteArray.size]
  | k + 1, h => by
    have ih := joinN_size sep f hs n hf k (by omega)
    have := hf k (by omega)
    unfold joinN
    split <;> simp only [ByteArray.size_append] <;> omega

set_option maxHeartbeats 400000 in
theorem joined_any (g n cap : Nat) (f : Nat → ByteArray) (sep : ByteArray) (w : World) (hn : n ≤ 10) (hs : sep.size ≤ 1) (hf : ∀ j, j < n → (f j).size ≤ 30)
    (hc : ∀ j, j < n → w.cell? ⟨g, j, none⟩ = some (.string (f j))) :
    Calls Tryz.prog 16 #[.slice (some ⟨g, 0, none⟩) n cap, .string sep] w fun e w' => e = .returned (.string (joinN sep f n)) ∧ w = w' := by
  have hsize := joinN_size sep f hs n hf
  have Hc := Lib.hid hc
  have Hf := Lib.hid hf
  have Hsize := Lib.hid hsize
  clear hc hf hsize
  go_enter Tryz.func16, Tryz.ntmps16
  go_wp2
  go_loop [5, 10] (fun o i => ∃ (k : Nat), i = .int .i64 k ∧ k ≤ n ∧ o = .string (joinN sep f k)) (fun _ i => n - (intOf i).toNat)
  case atStart => exact ⟨0, rfl, Nat.zero_le _, rfl⟩
  case round =>
    obtain ⟨k, rfl, hk, rfl⟩ := hrel
    have hsz := Hsize.out k hk
    have hnext : joinN sep f (k + 1) = (if k = 0 then joinN sep f k else joinN sep f k ++ sep) ++ f k := rfl
    have Hnext := Lib.hid hnext
    clear hnext
    obtain ⟨o, ho⟩ : ∃ o, o = joinN sep f k := ⟨_, rfl⟩
    rw [← ho] at hsz Hnext ⊢
    have Ho := Lib.hid ho
    clear ho
    by_cases hlt : k < n
    · have hcell := Hc.out k hlt
      have hfk := Hf.out k hlt
      go_wp2
      · have hk0 : k ≠ 0 := by have h : 0 < k := by assumption
                               omega
        exact ⟨⟨k + 1, by go_num, by omega, by rw [Hnext.out, if_neg hk0]⟩, by simp [intOf]; omega⟩
      · have hk0 : k = 0 := by have h : ¬ 0 < k := by assumption
                               omega
        exact ⟨⟨k + 1, by go_num, by omega, by rw [Hnext.out, if_pos hk0]⟩, by simp [intOf]; omega⟩
    · go_wp2
      go_ret
      exact ⟨ret_str (by rw [Ho.out, show k = n from by omega]), rfl⟩
end Go.Proofs.YtfnncdngfggcjaaGreatDoor
