/- Walks: a text without a sign of percent: no pattern stands in it; how often a sign stands in a text; a name among names. -/
import Derived.Test.YtfnncdngfggcjaaGreatDoorW3
namespace Go.Proofs.YtfnncdngfggcjaaGreatDoor
open Go.RowKit

/-- No sign of percent. -/
def NoPct (s : ByteArray) : Prop := ∀ i (h : i < s.size), (s[i].toNat : Int) ≠ 37

set_option maxHeartbeats 400000 in
theorem varPattern_any (s : ByteArray) (w : World) (hs : s.size ≤ 4096) (hp : NoPct s) :
    Calls Tryz.prog 89 #[.string s] w fun e w' => e = .returned (.string ⟨#[]⟩) ∧ w = w' := by
  go_enter Tryz.func89, Tryz.ntmps89
  go_wp2
  go_loop [3] (fun i => ∃ k : Nat, i = .int .i64 k ∧ k ≤ s.size) (fun i => s.size - (intOf i).toNat)
  case atStart => exact ⟨0, rfl, Nat.zero_le _⟩
  case round =>
    obtain ⟨k, rfl, hk⟩ := hrel
    by_cases hlt : k + 2 < s.size
    · have h37 : ((s[k].toNat : Int) != 37) = true := by rw [bne_iff_ne]; exact hp k (by omega)
      go_wp2
      exact ⟨⟨k + 1, by go_num, by omega⟩, by simp [intOf]; omega⟩
    · go_wp2
      go_ret
      exact ⟨rfl, rfl⟩

theorem ext_one (s : ByteArray) {k : Nat} (h : k < s.size) : (s.extract k (k + 1)).toList = [s[k]] := by
  rw [ByteArray.toList_eq, ByteArray.data_extract]
  have hd : k < s.data.size := h
  rw [Array.toList_extract]
  apply List.ext_getElem
  · simp; omega
  · intro i h1 h2
    have : i = 0 := by simp at h2; omega
    subst this
    simp
    rfl
theorem ext_ne (s : ByteArray) {k : Nat} (h : k < s.size) (c : UInt8) (hc : s[k] ≠ c) : ((s.extract k (k + 1)).toList == [c]) = false := by
  rw [ext_one s h]
  simpa using hc

set_option maxHeartbeats 400000 in
theorem zzIndex_pct (s : ByteArray) (w : World) (hs : s.size ≤ 4096) (hp : NoPct s) :
    Calls Tryz.prog 116 #[.string s, .string ⟨#[37]⟩] w fun e w' => e = .returned (.int .i64 (-1)) ∧ w = w' := by
  go_enter Tryz.func116, Tryz.ntmps116
  go_wp2
  go_loop [5] (fun i => ∃ k : Nat, i = .int .i64 k ∧ k ≤ s.size) (fun i => s.size - (intOf i).toNat)
  case atStart => exact ⟨0, rfl, Nat.zero_le _⟩
  case round =>
    obtain ⟨k, rfl, hk⟩ := hrel
    by_cases hlt : k < s.size
    · have hne := ext_ne s hlt 37 (fun h => hp k hlt (by rw [h]; rfl))
      go_wp2
      exact ⟨⟨k + 1, by go_num, by omega⟩, by simp [intOf]; omega⟩
    · go_wp2
      go_ret
      exact ⟨rfl, rfl⟩

/-- How often: a number up to the text's length. -/
def SomeCount (n : Nat) (w : World) (e : Ending) (w' : World) : Prop := ∃ c : Nat, c ≤ n ∧ e = .returned (.int .i64 c) ∧ w = w'
set_option maxHeartbeats 400000 in
theorem zzCount_any (s : ByteArray) (w : World) (hs : s.size ≤ 4096) :
    Calls Tryz.prog 71 #[.string s, .string ⟨#[44]⟩] w (SomeCount s.size w) := by
  go_enter Tryz.func71, Tryz.ntmps71
  go_wp2
  go_loop [5, 6] (fun c i => ∃ k n : Nat, i = .int .i64 k ∧ k ≤ s.size ∧ c = .int .i64 n ∧ n ≤ k) (fun _ i => s.size - (intOf i).toNat)
  case atStart => exact ⟨0, 0, rfl, Nat.zero_le _, rfl, Nat.le_refl _⟩
  case round =>
    obtain ⟨k, n, rfl, hk, rfl, hn⟩ := hrel
    by_cases hlt : k < s.size
    · go_wp2
      · exact ⟨⟨k + 1, n + 1, by go_num, by omega, by go_num, by omega⟩, by simp [intOf]; omega⟩
      · exact ⟨⟨k + 1, n, by go_num, by omega, rfl, by omega⟩, by simp [intOf]; omega⟩
    · go_wp2
      go_ret
      exact ⟨n, by omega, rfl, rfl⟩

set_option maxHeartbeats 400000 in
/-- ini.inSlice: a name that is none of those n. -/
theorem inSlice_no (s : ByteArray) (g n cap : Nat) (f : Nat → ByteArray) (w : World) (hn : n ≤ 4096) (hc : ∀ j, j < n → w.cell? ⟨g, j, none⟩ = some (.string (f j)))
    (hne : ∀ j, j < n → (s.toList == (f j).toList) = false) :
    Calls Tryz.prog 57 #[.string s, .slice (some ⟨g, 0, none⟩) n cap] w fun e w' => e = .returned (.bool false) ∧ w = w' := by
  have Hc := Lib.hid hc
  have Hne := Lib.hid hne
  clear hc hne
  go_enter Tryz.func57, Tryz.ntmps57
  go_wp2
  go_loop [9] (fun i => ∃ k : Nat, i = .int .i64 k ∧ k ≤ n) (fun i => n - (intOf i).toNat)
  case atStart => exact ⟨0, rfl, Nat.zero_le _⟩
  case round =>
    obtain ⟨k, rfl, hk⟩ := hrel
    by_cases hlt : k < n
    · have hcell := Hc.out k hlt
      have hno := Hne.out k hlt
      go_wp2
      exact ⟨⟨k + 1, by go_num, by omega⟩, by simp [intOf]; omega⟩
    · go_wp2
      go_ret
      exact ⟨rfl, rfl⟩
set_option maxHeartbeats 400000 in
theorem inSlice_nil (s : ByteArray) (w : World) :
    Calls Tryz.prog 57 #[.string s, .slice none 0 0] w fun e w' => e = .returned (.bool false) ∧ w = w' := by
  go_enter Tryz.func57, Tryz.ntmps57
  go_wp2
  go_loop [9] (fun i => i = .int .i64 0) (fun _ => 0)
  case atStart => rfl
  case round =>
    subst hrel
    go_wp2
    go_ret
    exact ⟨rfl, rfl⟩

set_option maxHeartbeats 400000 in
/-- ini.Key.ZZEnds of a value without a sign of percent: it ends, and the budget is one less. -/
theorem zzEnds_any (kb bb : Nat) (cs : Array Value) (s : ByteArray) (w : World) (hs : s.size ≤ 4096) (hp : NoPct s)
    (hk : w.heap[kb]? = some (.cells cs 76 (0, 0))) (hk3 : cs[3]? = some (.string s)) (hb : w.heap[bb]? = some (.cells #[.int .i64 2000] 3 (0, 0))) :
    Calls Tryz.prog 66 #[.pointer (some ⟨kb, 0, none⟩), .pointer (some ⟨bb, 0, none⟩), .int .i64 20] w fun e w' => e = .returned (.tuple #[.string s, .bool true]) ∧ w' = w.setCell ⟨bb, 0, none⟩ (.int .i64 1999) := by
  have hc3 : w.cell? ⟨kb, 3, none⟩ = some (.string s) := by simp [World.cell?, hk, hk3]
  have hcb : w.cell? ⟨bb, 0, none⟩ = some (.int .i64 2000) := by simp [World.cell?, hb]
  have hfb : w.frozen? ⟨bb, 0, none⟩ = false := by simp [World.frozen?, hb]
  have hcb' := World.cell?_setCell_same w ⟨bb, 0, none⟩ (.int .i64 1999) hcb
  clear hk hk3 hb
  go_enter Tryz.func66, Tryz.ntmps66
  go_wp2_with fail
  refine wp_loop_rounds 1 ?_; rw [rounds_succ]
  go_wp2_with fail
  refine (varPattern_any _ _ hs hp).mono ?_
  rintro e w' ⟨rfl, rfl⟩
  go_wp2_with fail
  go_ret2
  exact ⟨rfl, rfl⟩

set_option maxHeartbeats 400000 in
/-- impl.ends of a key whose value bears no sign of percent. -/
theorem ends_any (kb : Nat) (cs : Array Value) (s : ByteArray) (w : World) (hs : s.size ≤ 4096) (hp : NoPct s)
    (hk : w.heap[kb]? = some (.cells cs 76 (0, 0))) (hk3 : cs[3]? = some (.string s)) :
    Calls Tryz.prog 50 #[.pointer (some ⟨kb, 0, none⟩)] w fun e w' => e = .returned (.bool true) ∧ Below w.heap.size w w' := by
  have hlt : kb < w.heap.size := (Array.getElem?_eq_some_iff.1 hk).1
  have hk' : (w.alloc (.cells #[.int .i64 2000] 3)).heap[kb]? = some (.cells cs 76 (0, 0)) := (Below.heap_alloc w _ kb hlt).trans hk
  have hb : (w.alloc (.cells #[.int .i64 2000] 3)).heap[w.heap.size]? = some (.cells #[.int .i64 2000] 3 (0, 0)) := by simp [World.alloc, -World.alloc_eq]
  have H := Lib.hid (zzEnds_any kb w.heap.size cs s _ hs hp hk' hk3 hb)
  clear hk hk' hb hk3
  go_enter Tryz.func50, Tryz.ntmps50
  go_wp2_with fail
  refine H.out.mono ?_
  rintro e w' ⟨rfl, rfl⟩
  go_wp2_with fail
  go_ret
  exact ⟨rfl, (Below.refl _ _).alloc (Nat.le_refl _) _⟩
end Go.Proofs.YtfnncdngfggcjaaGreatDoor
