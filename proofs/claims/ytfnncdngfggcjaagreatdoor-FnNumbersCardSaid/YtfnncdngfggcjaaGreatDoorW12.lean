/- Walks: a key's value divided at commas. -/
import Derived.Test.YtfnncdngfggcjaaGreatDoorW11
import Derived.Test.YtfnncdngfggcjaaGreatDoorA2
import Derived.Lib.SmallJoins
namespace Go.Proofs.YtfnncdngfggcjaaGreatDoor
open Go.RowKit

theorem ext_head (s : ByteArray) {k : Nat} (h : k < s.size) : (s.extract k s.size).size = s.size - k ∧ ∃ h' : 0 < (s.extract k s.size).size, (s.extract k s.size)[0] = s[k] := by
  have h1 : (s.extract k s.size).size = s.size - k := by rw [ByteArray.size_extract]; omega
  exact ⟨h1, by omega, by rw [ByteArray.getElem_extract]; rfl⟩

set_option maxHeartbeats 1000000 in
/-- utf8.DecodeRuneInString of a text with a sign of ASCII first. -/
theorem decode_ascii (s : ByteArray) (w : World) (h : 0 < s.size) (hc : s[0].toNat < 128) :
    Calls Tryz.prog 75 #[.string s] w fun e w' => e = .returned (.tuple #[.int .i32 (s[0].toNat : Int), .int .i64 1]) ∧ w = w' := by
  have hemp := head_emp s h
  have hemp' : (!s.toList.isEmpty) = true := by rw [hemp]; rfl
  have h128 : (s[0].toNat : Int) < 128 := by omega
  go_enter Tryz.func75, Tryz.ntmps75
  go_wp2_with fail
  go_ret2
  exact ⟨rfl, rfl⟩

theorem prefix_comma (s : ByteArray) {k : Nat} (h : k < s.size) : Lib.hasPrefix (s.extract k s.size).data.toList [44] = decide (s[k] = 44) := by
  have hd : s.data.toList.drop k = s[k] :: s.data.toList.drop (k + 1) := by
    have : k < s.data.toList.length := h
    rw [List.drop_eq_getElem_cons this]; rfl
  have he : (s.extract k s.size).data.toList = s.data.toList.drop k := by
    rw [ByteArray.data_extract, Array.toList_extract, List.extract_eq_take_drop]
    exact List.take_of_length_le (by rw [List.length_drop]; exact Nat.le_refl _)
  rw [he, hd]
  unfold Lib.hasPrefix
  simp only [List.isPrefixOf, Bool.and_true]
  by_cases e : s[k] = 44
  · rw [e]; rfl
  · rw [beq_eq_false_iff_ne.2 (Ne.symm e), decide_eq_false e]

theorem drop_cons (s : ByteArray) {k : Nat} (h : k < s.size) : s.data.toList.drop k = s[k] :: s.data.toList.drop (k + 1) := by
  have : k < s.data.toList.length := h
  rw [List.drop_eq_getElem_cons this]; rfl

/-- Texts as values. -/
def strV (ps : List (List UInt8)) : List Value := ps.map fun l => Value.string ⟨l.toArray⟩
theorem strV_snoc (ps : List (List UInt8)) (l : List UInt8) : strV (ps ++ [l]) = strV ps ++ [.string ⟨l.toArray⟩] := by simp [strV]

theorem ownF_others {w w' : World} {base : Nat} {v : Value} {n : Nat} {xs : List Value} {b : Nat} {cb : Array Value} {fz : Nat × Nat} (h : w.ownsRow base 9 1 v n xs) (hb : w.heap[b]? = some (.cells cb 124 fz)) (hk : Lib.OthersKept 5 (some b) w w') :
    w'.ownsRow base 9 1 v n xs := by
  obtain ⟨h1, h2⟩ := h
  refine ⟨h1, ?_⟩
  rcases h2 with h2 | ⟨g, cap, cur, rfl, hg, hh, r⟩
  · exact .inl h2
  · refine .inr ⟨g, cap, cur, rfl, hg, hk g _ hh ?_ ?_, r⟩
    · intro e
      injection e with e
      subst e
      rw [hb] at hh
      injection hh with hh
      injection hh with _ ht
      exact absurd ht (by decide)
    · intro c fz e
      injection e with _ ht
      exact absurd ht (by decide)

theorem builder_block {B b : Nat} {bs : List Value} {w : World} (h : Lib.IsBuilderF 124 5 B b bs w) : ∃ cb, w.heap[b]? = some (.cells cb 124 (0, 0)) := by
  rcases h with ⟨_, v, hb, _⟩ | ⟨_, v, hb, _⟩ <;> exact ⟨_, hb⟩

theorem ownF_kept {w w' : World} {base : Nat} {v : Value} {n : Nat} {xs : List Value} {row : Option Nat} (h : w.ownsRowF base 5 1 v n xs) (hg : w.grownBy w' row) (hrow : ∀ k, row = some k → ∃ c fz, w.heap[k]? = some (.cells c 9 fz)) : w'.ownsRowF base 5 1 v n xs := by
  obtain ⟨h1, h2⟩ := h
  refine ⟨h1, ?_⟩
  rcases h2 with h2 | ⟨g, cap, cur, fz, rfl, hb, hh, r⟩
  · exact .inl h2
  · refine .inr ⟨g, cap, cur, fz, rfl, hb, ?_, r⟩
    rw [hg.block g (Array.getElem?_eq_some_iff.1 hh).1 ?_]
    · exact hh
    · intro e
      obtain ⟨c, fz', hk⟩ := hrow g e.symm
      rw [hh] at hk
      injection hk with hk
      injection hk with _ ht
      exact absurd ht (by decide)

theorem builderAt_grown {B b : Nat} {p : Value} {bs : List Value} {w w' : World} {row : Option Nat} (h : Lib.BuilderAtF 124 5 B b p bs w) (hg : w.grownBy w' row) (hrow : ∀ k, row = some k → ∃ c fz, w.heap[k]? = some (.cells c 9 fz)) : Lib.BuilderAtF 124 5 B b p bs w' := by
  obtain ⟨hB, v, hb, hown, hne⟩ := h
  refine ⟨hB, v, ?_, ownF_kept hown hg hrow, hne⟩
  rw [hg.block b (Array.getElem?_eq_some_iff.1 hb).1 ?_]
  · exact hb
  · intro e
    obtain ⟨c, fz', hk⟩ := hrow b e.symm
    rw [hb] at hk
    injection hk with hk
    injection hk with _ ht
    exact absurd ht (by decide)
theorem builder_grown {B b : Nat} {bs : List Value} {w w' : World} {row : Option Nat} (h : Lib.IsBuilderF 124 5 B b bs w) (hg : w.grownBy w' row) (hrow : ∀ k, row = some k → ∃ c fz, w.heap[k]? = some (.cells c 9 fz)) : Lib.IsBuilderF 124 5 B b bs w' :=
  h.elim (fun x => .inl (builderAt_grown x hg hrow)) (fun x => .inr (builderAt_grown x hg hrow))
theorem builder_below {B b : Nat} {bs : List Value} {w w' : World} (h : Lib.IsBuilderF 124 5 B b bs w) (hb : Below w.heap.size w w') : Lib.IsBuilderF 124 5 B b bs w' :=
  builder_grown (row := none) h ⟨hb.os, hb.tape, hb.output, hb.size, fun k hk _ => hb.block k hk⟩ (fun _ e => by cases e)
theorem row_of_own {w : World} {base : Nat} {v : Value} {n : Nat} {xs : List Value} (h : w.ownsRow base 9 1 v n xs) : ∀ k, v.ownBlock = some k → ∃ c fz, w.heap[k]? = some (.cells c 9 fz) := by
  intro k hk
  rcases h.2 with ⟨rfl, _⟩ | ⟨g, cap, cur, rfl, _, hh, _⟩
  · simp [Value.ownBlock] at hk
  · have : g = k := by simpa [Value.ownBlock] using hk
    subst this
    exact ⟨_, _, hh⟩
end Go.Proofs.YtfnncdngfggcjaaGreatDoor
