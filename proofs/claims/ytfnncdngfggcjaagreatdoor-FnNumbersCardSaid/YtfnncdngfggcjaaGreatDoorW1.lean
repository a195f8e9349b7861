/- Walks of the plain functions of the reference: letters, names, small letters. -/
import Derived.Test.YtfnncdngfggcjaaGreatDoorRows
import Derived.WalkKit
import Derived.WalkSpells
import Derived.WalkLawsBesides
import Derived.Handy
import Derived.PlainAid
import Derived.Lib.Hide
import Derived.Lib.ConvBytes
namespace Go.Proofs.YtfnncdngfggcjaaGreatDoor
open Go.RowKit

theorem ret_bool {a b : Bool} (h : a = b) : Ending.returned (.bool a) = .returned (.bool b) := by rw [h]
theorem ret_int {k : IntKind} {a b : Int} (h : a = b) : Ending.returned (.int k a) = .returned (.int k b) := by rw [h]

def isLetB (c : Int) : Bool := decide (97 ≤ c ∧ c ≤ 122 ∨ 65 ≤ c ∧ c ≤ 90 ∨ 48 ≤ c ∧ c ≤ 57)

set_option maxHeartbeats 400000 in
theorem isLetter_any (c : Int) (w : World) (h0 : 0 ≤ c) (h1 : c ≤ 255) :
    Calls Tryz.prog 24 #[.int .u8 c] w fun e w' => e = .returned (.bool (isLetB c)) ∧ w = w' := by
  go_enter Tryz.func24, Tryz.ntmps24
  go_wp2
  all_goals
    go_ret
    refine ⟨ret_bool ?_, rfl⟩
    unfold isLetB
    rw [Bool.eq_iff_iff]
    simp
    try omega

/-- spec.Lower: some text. -/
def SomeStr (w : World) (e : Ending) (w' : World) : Prop := ∃ s : ByteArray, e = .returned (.string s) ∧ Below w.heap.size w w'

/-- Block g holds bytes: at least n cells, the first n of them bytes, and none of those frozen. -/
def BytesAt (w : World) (g n : Nat) : Prop := ∃ (cs : Array Value) (lo hi : Nat), w.heap[g]? = some (.cells cs 5 (lo, hi)) ∧ n ≤ lo ∧ ∀ j, j < n → ∃ b : UInt8, cs[j]? = some (.int .u8 (b.toNat : Int))

theorem BytesAt.cell {w : World} {g n : Nat} (h : BytesAt w g n) {k : Nat} (hk : k < n) : ∃ b : UInt8, w.cell? ⟨g, k, none⟩ = some (.int .u8 (b.toNat : Int)) := by
  obtain ⟨cs, lo, hi, hb, _, hc⟩ := h
  obtain ⟨b, hb'⟩ := hc k hk
  exact ⟨b, by simp [World.cell?, hb, hb']⟩
theorem BytesAt.free {w : World} {g n : Nat} (h : BytesAt w g n) {k : Nat} (hk : k < n) : w.frozen? ⟨g, k, none⟩ = false := by
  obtain ⟨cs, lo, hi, hb, hlo, _⟩ := h
  simp only [World.frozen?, hb]
  have : ¬ lo ≤ k := by omega
  simp [this]
theorem BytesAt.set {w : World} {g n : Nat} (h : BytesAt w g n) {k : Nat} (b : UInt8) : BytesAt (w.setCell ⟨g, k, none⟩ (.int .u8 (b.toNat : Int))) g n := by
  obtain ⟨cs, lo, hi, hb, hlo, hc⟩ := h
  refine ⟨cs.setIfInBounds k (.int .u8 (b.toNat : Int)), lo, hi, ?_, hlo, fun j hj => ?_⟩
  · simp [World.setCell, Array.getElem?_modify, hb]
  · obtain ⟨b', hb'⟩ := hc j hj
    by_cases h : k = j
    · subst h
      exact ⟨b, by rw [Array.getElem?_setIfInBounds_self]; have := (Array.getElem?_eq_some_iff.1 hb').1; simp [this]⟩
    · exact ⟨b', by rw [Array.getElem?_setIfInBounds_ne h]; exact hb'⟩
theorem BytesAt.of_conv (w : World) (s : ByteArray) : BytesAt (Lib.bytesWorld w 5 s) w.heap.size s.size := by
  refine ⟨_, _, _, Lib.bytesWorld_at_new w 5 s, by unfold Lib.bytesCells; rw [Array.size_append, Array.size_map]; exact Nat.le_add_right _ _, fun j hj => ⟨s.data.toList.getD j 0, ?_⟩⟩
  have := Lib.bytesWorld_cell w 5 s j hj
  simpa [World.cell?, Lib.bytesWorld_at_new] using this
theorem below_conv (w : World) (s : ByteArray) : Below w.heap.size w (Lib.bytesWorld w 5 s) :=
  ⟨rfl, rfl, rfl, by rw [Lib.bytesWorld_size]; omega, fun k hk => Lib.bytesWorld_at_old w 5 s k hk⟩
theorem run_bytes_back (w : World) (g n cap : Nat) (h : BytesAt w g n) : ∃ r : ByteArray, (convert 49 9 (.slice (some ⟨g, 0, none⟩) n cap)).run Tryz.prog w = .ok (.string r) w := by
  have hex : ∀ j, j < n → ∃ b : UInt8, w.cell? ⟨g, j, none⟩ = some (.int .u8 (b.toNat : Int)) := fun j hj => h.cell hj
  obtain ⟨f, hf⟩ : ∃ f : Nat → UInt8, ∀ j, j < n → w.cell? ⟨g, j, none⟩ = some (.int .u8 ((f j).toNat : Int)) :=
    ⟨fun j => if hj : j < n then (hex j hj).choose else 0, fun j hj => by simp only [hj, dif_pos]; exact (hex j hj).choose_spec⟩
  have hr := run_convert_bytes_back (P := Tryz.prog) w 49 9 5 ⟨g, 0, none⟩ cap ((List.range n).map f) Tryz.underlying49 Tryz.underlying5 Tryz.underlying9 (fun j hj => by
    have hj' : j < n := by simpa using hj
    have : ((⟨g, 0, none⟩ : Addr).add j) = ⟨g, j, none⟩ := by unfold Addr.add; split <;> simp_all
    rw [this, hf j hj']; simp)
  simp only [List.length_map, List.length_range] at hr
  exact ⟨_, hr⟩

set_option maxHeartbeats 400000 in
theorem lower_any (s : ByteArray) (w : World) (hs : s.size ≤ 30) :
    Calls Tryz.prog 10 #[.string s] w (SomeStr w) := by
  have hconv := fun (wx : World) => Lib.run_convert_string_bytes (P := Tryz.prog) wx 9 49 5 s Tryz.underlying9 Tryz.underlying49 Tryz.underlying5
  go_enter Tryz.func10, Tryz.ntmps10
  go_wp2
  clear hconv
  generalize grownCap w s.size 0 5 = cap
  go_loopw [10] (fun i wr => ∃ k : Nat, i = .int .i64 k ∧ k ≤ s.size ∧ BytesAt wr w.heap.size s.size ∧ Below w.heap.size w wr) (fun i _ => s.size - (intOf i).toNat)
  case atStart => exact ⟨0, rfl, Nat.zero_le _, .of_conv w s, below_conv w s⟩
  case round =>
    obtain ⟨k, rfl, hk, hB, hb⟩ := hrel
    by_cases hlt : k < s.size
    · obtain ⟨b, hc⟩ := hB.cell hlt
      have hf := hB.free hlt
      have h255 : b.toNat ≤ 255 := by have := b.toNat_lt; omega
      go_wp2
      · have h9 : (b.toNat : Int) ≤ 90 := by assumption
        refine ⟨⟨k + 1, by go_num, by omega, ?_, hb.setCell (Nat.le_refl _) _⟩, by simp [intOf]; omega⟩
        have := hB.set (k := k) (b + 32)
        rwa [show (((b + 32 : UInt8)).toNat : Int) = (b.toNat : Int) + 32 from by rw [UInt8.toNat_add]; simp; omega] at this
      · exact ⟨⟨k + 1, by go_num, by omega, hB, hb⟩, by simp [intOf]; omega⟩
      · exact ⟨⟨k + 1, by go_num, by omega, hB, hb⟩, by simp [intOf]; omega⟩
    · have HB := Lib.hid hB
      obtain ⟨r, hr⟩ := run_bytes_back wr w.heap.size s.size cap hB
      go_wp2
      go_ret
      exact ⟨r, rfl, hb⟩

/-- A name's sign at place i: a letter or a figure; behind the first place a stroke or a low one, too. -/
def signB (i : Nat) (c : Int) : Bool := isLetB c || (decide (i ≠ 0) && (decide (c = 45) || decide (c = 95)))
/-- What is known of a text that is a name. -/
def NameOk (s : ByteArray) : Prop := 1 ≤ s.size ∧ s.size ≤ 30 ∧ ∀ i (h : i < s.size), signB i (s[i].toNat : Int) = true
def SomeName (s : ByteArray) (w : World) (e : Ending) (w' : World) : Prop := ∃ b : Bool, e = .returned (.bool b) ∧ (b = true → NameOk s) ∧ Below w.heap.size w w'

theorem names_next {s : ByteArray} {k : Nat} (hlt : k < s.size) (hall : ∀ j (h : j < s.size), j < k → signB j (s[j].toNat : Int) = true)
    (h : isLetB (s[k].toNat : Int) = true ∨ (k ≠ 0 ∧ ((s[k].toNat : Int) = 45 ∨ (s[k].toNat : Int) = 95))) : ∀ j (h : j < s.size), j < k + 1 → signB j (s[j].toNat : Int) = true := by
  intro j hj hjk
  by_cases e : j = k
  · subst e
    unfold signB
    simpa using h
  · exact hall j hj (by omega)

set_option maxHeartbeats 400000 in
theorem isName_any (s : ByteArray) (w : World) (hs : s.size ≤ 2147483647) :
    Calls Tryz.prog 9 #[.string s] w (SomeName s w) := by
  go_enter Tryz.func9, Tryz.ntmps9
  go_wp2
  go_loop [3] (fun i => ∃ k : Nat, i = .int .i64 k ∧ k ≤ s.size ∧ ∀ j (h : j < s.size), j < k → signB j (s[j].toNat : Int) = true) (fun i => s.size - (intOf i).toNat)
  case atStart => exact ⟨0, rfl, Nat.zero_le _, fun j _ hj => absurd hj (by omega)⟩
  case round =>
    obtain ⟨k, rfl, hk, hall⟩ := hrel
    have Hall := Lib.hid hall
    clear hall
    by_cases hlt : k < s.size
    · have h255 : s[k].toNat ≤ 255 := by have := s[k].toNat_lt; omega
      go_wp2_with (go_at_call 24; refine (isLetter_any _ _ (by omega) (by omega)).mono ?_; rintro e w' ⟨rfl, rfl⟩)
      · exact ⟨⟨k + 1, by go_num, by omega, names_next hlt Hall.out (.inl ‹_›)⟩, by simp [intOf]; omega⟩
      · go_ret
        exact ⟨false, rfl, by simp, Below.refl _ _⟩
      · exact ⟨⟨k + 1, by go_num, by omega, names_next hlt Hall.out (.inr ⟨‹_›, .inl ‹_›⟩)⟩, by simp [intOf]; omega⟩
      · go_ret
        exact ⟨false, rfl, by simp, Below.refl _ _⟩
      · rename_i h
        refine ⟨⟨k + 1, by go_num, by omega, names_next hlt Hall.out (.inr ⟨‹_›, ?_⟩)⟩, by simp [intOf]; omega⟩
        simpa using h.2
    · by_cases h1 : 1 ≤ s.size
      · by_cases h30 : s.size ≤ 30
        · have hd1 : decide ((1 : Int) ≤ (s.size : Int)) = true := by simp; omega
          have hd2 : decide ((s.size : Int) ≤ 30) = true := by simp; omega
          go_wp2_with (go_at_call 10; refine (lower_any _ _ h30).mono ?_; rintro e w' ⟨t, rfl, hb⟩)
          go_ret
          refine ⟨_, rfl, fun _ => ⟨h1, h30, fun i hi => Hall.out i hi (by omega)⟩, hb⟩
        · go_wp2_with (fail)
          go_ret
          refine ⟨_, rfl, ?_, Below.refl _ _⟩
          simp; try omega
      · go_wp2_with (fail)
        go_ret
        refine ⟨_, rfl, ?_, Below.refl _ _⟩
        simp; try omega
end Go.Proofs.YtfnncdngfggcjaaGreatDoor
