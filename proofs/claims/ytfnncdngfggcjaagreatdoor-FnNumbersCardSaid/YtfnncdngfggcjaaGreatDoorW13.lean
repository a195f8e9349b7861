/- Walks: ini.Key.Strings. -/
import Derived.Test.YtfnncdngfggcjaaGreatDoorW12
import Derived.Lib.AppendIntMem
namespace Go.Proofs.YtfnncdngfggcjaaGreatDoor
open Go.RowKit

/-- strings.asciiSpace lies below block B as it is laid, and stays so. -/
def SpaceTab (w : World) : Prop := Lib.TabBelow Tryz.prog w.heap.size w "strings.asciiSpace" .u8 Lib.asciiSpaceTab

/-- What is asked of a text that is divided: signs of ASCII, no stroke back, no sign of percent. -/
structure Plain1 (s : ByteArray) : Prop where
  pos : 1 ≤ s.size
  len : s.size ≤ 4096
  ascii : ∀ i (h : i < s.size), s[i].toNat < 128
  back : ∀ i (h : i < s.size), (s[i].toNat : Int) ≠ 92
  pct : NoPct s

/-- The relation of the loop over the text. -/
def SRel (w : World) (s : ByteArray) (b : Nat) (v i : Value) (wr : World) : Prop :=
  ∃ (k : Nat) (acc : List UInt8) (ps : List (List UInt8)), i = .int .i64 k ∧ k < s.size ∧ Lib.IsBuilderF 124 5 b b (Lib.byteCells acc) wr ∧ wr.ownsRow w.heap.size 9 1 v ps.length (strV ps) ∧
    Below w.heap.size w wr ∧ ps ++ (splitC (s.data.toList.drop k) acc).map Lib.trimSpace = (splitC s.data.toList []).map Lib.trimSpace ∧ acc.length ≤ k ∧ ps.length ≤ k ∧ (∀ c ∈ acc, c.toNat < 128) ∧ b ≤ wr.heap.size

theorem byteCells_snoc (l : List UInt8) (c : UInt8) : Lib.byteCells (l ++ [c]) = Lib.byteCells l ++ [.int .u8 (c.toNat : Int)] := by simp [Lib.byteCells]
theorem byteCells_length (l : List UInt8) : (Lib.byteCells l).length = l.length := by simp [Lib.byteCells]

/-- What Strings gives: the parts, trimmed. -/
def GivesParts (s : ByteArray) (w : World) (e : Ending) (w' : World) : Prop :=
  ∃ v, e = .returned v ∧ w'.ownsRow w.heap.size 9 1 v ((splitC s.data.toList []).map Lib.trimSpace).length (strV ((splitC s.data.toList []).map Lib.trimSpace)) ∧ Below w.heap.size w w'

set_option maxRecDepth 100000 in
set_option maxHeartbeats 2000000 in
theorem strings_any (kb : Nat) (s : ByteArray) (w : World) (hs : Plain1 s) (hk : KeyAt w kb s) (ht : SpaceTab w) :
    Calls Tryz.prog 52 #[.pointer (some ⟨kb, 0, none⟩), .string ⟨#[44]⟩] w (GivesParts s w) := by
  obtain ⟨i0, hi, hz0, hz1, hz2⟩ := info_parts Tryz.info9
  have h1 := hs.pos
  have h2 := hs.len
  have hsz : ((s.size : Int) == 0) = false := by rw [beq_eq_false_iff_ne]; omega
  have H1 := Lib.hid (string_any kb s w h2 hs.pct hk)
  go_enter Tryz.func52, Tryz.ntmps52
  go_wp2_with (go_at_call 70; refine H1.out.mono ?_; rintro e w' ⟨rfl, rfl⟩)
  refine (zzCount_any s _ h2).mono ?_
  rintro e w' ⟨c, hc, rfl, rfl⟩
  go_wp2_with (at_make; refine wpList_make_own _ rfl _ _ 29 rfl w.heap.size 9 i0 (.string ⟨#[]⟩) 1 Tryz.underlying29 hi hz0 hz1 .i64 .i64 _ (c + 1) rfl rfl (by omega) (by rw [hz2]; omega) (by unfold maxLen; omega) (Nat.le_refl _) ?_; intro w0 hown0 hgrow0)
  have hb0 : Below w.heap.size w w0 := (Below.refl _ _).grown hgrow0 (Nat.le_refl _) (fun k h => by cases h)
  have hsize0 := hb0.size
  have hbk : (w0.alloc (.cells #[.pointer none, .slice none 0 0] 124)).heap[w0.heap.size]? = some (.cells #[.pointer none, .slice none 0 0] 124 (0, 0)) := by simp [World.alloc, -World.alloc_eq]
  refine (Tryz.Builder_Grow_fresh w0.heap.size w0.heap.size s.size _ (Nat.le_refl _) hbk (by simp) (by omega)).mono ?_
  rintro e w1 ⟨rfl, hB1, hb1⟩
  have hb00 : Below w0.heap.size w0 w1 := ((Below.refl w0.heap.size w0).alloc (Nat.le_refl _) _).trans hb1
  have hb01 : Below w.heap.size w w1 := hb0.trans (hb00.mono hsize0)
  have hown1 := own_below hown0 hb00
  have hsize1 := hb00.size
  have Hs := Lib.hid hs
  have Ht := Lib.hid ht
  clear hs ht hk hgrow0 hbk hb1 H1
  have hB1' : Lib.IsBuilderF 124 5 w0.heap.size w0.heap.size (Lib.byteCells []) w1 := .inr (Lib.BuilderAtF.of hB1)
  clear hB1
  have Hown1 := Lib.hid hown1
  clear hown1
  generalize w0.heap.size = b at *
  clear hb00 hb0 hown0
  go_wp2_with fail
  go_loopw [7, 9] (fun v i wr => SRel w s b v i wr) (fun _ i _ => s.size - (intOf i).toNat)
  case atStart => exact ⟨0, [], [], rfl, by omega, hB1', Hown1.out, hb01, by simp, Nat.le_refl _, Nat.le_refl _, by simp, by omega⟩
  case round =>
    obtain ⟨k, acc, ps, rfl, hk, hB, ho, hb, heq, hacc, hps, hasc, hbw⟩ := hrel
    have hsize := hb.size
    have h92 : ((s[k].toNat : Int) == 92) = false := by rw [beq_eq_false_iff_ne]; exact Hs.out.back k hk
    have h128 : s[k].toNat < 128 := Hs.out.ascii k hk
    obtain ⟨he1, he2, he3⟩ := ext_head s hk
    have hpc := prefix_comma s hk
    have hdc := drop_cons s hk
    have Hdc := Lib.hid hdc
    have Heq := Lib.hid heq
    have Hasc := Lib.hid hasc
    clear hdc heq hasc
    go_wp2_with fail
    refine (Tryz.strings_HasPrefix _ _ _).mono ?_
    rintro e w' ⟨rfl, rfl⟩
    rw [hpc]
    clear hpc
    by_cases hcm : s[k] = 44
    · have hd : decide (s[k] = 44) = true := decide_eq_true hcm
      rw [hd]
      clear hd
      go_wp2_with fail
      refine (Tryz.Builder_String_any_k b b acc _ hB hbw).mono ?_
      rintro e w2 ⟨rfl, hB2, hb2, hk2⟩
      obtain ⟨cb2, hcb2⟩ := builder_block hB
      have ho2 := ownF_others ho hcb2 hk2
      have hbw2 := hb.trans (hb2.mono hsize0)
      have hsz2 := hb2.size
      clear hcb2 hk2 hb2 ho hB
      go_wp2_with fail
      refine (Tryz.strings_TrimSpace _ _ (by show acc.length ≤ _; omega) (fun j b' hj => Hasc.out b' (List.mem_of_getElem? hj)) (Ht.out w2 hbw2)).mono ?_
      rintro e w3 ⟨rfl, hw3⟩
      have hb3 : Below w2.heap.size w2 w3 := hw3 ▸ Lib.bytesWorld_below _ _ _
      clear hw3
      have hB3 := builder_below hB2 hb3
      have ho3 := own_below ho2 hb3
      have hbw3 := hbw2.trans (hb3.mono hbw2.size)
      have hsz3 := hb3.size
      clear hb3 hB2 ho2 hbw2
      go_wp2_with (at_builtin; refine wpList_append_own _ rfl (.tmp 73) (.tmp 76) 29 rfl w.heap.size 9 i0 (.string ⟨#[]⟩) 1 16 Tryz.underlying29 hi hz0 hz1 hz2 rfl (by decide) _ _ _ rfl (ho3.alloc _) ⟨w3.heap.size, 0, none⟩ 1 1 [.string ⟨(Lib.trimSpace acc).toArray⟩] rfl rfl (cell_one_new _ _ _) (by intro u hu; simp at hu; subst hu; rfl) (by unfold maxLen; omega) (by omega) (by simp; omega) ?_; intro v4 w4 hown4 hgrow4 _)
      have hB4 := builder_grown (hB3.alloc _) hgrow4 (row_of_own (ho3.alloc _))
      have hbw4 := (hbw3.alloc hbw3.size _).grown hgrow4 (by have := hbw3.size; simp; omega) (fun j hj => (ho3.lt j hj).1)
      have hsz4 : w3.heap.size ≤ w4.heap.size := by have := hgrow4.size; simp at this; omega
      clear hB3 hgrow4 ho3 hbw3
      refine (reset_k b b _ _ hB4).mono ?_
      rintro e w5 ⟨rfl, hB5, hb5, hk5⟩
      obtain ⟨cb4, hcb4⟩ := builder_block hB4
      have ho5 := ownF_others hown4 hcb4 hk5
      have hbw5 := hbw4.trans (hb5.mono hsize0)
      have hsz5 := hb5.size
      clear hcb4 hk5 hb5 hown4 hB4 hbw4
      by_cases hlast : k + 1 < s.size
      · go_wp2_with fail
        refine ⟨⟨k + 1, [], ps ++ [Lib.trimSpace acc], by go_num, hlast, hB5, ?_, hbw5, ?_, Nat.zero_le _, by simp; omega, by simp, by omega⟩, by simp [intOf]; omega⟩
        · rw [strV_snoc]; simpa using ho5
        · rw [← Heq.out, Hdc.out]
          simp [splitC, hcm]
      · have hfin : ps ++ [Lib.trimSpace acc] = (splitC s.data.toList []).map Lib.trimSpace := by
          rw [← Heq.out, Hdc.out, List.drop_eq_nil_of_le (by show s.size ≤ _; omega)]
          simp [splitC, hcm]
        have Hfin := Lib.hid hfin
        clear hfin
        go_wp2_with fail
        refine (Tryz.Builder_Len_f b b _ _ hB5).mono ?_
        rintro e w6 ⟨rfl, rfl⟩
        go_wp2_with fail
        go_ret
        refine ⟨_, rfl, ?_, hbw5⟩
        rw [← Hfin.out, strV_snoc]
        simpa using ho5
    · have hd : decide (s[k] = 44) = false := decide_eq_false hcm
      rw [hd]
      clear hd
      go_wp2_with fail
      refine (decode_ascii _ _ he2 (by rw [he3]; exact h128)).mono ?_
      rintro e w' ⟨rfl, rfl⟩
      rw [he3]
      go_wp2_with fail
      refine (writeRune_k b b (Lib.byteCells acc) (s[k].toNat : Int) (by omega) (by omega) _ hB (by rw [byteCells_length]; omega) hbw).mono ?_
      rintro e w2 ⟨rfl, hB2, hb2, hk2⟩
      rw [← byteCells_snoc] at hB2
      obtain ⟨cb2, hcb2⟩ := builder_block hB
      have ho2 := ownF_others ho hcb2 hk2
      have hbw2 := hb.trans (hb2.mono hsize0)
      have hsz2 := hb2.size
      clear hcb2 hk2 hb2 ho hB
      by_cases hlast : k + 1 < s.size
      · go_wp2_with fail
        refine ⟨⟨k + 1, acc ++ [s[k]], ps, by go_num, hlast, hB2, ho2, hbw2, ?_, by simp; omega, by omega, ?_, by omega⟩, by simp [intOf]; omega⟩
        · rw [← Heq.out, Hdc.out]
          simp [splitC, hcm]
        · intro c' hc'
          rcases List.mem_append.1 hc' with h | h
          · exact Hasc.out c' h
          · rw [List.mem_singleton.1 h]; exact h128
      · have hfin : ps ++ [Lib.trimSpace (acc ++ [s[k]])] = (splitC s.data.toList []).map Lib.trimSpace := by
          rw [← Heq.out, Hdc.out, List.drop_eq_nil_of_le (by show s.size ≤ _; omega)]
          simp [splitC, hcm]
        have Hfin := Lib.hid hfin
        clear hfin
        go_wp2_with fail
        refine (Tryz.Builder_Len_f b b _ _ hB2).mono ?_
        rintro e w6 ⟨rfl, rfl⟩
        have hlen1 : (⟨(acc ++ [s[k]]).toArray⟩ : ByteArray).size ≤ 9223372036854775807 := by
          have h : (acc ++ [s[k]]).length = acc.length + 1 := by simp
          show (acc ++ [s[k]]).length ≤ _
          omega
        have hpos : (((Lib.byteCells (acc ++ [s[k]])).length : Int) > 0) := by rw [byteCells_length, List.length_append]; show (0:Int) < ((acc.length + 1 : Nat) : Int); omega
        generalize hlen : ((Lib.byteCells (acc ++ [s[k]])).length : Int) = nlen at *
        clear hlen
        go_wp2_with fail
        refine (Tryz.Builder_String_any_k b b (acc ++ [s[k]]) _ hB2 (by omega)).mono ?_
        rintro e w7 ⟨rfl, hB7, hb7, hk7⟩
        obtain ⟨cb7, hcb7⟩ := builder_block hB2
        have ho7 := ownF_others ho2 hcb7 hk7
        have hbw7 := hbw2.trans (hb7.mono hsize0)
        have hsz7 := hb7.size
        clear hcb7 hk7 hb7 ho2 hB2
        go_wp2_with fail
        refine (Tryz.strings_TrimSpace _ _ hlen1 ?_ (Ht.out w7 hbw7)).mono ?_
        · intro j b' hj
          have hm := List.mem_of_getElem? hj
          rcases List.mem_append.1 hm with h | h
          · exact Hasc.out b' h
          · rw [List.mem_singleton.1 h]; exact h128
        rintro e w8 ⟨rfl, hw8⟩
        have hb8 : Below w7.heap.size w7 w8 := hw8 ▸ Lib.bytesWorld_below _ _ _
        clear hw8
        have ho8 := own_below ho7 hb8
        have hbw8 := hbw7.trans (hb8.mono hbw7.size)
        have hsz8 := hb8.size
        clear hb8 ho7 hbw7 hB7
        go_wp2_with (at_builtin; refine wpList_append_own _ rfl (.tmp 97) (.tmp 100) 29 rfl w.heap.size 9 i0 (.string ⟨#[]⟩) 1 16 Tryz.underlying29 hi hz0 hz1 hz2 rfl (by decide) _ _ _ rfl (ho8.alloc _) ⟨w8.heap.size, 0, none⟩ 1 1 [.string ⟨(Lib.trimSpace (acc ++ [s[k]])).toArray⟩] rfl rfl (cell_one_new _ _ _) (by intro u hu; simp at hu; subst hu; rfl) (by unfold maxLen; omega) (by omega) (by simp; omega) ?_; intro v9 w9 hown9 hgrow9 _)
        have hbw9 := (hbw8.alloc hbw8.size _).grown hgrow9 (by have := hbw8.size; simp; omega) (fun j hj => (ho8.lt j hj).1)
        go_ret
        refine ⟨_, rfl, ?_, hbw9⟩
        rw [← Hfin.out, strV_snoc]
        simpa using hown9
end Go.Proofs.YtfnncdngfggcjaaGreatDoor
