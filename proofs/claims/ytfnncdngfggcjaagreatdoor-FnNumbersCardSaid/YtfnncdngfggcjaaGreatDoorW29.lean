/- Walks: laws.FnNumbers. -/
import Derived.Test.YtfnncdngfggcjaaGreatDoorA3
import Derived.Laws.OwnMore
namespace Go.Proofs.YtfnncdngfggcjaaGreatDoor
open Go.RowKit

/-- The call gives true, and what was there stands. -/
def GivesTrue (w : World) (e : Ending) (w' : World) : Prop := e = .returned (.bool true) ∧ Below w.heap.size w w'

theorem add_block (ad : Addr) (j : Nat) : (ad.add j).block = ad.block := by
  unfold Addr.add
  split <;> rfl
theorem own_cell {w : World} {base : Nat} {e : TypeId} {g n cap : Nat} {xs : List Value} (h : w.ownsRow base e 1 (.slice (some ⟨g, 0, none⟩) n cap) n xs) {j : Nat} {u : Value} (hu : xs[j]? = some u) :
    w.cell? ⟨g, j, none⟩ = some u ∧ w.frozen? ⟨g, j, none⟩ = false := by
  have h1 := h.cells (g := g) rfl j u hu
  rw [show ((⟨g, 0, none⟩ : Addr).add j) = ⟨g, j, none⟩ from by unfold Addr.add; split <;> simp_all] at h1
  refine ⟨h1, ?_⟩
  rcases h.2 with ⟨h, _⟩ | ⟨g', cap', cur, hv, _, hh, _⟩
  · cases h
  · have e1 : g' = g := by injection hv with hv; injection hv with hv; injection hv with hv; exact hv.symm
    subst e1
    exact Lib.frozen_of_heap hh j

/-- The texts so far. -/
def strT (z : Nat → Int) (word : ByteArray) (k : Int) (j : Nat) : List Value := (List.range j).map fun i => Value.string (textsF z word k i)
theorem strT_succ (z : Nat → Int) (word : ByteArray) (k : Int) (j : Nat) : strT z word k (j + 1) = strT z word k j ++ [.string (textsF z word k j)] := by simp [strT, List.range_succ]
theorem strT_len (z : Nat → Int) (word : ByteArray) (k : Int) (j : Nat) : (strT z word k j).length = j := by simp [strT]
theorem strT_at (z : Nat → Int) (word : ByteArray) (k : Int) (j i : Nat) (h : i < j) : (strT z word k j)[i]? = some (.string (textsF z word k i)) := by simp [strT, h]
/-- The numbers so far. -/
def numT (z : Nat → Int) (k : Int) (j i : Nat) : Int := if i < j ∧ (i : Int) = k then 0 else z i
theorem ints_at (r : Nat → Int) (n i : Nat) (h : i < n) : (ints r n)[i]? = some (.int .i64 (r i)) := by simp [ints, h]
theorem numT_other (z : Nat → Int) (k : Int) (j n : Nat) (h : (j : Int) ≠ k) : ints (numT z k (j + 1)) n = ints (numT z k j) n := by
  unfold ints
  refine List.map_congr_left fun i _ => ?_
  unfold numT
  congr 1
  by_cases e : (i : Int) = k
  · have : i ≠ j := by omega
    by_cases h1 : i < j
    · simp [e, h1, Nat.lt_succ_of_lt h1]
    · have h2 : ¬ i < j + 1 := by omega
      simp [h1, h2]
  · simp [e]
theorem numT_same (z : Nat → Int) (k : Int) (j n : Nat) (h : (j : Int) = k) (hj : j < n) : (ints (numT z k j) n).set j (.int .i64 0) = ints (numT z k (j + 1)) n := by
  apply List.ext_getElem?
  intro i
  unfold ints
  rw [List.getElem?_set]
  by_cases e : j = i
  · subst e
    simp [numT, h, hj]
  · simp only [e, if_false]
    by_cases hi : i < n
    · have h1 : ¬ (i : Int) = k := by omega
      simp [hi, numT, h1]
    · simp [hi]
theorem numT_zero (z : Nat → Int) (k : Int) (n : Nat) : ints z n = ints (numT z k 0) n := by
  unfold ints
  refine List.map_congr_left fun i _ => ?_
  simp [numT]
theorem numT_end (z : Nat → Int) (k : Int) (n : Nat) : ints (numT z k n) n = ints (numsF z k) n := by
  unfold ints
  refine List.map_congr_left fun i hi => ?_
  have : i < n := by simpa using hi
  simp [numT, numsF, this]

set_option maxRecDepth 100000 in
set_option maxHeartbeats 4000000 in
theorem fnNumbers_some (ad : Addr) (n cap : Nat) (z : Nat → Int) (word : ByteArray) (k : Int) (a b : Addr) (w : World) (hc : ∀ j, j < n → w.cell? (ad.add j) = some (.int .i64 (z j))) (had : ad.block < w.heap.size)
    (ht : SpaceTab w) (he : ErrVar w) (hse : Sents w a b) :
    Calls Tryz.prog 4 #[.slice (some ad) n cap, .string word, .int .i64 k] w (GivesTrue w) := by
  have Hc := Lib.hid hc
  have Ht := Lib.hid ht
  have He := Lib.hid he
  have Hse := Lib.hid hse
  clear hc ht he hse
  go_enter Tryz.func4, Tryz.ntmps4
  by_cases h1 : (2147483647 : Int) < (n : Int)
  · go_wp2_with fail
    go_ret
    exact ⟨rfl, Below.refl _ _⟩
  by_cases h2 : (2147483647 : Int) < (word.size : Int)
  · go_wp2_with fail
    go_ret
    exact ⟨rfl, Below.refl _ _⟩
  by_cases h3 : (n : Int) < 1
  · go_wp2_with fail
    go_ret
    exact ⟨rfl, Below.refl _ _⟩
  by_cases h4 : (10 : Int) < (n : Int)
  · go_wp2_with fail
    go_ret
    exact ⟨rfl, Below.refl _ _⟩
  have Hn := Lib.hid (isName_any word w (by omega))
  go_wp2_with fail
  refine Hn.out.mono ?_
  rintro e w1 ⟨bn, rfl, hname, hb1⟩
  cases bn with
  | false =>
    go_wp2_with fail
    go_ret
    exact ⟨rfl, hb1⟩
  | true =>
    have hname := hname rfl
    have hpos : 0 < word.size := hname.1
    have Hname := Lib.hid hname
    clear hname
    by_cases h5 : (word[0].toNat : Int) ≤ 57
    · go_wp2_with fail
      go_ret
      exact ⟨rfl, hb1⟩
    by_cases h6 : k < -1
    · go_wp2_with fail
      go_ret
      exact ⟨rfl, hb1⟩
    by_cases h7 : (n : Int) ≤ k
    · go_wp2_with fail
      go_ret
      exact ⟨rfl, hb1⟩
    obtain ⟨i0, hi, hz0, hz1, hz2⟩ := info_parts Tryz.info3
    obtain ⟨i9, ki, kz0, kz1, kz2⟩ := info_parts Tryz.info9
    have hcell : ∀ (wx : World), Below w.heap.size w wx → ∀ j, j < n → wx.cell? (ad.add j) = some (.int .i64 (z j)) := fun wx hb j hj => (hb.cell (by rw [add_block]; exact had)).trans (Hc.out j hj)
    have hl1 := hb1.size
    have hb1a := (hb1.alloc hl1 (.cells #[] 9)).alloc (by simp; omega) (.cells #[] 3)
    have hm9 : (w1.alloc (.cells #[] 9)).ownsRow w1.heap.size 9 1 (.slice (some ⟨w1.heap.size, 0, none⟩) 0 0) 0 [] := World.ownsRow_made w1 #[] 0 (Nat.le_refl _) (by unfold maxLen; omega) rfl
    have hm3 : ((w1.alloc (.cells #[] 9)).alloc (.cells #[] 3)).ownsRow (w1.alloc (.cells #[] 9)).heap.size 3 1 (.slice (some ⟨(w1.alloc (.cells #[] 9)).heap.size, 0, none⟩) 0 0) 0 [] := World.ownsRow_made _ #[] 0 (Nat.le_refl _) (by unfold maxLen; omega) rfl
    have ee : (w1.alloc (.cells #[] 9)).heap.size = w1.heap.size + 1 := by simp
    rw [ee] at hm3
    have Hcell := Lib.hid hcell
    have hcells : ∀ j u, (ints z n)[j]? = some u → ((w1.alloc (.cells #[] 9)).alloc (.cells #[] 3)).cell? (ad.add j) = some u := by
      intro j u hu
      have hj : j < n := by
        have := (List.getElem?_eq_some_iff.1 hu).1
        simpa [ints] using this
      rw [ints_at z n j hj] at hu
      rw [← hu]
      exact Hcell.out _ hb1a j hj
    have Hcells := Lib.hid hcells
    have Hm9 := Lib.hid (own_le (hm9.alloc (.cells #[] 3)) hl1)
    have Hm3 := Lib.hid (own_le hm3 (Nat.le_trans hl1 (Nat.le_succ _)))
    clear hcell hcells hm9 hm3 Hc
    have hlen : (ints z n).length = n * 1 := by simp [ints]
    have hone : ∀ u ∈ ints z n, u.oneCell' = true := by
      intro u hu
      obtain ⟨x, _, rfl⟩ := List.mem_map.1 hu
      rfl
    go_upto_region 6 with (at_builtin; refine wpList_append_lies _ rfl (.tmp 50) (.tmp 51) 38 rfl w.heap.size 3 i0 (.int .i64 0) 1 8 Tryz.underlying38 hi hz0 hz1 hz2 rfl (by decide) (.slice (some ⟨w1.heap.size + 1, 0, none⟩) 0 0) 0 [] rfl Hm3.out ad n cap (ints z n) rfl hlen Hcells.out hone (by omega) (by unfold maxLen; omega) (by omega) (by simp; omega) _ rfl ?_; intro g2 cap2 w2 hown2 hgrow2 hat2 hlt2)
    have r9 := Hm9.out.kept hgrow2 (own_ne Hm9.out Hm3.out (by decide))
    have hb2 := hb1a.grown hgrow2 (by simp; omega) (fun j hj => (Hm3.out.lt j hj).1)
    rw [Nat.zero_add, List.nil_append, numT_zero z k n] at hown2
    have Hr9 := Lib.hid r9
    have Hr3 := Lib.hid hown2
    clear r9 hown2 hgrow2 hat2 hlt2 hb1a Hm9 Hm3 Hcells hone hlen
    go_wp2_with fail
    go_loopw [7, 55] (fun t c wr => ∃ j : Nat, c = .int .i64 j ∧ j ≤ n ∧ wr.ownsRow w.heap.size 9 1 t j (strT z word k j) ∧ wr.ownsRow w.heap.size 3 1 (.slice (some ⟨g2, 0, none⟩) n cap2) n (ints (numT z k j) n) ∧ Below w.heap.size w wr ∧ ∀ i, i < j → -1000000 ≤ z i ∧ z i ≤ 1000000) (fun _ c _ => n - (intOf c).toNat)
    case atStart => exact ⟨0, rfl, Nat.zero_le _, Hr9.out, Hr3.out, hb2, fun i hi => by omega⟩
    case round =>
      obtain ⟨j, rfl, hj, ho9, ho3, hb, hz⟩ := hrel
      have hsize := hb.size
      by_cases hlt : j < n
      · have hzj := Hcell.out wr hb j hlt
        by_cases h8 : z j < -1000000
        · go_wp2_with fail
          go_ret
          exact ⟨rfl, hb⟩
        by_cases h9 : (1000000 : Int) < z j
        · go_wp2_with fail
          go_ret
          exact ⟨rfl, hb⟩
        have hz' : ∀ i, i < j + 1 → -1000000 ≤ z i ∧ z i ≤ 1000000 := by
          intro i hi
          rcases Nat.lt_or_ge i j with h | h
          · exact hz i h
          · have : i = j := by omega
            subst this
            exact ⟨by omega, by omega⟩
        have Hz' := Lib.hid hz'
        clear hz hz'
        go_wp2_with fail
        refine (figs_any (z j) _ (by omega) (by omega)).mono ?_
        rintro e w' ⟨rfl, rfl⟩
        have Hfl := Lib.hid ho3
        clear ho3
        by_cases h10 : (j : Int) = k
        · have htx : textsF z word k j = word := by unfold textsF; rw [if_pos h10]
          have Ek := Lib.hid (show k.toNat = j by omega)
          go_wp2_with (at_builtin; refine wpList_append_lies _ rfl (.tmp 66) (.tmp 69) 29 rfl w.heap.size 9 i9 (.string ⟨#[]⟩) 1 16 Tryz.underlying29 ki kz0 kz1 kz2 rfl (by decide) _ j (strT z word k j) rfl (ho9.alloc _) ⟨wr.heap.size, 0, none⟩ 1 1 [.string ⟨(figs (z j)).toArray⟩] rfl rfl (cell_one_new _ _ _) (by intro u hu; simp at hu; subst hu; rfl) (by omega) (by unfold maxLen; omega) (by omega) (by simp; omega) _ rfl ?_; intro g3 cap3 w3 hown3 hgrow3 hat3 hlt3; have r3 := (Hfl.out.alloc (.cells #[.string ⟨(figs (z j)).toArray⟩] 9)).kept hgrow3 (own_ne Hfl.out ho9 (by decide)); obtain ⟨q1, q2⟩ := own_cell hown3 (j := k.toNat) (u := .string ⟨(figs (z j)).toArray⟩) (by rw [Ek.out, List.getElem?_append_right (by rw [strT_len]; exact Nat.le_refl _), strT_len, Nat.sub_self]; rfl); have hst := hown3.stored k.toNat (.string word); have r3' := r3.kept hst.2 (own_ne r3 hown3 (by decide)); obtain ⟨p1, p2⟩ := own_cell r3' (ints_at _ n k.toNat (by rw [Ek.out]; exact hlt)))
          have hset : (strT z word k j ++ [Value.string ⟨(figs (z j)).toArray⟩]).set k.toNat (.string word) = strT z word k (j + 1) := by
            rw [Ek.out, strT_succ, htx, List.set_append, if_neg (by rw [strT_len]; omega), strT_len, Nat.sub_self]
            rfl
          have hst2 := r3'.stored k.toNat (.int .i64 0)
          have a9 := hst.1.kept hst2.2 (own_ne hst.1 r3' (by decide))
          rw [hset] at a9
          have a3 := hst2.1
          rw [show (ints (numT z k j) n).set k.toNat (.int .i64 0) = ints (numT z k (j + 1)) n from by rw [Ek.out]; exact numT_same z k j n h10 hlt] at a3
          have l3 := (hown3.lt g3 rfl).1
          have l2 := (r3.lt g2 rfl).1
          exact ⟨⟨j + 1, by simp [← h10], by omega, a9, a3, (((hb.alloc hsize _).grown hgrow3 (by simp; omega) (fun x hx => (ho9.lt x hx).1)).setCell (p := ⟨g3, k.toNat, none⟩) l3 _).setCell (p := ⟨g2, k.toNat, none⟩) l2 _, Hz'.out⟩, by simp [intOf]; omega⟩
        · have htx : textsF z word k j = ⟨(figs (z j)).toArray⟩ := by unfold textsF; rw [if_neg h10]
          go_wp2_with (at_builtin; refine wpList_append_lies _ rfl (.tmp 66) (.tmp 69) 29 rfl w.heap.size 9 i9 (.string ⟨#[]⟩) 1 16 Tryz.underlying29 ki kz0 kz1 kz2 rfl (by decide) _ j (strT z word k j) rfl (ho9.alloc _) ⟨wr.heap.size, 0, none⟩ 1 1 [.string ⟨(figs (z j)).toArray⟩] rfl rfl (cell_one_new _ _ _) (by intro u hu; simp at hu; subst hu; rfl) (by omega) (by unfold maxLen; omega) (by omega) (by simp; omega) _ rfl ?_; intro g3 cap3 w3 hown3 hgrow3 hat3 hlt3)
          have r3 := (Hfl.out.alloc (.cells #[.string ⟨(figs (z j)).toArray⟩] 9)).kept hgrow3 (own_ne Hfl.out ho9 (by decide))
          rw [← numT_other z k j n h10] at r3
          have a9 := hown3
          rw [← htx, ← strT_succ] at a9
          exact ⟨⟨j + 1, by go_num, by omega, a9, r3, (hb.alloc hsize _).grown hgrow3 (by simp; omega) (fun x hx => (ho9.lt x hx).1), Hz'.out⟩, by simp [intOf]; omega⟩
      · have hjn : j = n := by omega
        subst hjn
        obtain ⟨g9, cap9, hv9, _, _, hc9⟩ := own_form ho9 (by omega)
        subst hv9
        rw [numT_end z k j] at ho3
        have Hz := Lib.hid hz
        have Hj := Lib.hid (joined_any g9 j cap9 (textsF z word k) ⟨#[44]⟩ wr (by omega) (by decide) (fun i hi => texts_size z word k Hname.out i (Hz.out i hi)) (fun i hi => hc9 i _ (strT_at z word k j i hi)))
        have Hnum := Lib.hid (numbers_any (joinN ⟨#[44]⟩ (textsF z word k) j) j (textsF z word k) (numsF z k) a b wr (joined_plain z word k j Hname.out (by omega) (by omega) Hz.out) (Ht.out.below hb) (He.out.below hb) (Hse.out.below hb (Nat.le_refl _)) (by omega) (by omega)
          (joined_parts z word k j Hname.out (by omega)) (fun i hi => texts_readable z word k Hname.out (fun _ => by omega) i (Hz.out i hi)))
        clear hz hc9 ho9
        go_wp2_with fail
        refine Hj.out.mono ?_
        rintro e w' ⟨rfl, rfl⟩
        go_wp2_with fail
        refine Hnum.out.mono ?_
        rintro e w5 ⟨v5, rfl, hown5, hb5⟩
        obtain ⟨g5, cap5, hv5, _, _, hc5⟩ := own_form hown5 (by omega)
        subst hv5
        have r3 := own_below ho3 hb5
        have hb6 := hb.trans (hb5.mono hsize)
        have Hc5 := Lib.hid hc5
        have Hr3' := Lib.hid r3
        clear hc5 hown5 ho3 hb5 r3
        go_wp2_with fail
        go_loopw [92] (fun c wr => ∃ i m : Nat, c = .int .i64 i ∧ i ≤ j ∧ wr = w5.drewN m) (fun c _ => j - (intOf c).toNat)
        case atStart => exact ⟨0, 0, rfl, Nat.zero_le _, rfl⟩
        case round =>
          obtain ⟨i, m, rfl, hi', rfl⟩ := hrel
          by_cases hlt' : i < j
          · have x5 := Hc5.out i _ (ints_at _ j i hlt')
            have x3 := (own_cell Hr3'.out (ints_at _ j i hlt')).1
            go_wp2_with fail
            go_quiet (fail)
            go_wp2_with fail
            exact ⟨⟨i + 1, m + nq, by go_num, by omega, rfl⟩, by simp [intOf]; omega⟩
          · have hij : i = j := by omega
            go_wp2_with fail
            go_ret
            exact ⟨rfl, ⟨hb6.os, hb6.tape, hb6.output, hb6.size, hb6.block⟩⟩

set_option maxRecDepth 100000 in
set_option maxHeartbeats 4000000 in
theorem fnNumbers_nil (c : Nat) (word : ByteArray) (k : Int) (w : World) :
    Calls Tryz.prog 4 #[.slice none 0 c, .string word, .int .i64 k] w (GivesTrue w) := by
  go_enter Tryz.func4, Tryz.ntmps4
  by_cases h2 : (2147483647 : Int) < (word.size : Int)
  · go_wp2_with fail
    go_ret
    exact ⟨rfl, Below.refl _ _⟩
  go_wp2_with fail
  go_ret
  exact ⟨rfl, Below.refl _ _⟩
end Go.Proofs.YtfnncdngfggcjaaGreatDoor
