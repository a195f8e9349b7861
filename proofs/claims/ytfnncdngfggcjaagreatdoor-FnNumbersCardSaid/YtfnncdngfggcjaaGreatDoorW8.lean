/- Walks: the numbers out of what was parsed; a copy of them. -/
import Derived.Test.YtfnncdngfggcjaaGreatDoorW7
namespace Go.Proofs.YtfnncdngfggcjaaGreatDoor
open Go.RowKit

def ints (r : Nat → Int) (n : Nat) : List Value := (List.range n).map fun j => Value.int .i64 (r j)
theorem ints_succ (r : Nat → Int) (n : Nat) : ints r (n + 1) = ints r n ++ [.int .i64 (r n)] := by simp [ints, List.range_succ]

/-- A slice of the call's own that holds the numbers r 0, .., r (n - 1). -/
def ManyInts (r : Nat → Int) (n : Nat) (w : World) (e : Ending) (w' : World) : Prop :=
  ∃ v, e = .returned (.tuple #[v, .nilIface]) ∧ w'.ownsRow w.heap.size 3 1 v n (ints r n) ∧ Below w.heap.size w w'

/-- What an owned row of n cells, n not 0, is, and what its cells are. -/
theorem own_form {w : World} {base : Nat} {e : TypeId} {v : Value} {n : Nat} {xs : List Value} (h : w.ownsRow base e 1 v n xs) (hn : 0 < n) :
    ∃ g cap, v = .slice (some ⟨g, 0, none⟩) n cap ∧ base ≤ g ∧ g < w.heap.size ∧ ∀ (j : Nat) (u : Value), xs[j]? = some u → w.cell? ⟨g, j, none⟩ = some u := by
  rcases h.2 with ⟨_, h0⟩ | ⟨g, cap, cur, rfl, hb, hg, _⟩
  · omega
  · refine ⟨g, cap, rfl, hb, (Array.getElem?_eq_some_iff.1 hg).1, fun j u hu => ?_⟩
    have := h.cells (g := g) rfl j u hu
    rwa [show ((⟨g, 0, none⟩ : Addr).add j) = ⟨g, j, none⟩ from by unfold Addr.add; split <;> simp_all] at this

theorem own_ne {w : World} {b b' : Nat} {e e' : TypeId} {s s' : Nat} {v v' : Value} {n n' : Nat} {xs xs' : List Value} (h : w.ownsRow b e s v n xs) (h' : w.ownsRow b' e' s' v' n' xs') (hne : e ≠ e') :
    v.ownBlock = none ∨ v.ownBlock ≠ v'.ownBlock := by
  rcases h.2 with ⟨rfl, _⟩ | ⟨g, cap, cur, rfl, _, hg, _⟩
  · exact .inl rfl
  · rcases h'.2 with ⟨rfl, _⟩ | ⟨g', cap', cur', rfl, _, hg', _⟩
    · exact .inr (by simp [Value.ownBlock])
    · refine .inr fun he => hne ?_
      have : g = g' := by simpa [Value.ownBlock] using he
      subst this
      rw [hg] at hg'
      injection hg' with hg'
      injection hg' with _ ht

theorem assert_int (n : Int) (w : World) : (Instr.typeAssert (.iface 2 (.int .i64 n)) 20 2 false).run Tryz.prog w = .ok (.int .i64 n) w := by kernel_rfl

set_option maxRecDepth 100000 in
set_option maxHeartbeats 2000000 in
theorem parseInts_any (kv : Value) (g n cap : Nat) (f : Nat → ByteArray) (r : Nat → Int) (w : World) (hn1 : 1 ≤ n) (hn : n ≤ 4096) (hg : g < w.heap.size) (hc : ∀ j, j < n → w.cell? ⟨g, j, none⟩ = some (.string (f j)))
    (hr : ∀ j, j < n → Readable (f j) (r j)) (he : ErrVar w) :
    Calls Tryz.prog 51 #[kv, .slice (some ⟨g, 0, none⟩) n cap, .bool true, .bool false] w (ManyInts r n w) := by
  obtain ⟨i0, hi, hz0, hz1, hz2⟩ := info_parts Tryz.info3
  have Hc := Lib.hid hc
  have Hr := Lib.hid hr
  have He := Lib.hid he
  clear hc hr he
  have hta := assert_int
  go_enter Tryz.func51, Tryz.ntmps51
  go_wp2_with (at_make; refine wpList_make_own _ rfl _ _ 38 rfl w.heap.size 3 i0 (.int .i64 0) 1 Tryz.underlying38 hi hz0 hz1 .i64 .i64 _ n rfl rfl rfl (by rw [hz2]; omega) (by unfold maxLen; omega) (Nat.le_refl _) ?_; intro w0 hown0 hgrow0)
  have hb0 : Below w.heap.size w w0 := (Below.refl _ _).grown hgrow0 (Nat.le_refl _) (fun k h => by cases h)
  have hsize0 := hb0.size
  refine (doParse_any kv g n cap f r w0 hn (by omega) (fun j hj => (hb0.cell hg).trans (Hc.out j hj)) Hr.out (He.out.below hb0)).mono ?_
  rintro e w1 ⟨v, rfl, hown, hb1⟩
  obtain ⟨g1, cap1, rfl, hg1, hg1', hcell1⟩ := own_form hown (by omega)
  clear hcell1
  have hown1 := own_below hown0 hb1
  have hsize1 := hb1.size
  have hb01 := hb0.trans (hb1.mono hsize0)
  go_wp2_with fail
  go_loopw [10, 32] (fun v i wr => ∃ k : Nat, i = .int .i64 k ∧ k ≤ n ∧ wr.ownsRow w.heap.size 3 1 v k (ints r k) ∧ wr.ownsRow w0.heap.size 20 1 (.slice (some ⟨g1, 0, none⟩) n cap1) n (ifs r n) ∧ Below w.heap.size w wr) (fun _ i _ => n - (intOf i).toNat)
  case atStart => exact ⟨0, rfl, Nat.zero_le _, hown1, hown, hb01⟩
  case round =>
    obtain ⟨k, rfl, hk, ho3, ho20, hb⟩ := hrel
    have hsize := hb.size
    by_cases hlt : k < n
    · have hcell : wr.cell? ⟨g1, k, none⟩ = some (.iface 2 (.int .i64 (r k))) := by
        have hlen := ho20.cells (g := g1) rfl k (.iface 2 (.int .i64 (r k))) (by simp [ifs, hlt])
        rwa [show ((⟨g1, 0, none⟩ : Addr).add k) = ⟨g1, k, none⟩ from by unfold Addr.add; split <;> simp_all] at hlen
      go_wp2_with (at_builtin; refine wpList_append_own _ rfl (.tmp 36) (.tmp 39) 38 rfl w.heap.size 3 i0 (.int .i64 0) 1 8 Tryz.underlying38 hi hz0 hz1 hz2 rfl (by decide) _ _ _ rfl (ho3.alloc _) ⟨wr.heap.size, 0, none⟩ 1 1 [.int .i64 (r k)] rfl rfl (cell_one_new _ _ _) (by intro u hu; simp at hu; subst hu; rfl) (by unfold maxLen; omega) (by omega) (by simp; omega) ?_; intro v2 w2 hown2 hgrow2 _)
      exact ⟨⟨k + 1, by go_num, by omega, by rw [ints_succ]; exact hown2, (ho20.alloc _).kept hgrow2 (own_ne ho20 ho3 (by decide)), (hb.alloc (by omega) _).grown hgrow2 (by simp; omega) (fun j hj => (ho3.lt j hj).1)⟩, by simp [intOf]; omega⟩
    · have hkn : k = n := by omega
      have Hkn := Lib.hid hkn
      clear hkn
      go_wp2_with fail
      go_ret2
      exact ⟨_, rfl, Hkn.out ▸ ho3, hb⟩

/-- A slice of the call's own that holds the numbers r 0, .., r (n - 1): the one result. -/
def GivesInts (r : Nat → Int) (n : Nat) (w : World) (e : Ending) (w' : World) : Prop :=
  ∃ v, e = .returned v ∧ w'.ownsRow w.heap.size 3 1 v n (ints r n) ∧ Below w.heap.size w w'

end Go.Proofs.YtfnncdngfggcjaaGreatDoor
