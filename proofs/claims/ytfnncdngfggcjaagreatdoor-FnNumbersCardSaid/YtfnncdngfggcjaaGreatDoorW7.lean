/- Walks: a list of texts read as numbers; what is none is 0. -/
import Derived.Test.YtfnncdngfggcjaaGreatDoorW6
namespace Go.Proofs.YtfnncdngfggcjaaGreatDoor
open Go.RowKit

/-- A text that is read as the number n: its figures, or a word, and then n is 0. -/
def Readable (s : ByteArray) (n : Int) : Prop := (s = ⟨(figs n).toArray⟩ ∧ -1000000 ≤ n ∧ n ≤ 1000000) ∨ (n = 0 ∧ ∃ h : 1 ≤ s.size, s.size ≤ 30 ∧ LetC s[0])
/-- strconv.ErrSyntax lies as it may. -/
def ErrVar (w : World) : Prop := 6 < w.heap.size ∧ ∃ ev, w.cell? ⟨6, 0, none⟩ = some ev ∧ (ev = .nilIface ∨ ∃ te pe, ev = .iface te pe)
theorem ErrVar.below {w w' : World} (h : ErrVar w) (hb : Below w.heap.size w w') : ErrVar w' :=
  let ⟨h1, ev, h2, h3⟩ := h
  ⟨Nat.lt_of_lt_of_le h1 hb.size, ev, (hb.cell h1).trans h2, h3⟩

def IntAny (n : Int) (w : World) (e : Ending) (w' : World) : Prop :=
  ∃ ev, (ev = .nilIface ∨ ∃ N, ev = .iface 183 (.pointer (some ⟨N, 0, none⟩))) ∧ e = .returned (.tuple #[.iface 2 (.int .i64 n), ev]) ∧ Below w.heap.size w w'

set_option maxHeartbeats 1000000 in
theorem parser_any (s : ByteArray) (n : Int) (w : World) (hr : Readable s n) (he : ErrVar w) : Calls Tryz.prog 67 #[.string s] w (IntAny n w) := by
  rcases hr with ⟨rfl, h0, h1⟩ | ⟨rfl, h1, h30, hl⟩
  · have H := Lib.hid (parseInt_figs n w h0 h1)
    generalize (ByteArray.mk (figs n).toArray) = s at *
    go_enter Tryz.func67, Tryz.ntmps67
    go_wp2_with fail
    refine H.out.mono ?_
    rintro e w' ⟨rfl, hb⟩
    go_wp2_with fail
    go_ret2
    exact ⟨_, .inl rfl, rfl, hb⟩
  · obtain ⟨hz, ev, hv, hev⟩ := he
    have H := Lib.hid (parse_word s ev w h1 h30 hl hv hev hz)
    clear hev hv hl
    go_enter Tryz.func67, Tryz.ntmps67
    go_wp2_with fail
    refine H.out.mono ?_
    rintro e w' ⟨N, rfl, hb⟩
    go_wp2_with fail
    go_ret2
    exact ⟨_, .inr ⟨N, rfl⟩, rfl, hb⟩

/-- n values of interface, the numbers r 0, r 1, .. in them. -/
def ifs (r : Nat → Int) (n : Nat) : List Value := (List.range n).map fun j => Value.iface 2 (.int .i64 (r j))
theorem ifs_succ (r : Nat → Int) (n : Nat) : ifs r (n + 1) = ifs r n ++ [.iface 2 (.int .i64 (r n))] := by simp [ifs, List.range_succ]
theorem ifs_length (r : Nat → Int) (n : Nat) : (ifs r n).length = n := by simp [ifs]

theorem Tryz.info20 : (Tryz.prog.info? 20).map (fun i => (i.zero, i.size, i.bytes)) = some (some .nilIface, 1, 16) := by kernel_rfl
theorem Tryz.info3 : (Tryz.prog.info? 3).map (fun i => (i.zero, i.size, i.bytes)) = some (some (.int .i64 0), 1, 8) := by kernel_rfl
theorem Tryz.info9 : (Tryz.prog.info? 9).map (fun i => (i.zero, i.size, i.bytes)) = some (some (.string ⟨#[]⟩), 1, 16) := by kernel_rfl

theorem own_below {w w' : World} {base : Nat} {e : TypeId} {size : Nat} {v : Value} {n : Nat} {xs : List Value} (h : w.ownsRow base e size v n xs) (hb : Below w.heap.size w w') : w'.ownsRow base e size v n xs :=
  h.kept (row := none) ⟨hb.os, hb.tape, hb.output, hb.size, fun k hk _ => hb.block k hk⟩ (by cases v.ownBlock <;> simp)

/-- What doParse gives. -/
def ManyIfs (r : Nat → Int) (n : Nat) (w : World) (e : Ending) (w' : World) : Prop :=
  ∃ v, e = .returned (.tuple #[v, .nilIface]) ∧ w'.ownsRow w.heap.size 20 1 v n (ifs r n) ∧ Below w.heap.size w w'

set_option maxHeartbeats 2000000 in
theorem doParse_any (kv : Value) (g n cap : Nat) (f : Nat → ByteArray) (r : Nat → Int) (w : World) (hn : n ≤ 4096) (hg : g < w.heap.size) (hc : ∀ j, j < n → w.cell? ⟨g, j, none⟩ = some (.string (f j)))
    (hr : ∀ j, j < n → Readable (f j) (r j)) (he : ErrVar w) :
    Calls Tryz.prog 69 #[kv, .slice (some ⟨g, 0, none⟩) n cap, .bool true, .bool false, .func (.func 67) #[] #[]] w (ManyIfs r n w) := by
  obtain ⟨i0, hi, hz0, hz1, hz2⟩ := info_parts Tryz.info20
  have Hc := Lib.hid hc
  have Hr := Lib.hid hr
  have He := Lib.hid he
  clear hc hr he
  go_enter Tryz.func69, Tryz.ntmps69
  go_wp2_with (at_make; refine wpList_make_own _ rfl _ _ 108 rfl w.heap.size 20 i0 .nilIface 1 Tryz.underlying108 hi hz0 hz1 .i64 .i64 _ n rfl rfl rfl (by rw [hz2]; omega) (by unfold maxLen; omega) (Nat.le_refl _) ?_; intro w0 hown0 hgrow0)
  go_loopw [12, 22] (fun v i wr => ∃ k : Nat, i = .int .i64 k ∧ k ≤ n ∧ wr.ownsRow w.heap.size 20 1 v k (ifs r k) ∧ Below w.heap.size w wr) (fun _ i _ => n - (intOf i).toNat)
  case atStart => exact ⟨0, rfl, Nat.zero_le _, hown0, (Below.refl _ _).grown hgrow0 (Nat.le_refl _) (fun k h => by cases h)⟩
  case round =>
    obtain ⟨k, rfl, hk, hown, hb⟩ := hrel
    have hsize := hb.size
    by_cases hlt : k < n
    · have hcell : wr.cell? ⟨g, k, none⟩ = some (.string (f k)) := (hb.cell hg).trans (Hc.out k hlt)
      have H := Lib.hid (parser_any (f k) (r k) wr (Hr.out k hlt) (He.out.below hb))
      go_wp2_with fail
      refine H.out.mono ?_
      rintro e w1 ⟨ev, hev, rfl, hb1⟩
      have hown1 := own_below hown hb1
      have hsize1 := hb1.size
      rcases hev with rfl | ⟨N, rfl⟩
      all_goals
        go_wp2_with (at_builtin; refine wpList_append_own _ rfl (.tmp 43) (.tmp 45) 108 rfl w.heap.size 20 i0 .nilIface 1 16 Tryz.underlying108 hi hz0 hz1 hz2 rfl (by decide) _ _ _ rfl (hown1.alloc _) ⟨w1.heap.size, 0, none⟩ 1 1 [.iface 2 (.int .i64 (r k))] rfl rfl (cell_one_new _ _ _) (by intro u hu; simp at hu; subst hu; rfl) (by unfold maxLen; omega) (by omega) (by simp; omega) ?_; intro v2 w2 hown2 hgrow2 _)
        exact ⟨⟨k + 1, by go_num, by omega, by rw [ifs_succ]; exact hown2, ((hb.trans (hb1.mono hsize)).alloc (by omega) _).grown hgrow2 (by simp; omega) (fun j hj => (hown1.lt j hj).1)⟩, by simp [intOf]; omega⟩
    · have hkn : k = n := by omega
      have Hkn := Lib.hid hkn
      clear hkn
      go_wp2_with fail
      go_ret2
      exact ⟨_, rfl, Hkn.out ▸ hown, hb⟩
end Go.Proofs.YtfnncdngfggcjaaGreatDoor
