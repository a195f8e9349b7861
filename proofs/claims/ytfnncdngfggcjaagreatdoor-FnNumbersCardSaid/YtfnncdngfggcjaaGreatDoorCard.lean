/- The row and the card of FnNumbers. -/
import Derived.Test.YtfnncdngfggcjaaGreatDoorNum
namespace Go.Proofs.YtfnncdngfggcjaaGreatDoor
open Go.ChangeShapes Go.WideShapes Go.ChangeAt Go.RowKit

theorem trodAll_three' {H : Type} {enc : TypeId × Value → H} {P : Program} {w : World} {b : Nat} {sp : Nat → Bool} {hd : Bool} {t0 t1 t2 : TypeId} {v0 v1 v2 : Value} {d0 d1 d2 : DataW H} {p0 p1 p2 : List MemPlace}
    (h0 : DataW.Trod enc P w b sp hd t0 v0 d0 p0) (h1 : DataW.Trod enc P w b sp hd t1 v1 d1 p1) (h2 : DataW.Trod enc P w b sp hd t2 v2 d2 p2) :
    DataW.TrodAll enc P w b sp hd [t0, t1, t2] [v0, v1, v2] [d0, d1, d2] (p0 ++ (p1 ++ (p2 ++ []))) :=
  trodAll_cons_mk h0 (trodAll_cons_mk h1 (trodAll_cons_mk h2 trodAll_mk0))

set_option maxRecDepth 100000 in
set_option maxHeartbeats 4000000 in
theorem fnNumbers_zero (ao : Option Addr) (c : Nat) (word : ByteArray) (k : Int) (w : World) :
    Calls Tryz.prog 4 #[.slice ao 0 c, .string word, .int .i64 k] w (GivesTrue w) := by
  go_enter Tryz.func4, Tryz.ntmps4
  by_cases h2 : (2147483647 : Int) < (word.size : Int)
  · go_wp2_with fail
    go_ret
    exact ⟨rfl, Below.refl _ _⟩
  go_wp2_with fail
  go_ret
  exact ⟨rfl, Below.refl _ _⟩

set_option maxRecDepth 100000 in
/-- What the walks give, for every argument and every world that holds the listed variables. -/
theorem num_contract (H : Type) (enc : TypeId × Value → H) (W : World) (base : Nat) (args : Array Value) (ds gs : List (DataW H)) (before : List MemPlace)
    (hval : ∀ (j : Nat) t v, Tryz.f4.params[j]? = some t → args[j]? = some v → Value.okWide Tryz.prog W .any base t v)
    (hW : DataW.Whole enc Tryz.prog Tryz.f4.params.toList Rows.fnNumbersSpec.vars false W args.toList ds gs before) (hL : laidMetH Tryz.prog Rows.fnNumbersRow.laid W) :
    Calls Tryz.prog 4 args W fun e W' => ∃ v, e = .returned v ∧ Rows.fnNumbersSpec.post enc Tryz.prog Tryz.f4 false true false false W args v W' := by
  have hW' := hW
  obtain ⟨p, q, hA0, hV, rfl, _, _⟩ := hW
  have hA : DataW.TrodAll enc Tryz.prog W 0 (fun _ => true) true Tryz.f4.params.toList args.toList ds p := hA0
  rw [Tryz.params4] at hA hval
  obtain ⟨v0, vs0, d0, ds0, p0, q0, hargs, rfl, rfl, h0, r0⟩ := trodAll_cons hA
  obtain ⟨v1, vs1, d1, ds1, p1, q1, rfl, rfl, rfl, h1, r1⟩ := trodAll_cons r0
  obtain ⟨v2, vs2, d2, ds2, p2, q2, rfl, rfl, rfl, h2, r2⟩ := trodAll_cons r1
  obtain ⟨rfl, rfl, rfl⟩ := trodAll_nil r2
  obtain rfl : args = #[v0, v1, v2] := by cases args; simp_all
  obtain ⟨rfl, rfl⟩ := trodVars_none hV
  obtain ⟨k, rfl, rfl, rfl, wk⟩ := open_int Tryz.underlying3 (hval 2 3 v2 rfl rfl) h2
  obtain ⟨word, rfl, rfl, rfl, hsz⟩ := Go.ChangeMaps.open_string Tryz.underlying9 (hval 1 9 v1 rfl rfl) h1
  obtain ⟨a0, len, cap, rfl⟩ := okWide_slice Tryz.underlying38 (hval 0 38 v0 rfl rfl)
  have h0k := h0
  obtain ⟨fuel, hf⟩ := h0
  obtain ⟨ht, he, a, b, hs⟩ := num_laid hL
  have hlt : ∀ x ∈ p0, x.block < W.heap.size := fun x hx => by simpa using hW'.lt x (by simp [hx])
  have hre : ∀ (W' : World), Below W.heap.size W W' → DataW.Trod enc Tryz.prog W' 0 (fun b => decide (b < W.heap.size)) true 38 (.slice a0 len cap) d0 p0 :=
    fun W' hn => Below.trod numLaidOut (by kernel_rfl) (of_decide_eq_true (by kernel_rfl)) h0k hn hlt
  have walk : Calls Tryz.prog 4 #[.slice a0 len cap, .string word, .int .i64 k] W (GivesTrue W) := by
    rcases open_ints Tryz.underlying38 Tryz.underlying3 numCells3 hf with ⟨hcs, hx⟩ | ⟨ad, len', cap', zs, hcs, _, hl, hm, hz, hx, hcell, hwz⟩
    · simp [Value.cells] at hcs
      obtain ⟨rfl, rfl, rfl⟩ := hcs
      exact fnNumbers_zero none 0 word k W
    · simp [Value.cells] at hcs
      obtain ⟨rfl, rfl, rfl⟩ := hcs
      simp only [if_true] at hz
      by_cases hl0 : len = 0
      · subst hl0
        exact fnNumbers_zero _ _ word k W
      · have hx2 : p0 = MemPlace.row ad zs.length := (Prod.mk.inj hx).2
        have had : ad.block < W.heap.size := hlt (.cell ad.block (ad.off + 0)) (by rw [hx2]; exact MemPlace.mem_row.2 ⟨0, by omega, by simp⟩)
        exact fnNumbers_some ad len cap (fun j => zs.getD j 0) word k a b W (fun j hj => hcell j (by omega)) had ht he hs
  have e1 : Rows.fnNumbersSpec.fn H ([d0, .lit (.string word.data.toList), .lit (.int .i64 k)] ++ []) = { results := [.lit (.bool true)], args := [d0, .lit (.string word.data.toList), .lit (.int .i64 k)] } := rfl
  refine walk.mono ?_
  rintro e W' ⟨rfl, hb⟩
  refine ⟨_, rfl, _, _, _, [], p0 ++ ([] ++ ([] ++ [])), [], hW', ?_, ?_, ?_, hb.frame _, fun h => by cases h⟩
  · rw [e1]
    exact trodAll_cons_mk (shut_bool Tryz.underlying4 _) trodAll_mk0
  · rw [e1]
    exact trodAll_three' (hre W' hb) (Go.ChangeMaps.shut_string Tryz.underlying9 hsz) (shut_int Tryz.underlying3 wk)
  · rw [e1]
    rfl

/-! ### One start that fits: the listed variables as their initialisers lay them -/
def cellsOfTab : DataW Unit → Array Value
  | .agg ds => (ds.map fun | .lit (.int k z) => Value.int k z | _ => undef).toArray
  | _ => #[]
noncomputable def numLow : Nat := (World.holding Tryz.prog default ⟨#[], #[], []⟩).heap.size
def putCells (cs : Array Value) : Obj → Obj
  | .cells _ t frozen => .cells cs t frozen
  | o => o
noncomputable def numWorld (os : Os) : World :=
  { World.holding Tryz.prog os ⟨#[.cells #[.string ⟨#[105, 110, 118, 97, 108, 105, 100, 32, 115, 121, 110, 116, 97, 120]⟩] 137, .cells #[.string ⟨#[69, 79, 70]⟩] 137, .cells #[.string ⟨#[98, 117, 102, 105, 111, 58, 32, 98, 117, 102, 102, 101, 114, 32, 102, 117, 108, 108]⟩] 137], #[], []⟩ with
    heap := ((((((World.holding Tryz.prog os ⟨#[.cells #[.string ⟨#[105, 110, 118, 97, 108, 105, 100, 32, 115, 121, 110, 116, 97, 120]⟩] 137, .cells #[.string ⟨#[69, 79, 70]⟩] 137, .cells #[.string ⟨#[98, 117, 102, 105, 111, 58, 32, 98, 117, 102, 102, 101, 114, 32, 102, 117, 108, 108]⟩] 137], #[], []⟩).heap.modify 0 (putCells (cellsOfTab Rows.laid_strings_asciiSpace))).modify 6 (putCells #[.iface 135 (.pointer (some ⟨numLow, 0, none⟩))])).modify 9 (putCells #[.iface 135 (.pointer (some ⟨numLow + 1, 0, none⟩))])).modify 11 (putCells #[.iface 135 (.pointer (some ⟨numLow + 2, 0, none⟩))])).modify 19 (putCells (cellsOfTab Rows.laid_math_bits_deBruijn32tab))).modify 20 (putCells (cellsOfTab Rows.laid_math_bits_deBruijn64tab)) }
set_option maxRecDepth 100000 in
theorem num_met (os : Os) : laidMet Tryz.prog Rows.fnNumbersRow.laid ((numWorld os).forCall (fun _ _ => 0) ⟨#[], #[.slice none 0 0, .string ⟨#[]⟩, .int .i64 0], []⟩).memory :=
  laidMet_of_run' 8 (by kernel_rfl) (by kernel_rfl)
theorem num_reads (os : Os) {H : Type} (enc : TypeId × Value → H) : ∃ places, DataW.whole enc Tryz.prog ((numWorld os).forCall (fun _ _ => 0) ⟨#[], #[.slice none 0 0, .string ⟨#[]⟩, .int .i64 0], []⟩).memory Tryz.f4.params.toList Rows.fnNumbersSpec.vars false #[Value.slice none 0 0, .string ⟨#[]⟩, .int .i64 0].toList 8 = some ([.nil, .lit (.string []), .lit (.int .i64 0)], [], places) :=
  ⟨[], by kernel_rfl⟩

set_option maxRecDepth 100000 in
theorem num_lifted (os : Os) (started : os.Started) (H : Type) (enc : TypeId × Value → H) (F : Stop.Interp) :
    ReturnsInHanded {} Tryz.checked os 4 .any ((OpenSpec.ofChange Rows.fnNumbersSpec).preRow enc Tryz.prog Tryz.f4 Rows.fnNumbersRow.domain false Rows.fnNumbersRow.laid) (((OpenSpec.ofChange Rows.fnNumbersSpec).at F).post enc Tryz.prog Tryz.f4 false true false false) := by
  obtain ⟨places, hx⟩ := num_reads os enc
  refine returnsInHanded_of_row (C := Tryz.checked) (s := OpenSpec.ofChange Rows.fnNumbersSpec) numOwn started (by kernel_rfl) Tryz.func4
    (witness_row_at (enc := enc) (C := Tryz.checked) false (numWorld os) #[.slice none 0 0, .string ⟨#[]⟩, .int .i64 0] rfl (by kernel_rfl) (by kernel_rfl) (by kernel_rfl)
      (OpenSpec.preRow_of_cond 8 hx (by kernel_rfl) (fun k hk => by cases hk) (by kernel_rfl) (num_met os))) ?_
  intro W base args ds gs before hval hW _ _ _ hL _ _
  exact num_contract H enc W base args ds gs before hval hW hL

theorem num_said : Rows.FnNumbersSaid :=
  OpenClaim.holds_of_cond 4 Tryz.f4 rfl rfl rfl rfl rfl rfl rfl ⟨rfl, rfl, rfl, rfl, rfl⟩ rfl rfl rfl rfl rfl (by kernel_rfl) Tryz.func4 (by kernel_rfl)
    (of_decide_eq_true (by kernel_rfl)) (by unfold Func.isWrapper; first | (rw [if_pos (by decide +kernel)]; kernel_rfl) | (rw [if_neg (by decide +kernel)]; exact ⟨rfl, rfl⟩))
    (fun os started H enc _ F => by rw [OpenClaim.pre_eq_preRow]; exact num_lifted os started H enc F)

theorem num_plain (f : FuncId) (fn : Func) (hf : Tryz.pinned.checked.prog.funcNamed "loop.example/pub-g03070/laws.FnNumbers" = some f) (hfn : Tryz.pinned.checked.prog.funcs[f]? = some fn) :
    true = Tryz.pinned.checked.prog.looks [] ∧ ∀ (j : Nat) t, fn.params[j]? = some t → Tryz.pinned.checked.prog.wantsStandIn t = false := by
  obtain rfl : f = 4 := Option.some.inj ((show Tryz.prog.funcNamed "loop.example/pub-g03070/laws.FnNumbers" = some 4 by kernel_rfl).symm.trans hf) |>.symm
  obtain rfl : fn = Tryz.f4 := (Option.some.inj (Tryz.func4.symm.trans hfn)).symm
  refine ⟨by kernel_rfl, fun j t ht => ?_⟩
  rw [Tryz.params4] at ht
  have hm : t = 38 ∨ t = 9 ∨ t = 3 := by simpa using Array.mem_of_getElem? ht
  rcases hm with rfl | rfl | rfl
  · exact (show Tryz.prog.wantsStandIn 38 = false by kernel_rfl)
  · exact (show Tryz.prog.wantsStandIn 9 = false by kernel_rfl)
  · exact (show Tryz.prog.wantsStandIn 3 = false by kernel_rfl)

/-- The card. -/
theorem fnNumbers_card : Rows.FnNumbersCardSaid :=
  Claim7.holds_tied_plain_at .later [] _ _ _ _ num_said (fun _ h => by cases h) (by kernel_rfl) (fun _ h => by cases h) fnNumbers_row_tie rfl ⟨rfl, rfl⟩ (by kernel_rfl) rfl num_plain (by kernel_rfl)
end Go.Proofs.YtfnncdngfggcjaaGreatDoor
