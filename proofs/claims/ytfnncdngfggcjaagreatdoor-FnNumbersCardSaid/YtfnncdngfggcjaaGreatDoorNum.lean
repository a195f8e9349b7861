/- The row and the card of FnNumbers: the law gives true at every input, whatever the memory, where the six listed variables hold what the program's text lays. -/
import Derived.Test.YtfnncdngfggcjaaGreatDoorW29
import Derived.Test.YtfnncdngfggcjaaGreatDoorCards
import Derived.Test.YtfnncdngfggcjaaGreatDoorTie
import Derived.WalkKit
import Derived.ProofKit
import Derived.OpenShut
import Derived.Deep.DeepHandedRow
import Derived.Lib.LaidTab
import Derived.Stop.LaidErr
namespace Go.Proofs.YtfnncdngfggcjaaGreatDoor
open Go.ChangeShapes Go.WideShapes Go.ChangeAt Go.RowKit

theorem numOwn : ownKnob Tryz.prog.godebug = none := by kernel_rfl
theorem numLaidOut : laidOutB Tryz.prog = true := by kernel_rfl
theorem numCells3 : Tryz.prog.cellsOf 3 = 1 := by kernel_rfl
theorem gSp : Tryz.prog.globalNamed "strings.asciiSpace" = some 0 := by kernel_rfl
theorem gEs : Tryz.prog.globalNamed "strconv.ErrSyntax" = some 6 := by kernel_rfl
theorem gEf : Tryz.prog.globalNamed "io.EOF" = some 9 := by kernel_rfl
theorem gBf : Tryz.prog.globalNamed "bufio.ErrBufferFull" = some 11 := by kernel_rfl
theorem gSpT : (Tryz.prog.globals[0]?).map (·.type) = some 163 := by kernel_rfl
theorem gEsT : (Tryz.prog.globals[6]?).map (·.type) = some 65 := by kernel_rfl
theorem gEfT : (Tryz.prog.globals[9]?).map (·.type) = some 65 := by kernel_rfl
theorem gBfT : (Tryz.prog.globals[11]?).map (·.type) = some 65 := by kernel_rfl
theorem numCells137 : Tryz.prog.cellsOf 137 = 1 := by kernel_rfl
theorem numCells9 : Tryz.prog.cellsOf 9 = 1 := by kernel_rfl
theorem numCells5 : Tryz.prog.cellsOf 5 = 1 := by kernel_rfl
theorem numCells163 : Tryz.prog.cellsOf 163 = 256 := by kernel_rfl
theorem numStar : "*" ++ "errors.errorString" = "*errors.errorString" := by decide
theorem numRow135 (u : TypeId) (h : Tryz.prog.typeName? 3 u = some "*errors.errorString") : u = 135 :=
  typeName_ptr_named (nm := "errors.errorString") (by rw [numStar]; kernel_rfl) (by kernel_rfl) (by decide) u (by rw [numStar]; exact h)

set_option maxRecDepth 100000 in
/-- A listed sentinel at the head of the list: its variable's cell, its text's cell, its text's block. -/
theorem sentinel_head {n : String} {text : List UInt8} {r : List (String × DataW Unit)} {W : World} {g : Nat}
    (h : laidMet Tryz.prog ((n, .iface "*errors.errorString" (.ptr (.agg [.lit (.string text)]))) :: r) W)
    (hg : Tryz.prog.globalNamed n = some g) (ht : (Tryz.prog.globals[g]?).map (·.type) = some 65) :
    ∃ (a : Addr) (s : ByteArray), W.cell? ⟨g, 0, none⟩ = some (.iface 135 (.pointer (some a))) ∧ W.cell? a = some (.string s) ∧ s.data.toList = text ∧ ∃ c t, W.heap[a.block]? = some (.cells c t (0, 0)) := by
  obtain ⟨ps, ⟨g0, t0, cs0, f0, p0, q0, hg0, ht0, hv0, hd0, _, e0⟩, _, hrows⟩ := h
  obtain rfl := Option.some.inj (hg.symm.trans hg0)
  obtain rfl := Option.some.inj (ht.symm.trans ht0)
  subst e0
  obtain ⟨l0⟩ := cs0
  have ok0 : ∀ u v, l0 = [.iface u v] → Value.okWide Tryz.prog W .any 0 u v := fun u v e => by
    subst e
    exact (hrows g 0 (by simp [MemPlace.row])).2 u v (by simpa using World.var?_cell hg0 hv0 0)
  obtain ⟨a0, s0, rfl, hc0, hs0, _, rfl⟩ := errorString_of_trod Tryz.underlying65 numRow135 Tryz.underlying135 Tryz.underlying137 rfl rfl Tryz.underlying9 numCells137 numCells9 hd0 ok0
  obtain ⟨c0, t0, hb0⟩ := (hrows a0.block a0.off (by simp [MemPlace.row])).1
  exact ⟨a0, s0, by simpa using World.var?_cell hg0 hv0 0, hc0, hs0, c0, t0, hb0⟩

set_option maxRecDepth 100000 in
/-- What the row's list gives the walks. -/
theorem num_laid {W : World} (h : laidMetH Tryz.prog Rows.fnNumbersRow.laid W) : SpaceTab W ∧ ErrVar W ∧ ∃ a b, Sents W a b := by
  have h0 : laidMet Tryz.prog Rows.fnNumbersRow.laid W := h
  have h2 := h0.tail.tail
  have h5 := h2.tail.tail
  obtain ⟨a6, s6, k6, _, _, _⟩ := sentinel_head h2 gEs gEsT
  obtain ⟨a9, s9, k9, v9, e9, b9⟩ := sentinel_head h2.tail gEf gEfT
  obtain ⟨a11, s11, k11, v11, e11, b11⟩ := sentinel_head h5.tail gBf gBfT
  have htab : Lib.TabIs Tryz.prog W "strings.asciiSpace" .u8 Lib.asciiSpaceTab :=
    Lib.tabIs_of_head (zs := Lib.asciiSpaceTab) (rest := [("bufio.ErrBufferFull", Rows.laid_bufio_ErrBufferFull)]) gSp gSpT Tryz.underlying163 Tryz.underlying5 numCells5 numCells163 h5
  refine ⟨Lib.tabBelow_of_tabIs htab, ⟨World.block_lt_of_cell? _ _ k6, _, k6, .inr ⟨_, _, rfl⟩⟩, a9, a11, World.block_lt_of_cell? _ _ k11, World.block_lt_of_cell? _ _ v9, World.block_lt_of_cell? _ _ v11, k9, k11, ?_, b9, b11⟩
  rintro rfl
  rw [v9] at v11
  obtain rfl : s9 = s11 := by injection v11 with v11; injection v11
  rw [e9] at e11
  exact absurd e11 (by decide)
end Go.Proofs.YtfnncdngfggcjaaGreatDoor
