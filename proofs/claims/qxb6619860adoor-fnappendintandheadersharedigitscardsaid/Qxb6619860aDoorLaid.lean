/-
  WHAT THE FOUR ROWS' PROOFS SHARE: the listed tables ('laid'): the one that the road reads, out of the row's condition; a start that meets it; a slice of bytes that came in.
-/
import Derived.Test.Qxb6619860aDoorHead
import Derived.Test.Qxb6619860aDoorRows
import Derived.WalkKit
import Derived.ProofKit
import Derived.OpenShut
import Derived.ShutString
import Derived.ChangeOld
import Derived.Below
import Derived.LaidMore
import Derived.LaidHandle
import Derived.Stop.Joined
import Derived.Lib.LaidTab
namespace Go.Proofs.Qxb6619860aDoor
open Go.ChangeShapes Go.WideShapes Go.ChangeAt Go.RowKit

theorem own : ownKnob Tryd.prog.godebug = none := by kernel_rfl
theorem laidOut : laidOutB Tryd.prog = true := by kernel_rfl

/-- What the rows list. -/
def laid3 : List (String × DataW Unit) := Rows.fnAppendIntKeepsPrefixAndWritesCanonicalTokenRow.laid

/-- The door's own heap meets the condition: closed facts. -/
theorem door_met (os : Os) (args : Array Value) : laidMetH Tryd.prog laid3 ((World.doorLaid Tryd.prog 24 os).forCall (fun _ _ => 0) ⟨#[], args, []⟩).memory :=
  laidMetH_of_parts3 (fuel := 8) (laidMet_of_run' 8 (by kernel_rfl) (by kernel_rfl)) (by kernel_rfl) (by kernel_rfl)

theorem gPow : Tryd.prog.globalNamed powName = some 0 := by kernel_rfl
theorem tPow : (Tryd.prog.globals[0]?).map (·.type) = some 41 := by kernel_rfl
theorem cells31 : Tryd.prog.cellsOf 31 = 1 := by kernel_rfl
theorem cells41 : Tryd.prog.cellsOf 41 = 20 := by kernel_rfl
theorem powData : (Rows.laid_internal_strconv_uint64pow10 : DataW Unit) = Lib.tabData .u64 Lib.pow10Tab := by kernel_rfl

/-- WHAT THE CONDITION GIVES THE WALKS: the table of powers of ten. -/
theorem tab_of_laid {W : World} (h : laidMetH Tryd.prog laid3 W) : Tab W.heap.size W := by
  rw [MakeChecks.laidMetH_plain _ _ _ (by kernel_rfl)] at h
  obtain ⟨ps, ⟨g0, t0, cs0, f0, p0, q0, hg0, ht0, hv0, hd0, ⟨g1, t1, cs1, f1, p1, q1, hg1, ht1, hv1, hd1, ⟨g2, t2, cs2, f2, p2, q2, hg2, ht2, hv2, hd2, _, _⟩, _⟩, _⟩, _⟩ := h
  have hg2' : Tryd.prog.globalNamed powName = some g2 := hg2
  obtain rfl := Option.some.inj (gPow.symm.trans hg2')
  obtain rfl := Option.some.inj (tPow.symm.trans ht2)
  refine Lib.tabBelow_of_tabIs ?_
  unfold Lib.TabIs
  rw [powData] at hd2
  have hv2' : W.var? Tryd.prog powName = some cs2 := hv2
  rw [hv2', ← Lib.cells_of_tab Tryd.underlying41 Tryd.underlying31 cells31 cells41 hd2]

/-- WHAT THE WALK IS TOLD OF A SLICE OF BYTES THAT CAME IN: it is nil; or it leads to a row of 'cap' cells, the numbers 'zs' (the first 'len' are its elements, the rest its spare room), each a byte's. -/
def IsRow (w : World) (a : Option Addr) (len cap : Nat) (zs : List Int) : Prop :=
  (a = none ∧ len = 0 ∧ cap = 0 ∧ zs = []) ∨
  ∃ x, a = some x ∧ len ≤ cap ∧ cap ≤ maxLen ∧ zs.length = cap ∧ (∀ i, i < zs.length → w.cell? (x.add i) = some (.int .u8 (zs.getD i 0))) ∧ ∀ n ∈ zs, (Lit.int .u8 n).wf = true

/-- Its elements, as bytes. -/
def bytesOf (zs : List Int) (len : Nat) : List UInt8 := (zs.take len).map fun z => UInt8.ofNat z.toNat

theorem length_bytesOf (zs : List Int) (len : Nat) (h : len ≤ zs.length) : (bytesOf zs len).length = len := by
  unfold bytesOf; rw [List.length_map, List.length_take]; omega

theorem bt_bytesOf (zs : List Int) (len : Nat) (hw : ∀ n ∈ zs, (Lit.int .u8 n).wf = true) (h : len ≤ zs.length) (j : Nat) (hj : j < len) : bt (bytesOf zs len) j = zs.getD j 0 := by
  have hr := range_u8 hw j
  unfold bt bytesOf
  rw [List.getD_eq_getElem?_getD, List.getD_eq_getElem?_getD, List.getElem?_map, List.getElem?_take_of_lt hj]
  have e : zs[j]? = some (zs[j]'(by omega)) := List.getElem?_eq_getElem (by omega)
  rw [e] at hr ⊢
  simp only [Option.map_some, Option.getD_some] at hr ⊢
  rw [UInt8.toNat_ofNat', Nat.mod_eq_of_lt (by omega)]
  omega

theorem isRow_sl {w : World} {a : Option Addr} {len cap : Nat} {zs : List Int} (h : IsRow w a len cap zs) :
    ∃ g o, len = (bytesOf zs len).length ∧ (a = none → len = 0 ∧ cap = 0) ∧ Sl w a g o len (bt (bytesOf zs len)) ∧ (0 < len → g < w.heap.size) ∧ len ≤ maxLen := by
  rcases h with ⟨rfl, rfl, rfl, rfl⟩ | ⟨x, rfl, hl, hm, hz, hcell, hwz⟩
  · exact ⟨0, 0, rfl, fun _ => ⟨rfl, rfl⟩, ⟨fun h => absurd h (by omega), fun j hj => absurd hj (by omega), bt_range _⟩, fun h => absurd h (by omega), by unfold maxLen; omega⟩
  · obtain ⟨b, off, spot⟩ := x
    have hsp : 0 < len → spot = none := fun h => by simpa [Addr.add] using World.cell?_spot (hcell 0 (by omega))
    refine ⟨b, off, (length_bytesOf zs len (by omega)).symm, (fun h => by cases h), ⟨(fun h => by rw [hsp h]), fun j hj => ?_, bt_range _⟩, fun h => ?_, by omega⟩
    · obtain rfl := hsp (by omega)
      have := hcell j (by omega)
      rw [add_plain] at this
      rw [this, bt_bytesOf zs len hwz (by omega) j hj]
    · exact World.block_lt_of_cell? w _ (hcell 0 (by omega))

end Go.Proofs.Qxb6619860aDoor
