/- What the rows' condition (the two tables listed) gives the walks, and that the door's own heap meets it. -/
import Derived.Test.YtlcaejikcelgoaaDoorRows
import Derived.Test.YtlcaejikcelgoaaDoorTz
import Derived.ProofKit
import Derived.LaidMore
import Derived.OpenShut
import Derived.Stop.Joined
import Derived.Lib.LaidTab
namespace Go.Proofs.YtlcaejikcelgoaaDoor
open Go.ChangeShapes Go.WideShapes Go.ChangeAt Go.RowKit
set_option maxRecDepth 100000

theorem g64 : Tryd.prog.globalNamed "math/bits.deBruijn64tab" = some 1 := by kernel_rfl
theorem ty64 : (Tryd.prog.globals[1]?).map (·.type) = some 61 := by kernel_rfl
theorem und64 : Tryd.prog.underlying 61 = some (.array 64 5) := by kernel_rfl
theorem undU8 : Tryd.prog.underlying 5 = some (.int .u8) := by kernel_rfl
theorem cellsU8 : Tryd.prog.cellsOf 5 = 1 := by kernel_rfl
theorem cells64 : Tryd.prog.cellsOf 61 = 64 := by kernel_rfl
theorem data64 {H : Type} : (Rows.laid_math_bits_deBruijn64tab : DataW H) = Lib.tabData .u8 (Lib.deBruijn64tab.map Int.ofNat) := by rfl
theorem at64 {W : World} {base fuel : Nat} {sp : Nat → Bool} {held : Bool} {cs : Array Value} {p : List MemPlace} {enc : TypeId × Value → Unit} (hv : W.var? Tryd.prog "math/bits.deBruijn64tab" = some cs)
    (h : DataW.trod enc Tryd.prog W base sp held fuel 61 cs.toList = some (Rows.laid_math_bits_deBruijn64tab, p)) :
    ∀ j, j < 64 → W.cell? ⟨1, j, none⟩ = some (.int .u8 (Lib.deBruijn64tab.getD j 0)) := by
  intro j hj
  rw [data64] at h
  have e := Lib.cells_of_tab und64 undU8 cellsU8 cells64 h
  have c := World.var?_cell g64 hv j
  rw [c, ← Array.getElem?_toList, e]
  simp only [List.map_map, List.getElem?_map]
  rw [show Lib.deBruijn64tab[j]? = some (Lib.deBruijn64tab.getD j 0) by
    have hl : j < Lib.deBruijn64tab.length := hj
    rw [List.getD_eq_getElem?_getD, List.getElem?_eq_getElem hl]; rfl]
  rfl
theorem g32 : Tryd.prog.globalNamed "math/bits.deBruijn32tab" = some 0 := by kernel_rfl
theorem ty32 : (Tryd.prog.globals[0]?).map (·.type) = some 60 := by kernel_rfl
theorem und32 : Tryd.prog.underlying 60 = some (.array 32 5) := by kernel_rfl
theorem cells32 : Tryd.prog.cellsOf 60 = 32 := by kernel_rfl
theorem data32 {H : Type} : (Rows.laid_math_bits_deBruijn32tab : DataW H) = Lib.tabData .u8 (Lib.deBruijn32tab.map Int.ofNat) := by rfl
theorem at32 {W : World} {base fuel : Nat} {sp : Nat → Bool} {held : Bool} {cs : Array Value} {p : List MemPlace} {enc : TypeId × Value → Unit} (hv : W.var? Tryd.prog "math/bits.deBruijn32tab" = some cs)
    (h : DataW.trod enc Tryd.prog W base sp held fuel 60 cs.toList = some (Rows.laid_math_bits_deBruijn32tab, p)) :
    ∀ j, j < 32 → W.cell? ⟨0, j, none⟩ = some (.int .u8 (Lib.deBruijn32tab.getD j 0)) := by
  intro j hj
  rw [data32] at h
  have e := Lib.cells_of_tab und32 undU8 cellsU8 cells32 h
  have c := World.var?_cell g32 hv j
  rw [c, ← Array.getElem?_toList, e]
  simp only [List.map_map, List.getElem?_map]
  rw [show Lib.deBruijn32tab[j]? = some (Lib.deBruijn32tab.getD j 0) by
    have hl : j < Lib.deBruijn32tab.length := hj
    rw [List.getD_eq_getElem?_getD, List.getElem?_eq_getElem hl]; rfl]
  rfl
abbrev listed2 : List (String × DataW Unit) := [("math/bits.deBruijn32tab", Rows.laid_math_bits_deBruijn32tab), ("math/bits.deBruijn64tab", Rows.laid_math_bits_deBruijn64tab)]
theorem door2 (os : Os) (args : Array Value) : laidMetH Tryd.prog listed2 ((World.doorLaid Tryd.prog 400 os).forCall (fun _ _ => 0) ⟨#[], args, []⟩).memory :=
  laidMetH_of_parts3 (fuel := 8) (laidMet_of_run' 8 (by kernel_rfl) (by kernel_rfl)) (by kernel_rfl) (by kernel_rfl)
theorem tab2 {W : World} (h : laidMetH Tryd.prog listed2 W) : Tab0 W := by
  rw [MakeChecks.laidMetH_plain _ _ _ (by kernel_rfl)] at h
  obtain ⟨ps, ⟨g0, t0, cs0, f0, p0, q0, hg0, ht0, hv0, hd0, ⟨g1, t1, cs1, f1, p1, q1, hg1, ht1, hv1, hd1, _, _⟩, _⟩, _, _⟩ := h
  obtain rfl := Option.some.inj (g32.symm.trans hg0)
  obtain rfl := Option.some.inj (g64.symm.trans hg1)
  obtain rfl := Option.some.inj (ty32.symm.trans ht0)
  obtain rfl := Option.some.inj (ty64.symm.trans ht1)
  exact ⟨at64 hv1 hd1, fun _ => at32 hv0 hd0⟩
end Go.Proofs.YtlcaejikcelgoaaDoor
