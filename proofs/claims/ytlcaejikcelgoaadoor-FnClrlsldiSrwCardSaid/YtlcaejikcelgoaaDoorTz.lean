/- math/bits' two tables as the condition lays them, and what TrailingZeros64, TrailingZeros32 and TrailingZeros16 return over them. -/
import Derived.Test.YtlcaejikcelgoaaDoorProg
import Derived.Shelf.Spec.TrailingZeros
import Derived.Laws.Bits64b
import Derived.Lib.TrailingZeros
import Derived.Below
import Derived.Deep.Draws
import Derived.WalkKit
import Derived.Laws.BitsLemmas
set_option linter.unusedVariables false
set_option linter.unusedSimpArgs false
namespace Go.Proofs.YtlcaejikcelgoaaDoor
open Go.RowKit
/-- The two tables lie in their variables. -/
structure Tab0 (w : World) (b : Bool := true) : Prop where
  t64 : ∀ j, j < 64 → w.cell? ⟨1, j, none⟩ = some (.int .u8 (Lib.deBruijn64tab.getD j 0))
  t32 : b = true → ∀ j, j < 32 → w.cell? ⟨0, j, none⟩ = some (.int .u8 (Lib.deBruijn32tab.getD j 0))
theorem drew_cell (w : World) (n : Nat) (a : Addr) : (w.drewN n).cell? a = w.cell? a := rfl
theorem Tab0.drewN {w : World} {b : Bool} (h : Tab0 w b) (n : Nat) : Tab0 (w.drewN n) b := ⟨fun j hj => (drew_cell w n _).trans (h.t64 j hj), fun hb j hj => (drew_cell w n _).trans (h.t32 hb j hj)⟩
theorem Tab0.below {w w' : World} {b : Bool} (h : Tab0 w b) (hb : Below w.heap.size w w') : Tab0 w' b :=
  ⟨fun j hj => (hb.cell (World.block_lt_of_cell? w _ (h.t64 j hj))).trans (h.t64 j hj), fun e j hj => (hb.cell (World.block_lt_of_cell? w _ (h.t32 e j hj))).trans (h.t32 e j hj)⟩

set_option maxHeartbeats 1000000 in
theorem tz64_core (x k idx : Nat) (w : World) (hx0 : ((x : Int) == 0) = false)
    (key : IntKind.u64.wrap (bits BinOp.and IntKind.u64 (x : Int) (IntKind.u64.wrap (-(x : Int))) * 285870213051353865) / 288230376151711744 = (idx : Int))
    (hi : idx < 64) (hk : k < 64) (hcell : w.cell? ⟨1, idx, none⟩ = some (.int .u8 k)) :
    Calls Tryd.prog 60 #[.int .u64 x] w fun e w' => e = .returned (.int .i64 k) ∧ w' = w := by
  go_enter Tryd.func60, Tryd.ntmps60
  go_wp2_with (simp only [key])
  go_ret
  exact ⟨rfl, rfl⟩
theorem tz64_zero (w : World) : Calls Tryd.prog 60 #[.int .u64 0] w fun e w' => e = .returned (.int .i64 64) ∧ w' = w := by
  go_enter Tryd.func60, Tryd.ntmps60
  go_wp2
  go_ret
  exact ⟨rfl, rfl⟩
theorem tz64 (x : Nat) (hx : x < 18446744073709551616) (w : World) {b : Bool} (hT : Tab0 w b) :
    Calls Tryd.prog 60 #[.int .u64 x] w fun e w' => e = .returned (.int .i64 (Lib.ctz 64 x)) ∧ w' = w := by
  by_cases hx0 : x = 0
  · subst hx0
    exact tz64_zero w
  · obtain ⟨hlow, hk⟩ := Lib.lowest_bit 64 x hx0 hx
    obtain ⟨hi, htab⟩ := Lib.deBruijn64_at _ hk
    have hcell := hT.t64 _ hi
    rw [htab] at hcell
    exact tz64_core x _ _ w (by simp; omega) (tz64_key x _ hx hx0 hlow) hi hk hcell
set_option maxHeartbeats 1000000 in
theorem tz32_core (x k idx : Nat) (w : World) (hx0 : ((x : Int) == 0) = false)
    (key : bits BinOp.and IntKind.u32 (x : Int) (-(x : Int) % 4294967296) * 125613361 % 4294967296 / 134217728 = (idx : Int))
    (hi : idx < 32) (hk : k < 32) (hcell : w.cell? ⟨0, idx, none⟩ = some (.int .u8 k)) :
    Calls Tryd.prog 58 #[.int .u32 x] w fun e w' => e = .returned (.int .i64 k) ∧ w' = w := by
  go_enter Tryd.func58, Tryd.ntmps58
  go_wp2_with (simp only [key])
  go_ret
  exact ⟨rfl, rfl⟩
theorem tz32_zero (w : World) : Calls Tryd.prog 58 #[.int .u32 0] w fun e w' => e = .returned (.int .i64 32) ∧ w' = w := by
  go_enter Tryd.func58, Tryd.ntmps58
  go_wp2
  go_ret
  exact ⟨rfl, rfl⟩
theorem tz32 (x : Nat) (hx : x < 4294967296) (w : World) (hT : Tab0 w) :
    Calls Tryd.prog 58 #[.int .u32 x] w fun e w' => e = .returned (.int .i64 (Lib.ctz 32 x)) ∧ w' = w := by
  by_cases hx0 : x = 0
  · subst hx0
    exact tz32_zero w
  · obtain ⟨hlow, hk⟩ := Lib.lowest_bit 32 x hx0 hx
    obtain ⟨hi, htab⟩ := Lib.deBruijn32_at _ hk
    have hcell := hT.t32 rfl _ hi
    rw [htab] at hcell
    exact tz32_core x _ _ w (by simp; omega) (tz32_key x _ hx hx0 hlow) hi hk hcell
end Go.Proofs.YtlcaejikcelgoaaDoor
