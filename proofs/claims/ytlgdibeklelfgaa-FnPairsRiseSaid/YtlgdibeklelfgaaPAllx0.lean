-- Written by a program of this session out of the translation (wip/pp.py): Lean checks it.
import Derived.Test.YtlgdibeklelfgaaProg
import Derived.Below
import Derived.Deep.Draws
import Derived.Deep.AppendLies
import Derived.Maps.AppendAt
import Derived.OwnWalk
import Derived.Laws.BytesArg
import Derived.Laws.MakeOwn
import Derived.Laws.OwnMore
import Derived.Deep.OwnRows
import Derived.Tactics
import Derived.Lib.ConvBytes
import Derived.Laws.Slices
import Derived.WalkKit
import Derived.KernelRfl
import Derived.RowKit3
import Derived.Deep.LoopGhost
import Derived.Deep.QuietTactic
import Derived.BigQuiet
import Derived.WideLaws
import Derived.Deep.DeepCutAuto
import Derived.Deep.CutBlock
import Derived.Deep.RegionHeld3
import Derived.Laws.Rows
import Derived.Lib.AppendStr
import Derived.ArgAppend
import Derived.Laws.IdiomCopy
import Derived.OrdersHeld
import Derived.Laws.BitsLemmas
import Derived.RowKit
import Derived.Test.YtlgdibeklelfgaaWWords
import Derived.Test.YtlgdibeklelfgaaWLast
import Derived.Test.YtlgdibeklelfgaaWTab
import Derived.Test.YtlgdibeklelfgaaWFour
import Derived.Test.YtlgdibeklelfgaaWQPut
import Derived.Test.YtlgdibeklelfgaaWApart
import Derived.Test.YtlgdibeklelfgaaWArr
import Derived.Test.YtlgdibeklelfgaaWZeros
import Derived.Test.YtlgdibeklelfgaaWFoot
import Derived.Test.YtlgdibeklelfgaaWKept
import Derived.Test.YtlgdibeklelfgaaWShare
import Derived.Test.YtlgdibeklelfgaaWN
import Derived.Test.YtlgdibeklelfgaaWFootNe
import Derived.Test.YtlgdibeklelfgaaWAt
import Derived.Test.YtlgdibeklelfgaaWEqStruct
import Derived.Test.YtlgdibeklelfgaaWRepsOne
import Derived.Test.YtlgdibeklelfgaaWInv
import Derived.Test.YtlgdibeklelfgaaWInvWords
import Derived.Test.YtlgdibeklelfgaaWGuard
import Derived.Test.YtlgdibeklelfgaaWNEv
import Derived.Test.YtlgdibeklelfgaaWMore
namespace Go.Proofs.Ytlgdibeklelfgaa.PAll
open Go.RowKit Go.Proofs.YtlgdibeklelfgaaW.PrintWords Go.Proofs.YtlgdibeklelfgaaW.PrintLast Go.Proofs.YtlgdibeklelfgaaW.PrintMore
attribute [local go_sem] max2_int min2_int max_two min_two max_three min_three max_four min_four   -- for this text's walks alone
set_option linter.unusedVariables false
set_option linter.unusedSimpArgs false



def errW : Option Int → Value
  | none => .nilIface
  | some c => .iface 0 (.int .i64 c)
theorem signed_u32 : IntKind.u32.signed = false := rfl
theorem max_u32 : IntKind.u32.max = 4294967295 := by decide
theorem signed_i64 : IntKind.i64.signed = true := rfl
theorem signed_i32 : IntKind.i32.signed = true := rfl
theorem signed_u64 : IntKind.u64.signed = false := rfl
theorem max_u64 : IntKind.u64.max = 18446744073709551615 := by decide
theorem errW_none : errW none = .nilIface := rfl
theorem errW_some (c : Int) : errW (some c) = .iface 0 (.int .i64 c) := rfl

theorem info23 : (Try.prog.info? 23).map (fun i => (i.zero, i.size, i.bytes)) = some (some (.agg #[(.int .i64 0), (.int .i64 0)]), 2, 16) := by kernel_rfl
theorem info47 : (Try.prog.info? 47).map (fun i => (i.zero, i.size, i.bytes)) = some (some (.agg #[(.int .i64 0), (.bool false)]), 2, 16) := by kernel_rfl
theorem info53 : (Try.prog.info? 53).map (fun i => (i.zero, i.size, i.bytes)) = some (some (.agg #[(.int .i64 0), (.int .i64 0)]), 2, 16) := by kernel_rfl
-- the values' own types
/-! #### struct type 23 -/
structure S23 where
  f0 : Int
  f1 : Int
def z23 : S23 := ⟨(0 : Int), (0 : Int)⟩
def k23 : Kd S23 := Kd.iso (Kd.pair (Kd.int .i64) (Kd.int .i64)) (fun x : S23 => (x.f0, x.f1))
theorem k23_open {w : World} {x : S23} {cs : List Value} (h : k23.K w x cs) : cs = [.int .i64 x.f0, .int .i64 x.f1] := by
  obtain ⟨_, _, rfl, rfl, rfl⟩ := h
  exact rfl
theorem k23_openM {w : World} {base : Nat} {ok : Nat → Prop} {x : S23} {cs : List Value} (h : k23.M w base ok x cs) : cs = [.int .i64 x.f0, .int .i64 x.f1] := by
  obtain ⟨_, _, rfl, rfl, rfl⟩ := h
  exact rfl
theorem k23_mk (w : World) (x : S23)  : k23.K w x [.int .i64 x.f0, .int .i64 x.f1] := ⟨[.int .i64 x.f0], [.int .i64 x.f1], rfl, rfl, rfl⟩
theorem k23_mkM (w : World) (base : Nat) (ok : Nat → Prop) (x : S23)  : k23.M w base ok x [.int .i64 x.f0, .int .i64 x.f1] := ⟨[.int .i64 x.f0], [.int .i64 x.f1], rfl, rfl, rfl⟩
def rd_T23 (xs : List S23) (i : Int) : S23 := xs.getD i.toNat z23
theorem at_T23 {w : World} {A : Option Addr} {n : Nat} {xs : List S23} (h : Kd.C k23 w A n xs) (i : Int) (h0 : 0 ≤ i) (h1 : i < n) : ∃ ad , A = some ad ∧ w.cell? (ad.add (i.toNat * 2)) = some (.int .i64 (rd_T23 xs i).f0) ∧ w.cell? ⟨(ad.add (i.toNat * 2)).block, (ad.add (i.toNat * 2)).off + 1, none⟩ = some (.int .i64 (rd_T23 xs i).f1) := by
  obtain ⟨ad, c, e, _, hK, hc0⟩ := Kd.C_get h z23 i h0 h1
  have hc : ∀ j u, c[j]? = some u → w.cell? (ad.add (i.toNat * 2 + j)) = some u := hc0
  obtain rfl := k23_open hK
  exact ⟨ad, e, hc 0 _ rfl, by rw [← add_field _ _ 1 (by omega)]; exact hc 1 _ rfl⟩

/-! #### struct type 53 -/
structure S53 where
  f0 : Int
  f1 : Int
def z53 : S53 := ⟨(0 : Int), (0 : Int)⟩
def k53 : Kd S53 := Kd.iso (Kd.pair (Kd.int .i64) (Kd.int .i64)) (fun x : S53 => (x.f0, x.f1))
theorem k53_open {w : World} {x : S53} {cs : List Value} (h : k53.K w x cs) : cs = [.int .i64 x.f0, .int .i64 x.f1] := by
  obtain ⟨_, _, rfl, rfl, rfl⟩ := h
  exact rfl
theorem k53_openM {w : World} {base : Nat} {ok : Nat → Prop} {x : S53} {cs : List Value} (h : k53.M w base ok x cs) : cs = [.int .i64 x.f0, .int .i64 x.f1] := by
  obtain ⟨_, _, rfl, rfl, rfl⟩ := h
  exact rfl
theorem k53_mk (w : World) (x : S53)  : k53.K w x [.int .i64 x.f0, .int .i64 x.f1] := ⟨[.int .i64 x.f0], [.int .i64 x.f1], rfl, rfl, rfl⟩
theorem k53_mkM (w : World) (base : Nat) (ok : Nat → Prop) (x : S53)  : k53.M w base ok x [.int .i64 x.f0, .int .i64 x.f1] := ⟨[.int .i64 x.f0], [.int .i64 x.f1], rfl, rfl, rfl⟩
def rd_T53 (xs : List S53) (i : Int) : S53 := xs.getD i.toNat z53
theorem at_T53 {w : World} {A : Option Addr} {n : Nat} {xs : List S53} (h : Kd.C k53 w A n xs) (i : Int) (h0 : 0 ≤ i) (h1 : i < n) : ∃ ad , A = some ad ∧ w.cell? (ad.add (i.toNat * 2)) = some (.int .i64 (rd_T53 xs i).f0) ∧ w.cell? ⟨(ad.add (i.toNat * 2)).block, (ad.add (i.toNat * 2)).off + 1, none⟩ = some (.int .i64 (rd_T53 xs i).f1) := by
  obtain ⟨ad, c, e, _, hK, hc0⟩ := Kd.C_get h z53 i h0 h1
  have hc : ∀ j u, c[j]? = some u → w.cell? (ad.add (i.toNat * 2 + j)) = some u := hc0
  obtain rfl := k53_open hK
  exact ⟨ad, e, hc 0 _ rfl, by rw [← add_field _ _ 1 (by omega)]; exact hc 1 _ rfl⟩

/-! #### struct type 47 -/
structure S47 where
  f0 : Int
  f1 : Bool
def z47 : S47 := ⟨(0 : Int), false⟩
def k47 : Kd S47 := Kd.iso (Kd.pair (Kd.int .i64) Kd.bool) (fun x : S47 => (x.f0, x.f1))
theorem k47_open {w : World} {x : S47} {cs : List Value} (h : k47.K w x cs) : cs = [.int .i64 x.f0, .bool x.f1] := by
  obtain ⟨_, _, rfl, rfl, rfl⟩ := h
  exact rfl
theorem k47_openM {w : World} {base : Nat} {ok : Nat → Prop} {x : S47} {cs : List Value} (h : k47.M w base ok x cs) : cs = [.int .i64 x.f0, .bool x.f1] := by
  obtain ⟨_, _, rfl, rfl, rfl⟩ := h
  exact rfl
theorem k47_mk (w : World) (x : S47)  : k47.K w x [.int .i64 x.f0, .bool x.f1] := ⟨[.int .i64 x.f0], [.bool x.f1], rfl, rfl, rfl⟩
theorem k47_mkM (w : World) (base : Nat) (ok : Nat → Prop) (x : S47)  : k47.M w base ok x [.int .i64 x.f0, .bool x.f1] := ⟨[.int .i64 x.f0], [.bool x.f1], rfl, rfl, rfl⟩
def rd_T47 (xs : List S47) (i : Int) : S47 := xs.getD i.toNat z47
theorem at_T47 {w : World} {A : Option Addr} {n : Nat} {xs : List S47} (h : Kd.C k47 w A n xs) (i : Int) (h0 : 0 ≤ i) (h1 : i < n) : ∃ ad , A = some ad ∧ w.cell? (ad.add (i.toNat * 2)) = some (.int .i64 (rd_T47 xs i).f0) ∧ w.cell? ⟨(ad.add (i.toNat * 2)).block, (ad.add (i.toNat * 2)).off + 1, none⟩ = some (.bool (rd_T47 xs i).f1) := by
  obtain ⟨ad, c, e, _, hK, hc0⟩ := Kd.C_get h z47 i h0 h1
  have hc : ∀ j u, c[j]? = some u → w.cell? (ad.add (i.toNat * 2 + j)) = some u := hc0
  obtain rfl := k47_open hK
  exact ⟨ad, e, hc 0 _ rfl, by rw [← add_field _ _ 1 (by omega)]; exact hc 1 _ rfl⟩

end Go.Proofs.Ytlgdibeklelfgaa.PAll
