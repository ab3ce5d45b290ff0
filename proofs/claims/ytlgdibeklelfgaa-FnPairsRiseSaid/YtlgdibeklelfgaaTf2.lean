import Derived.Test.YtlgdibeklelfgaaProg
import Derived.Below
import Derived.WalkKit
import Derived.Test.YtlgdibeklelfgaaWWords
import Derived.Test.YtlgdibeklelfgaaPAllx0
import Derived.Test.YtlgdibeklelfgaaPAllxA
import Derived.Test.YtlgdibeklelfgaaIvs
/- 'Only b w w'': between two worlds, of the blocks that lay, block b alone may have changed. -/
set_option linter.unusedVariables false
namespace Go.Proofs.Ytlgdibeklelfgaa
open Go.RowKit Go.Proofs.YtlgdibeklelfgaaW.PrintWords
structure Only (b : Nat) (w w' : World) : Prop where
  os : w'.os = w.os
  tape : w'.tape = w.tape
  output : w'.output = w.output
  size : w.heap.size ≤ w'.heap.size
  block : ∀ k, k < w.heap.size → k ≠ b → w'.heap[k]? = w.heap[k]?
theorem Only.refl (b : Nat) (w : World) : Only b w w := ⟨rfl, rfl, rfl, Nat.le_refl _, fun _ _ _ => rfl⟩
theorem Only.of_below {b : Nat} {w w' : World} (h : Below w.heap.size w w') : Only b w w' := ⟨h.os, h.tape, h.output, h.size, fun k hk _ => h.block k hk⟩
theorem Only.trans {b : Nat} {w w1 w2 : World} (h : Only b w w1) (k : Only b w1 w2) : Only b w w2 :=
  ⟨k.os.trans h.os, k.tape.trans h.tape, k.output.trans h.output, Nat.le_trans h.size k.size, fun i hi hne => (k.block i (Nat.lt_of_lt_of_le hi h.size) hne).trans (h.block i hi hne)⟩
theorem Only.step {b : Nat} {w w1 w2 : World} (h : Only b w w1) (k : Below w1.heap.size w1 w2) : Only b w w2 := h.trans (Only.of_below k)
theorem Only.drewN {b : Nat} {w w1 : World} (h : Only b w w1) (n : Nat) : Only b w (w1.drewN n) := ⟨h.os, h.tape, h.output, h.size, h.block⟩
theorem Only.drew {b : Nat} {w w1 : World} (h : Only b w w1) : Only b w w1.drew := ⟨h.os, h.tape, h.output, h.size, h.block⟩
theorem Only.set {b : Nat} {w w1 : World} (h : Only b w w1) (j : Nat) (v : Value) : Only b w (w1.setCell ⟨b, j, none⟩ v) := by
  refine ⟨h.os, h.tape, h.output, by simpa [World.setCell] using h.size, fun k hk hne => ?_⟩
  refine Eq.trans ?_ (h.block k hk hne)
  simp [World.setCell, Array.getElem?_modify, Ne.symm hne]
theorem Only.alloc {b : Nat} {w w1 : World} (h : Only b w w1) (o : Obj) : Only b w (w1.alloc o) := h.step (below_alloc (Below.refl _ _) o)
/-- A store into a block that is newer than w. -/
theorem Only.far {b g : Nat} {w w1 : World} (h : Only b w w1) (hg : w.heap.size ≤ g) (j : Nat) (v : Value) : Only b w (w1.setCell ⟨g, j, none⟩ v) := by
  refine ⟨h.os, h.tape, h.output, by simpa [World.setCell] using h.size, fun k hk hne => ?_⟩
  refine Eq.trans ?_ (h.block k hk hne)
  simp [World.setCell, Array.getElem?_modify, show g ≠ k by omega]
theorem Only.blk {b g : Nat} {w w' : World} {o : Obj} (h : Only b w w') (hg : g ≠ b) (hb : w.heap[g]? = some o) : w'.heap[g]? = some o := (h.block g (blk_lt hb) hg).trans hb
theorem Only.below {b n : Nat} {w0 w w' : World} (h : Only b w w') (k : Below n w0 w) (hb : n ≤ b) (hn : n ≤ w.heap.size) : Below n w0 w' :=
  ⟨h.os.trans k.os, h.tape.trans k.tape, h.output.trans k.output, Nat.le_trans k.size h.size, fun i hi => (h.block i (by omega) (by omega)).trans (k.block i hi)⟩
end Go.Proofs.Ytlgdibeklelfgaa

/- What the functions that are told by hand compute, on lists of pairs. -/
namespace Go.Proofs.Ytlgdibeklelfgaa.PAll
open Go.RowKit Go.Proofs.YtlgdibeklelfgaaW.PrintWords Go.Proofs.YtlgdibeklelfgaaW.PrintLast Go.Proofs.YtlgdibeklelfgaaW.PrintMore
set_option linter.unusedVariables false

/-- What a block holds, by what it is computed to. -/
theorem heap_is {W : World} {g t : Nat} {cs cs' : Array Value} (h : W.heap[g]? = some (.cells cs' t (0, 0))) (e : cs' = cs) : W.heap[g]? = some (.cells cs t (0, 0)) := e ▸ h
theorem blk_aside {W : World} {g t : Nat} {cs : Array Value} {p : Addr} {u : Value} (hp : g ≠ p.block) (h : W.heap[g]? = some (.cells cs t (0, 0))) : (W.setCell p u).heap[g]? = some (.cells cs t (0, 0)) := blk_far h hp u
theorem wp_world {P : Program} {C : Code} {K : Exit → Act → World → Prop} {a : Act} {W : World} (S : World → Prop) (h : S W) (k : ∀ w', S w' → Code.wp P C K a w') : Code.wp P C K a W := k W h

def i23 (s : S23) : Iv.I := (s.f0, s.f1)
def i53 (s : S53) : Iv.I := (s.f0, s.f1)
def s23 (p : Iv.I) : S23 := ⟨p.1, p.2⟩
def s53 (p : Iv.I) : S53 := ⟨p.1, p.2⟩
def ev47 (e : S47) : Iv.E := (e.f0, e.f1)
theorem i23_s23 (p : Iv.I) : i23 (s23 p) = p := rfl
theorem i53_s53 (p : Iv.I) : i53 (s53 p) = p := rfl
theorem s23_i23 (p : S23) : s23 (i23 p) = p := rfl
theorem s53_i53 (p : S53) : s53 (i53 p) = p := rfl

def impl_MergeInto.f (a0_0 : Int) (a0_1 : Int) (a1_0 : Int) (a1_1 : Int) : Option (Int × Int × Bool) :=
  (intervals_Interval_Overlaps.f a0_0 a0_1 a1_0 a1_1).bind fun o => (intervals_Interval_adjacent.f a0_0 a0_1 a1_0 a1_1).bind fun d =>
    if o = false ∧ d = false then some (a0_0, a0_1, false) else (intervals_imin.f a0_0 a1_0).bind fun m => (intervals_imax.f a0_1 a1_1).bind fun M => some (m, M, true)

/-- Whether the interval at a place, and the one ahead of it, are in order. -/
def gd (l : List Iv.I) (i : Nat) : Bool :=
  decide ((l.getD i (0, 0)).1 < (l.getD i (0, 0)).2) && (decide (i = 0) || (decide ((l.getD (i - 1) (0, 0)).1 < (l.getD i (0, 0)).1) && decide ((l.getD (i - 1) (0, 0)).2 ≤ (l.getD i (0, 0)).1)))
def good (l : List Iv.I) : Bool := (List.range l.length).all fun i => gd l i
def impl_Check.f (l0 : List (S23)) : Option (Bool) := if l0.length ≤ 4294967296 then some (good (l0.map i23)) else none

def sm (a : Iv.I) : Bool := decide (a.1 < a.2) && (decide (-2305843009213693952 ≤ a.1) && decide (a.2 ≤ 2305843009213693952))
def bnd (l : List Iv.I) : Bool := decide (l.length ≤ 4294967296) && l.all sm
def overl (a b : List Iv.I) : Bool :=
  if a.length = 0 ∨ b.length = 0 then false
  else if (a.getD (a.length - 1) (0, 0)).2 ≤ (b.getD 0 (0, 0)).1 ∨ (b.getD (b.length - 1) (0, 0)).2 ≤ (a.getD 0 (0, 0)).1 then false
  else match Iv.walk a b with
    | [] => false
    | f :: l => Iv.clash f l
def intervals_Intervals_Overlaps.f (l0 : List (S53)) (l1 : List (S53)) : Option (Bool) :=
  if bnd (l0.map i53) = true ∧ bnd (l1.map i53) = true then some (overl (l0.map i53) (l1.map i53)) else none
def impl_Merge.f (l0 : List (S23)) (l1 : List (S23)) : Option ((List (S23))) :=
  if bnd (l0.map i23) = true ∧ bnd (l1.map i23) = true then some ((Iv.merge (l0.map i23) (l1.map i23)).map s23) else none
def intervals_ZZPairs.f (l0 : List (S53)) (l1 : List (S53)) : Option ((List (S53)) × List Int) :=
  if l0.length ≤ 4294967296 ∧ l1.length ≤ 4294967296 then some ((Iv.walk (l0.map i53) (l1.map i53)).map (fun p => s53 p.1), (Iv.walk (l0.map i53) (l1.map i53)).map (fun p => if p.2 then 1 else 0)) else none
/-- Each event at a lesser place than the one before. -/
def down : List Iv.E → Bool
  | [] => true
  | [_] => true
  | a :: b :: l => decide (b.1 < a.1) && down (b :: l)
def evs (l : List Iv.E) : Bool := decide (l.length ≤ 1000000) && (l.all (fun e => decide (0 ≤ e.1) && decide (e.1 ≤ 1099511627776)) && down l)
def impl_Build.f (l0 : List (S47)) : Option ((List (S23)) × Bool) :=
  if evs (l0.map ev47) = true then some ((Iv.lv none (l0.map ev47)).map s23, true) else none
end Go.Proofs.Ytlgdibeklelfgaa.PAll
