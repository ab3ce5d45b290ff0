/- Words of a walk by hand. -/
import Derived.Test.YtdlhgddagnikdaaPFlx0
import Derived.Laws.Tables
import Derived.Laws.CopyOwn
namespace Go.Proofs.Ytdlhgddagnikdaa.PFl
open Go.RowKit Go.Proofs.YtdlhgddagnikdaaW.PrintWords Go.Proofs.YtdlhgddagnikdaaW.PrintLast Go.Proofs.YtdlhgddagnikdaaW.PrintMore
attribute [local go_sem] max2_int min2_int max_two min_two max_three min_three max_four min_four
set_option linter.unusedVariables false
set_option linter.unusedSimpArgs false
attribute [local go_sem] signed_i64 signed_i32 signed_u32 max_u32 signed_u64 max_u64
theorem heap_is {W : World} {g t : Nat} {cs cs' : Array Value} (h : W.heap[g]? = some (.cells cs' t (0, 0))) (e : cs' = cs) : W.heap[g]? = some (.cells cs t (0, 0)) := e ▸ h
theorem blk_aside {W : World} {g t : Nat} {cs : Array Value} {p : Addr} {u : Value} (hp : g ≠ p.block) (h : W.heap[g]? = some (.cells cs t (0, 0))) : (W.setCell p u).heap[g]? = some (.cells cs t (0, 0)) := blk_far h hp u
theorem wp_world {P : Program} {C : Code} {K : Exit → Act → World → Prop} {a : Act} {W : World} (S : World → Prop) (h : S W) (k : ∀ w', S w' → Code.wp P C K a w') : Code.wp P C K a W := k W h
theorem info23z : (Try.prog.info? 23).map (·.size) = some 18 := by kernel_rfl
/-- A struct stored whole into a block of its own. -/
theorem store_block {ops : Array Oper} {rest : List Oper} {o : Oper} {a : Act} {w W : World} {Q : Exit → Act → World → Prop} (x y : Operand) (t : TypeId) (ho : o.op = .store t x y) (hgd : o.guard = none) (g : Nat) (cells old : Array Value) (hx : a.eval x = .pointer (some ⟨g, 0, none⟩)) (hy : a.eval y = .agg cells)
    (hg : W.heap[g]? = some (.cells old t (0, 0))) (hi : (Try.prog.info? t).map (·.size) = some 18) (hn : cells.size = 18) (hold : old.size = 18) (h1 : cells.all (·.oneCell') = true) (HB : Below w.heap.size w W) (hge : w.heap.size ≤ g)
    (k : ∀ w1 : World, w1.heap[g]? = some (.cells cells t (0, 0)) → Below w.heap.size w w1 → (∀ (g' : Nat) (o' : Obj), g' ≠ g → W.heap[g']? = some o' → w1.heap[g']? = some o') → wpList Try.prog ops Q rest (a.put o.dst undef) w1) : wpList Try.prog ops Q (o :: rest) a W :=
  wpList_store_row hgd t x y ho g cells hx hy t old hg (hi.trans (congrArg some hn.symm)) (hold.trans hn.symm) h1 (k _ (setRow_heap W g old cells t (0, 0) hg) (below_setRow HB hge cells) (fun g' o' hne h => (setRow_other W g g' cells hne).trans h))
end Go.Proofs.Ytdlhgddagnikdaa.PFl
