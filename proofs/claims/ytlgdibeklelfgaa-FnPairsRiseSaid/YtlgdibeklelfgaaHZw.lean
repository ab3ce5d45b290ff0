/- The two rows that Pairs makes, side by side: what an append to the one leaves of the other. -/
import Derived.Test.YtlgdibeklelfgaaHPv2
namespace Go.Proofs.Ytlgdibeklelfgaa.PAll
open Go.RowKit Go.Proofs.YtlgdibeklelfgaaW.PrintWords Go.Proofs.YtlgdibeklelfgaaW.PrintLast Go.Proofs.YtlgdibeklelfgaaW.PrintMore
set_option linter.unusedVariables false
set_option linter.unusedSimpArgs false
/-- A row of integers of the call's own. -/
def RI (B : Nat) (v : Value) (I : List Int) (w : World) : Prop := Kd.R (Kd.int .i64) 3 w B (fun _ => True) v I
section
variable {B : Nat} {v : Value} {I : List Int} {w w' : World}
theorem RI.nil (B : Nat) (w : World) : RI B (.slice none 0 0) [] w := Kd.R_nil _ _ _ _ _
theorem RI.below (h : RI B v I w) (hb : Below w.heap.size w w') : RI B v I w' := Kd.R_below h hb
theorem RI.drewN (h : RI B v I w) (n : Nat) : RI B v I (w.drewN n) := Kd.R_below h (pw_below_drewN (Below.refl _ _) n)
theorem RI.drew (h : RI B v I w) : RI B v I w.drew := Kd.R_below h (below_drew1 (Below.refl _ _))
theorem RI.alloc (h : RI B v I w) (o : Obj) : RI B v I (w.alloc o) := Kd.R_below h (below_alloc (Below.refl _ _) o)
theorem RI.set80 {g j : Nat} {u : Value} (hT : IsT w g 80) (h : RI B v I w) : RI B v I (w.setCell ⟨g, j, none⟩ u) := by
  obtain ⟨cells, hT⟩ := hT
  exact Kd.R_set h hT (by decide) j u
theorem RI.only {b t : Nat} (hO : Only b w w') (ht : t ≠ 3) (hT : IsT w b t) (h : RI B v I w) : RI B v I w' := by
  obtain ⟨cells, hT⟩ := hT
  exact Kd.R_mono (Kd.R_step (Kd.R_types h hT (fun q hq => by
    have : q = 3 := by simpa [Kd.int, Kd.scalar] using hq
    omega)) (fun k hk hlt => hO.block k hlt hk.2)) (fun _ hk => hk.1)
end
theorem info3z : (Try.prog.info? 3).map (fun i => (i.zero, i.size, i.bytes)) = some (some (.int .i64 0), 1, 8) := by kernel_rfl
theorem own_typed' {α : Type} {d : Kd α} {e : Nat} {w : World} {B : Nat} {ok : Nat → Prop} {v : Value} {xs : List α} (h : d.R e w B ok v xs) (g : Nat) (hg : v.ownBlock = some g) : IsT w g e := by
  obtain ⟨h0, inner, ho, hr⟩ := h
  exact own_typed ho g hg
/-- A row is as it was when a row of another type has been appended to. -/
theorem R_beside {α β : Type} {d : Kd α} {d' : Kd β} {e e' : Nat} {w w1 : World} {B : Nat} {v v' : Value} {xs : List α} {ys : List β} (h : d.R e w B (fun _ => True) v xs) (h' : d'.R e' w B (fun _ => True) v' ys)
    (hq : ∀ q, q ∈ e :: d.E → q ≠ e') (hg : w.grownBy w1 v'.ownBlock) : d.R e w1 B (fun _ => True) v xs := by
  cases hb : v'.ownBlock with
  | none => exact Kd.R_step h (fun k _ hlt => hg.block k hlt (by rw [hb]; simp))
  | some g =>
    obtain ⟨cells, hc⟩ := own_typed' h' g hb
    refine Kd.R_mono (Kd.R_step (Kd.R_types h hc hq) (fun k hk hlt => hg.block k hlt ?_)) (fun _ _ => trivial)
    rw [hb]
    intro e0
    injection e0 with e0
    exact hk.2 e0
structure St (w : World) (l1 l2 : List S53) (A1 A2 : Option Addr) (c1 c2 pb : Nat) (L : List (Iv.I × Bool)) (g7 : Nat) (cs : Array Value) (v : Value) (R : List S53) (u : Value) (I : List Int) (W : World) : Prop where
  pv : PV l1 l2 A1 A2 c1 c2 pb L W
  bk : W.heap[g7]? = some (.cells cs 80 (0, 0))
  rv : RV w.heap.size v R W
  ri : RI w.heap.size u I W
  bel : Below w.heap.size w W
section
variable {w W : World} {l1 l2 : List S53} {A1 A2 : Option Addr} {c1 c2 pb g7 : Nat} {L : List (Iv.I × Bool)} {cs : Array Value} {v u : Value} {R : List S53} {I : List Int}
theorem St.alloc (h : St w l1 l2 A1 A2 c1 c2 pb L g7 cs v R u I W) (o : Obj) : St w l1 l2 A1 A2 c1 c2 pb L g7 cs v R u I (W.alloc o) :=
  ⟨h.pv.alloc o, blk_alloc h.bk o, h.rv.alloc o, Kd.R_below h.ri (below_alloc (Below.refl _ _) o), below_alloc h.bel o⟩
theorem St.drew (h : St w l1 l2 A1 A2 c1 c2 pb L g7 cs v R u I W) : St w l1 l2 A1 A2 c1 c2 pb L g7 cs v R u I W.drew :=
  ⟨h.pv.drew, h.bk, h.rv.drew, Kd.R_below h.ri (below_drew1 (Below.refl _ _)), below_drew1 h.bel⟩
/-- The slice of one element that an append takes in. -/
theorem reads_one {α : Type} {b t : Nat} {p : α} {cells : List Value} (hb : W.heap[b]? = some (.cells cells.toArray t (0, 0))) : ReadsRow (fun q c => q = p ∧ c = cells) cells.length W (some ⟨b, 0, none⟩) 1 [p] := by
  refine ⟨rfl, by decide, fun _ => ⟨_, rfl, fun j q hj => ?_⟩⟩
  cases j with
  | succ j => simp at hj
  | zero =>
    simp only [List.getElem?_cons_zero, Option.some.injEq] at hj
    subst hj
    refine ⟨cells, rfl, ⟨rfl, rfl⟩, fun i x hi => ?_⟩
    have := blk_cell hb i
    rw [Nat.zero_mul, Nat.zero_add]
    have e : (⟨b, 0, none⟩ : Addr).add i = ⟨b, i, none⟩ := by simp [Addr.add]; intro h; exact h.symm
    rw [e, this]
    simpa using hi
variable {o : Oper} {ops : Array Oper} {a : Act} {Q : Exit → Act → World → Prop} {Kc : Act → World → Prop}
theorem St.app53 (h : St w l1 l2 A1 A2 c1 c2 pb L g7 cs v R u I W) (hw : Region.wanted o (yielded ops a.tmps) = true) (s x : Operand) (ho : o.op = .call { callee := .builtin .append, args := #[s, x], argTypes := #[61, 61] }) (hs : a.eval s = v)
    (b : Nat) (p : S53) (hx : a.eval x = .slice (some ⟨b, 0, none⟩) 1 1) (hb : W.heap[b]? = some (.cells #[.int .i64 p.f0, .int .i64 p.f1] 53 (0, 0))) (hl : R.length + 1 ≤ 8589934592)
    (k : ∀ (v1 : Value) (w1 : World), St w l1 l2 A1 A2 c1 c2 pb L g7 cs v1 (R ++ [p]) u I w1 → (∀ (g : Nat) (cl : Array Value), W.heap[g]? = some (.cells cl 3 (0, 0)) → w1.heap[g]? = some (.cells cl 3 (0, 0))) → Kc (a.put o.dst v1) w1) :
    if Region.wanted o (yielded ops a.tmps) = true then Oper.wp Try.prog o a W Kc Q else Kc (a.put o.dst undef) W := by
  refine Kd.R_append_rows_step k53 (w0 := w) w.heap.size hw s x 61 53 (.agg #[(.int .i64 0), (.int .i64 0)]) 16 ho Try.underlying61 info53 rfl (by decide) (by omega) v R [p] (some ⟨b, 0, none⟩) 1 1 (fun _ => True) (fun _ => False) hs hx h.rv
    (reads_one (p := p) (cells := [.int .i64 p.f0, .int .i64 p.f1]) hb) (fun q c hq => by obtain ⟨rfl, rfl⟩ := hq; exact k53_mkM _ _ _ _) (fun _ hk => hk.elim) (fun _ _ => trivial) h.bel (below_size h.bel) (by omega) ?_
  intro v1 w1 hr hbel hg _
  have hne : ∀ {g t : Nat} {cl : Array Value}, t ≠ 53 → W.heap[g]? = some (.cells cl t (0, 0)) → some g ≠ v.ownBlock := fun ht hgc => h.rv.ne ⟨_, hgc⟩ (fun e => ht e.symm)
  refine k v1 w1 ⟨PV.grown hg (h.rv.ne h.pv.isT (by decide)) h.pv, blk_grown h.bk hg (hne (t := 80) (by decide) h.bk), hr, R_beside h.ri h.rv (by decide) hg, hbel⟩ (fun g cl hgc => blk_grown hgc hg (hne (t := 3) (by decide) hgc))
theorem St.app3 (h : St w l1 l2 A1 A2 c1 c2 pb L g7 cs v R u I W) (hw : Region.wanted o (yielded ops a.tmps) = true) (s x : Operand) (ho : o.op = .call { callee := .builtin .append, args := #[s, x], argTypes := #[33, 33] }) (hs : a.eval s = u)
    (b : Nat) (p : Int) (hx : a.eval x = .slice (some ⟨b, 0, none⟩) 1 1) (hb : W.heap[b]? = some (.cells #[.int .i64 p] 3 (0, 0))) (hl : I.length + 1 ≤ 8589934592)
    (k : ∀ (v1 : Value) (w1 : World), St w l1 l2 A1 A2 c1 c2 pb L g7 cs v R v1 (I ++ [p]) w1 → (∀ (g : Nat) (cl : Array Value), W.heap[g]? = some (.cells cl 53 (0, 0)) → w1.heap[g]? = some (.cells cl 53 (0, 0))) → Kc (a.put o.dst v1) w1) :
    if Region.wanted o (yielded ops a.tmps) = true then Oper.wp Try.prog o a W Kc Q else Kc (a.put o.dst undef) W := by
  refine Kd.R_append_rows_step (Kd.int .i64) (w0 := w) w.heap.size hw s x 33 3 (.int .i64 0) 8 ho Try.underlying33 info3z rfl (by decide) (by omega) u I [p] (some ⟨b, 0, none⟩) 1 1 (fun _ => True) (fun _ => False) hs hx h.ri
    (reads_one (p := p) (cells := [.int .i64 p]) hb) (fun q c hq => by obtain ⟨rfl, rfl⟩ := hq; rfl) (fun _ hk => hk.elim) (fun _ _ => trivial) h.bel (below_size h.bel) (by omega) ?_
  intro v1 w1 hr hbel hg _
  have hne : ∀ {g t : Nat} {cl : Array Value}, t ≠ 3 → W.heap[g]? = some (.cells cl t (0, 0)) → some g ≠ u.ownBlock := fun ht hgc => Kd.R_ne h.ri hgc (fun e => ht e.symm)
  refine k v1 w1 ⟨PV.grown hg (by obtain ⟨_, hc⟩ := h.pv.isT; exact hne (t := 82) (by decide) hc) h.pv, blk_grown h.bk hg (hne (t := 80) (by decide) h.bk), R_beside h.rv h.ri (by decide) hg, hr, hbel⟩ (fun g cl hgc => blk_grown hgc hg (hne (t := 53) (by decide) hgc))
/-- A slice of one element is built. -/
theorem St.bs (h : St w l1 l2 A1 A2 c1 c2 pb L g7 cs v R u I W) (t : Nat) (cl : Array Value) (hw : Region.wanted o (yielded ops a.tmps) = true)
    (hrun : (execOp a.eval o).run Try.prog W = .ok (.value (.slice (some ⟨W.heap.size, 0, none⟩) 1 1)) (W.alloc (.cells cl t (0, 0))))
    (k : ∀ (b : Nat) (w1 : World), St w l1 l2 A1 A2 c1 c2 pb L g7 cs v R u I w1 → w1.heap[b]? = some (.cells cl t (0, 0)) → (∀ (g : Nat) (o : Obj), W.heap[g]? = some o → w1.heap[g]? = some o) → Kc (a.put o.dst (.slice (some ⟨b, 0, none⟩) 1 1)) w1) :
    if Region.wanted o (yielded ops a.tmps) = true then Oper.wp Try.prog o a W Kc Q else Kc (a.put o.dst undef) W :=
  value_ hw rfl hrun (k _ _ (h.alloc _) (blk_new _ _) (fun g o hg => blk_alloc hg _))
end
end Go.Proofs.Ytlgdibeklelfgaa.PAll
