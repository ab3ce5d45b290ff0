import Derived.Test.YtlgdibeklelfgaaHNxt
import Derived.IntWalk
/- The visitor of two sequences: what it stands at, as a list of what is left. -/
namespace Go.Proofs.Ytlgdibeklelfgaa.PAll
open Go.RowKit Go.Proofs.YtlgdibeklelfgaaW.PrintWords Go.Proofs.YtlgdibeklelfgaaW.PrintLast Go.Proofs.YtlgdibeklelfgaaW.PrintMore
set_option linter.unusedVariables false
set_option linter.unusedSimpArgs false

/-- The visitor's answer where it stands: the interval, and of which of the two it is; -1 at the end. -/
def ix (b : Bool) : Int := if b then 1 else 0
theorem ix_done (b : Bool) : (ix b == -1) = false := by cases b <;> rfl
theorem ix_eq (a b : Bool) : (ix a == ix b) = (a == b) := by cases a <;> cases b <;> rfl
def cur : List (Iv.I × Bool) → Int × Int × Int
  | [] => (0, 0, -1)
  | p :: _ => (p.1.1, p.1.2, ix p.2)
def PV (l1 l2 : List S53) (A1 A2 : Option Addr) (c1 c2 pb : Nat) (L : List (Iv.I × Bool)) (w : World) : Prop :=
  ∃ i j : Nat, i ≤ l1.length ∧ j ≤ l2.length ∧ Iv.walk ((l1.drop i).map i53) ((l2.drop j).map i53) = L ∧
    w.heap[pb]? = some (.cells #[.int .i64 (cur L).1, .int .i64 (cur L).2.1, .int .i64 (cur L).2.2, .int .i64 (i : Int), .int .i64 (j : Int), .slice A1 l1.length c1, .slice A2 l2.length c2] 82 (0, 0))
theorem PV.same {l1 l2 : List S53} {A1 A2 : Option Addr} {c1 c2 pb : Nat} {L : List (Iv.I × Bool)} {w w' : World} (h : PV l1 l2 A1 A2 c1 c2 pb L w) (e : w'.heap[pb]? = w.heap[pb]?) : PV l1 l2 A1 A2 c1 c2 pb L w' := by
  obtain ⟨i, j, hi, hj, hL, hb⟩ := h
  exact ⟨i, j, hi, hj, hL, e.trans hb⟩
theorem PV.lt {l1 l2 : List S53} {A1 A2 : Option Addr} {c1 c2 pb : Nat} {L : List (Iv.I × Bool)} {w : World} (h : PV l1 l2 A1 A2 c1 c2 pb L w) : pb < w.heap.size := by
  obtain ⟨i, j, hi, hj, hL, hb⟩ := h
  exact blk_lt hb
theorem PV.below {l1 l2 : List S53} {A1 A2 : Option Addr} {c1 c2 pb : Nat} {L : List (Iv.I × Bool)} {w w' : World} (h : PV l1 l2 A1 A2 c1 c2 pb L w) (hb : Below w.heap.size w w') : PV l1 l2 A1 A2 c1 c2 pb L w' := h.same (hb.block pb h.lt)
theorem PV.drewN {l1 l2 : List S53} {A1 A2 : Option Addr} {c1 c2 pb : Nat} {L : List (Iv.I × Bool)} {w : World} (h : PV l1 l2 A1 A2 c1 c2 pb L w) (n : Nat) : PV l1 l2 A1 A2 c1 c2 pb L (w.drewN n) := h.same rfl
theorem PV.drew {l1 l2 : List S53} {A1 A2 : Option Addr} {c1 c2 pb : Nat} {L : List (Iv.I × Bool)} {w : World} (h : PV l1 l2 A1 A2 c1 c2 pb L w) : PV l1 l2 A1 A2 c1 c2 pb L w.drew := h.same rfl
theorem PV.alloc {l1 l2 : List S53} {A1 A2 : Option Addr} {c1 c2 pb : Nat} {L : List (Iv.I × Bool)} {w : World} (h : PV l1 l2 A1 A2 c1 c2 pb L w) (o : Obj) : PV l1 l2 A1 A2 c1 c2 pb L (w.alloc o) := h.same (Below.heap_alloc w o pb h.lt)
theorem PV.far {l1 l2 : List S53} {A1 A2 : Option Addr} {c1 c2 pb : Nat} {L : List (Iv.I × Bool)} {w : World} {p : Addr} {u : Value} (hp : pb ≠ p.block) (h : PV l1 l2 A1 A2 c1 c2 pb L w) : PV l1 l2 A1 A2 c1 c2 pb L (w.setCell p u) := h.same (Below.heap_setCell w p u pb hp)

theorem rd_drop (l : List S53) (i : Nat) (h : i < l.length) : ∃ a r, (l.drop i).map i53 = a :: r ∧ a = i53 (rd_T53 l (i : Int)) ∧ r = (l.drop (i + 1)).map i53 := by
  refine ⟨_, _, ?_, rfl, rfl⟩
  rw [List.drop_eq_getElem_cons h, List.map_cons]
  congr 1
  simp [rd_T53, List.getD, h]
theorem walk_nil_left (b : List Iv.I) : Iv.walk [] b = b.map fun b => (b, true) := by rw [Iv.walk]
theorem walk_nil_right (a : List Iv.I) : Iv.walk a [] = a.map fun a => (a, false) := by
  cases a with
  | nil => rw [Iv.walk]; rfl
  | cons a xs => rw [Iv.walk]
theorem walk_two (a b : Iv.I) (xs ys : List Iv.I) : Iv.walk (a :: xs) (b :: ys) = if a.1 ≤ b.1 then (a, false) :: Iv.walk xs (b :: ys) else (b, true) :: Iv.walk (a :: xs) ys := by rw [Iv.walk]
/-- What sel chooses is the head of what is left; one step of a sequence is a step of the walk. -/
theorem selv_cur (l1 l2 : List S53) (i j : Nat) (hi : i ≤ l1.length) (hj : j ≤ l2.length) : selv l1 l2 i j = cur (Iv.walk ((l1.drop i).map i53) ((l2.drop j).map i53)) := by
  unfold selv
  by_cases h1 : i < l1.length
  · obtain ⟨a, r, e1, ea, er⟩ := rd_drop l1 i h1
    by_cases h2 : j < l2.length
    · obtain ⟨b, s, e2, eb, es⟩ := rd_drop l2 j h2
      rw [if_pos h1, if_pos h2, e1, e2, walk_two]
      subst ea eb
      by_cases h3 : (rd_T53 l1 (i : Int)).f0 ≤ (rd_T53 l2 (j : Int)).f0
      · rw [if_pos h3, if_pos (show (i53 _).1 ≤ (i53 _).1 from h3)]; rfl
      · rw [if_neg h3, if_neg (show ¬ (i53 _).1 ≤ (i53 _).1 from h3)]; rfl
    · rw [if_pos h1, if_neg h2, e1, show l2.drop j = [] from List.drop_eq_nil_of_le (by omega), List.map_nil, walk_nil_right]
      subst ea; rfl
  · rw [if_neg h1, show l1.drop i = [] from List.drop_eq_nil_of_le (by omega), List.map_nil, walk_nil_left]
    by_cases h2 : j < l2.length
    · obtain ⟨b, s, e2, eb, es⟩ := rd_drop l2 j h2
      rw [if_pos h2, e2]; subst eb; rfl
    · rw [if_neg h2, show l2.drop j = [] from List.drop_eq_nil_of_le (by omega)]; rfl
theorem walk_false (l1 l2 : List S53) (i j : Nat) (hi : i ≤ l1.length) (hj : j ≤ l2.length) (p : Iv.I) (r : List (Iv.I × Bool)) (h : Iv.walk ((l1.drop i).map i53) ((l2.drop j).map i53) = (p, false) :: r) :
    i < l1.length ∧ Iv.walk ((l1.drop (i + 1)).map i53) ((l2.drop j).map i53) = r := by
  by_cases h1 : i < l1.length
  · refine ⟨h1, ?_⟩
    obtain ⟨a, r', e1, ea, er⟩ := rd_drop l1 i h1
    rw [← er]
    by_cases h2 : j < l2.length
    · obtain ⟨b, s, e2, eb, es⟩ := rd_drop l2 j h2
      rw [e1, e2, walk_two] at h
      rw [e2]
      split at h <;> simp_all
    · rw [show l2.drop j = [] from List.drop_eq_nil_of_le (by omega), List.map_nil] at h ⊢
      rw [e1, walk_nil_right] at h
      rw [walk_nil_right]
      simp only [List.map_cons, List.cons.injEq] at h
      exact h.2
  · rw [show l1.drop i = [] from List.drop_eq_nil_of_le (by omega), List.map_nil, walk_nil_left] at h
    cases hd : (l2.drop j).map i53 with
    | nil => rw [hd] at h; simp at h
    | cons b s => rw [hd] at h; simp at h
theorem walk_true (l1 l2 : List S53) (i j : Nat) (hi : i ≤ l1.length) (hj : j ≤ l2.length) (p : Iv.I) (r : List (Iv.I × Bool)) (h : Iv.walk ((l1.drop i).map i53) ((l2.drop j).map i53) = (p, true) :: r) :
    j < l2.length ∧ Iv.walk ((l1.drop i).map i53) ((l2.drop (j + 1)).map i53) = r := by
  by_cases h2 : j < l2.length
  · refine ⟨h2, ?_⟩
    obtain ⟨b, s, e2, eb, es⟩ := rd_drop l2 j h2
    rw [← es]
    by_cases h1 : i < l1.length
    · obtain ⟨a, r', e1, ea, er⟩ := rd_drop l1 i h1
      rw [e1, e2, walk_two] at h
      rw [e1]
      split at h <;> simp_all
    · rw [show l1.drop i = [] from List.drop_eq_nil_of_le (by omega), List.map_nil] at h ⊢
      rw [e2, walk_nil_left] at h
      rw [walk_nil_left]
      simp only [List.map_cons, List.cons.injEq] at h
      exact h.2
  · rw [show l2.drop j = [] from List.drop_eq_nil_of_le (by omega), List.map_nil, walk_nil_right] at h
    cases hd : (l1.drop i).map i53 with
    | nil => rw [hd] at h; simp at h
    | cons b s => rw [hd] at h; simp at h

theorem init_pv (l1 l2 : List S53) (A1 A2 : Option Addr) (c1 c2 pb : Nat) (L : List (Iv.I × Bool)) (w0 w : World) (hr1 : Kd.C k53 w0 A1 l1.length l1) (hr2 : Kd.C k53 w0 A2 l2.length l2)
    (hB : Below w0.heap.size w0 w) (hg : w0.heap.size ≤ pb) (hb : w.heap[pb]? = some (.cells #[.int .i64 0, .int .i64 0, .int .i64 0, .int .i64 0, .int .i64 0, .slice none 0 0, .slice none 0 0] 82 (0, 0)))
    (hL : Iv.walk (l1.map i53) (l2.map i53) = L) :
    Calls Try.prog 52 #[.pointer (some ⟨pb, 0, none⟩), .slice A1 l1.length c1, .slice A2 l2.length c2] w fun e w' =>
      e = .returned (.agg #[.int .i64 (cur L).1, .int .i64 (cur L).2.1, .int .i64 (cur L).2.2]) ∧ PV l1 l2 A1 A2 c1 c2 pb L w' ∧ Only pb w w' := by
  have hs := selv_cur l1 l2 0 0 (Nat.zero_le _) (Nat.zero_le _)
  rw [List.drop_zero, List.drop_zero, hL] at hs
  exact (init_calls l1 l2 A1 A2 c1 c2 pb _ _ _ w0 w hr1 hr2 hB hg hb hs).mono fun e w' ⟨he, hh, ho⟩ => ⟨he, ⟨0, 0, Nat.zero_le _, Nat.zero_le _, hL, hh⟩, ho⟩
theorem nxt_pv (l1 l2 : List S53) (A1 A2 : Option Addr) (c1 c2 pb : Nat) (p : Iv.I × Bool) (L : List (Iv.I × Bool)) (w0 w : World) (hr1 : Kd.C k53 w0 A1 l1.length l1) (hr2 : Kd.C k53 w0 A2 l2.length l2)
    (hn1 : l1.length ≤ 4294967296) (hn2 : l2.length ≤ 4294967296) (hB : Below w0.heap.size w0 w) (hg : w0.heap.size ≤ pb) (hP : PV l1 l2 A1 A2 c1 c2 pb (p :: L) w) :
    Calls Try.prog 54 #[.pointer (some ⟨pb, 0, none⟩)] w fun e w' =>
      e = .returned (.agg #[.int .i64 (cur L).1, .int .i64 (cur L).2.1, .int .i64 (cur L).2.2]) ∧ PV l1 l2 A1 A2 c1 c2 pb L w' ∧ Only pb w w' := by
  obtain ⟨i, j, hi, hj, hL, hb⟩ := hP
  obtain ⟨p, b⟩ := p
  cases b with
  | false =>
    obtain ⟨h1, h2⟩ := walk_false l1 l2 i j hi hj p L hL
    have hs := selv_cur l1 l2 (i + 1) j h1 hj
    rw [h2] at hs
    exact (nxt0_calls l1 l2 A1 A2 c1 c2 i j pb p.1 p.2 _ _ _ w0 w hr1 hr2 hB hg hb (by omega) hs).mono fun e w' ⟨he, hh, ho⟩ => ⟨he, ⟨i + 1, j, h1, hj, h2, hh⟩, ho⟩
  | true =>
    obtain ⟨h1, h2⟩ := walk_true l1 l2 i j hi hj p L hL
    have hs := selv_cur l1 l2 i (j + 1) hi h1
    rw [h2] at hs
    exact (nxt1_calls l1 l2 A1 A2 c1 c2 i j pb p.1 p.2 _ _ _ w0 w hr1 hr2 hB hg hb (by omega) hs).mono fun e w' ⟨he, hh, ho⟩ => ⟨he, ⟨i, j + 1, hi, h1, h2, hh⟩, ho⟩
theorem init_cons (l1 l2 : List S53) (A1 A2 : Option Addr) (c1 c2 pb : Nat) (u v : Int) (b : Bool) (L : List (Iv.I × Bool)) (w0 w : World) (hr1 : Kd.C k53 w0 A1 l1.length l1) (hr2 : Kd.C k53 w0 A2 l2.length l2)
    (hB : Below w0.heap.size w0 w) (hg : w0.heap.size ≤ pb) (hb : w.heap[pb]? = some (.cells #[.int .i64 0, .int .i64 0, .int .i64 0, .int .i64 0, .int .i64 0, .slice none 0 0, .slice none 0 0] 82 (0, 0)))
    (hL : Iv.walk (l1.map i53) (l2.map i53) = ((u, v), b) :: L) :
    Calls Try.prog 52 #[.pointer (some ⟨pb, 0, none⟩), .slice A1 l1.length c1, .slice A2 l2.length c2] w fun e w' =>
      e = .returned (.agg #[.int .i64 u, .int .i64 v, .int .i64 (ix b)]) ∧ PV l1 l2 A1 A2 c1 c2 pb (((u, v), b) :: L) w' ∧ Only pb w w' := init_pv l1 l2 A1 A2 c1 c2 pb _ w0 w hr1 hr2 hB hg hb hL
theorem nxt_nil (l1 l2 : List S53) (A1 A2 : Option Addr) (c1 c2 pb : Nat) (p : Iv.I × Bool) (w0 w : World) (hr1 : Kd.C k53 w0 A1 l1.length l1) (hr2 : Kd.C k53 w0 A2 l2.length l2)
    (hn1 : l1.length ≤ 4294967296) (hn2 : l2.length ≤ 4294967296) (hB : Below w0.heap.size w0 w) (hg : w0.heap.size ≤ pb) (hP : PV l1 l2 A1 A2 c1 c2 pb [p] w) :
    Calls Try.prog 54 #[.pointer (some ⟨pb, 0, none⟩)] w fun e w' =>
      e = .returned (.agg #[.int .i64 0, .int .i64 0, .int .i64 (-1)]) ∧ PV l1 l2 A1 A2 c1 c2 pb [] w' ∧ Only pb w w' := nxt_pv l1 l2 A1 A2 c1 c2 pb p [] w0 w hr1 hr2 hn1 hn2 hB hg hP
theorem nxt_cons (l1 l2 : List S53) (A1 A2 : Option Addr) (c1 c2 pb : Nat) (p : Iv.I × Bool) (u v : Int) (b : Bool) (L : List (Iv.I × Bool)) (w0 w : World) (hr1 : Kd.C k53 w0 A1 l1.length l1) (hr2 : Kd.C k53 w0 A2 l2.length l2)
    (hn1 : l1.length ≤ 4294967296) (hn2 : l2.length ≤ 4294967296) (hB : Below w0.heap.size w0 w) (hg : w0.heap.size ≤ pb) (hP : PV l1 l2 A1 A2 c1 c2 pb (p :: ((u, v), b) :: L) w) :
    Calls Try.prog 54 #[.pointer (some ⟨pb, 0, none⟩)] w fun e w' =>
      e = .returned (.agg #[.int .i64 u, .int .i64 v, .int .i64 (ix b)]) ∧ PV l1 l2 A1 A2 c1 c2 pb (((u, v), b) :: L) w' ∧ Only pb w w' := nxt_pv l1 l2 A1 A2 c1 c2 pb p _ w0 w hr1 hr2 hn1 hn2 hB hg hP
theorem ov_f (a b c d : Int) (h : sm (a, b) = true) (h' : sm (c, d) = true) : intervals_Interval_Overlaps.f a b c d = some (Iv.ov (a, b) (c, d)) := by
  simp only [sm, Bool.and_eq_true, decide_eq_true_eq] at h h'
  have hmin : intervals_imin.f b d = some (min b d) := by unfold intervals_imin.f; split <;> (congr 1; omega)
  have hmax : intervals_imax.f a c = some (max a c) := by unfold intervals_imax.f; split <;> (congr 1; omega)
  simp only [intervals_Interval_Overlaps.f, hmin, hmax, Option.bind_some, Iv.ov]
  rw [IntWalk.wrap64_in _ (by omega)]
theorem adj_f (a b c d : Int) : intervals_Interval_adjacent.f a b c d = some (Iv.adj (a, b) (c, d)) := by
  unfold intervals_Interval_adjacent.f Iv.adj
  simp only
  by_cases h : b = c
  · simp [h]
  · rw [if_neg h, decide_eq_false h, Bool.false_or]; rfl
end Go.Proofs.Ytlgdibeklelfgaa.PAll

/- Movers for what a walk carries: a row of intervals of the call's own, the visitor's state. -/
namespace Go.Proofs.Ytlgdibeklelfgaa.PAll
open Go.RowKit Go.Proofs.YtlgdibeklelfgaaW.PrintWords Go.Proofs.YtlgdibeklelfgaaW.PrintLast Go.Proofs.YtlgdibeklelfgaaW.PrintMore
set_option linter.unusedVariables false
set_option linter.unusedSimpArgs false
/-- Block g holds cells of type t. -/
def IsT (w : World) (g t : Nat) : Prop := ∃ cells, w.heap[g]? = some (.cells cells t (0, 0))
theorem IsT.set {w : World} {g t : Nat} {p : Addr} {u : Value} (h : IsT w g t) : IsT (w.setCell p u) g t := by
  obtain ⟨cells, h⟩ := h
  by_cases e : g = p.block
  · subst e
    by_cases hs : p.spot.isSome = true
    · exact ⟨cells, by simp [World.setCell, Array.getElem?_modify, h, hs]⟩
    · exact ⟨cells.setIfInBounds p.off u, by simp [World.setCell, Array.getElem?_modify, h, hs]⟩
  · exact ⟨cells, blk_far h e u⟩
theorem IsT.drewN {w : World} {g t : Nat} (h : IsT w g t) (n : Nat) : IsT (w.drewN n) g t := h
theorem IsT.drew {w : World} {g t : Nat} (h : IsT w g t) : IsT w.drew g t := h
theorem IsT.alloc {w : World} {g t : Nat} (h : IsT w g t) (o : Obj) : IsT (w.alloc o) g t := by
  obtain ⟨cells, h⟩ := h
  exact ⟨cells, blk_alloc h o⟩
theorem IsT.below {w w' : World} {g t : Nat} (h : IsT w g t) (hb : Below w.heap.size w w') : IsT w' g t := by
  obtain ⟨cells, h⟩ := h
  exact ⟨cells, blk_below h hb⟩
theorem IsT.ne {w : World} {g g' t t' : Nat} (h : IsT w g t) (h' : IsT w g' t') (hne : t ≠ t') : g ≠ g' := by
  obtain ⟨c, h⟩ := h
  obtain ⟨c', h'⟩ := h'
  exact blk_ne h h' hne
/-- A row of the call's own: made from block B on. -/
def RV (B : Nat) (v : Value) (R : List S53) (w : World) : Prop := Kd.R k53 53 w B (fun _ => True) v R
section
variable {B : Nat} {v : Value} {R : List S53} {w w' : World}
theorem RV.nil (B : Nat) (w : World) : RV B (.slice none 0 0) [] w := Kd.R_nil _ _ _ _ _
theorem RV.below (h : RV B v R w) (hb : Below w.heap.size w w') : RV B v R w' := Kd.R_below h hb
theorem RV.drewN (h : RV B v R w) (n : Nat) : RV B v R (w.drewN n) := Kd.R_below h (pw_below_drewN (Below.refl _ _) n)
theorem RV.drew (h : RV B v R w) : RV B v R w.drew := Kd.R_below h (below_drew1 (Below.refl _ _))
theorem RV.alloc (h : RV B v R w) (o : Obj) : RV B v R (w.alloc o) := Kd.R_below h (below_alloc (Below.refl _ _) o)
theorem RV.set {g j t : Nat} {u : Value} (ht : t ≠ 53) (hT : IsT w g t) (h : RV B v R w) : RV B v R (w.setCell ⟨g, j, none⟩ u) := by
  obtain ⟨cells, hT⟩ := hT
  exact Kd.R_set h hT (fun q hq => by
    have : q = 53 := by simpa [k53, Kd.iso, Kd.pair, Kd.int, Kd.scalar] using hq
    omega) j u
theorem RV.set80 {g j : Nat} {u : Value} (hT : IsT w g 80) (h : RV B v R w) : RV B v R (w.setCell ⟨g, j, none⟩ u) := h.set (by decide) hT
theorem RV.only {b t : Nat} (hO : Only b w w') (ht : t ≠ 53) (hT : IsT w b t) (h : RV B v R w) : RV B v R w' := by
  obtain ⟨cells, hT⟩ := hT
  exact Kd.R_mono (Kd.R_step (Kd.R_types h hT (fun q hq => by
    have : q = 53 := by simpa [k53, Kd.iso, Kd.pair, Kd.int, Kd.scalar] using hq
    omega)) (fun k hk hlt => hO.block k hlt hk.2)) (fun _ hk => hk.1)
theorem RV.ne {g t : Nat} (h : RV B v R w) (hT : IsT w g t) (ht : 53 ≠ t) : some g ≠ v.ownBlock := by
  obtain ⟨cells, hT⟩ := hT
  exact Kd.R_ne h hT ht
end
section
variable {l1 l2 : List S53} {A1 A2 : Option Addr} {c1 c2 pb : Nat} {L : List (Iv.I × Bool)} {w w' : World}
theorem PV.isT (h : PV l1 l2 A1 A2 c1 c2 pb L w) : IsT w pb 82 := by
  obtain ⟨i, j, hi, hj, hL, hb⟩ := h
  exact ⟨_, hb⟩
theorem PV.only {b : Nat} (hO : Only b w w') (hne : pb ≠ b) (h : PV l1 l2 A1 A2 c1 c2 pb L w) : PV l1 l2 A1 A2 c1 c2 pb L w' := h.same (hO.block pb h.lt hne)
theorem PV.grown {row : Option Nat} (hg : w.grownBy w' row) (hne : some pb ≠ row) (h : PV l1 l2 A1 A2 c1 c2 pb L w) : PV l1 l2 A1 A2 c1 c2 pb L w' := h.same (hg.block pb h.lt hne)
end
theorem imin_f (a b : Int) : intervals_imin.f a b = some (min a b) := by unfold intervals_imin.f; split <;> (congr 1; omega)
theorem imax_f (a b : Int) : intervals_imax.f a b = some (max a b) := by unfold intervals_imax.f; split <;> (congr 1; omega)
end Go.Proofs.Ytlgdibeklelfgaa.PAll
