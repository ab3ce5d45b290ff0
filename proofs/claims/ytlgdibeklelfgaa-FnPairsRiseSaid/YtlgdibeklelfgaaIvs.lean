
/- The plain law of intervals: what combining, overlapping and building come to on lists of pairs. Plain Lean: no program, no memory. -/
set_option linter.unusedVariables false
namespace Go.Proofs.Ytlgdibeklelfgaa.Iv

/-- An interval: its first place, and the place behind its last one. -/
abbrev I := Int × Int
def ov (a b : I) : Bool := decide (min a.2 b.2 - max a.1 b.1 > 0)
def adj (a b : I) : Bool := decide (a.2 = b.1) || decide (b.2 = a.1)
def has (a : I) (x : Int) : Bool := decide (a.1 ≤ x) && decide (x < a.2)
def shas (l : List I) (x : Int) : Bool := l.any fun a => has a x
def some' (a : I) : Prop := a.1 < a.2 ∧ -2305843009213693952 ≤ a.1 ∧ a.2 ≤ 2305843009213693952
/-- In order, with a place between two of them at least. -/
inductive Apart : List I → Prop
  | nil : Apart []
  | one (a : I) : some' a → Apart [a]
  | cons (a b : I) (l : List I) : some' a → a.2 < b.1 → Apart (b :: l) → Apart (a :: b :: l)

def mrg (a b : I) : I := (min a.1 b.1, max a.2 b.2)

/-- The visitor's walk through both: the intervals in turn, and of which of the two each is. -/
def walk : List I → List I → List (I × Bool)
  | [], bs => bs.map fun b => (b, true)
  | a :: as, [] => (a :: as).map fun a => (a, false)
  | a :: as, b :: bs => if a.1 ≤ b.1 then (a, false) :: walk as (b :: bs) else (b, true) :: walk (a :: as) bs
termination_by as bs => as.length + bs.length

/-- The combination of what is left of the walk with the interval that is open. -/
def fold (c : I) : List I → List I
  | [] => [c]
  | s :: l => if !ov c s && !adj c s then c :: fold s l else fold (mrg c s) l

def merge (a b : List I) : List I :=
  match a, b with
  | [], b => b
  | a, [] => a
  | a, b => match (walk a b).map (·.1) with
    | [] => []
    | c :: l => fold c l

/-- Two neighbours of the walk, of different sequences, that overlap. -/
def clash (f : I × Bool) : List (I × Bool) → Bool
  | [] => false
  | s :: l => if f.2 == s.2 then clash s l else if ov f.1 s.1 then true else clash s l

theorem mrg_has {a b : I} (ha : a.1 < a.2) (hb : b.1 < b.2) (h : (!ov a b && !adj a b) = false) (x : Int) : has (mrg a b) x = (has a x || has b x) := by
  have h' : min a.2 b.2 - max a.1 b.1 > 0 ∨ a.2 = b.1 ∨ b.2 = a.1 := by
    rcases Bool.and_eq_false_iff.1 h with h | h
    · exact .inl (by simpa only [ov, Bool.not_eq_false', decide_eq_true_eq] using h)
    · refine .inr ?_
      simpa only [adj, Bool.not_eq_false', Bool.or_eq_true, decide_eq_true_eq] using h
  simp only [has, mrg]
  rw [Bool.eq_iff_iff]
  simp only [Bool.and_eq_true, Bool.or_eq_true, decide_eq_true_eq]
  by_cases e1 : a.1 ≤ b.1 <;> by_cases e2 : a.2 ≤ b.2 <;> simp only [Int.min_def, Int.max_def, e1, e2, if_true, if_false, decide_eq_true_eq] at h' ⊢ <;> omega

theorem fold_has (l : List I) : ∀ (c : I), c.1 < c.2 → (∀ s ∈ l, s.1 < s.2) → ∀ x, shas (fold c l) x = (has c x || shas l x) := by
  induction l with
  | nil => intro c _ _ x; simp [fold, shas]
  | cons s l ih =>
    intro c hc hl x
    have hs := hl s (by simp)
    have hl' : ∀ s ∈ l, s.1 < s.2 := fun t ht => hl t (by simp [ht])
    unfold fold
    split
    · have := ih s hs hl' x
      simp only [shas, List.any_cons] at *
      rw [this]
    · rename_i h
      rw [ih (mrg c s) (by simp only [mrg]; omega) hl' x, mrg_has hc hs (by simpa using h) x]
      simp only [shas, List.any_cons, Bool.or_assoc]

theorem walk_any (p : I → Bool) : ∀ (a b : List I), ((walk a b).map (·.1)).any p = (a.any p || b.any p) := by
  intro a b
  fun_induction walk a b with
  | case1 bs => simp [List.map_map, Function.comp_def]
  | case2 a as => simp [List.map_map, Function.comp_def]
  | case3 a as b bs h ih => simp only [List.map_cons, List.any_cons, ih, Bool.or_assoc]
  | case4 a as b bs h ih =>
    simp only [List.map_cons, List.any_cons, ih]
    cases p a <;> cases p b <;> cases as.any p <;> cases bs.any p <;> rfl
theorem walk_all (p : I → Prop) (a b : List I) (ha : ∀ s ∈ a, p s) (hb : ∀ s ∈ b, p s) : ∀ s ∈ (walk a b).map (·.1), p s := by
  fun_induction walk a b with
  | case1 bs => simpa [List.map_map, Function.comp_def] using hb
  | case2 a as => simpa [List.map_map, Function.comp_def] using ha
  | case3 a as b bs h ih =>
    simp only [List.map_cons, List.mem_cons] at *
    intro s hs
    rcases hs with rfl | hs
    · exact ha _ (.inl rfl)
    · exact ih (fun s h => ha s (.inr h)) hb s hs
  | case4 a as b bs h ih =>
    simp only [List.map_cons, List.mem_cons] at *
    intro s hs
    rcases hs with rfl | hs
    · exact hb _ (.inl rfl)
    · exact ih ha (fun s h => hb s (.inr h)) s hs

theorem Apart.all {l : List I} (h : Apart l) : ∀ s ∈ l, some' s := by
  induction h with
  | nil => simp
  | one a h => simpa using h
  | cons a b l h _ _ ih => intro s hs; exact (List.mem_cons.1 hs).elim (fun e => e ▸ h) (ih s)
theorem Apart.tail {a : I} {l : List I} (h : Apart (a :: l)) : Apart l := by
  cases h with
  | one => exact .nil
  | cons _ b l _ _ h => exact h
theorem Apart.head {a : I} {l : List I} (h : Apart (a :: l)) : some' a := h.all a (by simp)
theorem Apart.rest {a : I} {l : List I} (h : Apart (a :: l)) : ∀ s ∈ l, a.2 < s.1 := by
  induction l generalizing a with
  | nil => simp
  | cons b l ih =>
    cases h with
    | cons _ _ _ ha hab h =>
      intro s hs
      rcases List.mem_cons.1 hs with rfl | hs
      · exact hab
      · have := ih h s hs; have := h.head.1; omega

/-- A place is in the combination exactly if it is in one of both. -/
theorem merge_has (a b : List I) (ha : ∀ s ∈ a, s.1 < s.2) (hb : ∀ s ∈ b, s.1 < s.2) (x : Int) : shas (merge a b) x = (shas a x || shas b x) := by
  match a, b with
  | [], b => simp [merge, shas]
  | a :: as, [] => simp [merge, shas]
  | a :: as, b :: bs =>
    have h1 := walk_any (fun s => has s x) (a :: as) (b :: bs)
    have h2 := walk_all (fun s => s.1 < s.2) (a :: as) (b :: bs) ha hb
    simp only [merge]
    split
    · rename_i e
      rw [e] at h1
      simp only [shas, List.any_nil] at *
      exact h1
    · rename_i c l e
      rw [e] at h1 h2
      rw [fold_has l c (h2 c (by simp)) (fun s hs => h2 s (by simp [hs])) x]
      simp only [shas] at *
      rw [← h1]; simp

/-- In order of the starts. -/
def Rising : List I → Prop
  | [] => True
  | [_] => True
  | a :: b :: l => a.1 ≤ b.1 ∧ Rising (b :: l)
theorem Apart.rising {l : List I} (h : Apart l) : Rising l := by
  induction h with
  | nil => trivial
  | one => trivial
  | cons a b l ha hab _ ih => exact ⟨by have := ha.1; omega, ih⟩
theorem rising_cons {c : I} {l : List I} (h : Rising l) (h0 : ∀ s, l.head? = some s → c.1 ≤ s.1) : Rising (c :: l) := by
  cases l with
  | nil => trivial
  | cons s l => exact ⟨h0 s rfl, h⟩
theorem Rising.tail {c : I} {l : List I} (h : Rising (c :: l)) : Rising l := by
  cases l with
  | nil => trivial
  | cons s l => exact h.2
theorem Rising.le {c : I} {l : List I} (h : Rising (c :: l)) : ∀ s ∈ l, c.1 ≤ s.1 := by
  induction l generalizing c with
  | nil => simp
  | cons b l ih =>
    intro s hs
    rcases List.mem_cons.1 hs with rfl | hs
    · exact h.1
    · have := ih h.2 s hs; have := h.1; omega
theorem walk_head (a b : List I) : ∀ s, ((walk a b).map (·.1)).head? = some s → (s ∈ a ∨ s ∈ b) := by
  intro s hs
  have : s ∈ (walk a b).map (·.1) := List.mem_of_head? hs
  exact walk_all (fun s => s ∈ a ∨ s ∈ b) a b (fun _ h => .inl h) (fun _ h => .inr h) s this
theorem walk_rising (a b : List I) (ha : Rising a) (hb : Rising b) : Rising ((walk a b).map (·.1)) := by
  fun_induction walk a b with
  | case1 bs => simpa [List.map_map, Function.comp_def] using hb
  | case2 a as => simpa [List.map_map, Function.comp_def] using ha
  | case3 a as b bs h ih =>
    simp only [List.map_cons]
    refine rising_cons (ih ha.tail hb) fun s hs => ?_
    rcases walk_head _ _ s hs with h1 | h1
    · exact ha.le s h1
    · rcases List.mem_cons.1 h1 with rfl | h1
      · exact h
      · have := hb.le s h1; omega
  | case4 a as b bs h ih =>
    simp only [List.map_cons]
    refine rising_cons (ih ha hb.tail) fun s hs => ?_
    rcases walk_head _ _ s hs with h1 | h1
    · rcases List.mem_cons.1 h1 with rfl | h1
      · omega
      · have := ha.le s h1; omega
    · exact hb.le s h1
theorem walk_length (a b : List I) : (walk a b).length = a.length + b.length := by
  fun_induction walk a b with
  | case1 bs => simp
  | case2 a as => simp
  | case3 a as b bs h ih => simp [ih]; omega
  | case4 a as b bs h ih => simp [ih]; omega

theorem fold_length (l : List I) : ∀ c, (fold c l).length ≤ l.length + 1 := by
  induction l with
  | nil => intro c; simp [fold]
  | cons s l ih => intro c; unfold fold; split <;> simp <;> have := ih s <;> have := ih (mrg c s) <;> omega
theorem fold_head (l : List I) : ∀ c, Rising (c :: l) → ∃ d r, fold c l = d :: r ∧ d.1 = c.1 := by
  induction l with
  | nil => intro c _; exact ⟨c, [], rfl, rfl⟩
  | cons s l ih =>
    intro c h
    unfold fold
    split
    · exact ⟨c, _, rfl, rfl⟩
    · have h1 := h.1
      obtain ⟨d, r, e, hd⟩ := ih (mrg c s) (rising_cons h.2.tail fun t ht => by have := h.2.le t (List.mem_of_head? ht); simp only [mrg]; omega)
      exact ⟨d, r, e, by rw [hd]; simp only [mrg]; omega⟩
theorem fold_apart (l : List I) : ∀ c, Rising (c :: l) → some' c → (∀ s ∈ l, some' s) → Apart (fold c l) := by
  induction l with
  | nil => intro c _ hc _; exact .one c hc
  | cons s l ih =>
    intro c h hc hl
    have hs := hl s (by simp)
    have h1 := h.1
    unfold fold
    split
    · rename_i hn
      obtain ⟨d, r, e, hd⟩ := fold_head l s h.2
      have h2 := ih s h.2 hs (fun t ht => hl t (by simp [ht]))
      rw [e] at h2 ⊢
      refine .cons c d r hc ?_ h2
      simp only [ov, adj] at hn
      simp at hn
      have := hc.1; have := hs.1
      omega
    · refine ih (mrg c s) (rising_cons h.2.tail fun t ht => ?_) ?_ (fun t ht => hl t (by simp [ht]))
      · have := h.2.le t (List.mem_of_head? ht); simp only [mrg]; omega
      · have := hc.1; have := hc.2; have := hs.1; have := hs.2
        simp only [some', mrg] at *; omega

/-- A combination is in order, with a place between two of them at least. -/
theorem merge_apart (a b : List I) (ha : Apart a) (hb : Apart b) : Apart (merge a b) := by
  match a, b with
  | [], b => simpa [merge] using hb
  | a :: as, [] => simpa [merge] using ha
  | a :: as, b :: bs =>
    have h1 := walk_rising _ _ ha.rising hb.rising
    have h2 := walk_all some' _ _ ha.all hb.all
    simp only [merge]
    split
    · exact .nil
    · rename_i c l e
      rw [e] at h1 h2
      exact fold_apart l c h1 (h2 c (by simp)) fun s hs => h2 s (by simp [hs])
theorem merge_length (a b : List I) : (merge a b).length ≤ a.length + b.length := by
  match a, b with
  | [], b => simp [merge]
  | a :: as, [] => simp [merge]
  | a :: as, b :: bs =>
    have h1 := walk_length (a :: as) (b :: bs)
    simp only [merge]
    split
    · simp
    · rename_i c l e
      have h2 := fold_length l c
      have h3 : ((walk (a :: as) (b :: bs)).map (·.1)).length = l.length + 1 := by rw [e]; simp
      simp only [List.length_map] at h3
      omega

theorem walk_self_step (a : I) (as : List I) (h : Apart (a :: as)) : walk (a :: as) (a :: as) = (a, false) :: (a, true) :: walk as as := by
  rw [walk]
  simp only [Int.le_refl, if_true]
  cases as with
  | nil => simp [walk]
  | cons b bs =>
    rw [walk]
    have := h.rest b (by simp)
    have := h.head.1
    rw [if_neg (by omega)]
theorem merge_self (a : List I) (h : Apart a) : merge a a = a := by
  have key : ∀ (a : List I) (c : I), Apart (c :: a) → fold c ((c, true).1 :: (walk a a).map (·.1)) = c :: a := by
    intro a
    induction a with
    | nil =>
      intro c h
      have := h.head.1
      simp only [walk, List.map_nil]
      rw [fold]
      have e : (!ov c c && !adj c c) = false := by simp [ov]; intro; omega
      rw [e]
      simp [mrg, fold]
    | cons b bs ih =>
      intro c h
      have h1 := h.rest b (by simp)
      have hc := h.head.1
      have hb := h.tail.head.1
      have e : (!ov c c && !adj c c) = false := by simp [ov]; intro; omega
      have e2 : mrg c c = c := by simp [mrg]
      have e3 : (!ov c b && !adj c b) = true := by simp [ov, adj]; omega
      rw [walk_self_step b bs h.tail]
      simp only [List.map_cons]
      rw [fold, if_neg (by simp [e]), e2, fold, if_pos e3, ih b h.tail]
  match a, h with
  | [], _ => rfl
  | c :: l, h =>
    simp only [merge]
    rw [walk_self_step c l h]
    simp only [List.map_cons]
    exact key l c h

/-! Overlaps. -/
/-- Some two of both overlap. -/
def Meets (a b : List I) : Prop := ∃ s ∈ a, ∃ t ∈ b, ov s t = true
theorem ov_comm (a b : I) : ov a b = ov b a := by simp only [ov]; rw [Int.min_comm, Int.max_comm]
theorem ov_iff {a b : I} : ov a b = true ↔ max a.1 b.1 < min a.2 b.2 := by simp only [ov, decide_eq_true_eq]; omega
theorem meets_has {a b : List I} (ha : ∀ s ∈ a, s.1 < s.2) (hb : ∀ s ∈ b, s.1 < s.2) : Meets a b ↔ ∃ x, shas a x = true ∧ shas b x = true := by
  constructor
  · rintro ⟨s, hs, t, ht, h⟩
    rw [ov_iff] at h
    refine ⟨max s.1 t.1, ?_, ?_⟩ <;> simp only [shas, List.any_eq_true, has, Bool.and_eq_true, decide_eq_true_eq]
    · exact ⟨s, hs, by omega⟩
    · exact ⟨t, ht, by omega⟩
  · rintro ⟨x, h1, h2⟩
    simp only [shas, List.any_eq_true, has] at h1 h2
    obtain ⟨s, hs, h1⟩ := h1
    obtain ⟨t, ht, h2⟩ := h2
    simp at h1 h2
    exact ⟨s, hs, t, ht, by rw [ov_iff]; omega⟩

theorem clash_true {f s : I × Bool} {l : List (I × Bool)} (h : clash s l = true) : clash f (s :: l) = true := by
  unfold clash; split; exact h; split; rfl; exact h
theorem walk_mem (a b : List I) : ∀ p ∈ walk a b, (p.2 = false → p.1 ∈ a) ∧ (p.2 = true → p.1 ∈ b) := by
  fun_induction walk a b with
  | case1 bs => intro p hp; obtain ⟨s, hs, rfl⟩ := List.mem_map.1 hp; simp [hs]
  | case2 a as => intro p hp; obtain ⟨s, hs, rfl⟩ := List.mem_map.1 hp; simpa using List.mem_cons.1 hs
  | case3 a as b bs h ih =>
    intro p hp
    rcases List.mem_cons.1 hp with rfl | hp
    · simp
    · have := ih p hp; exact ⟨fun e => List.mem_cons_of_mem _ (this.1 e), this.2⟩
  | case4 a as b bs h ih =>
    intro p hp
    rcases List.mem_cons.1 hp with rfl | hp
    · simp
    · have := ih p hp; exact ⟨this.1, fun e => List.mem_cons_of_mem _ (this.2 e)⟩
theorem clash_meets (a b : List I) (l : List (I × Bool)) : ∀ f : I × Bool, (∀ p ∈ f :: l, (p.2 = false → p.1 ∈ a) ∧ (p.2 = true → p.1 ∈ b)) → clash f l = true → Meets a b := by
  induction l with
  | nil => intro f _ h; simp [clash] at h
  | cons s l ih =>
    intro f hm h
    have hs : ∀ p ∈ s :: l, (p.2 = false → p.1 ∈ a) ∧ (p.2 = true → p.1 ∈ b) := fun p hp => hm p (List.mem_cons_of_mem _ hp)
    unfold clash at h
    split at h
    · exact ih s hs h
    · rename_i hne
      split at h
      · rename_i ho
        have h1 := hm f (by simp)
        have h2 := hm s (by simp)
        cases e1 : f.2 <;> cases e2 : s.2 <;> simp [e1, e2] at hne h1 h2
        · exact ⟨_, h1, _, h2, ho⟩
        · exact ⟨_, h2, _, h1, by rw [ov_comm]; exact ho⟩
      · exact ih s hs h
theorem walk_cons (a b : List I) (ha : a ≠ []) : ∃ f l, walk a b = f :: l := by
  match a, b with
  | a :: as, [] => exact ⟨_, _, by rw [walk]; rfl⟩
  | a :: as, b :: bs => rw [walk]; split <;> exact ⟨_, _, rfl⟩
theorem meets_clash (a b : List I) (ha : Apart a) (hb : Apart b) : Meets a b → ∀ f l, walk a b = f :: l → clash f l = true := by
  fun_induction walk a b with
  | case1 bs => rintro ⟨s, hs, _⟩; cases hs
  | case2 a as => rintro ⟨s, _, t, ht, _⟩; cases ht
  | case3 a as b bs h ih =>
    intro hm f l he
    injection he with he1 he2
    subst he1
    by_cases hM : Meets as (b :: bs)
    · have hM' := hM
      obtain ⟨s0, hs0, _⟩ := hM'
      obtain ⟨f', l', e⟩ := walk_cons as (b :: bs) (by intro e; subst e; cases hs0)
      rw [← he2, e]
      exact clash_true (ih ha.tail hb hM f' l' e)
    · obtain ⟨s, hs, t, ht, ho⟩ := hm
      rcases List.mem_cons.1 hs with rfl | hs
      · rw [ov_iff] at ho
        have h0 : b.1 ≤ t.1 := by rcases List.mem_cons.1 ht with rfl | ht; omega; exact hb.rising.le t ht
        have h1 := hb.head.1
        have h2 := ha.head.1
        have h3 : ov s b = true := by rw [ov_iff]; omega
        have h4 : ∃ l', walk as (b :: bs) = (b, true) :: l' := by
          cases as with
          | nil => rw [walk]; exact ⟨_, rfl⟩
          | cons a1 as =>
            have := ha.rest a1 (by simp)
            rw [walk, if_neg (by omega)]
            exact ⟨_, rfl⟩
        obtain ⟨l', e⟩ := h4
        rw [← he2, e]
        simp [clash, h3]
      · exact absurd ⟨s, hs, t, ht, ho⟩ hM
  | case4 a as b bs h ih =>
    intro hm f l he
    injection he with he1 he2
    subst he1
    by_cases hM : Meets (a :: as) bs
    · obtain ⟨f', l', e⟩ := walk_cons (a :: as) bs (by simp)
      rw [← he2, e]
      exact clash_true (ih ha hb.tail hM f' l' e)
    · obtain ⟨s, hs, t, ht, ho⟩ := hm
      rcases List.mem_cons.1 ht with rfl | ht
      · rw [ov_iff] at ho
        have h0 : a.1 ≤ s.1 := by rcases List.mem_cons.1 hs with rfl | hs; omega; exact ha.rising.le s hs
        have h1 := hb.head.1
        have h2 := ha.head.1
        have h3 : ov a t = true := by rw [ov_iff]; omega
        have h4 : ∃ l', walk (a :: as) bs = (a, false) :: l' := by
          cases bs with
          | nil => rw [walk]; exact ⟨_, rfl⟩
          | cons b1 bs =>
            have := hb.rest b1 (by simp)
            rw [walk, if_pos (by omega)]
            exact ⟨_, rfl⟩
        obtain ⟨l', e⟩ := h4
        rw [← he2, e, ov_comm] at *
        simp [clash, h3]
      · exact absurd ⟨s, hs, t, ht, ho⟩ hM
theorem clash_iff (a b : List I) (ha : Apart a) (hb : Apart b) (f : I × Bool) (l : List (I × Bool)) (h : walk a b = f :: l) : clash f l = true ↔ Meets a b :=
  ⟨fun hc => clash_meets a b l f (fun p hp => walk_mem a b p (by rw [h]; exact hp)) hc, fun hm => meets_clash a b ha hb hm f l h⟩

/-- The reference's way: of the second sequence, those that end ahead of an interval end ahead of all behind it. -/
def common : List I → List I → Bool
  | [], _ => false
  | s :: as, b => match b.dropWhile (fun t => decide (t.2 ≤ s.1)) with
    | [] => common as []
    | t :: bs => if max s.1 t.1 < min s.2 t.2 then true else common as (t :: bs)
theorem common_nil : ∀ a, common a [] = false := by
  intro a; induction a with
  | nil => rfl
  | cons s a ih => simp [common, ih]
theorem dropWhile_apart {l : List I} (h : Apart l) (p : I → Bool) : Apart (l.dropWhile p) := by
  induction l with
  | nil => exact h
  | cons a l ih => simp only [List.dropWhile_cons]; split; exact ih h.tail; exact h
theorem common_iff (a : List I) : ∀ b, Apart a → Apart b → (common a b = true ↔ Meets a b) := by
  induction a with
  | nil => intro b _ _; simp [common, Meets]
  | cons s as ih =>
    intro b ha hb
    have hs := ha.head.1
    have drop : Meets (s :: as) b ↔ Meets (s :: as) (b.dropWhile (fun t => decide (t.2 ≤ s.1))) := by
      constructor
      · rintro ⟨u, hu, t, ht, ho⟩
        refine ⟨u, hu, t, ?_, ho⟩
        rw [ov_iff] at ho
        have hu1 : s.1 ≤ u.1 := by rcases List.mem_cons.1 hu with rfl | hu; omega; exact ha.rising.le u hu
        rw [← List.takeWhile_append_dropWhile (p := fun t => decide (t.2 ≤ s.1)) (l := b)] at ht
        rcases List.mem_append.1 ht with ht | ht
        · have := List.all_eq_true.1 (List.all_takeWhile (p := fun t : I => decide (t.2 ≤ s.1)) (l := b)) t ht
          simp only [decide_eq_true_eq] at this
          omega
        · exact ht
      · rintro ⟨u, hu, t, ht, ho⟩
        exact ⟨u, hu, t, List.dropWhile_suffix _ |>.subset ht, ho⟩
    have hd := dropWhile_apart hb (fun t => decide (t.2 ≤ s.1))
    rw [drop]
    unfold common
    split
    · rename_i e
      rw [e, common_nil]
      simp [Meets]
    · rename_i t bs e
      rw [e] at hd ⊢
      have ht0 : s.1 < t.2 := by
        have h1 : (b.dropWhile (fun t => decide (t.2 ≤ s.1))).head? = some t := by rw [e]; rfl
        have h2 := List.head?_dropWhile_not (fun t : I => decide (t.2 ≤ s.1)) b
        rw [h1] at h2
        simp at h2
        omega
      split
      · rename_i hc
        exact ⟨fun _ => ⟨s, by simp, t, by simp, by rw [ov_iff]; exact hc⟩, fun _ => rfl⟩
      · rename_i hc
        rw [ih (t :: bs) ha.tail hd]
        constructor
        · rintro ⟨u, hu, v, hv, ho⟩; exact ⟨u, List.mem_cons_of_mem _ hu, v, hv, ho⟩
        · rintro ⟨u, hu, v, hv, ho⟩
          rcases List.mem_cons.1 hu with rfl | hu
          · rw [ov_iff] at ho
            have h0 : t.1 ≤ v.1 := by rcases List.mem_cons.1 hv with rfl | hv; omega; exact hd.rising.le v hv
            have := hd.head.1
            omega
          · exact ⟨u, hu, v, hv, ho⟩

/-- Nothing of two sequences meets if one ends ahead of the other's begin. -/
theorem Apart.last {l : List I} (h : Apart l) (z : I) : ∀ s ∈ l, s.2 ≤ (l.getLastD z).2 := by
  induction l generalizing z with
  | nil => simp
  | cons a l ih =>
    intro s hs
    cases l with
    | nil => simp at hs; subst hs; simp
    | cons b l =>
      have h1 := ih h.tail a
      rw [show (a :: b :: l).getLastD z = (b :: l).getLastD a from rfl]
      rcases List.mem_cons.1 hs with rfl | hs
      · have h2 := h.rest b (by simp)
        have h3 := h.tail.head.1
        have := h1 b (by simp)
        omega
      · exact h1 s hs
theorem not_meets {a b : List I} (ha : Apart a) (hb : Apart b) {za zb b0 : I} {bs : List I} (eb : b = b0 :: bs) (h : (a.getLastD za).2 ≤ b0.1) : ¬ Meets a b := by
  rintro ⟨s, hs, t, ht, ho⟩
  rw [ov_iff] at ho
  have h1 := ha.last za s hs
  have h2 : b0.1 ≤ t.1 := by subst eb; rcases List.mem_cons.1 ht with rfl | ht; omega; exact hb.rising.le t ht
  omega
theorem meets_comm (a b : List I) : Meets a b ↔ Meets b a := by
  constructor <;> (rintro ⟨s, hs, t, ht, h⟩; exact ⟨t, ht, s, hs, by rw [ov_comm]; exact h⟩)
theorem meets_merge (a b c : List I) (ha : Apart a) (hb : Apart b) (hc : Apart c) : Meets (merge a b) c ↔ Meets a c ∨ Meets b c := by
  have h1 : ∀ {l : List I}, Apart l → ∀ s ∈ l, s.1 < s.2 := fun h s hs => (h.all s hs).1
  rw [meets_has (h1 (merge_apart a b ha hb)) (h1 hc), meets_has (h1 ha) (h1 hc), meets_has (h1 hb) (h1 hc)]
  constructor
  · rintro ⟨x, hx, hy⟩
    rw [merge_has a b (h1 ha) (h1 hb)] at hx
    simp at hx
    rcases hx with hx | hx
    · exact .inl ⟨x, hx, hy⟩
    · exact .inr ⟨x, hx, hy⟩
  · rintro (⟨x, hx, hy⟩ | ⟨x, hx, hy⟩) <;> exact ⟨x, by rw [merge_has a b (h1 ha) (h1 hb)]; simp [hx], hy⟩
end Go.Proofs.Ytlgdibeklelfgaa.Iv

/- The plain law of what is built of uses and kills. Plain Lean: no program, no memory. -/
set_option linter.unusedVariables false
namespace Go.Proofs.Ytlgdibeklelfgaa.Iv

/-- An event: its place, and whether it is a kill. -/
abbrev E := Int × Bool
/-- Each at a lesser place than the one before. -/
def Down : List E → Prop
  | [] => True
  | [_] => True
  | a :: b :: l => b.1 < a.1 ∧ Down (b :: l)
theorem Down.tail {a : E} {l : List E} (h : Down (a :: l)) : Down l := by
  cases l with
  | nil => trivial
  | cons b l => exact h.2

/-- The lifetimes, the least one first; the one that is open, if there is one, comes with it. -/
def lv : Option I → List E → List I
  | none, [] => []
  | some s, [] => [s]
  | none, e :: r => if e.2 then lv none r else lv (some (e.1, e.1 + 1)) r
  | some s, e :: r => if e.2 then lv none r ++ [(e.1 + 1, s.2)] else lv (some (e.1, s.2)) r

/-- Whether something is live at a place. -/
def lvp : List E → Int → Bool
  | [], _ => false
  | [e], x => !e.2 && decide (e.1 = x)
  | e :: f :: r, x => if x ≤ f.1 then lvp (f :: r) x else decide (x ≤ e.1) && !e.2

theorem lvp_above {e : E} {r : List E} (h : Down (e :: r)) {x : Int} (hx : e.1 < x) : lvp (e :: r) x = false := by
  cases r with
  | nil => simp only [lvp]; simp; intro; omega
  | cons f r => have := h.1; rw [lvp, if_neg (by omega)]; simp; omega
theorem lvp_at {e : E} {r : List E} (h : Down (e :: r)) (he : e.2 = false) : lvp (e :: r) e.1 = true := by
  cases r with
  | nil => simp [lvp, he]
  | cons f r => have := h.1; rw [lvp, if_neg (by omega)]; simp [he]
theorem lvp_kill {e : E} {r : List E} (h : Down (e :: r)) (he : e.2 = true) {x : Int} : lvp (e :: r) x = lvp r x := by
  cases r with
  | nil => simp [lvp, he]
  | cons f r =>
    rw [lvp]
    split
    · rfl
    · rw [lvp_above h.2 (by omega)]; simp [he]

theorem shas_append (a b : List I) (x : Int) : shas (a ++ b) x = (shas a x || shas b x) := by simp [shas]
theorem lv_places (l : List E) : Down l → (∀ x, shas (lv none l) x = lvp l x) ∧
    ∀ s : I, s.1 < s.2 → Down ((s.1, false) :: l) → ∀ x, shas (lv (some s) l) x = if s.1 ≤ x then decide (x < s.2) else lvp ((s.1, false) :: l) x := by
  induction l with
  | nil =>
    intro _
    refine ⟨fun x => rfl, fun s hs _ x => ?_⟩
    simp only [lv, shas, lvp, List.any_cons, List.any_nil, has, Bool.or_false]
    by_cases h : s.1 ≤ x
    · simp [h]
    · simp [h]; omega
  | cons e r ih =>
    intro hd
    obtain ⟨ih0, ih1⟩ := ih hd.tail
    constructor
    · intro x
      rw [lv]
      cases he : e.2 with
      | true => simp only [if_true]; rw [ih0, lvp_kill hd he]
      | false =>
        have e' : e = (e.1, false) := by rw [← he]
        simp only [Bool.false_eq_true, if_false]
        rw [ih1 (e.1, e.1 + 1) (by simp; omega) (by rw [← e']; exact hd) x]
        simp only
        split
        · by_cases hx : x = e.1
          · subst hx; rw [lvp_at hd he]; simp; omega
          · rw [lvp_above hd (by omega)]; simp; omega
        · rw [← e']
    · intro s hs hd2 x
      have h1 : e.1 < s.1 := hd2.1
      rw [lv]
      cases he : e.2 with
      | true =>
        simp only [if_true]
        rw [shas_append, ih0, lvp, ← lvp_kill hd he]
        simp only [shas, List.any_cons, List.any_nil, has, Bool.or_false]
        by_cases hx : e.1 < x
        · rw [lvp_above hd hx]
          by_cases h2 : s.1 ≤ x
          · simp [h2]; omega
          · simp [h2, show ¬ x ≤ e.1 by omega]; rw [decide_eq_true (show e.1 + 1 ≤ x by omega), decide_eq_true (show x < s.2 by omega), decide_eq_true (show x ≤ s.1 by omega)]; rfl
        · simp [show ¬ s.1 ≤ x by omega, show x ≤ e.1 by omega]; omega
      | false =>
        have e' : e = (e.1, false) := by rw [← he]
        simp only [Bool.false_eq_true, if_false]
        rw [ih1 (e.1, s.2) (by simp only; omega) (by rw [← e']; exact hd) x, lvp]
        simp only
        by_cases h2 : s.1 ≤ x
        · simp [h2, show e.1 ≤ x by omega]
        · by_cases h3 : e.1 < x
          · simp [h2, show e.1 ≤ x by omega, show ¬ x ≤ e.1 by omega]; omega
          · by_cases h4 : x = e.1
            · subst h4; simp [h2, lvp_at hd he]; omega
            · simp [h2, show x ≤ e.1 by omega, show ¬ e.1 ≤ x by omega, ← e']

/-- What is built ends at the place behind the open one's, or behind the first event. -/
theorem lv_apart (l : List E) : Down l → (∀ e ∈ l, 0 ≤ e.1 ∧ e.1 ≤ 1099511627776) → (Apart (lv none l) ∧ ∀ e r, l = e :: r → ∀ s ∈ lv none l, s.2 ≤ e.1 + 1) ∧
    ∀ s : I, s.1 < s.2 → Down ((s.1, false) :: l) → 0 ≤ s.1 → s.2 ≤ 1099511627777 → Apart (lv (some s) l) ∧ (∀ t ∈ lv (some s) l, t.2 ≤ s.2) := by
  induction l with
  | nil =>
    intro _ _
    refine ⟨⟨.nil, by simp⟩, fun s hs _ h0 h1 => ⟨.one s ⟨hs, by omega, by omega⟩, by simp [lv]⟩⟩
  | cons e r ih =>
    intro hd hb
    have hb0 := hb e (by simp)
    obtain ⟨⟨ih0, ih2⟩, ih1⟩ := ih hd.tail (fun f hf => hb f (by simp [hf]))
    have low : ∀ s ∈ lv none r, s.2 ≤ e.1 := by
      cases r with
      | nil => simp [lv]
      | cons f r => intro s hs; have := ih2 f r rfl s hs; have := hd.1; omega
    refine ⟨?_, ?_⟩
    · rw [lv]
      cases he : e.2 with
      | true =>
        simp only [if_true]
        refine ⟨ih0, fun e' r' h s hs => ?_⟩
        injection h with h1 h2
        have := low s hs
        rw [← h1]; omega
      | false =>
        have e' : e = (e.1, false) := by rw [← he]
        simp only [Bool.false_eq_true, if_false]
        have := ih1 (e.1, e.1 + 1) (by simp only; omega) (by rw [← e']; exact hd) hb0.1 (by simp only; omega)
        refine ⟨this.1, fun e1 r1 h s hs => ?_⟩
        injection h with h1 h2
        rw [← h1]
        exact this.2 s hs
    · intro s hs hd2 h0 h1
      have h2 : e.1 < s.1 := hd2.1
      rw [lv]
      cases he : e.2 with
      | true =>
        simp only [if_true]
        refine ⟨?_, fun t ht => ?_⟩
        · have app : ∀ l : List I, Apart l → (∀ t ∈ l, t.2 ≤ e.1) → Apart (l ++ [(e.1 + 1, s.2)]) := by
            intro l hl
            induction hl with
            | nil => intro _; exact .one _ ⟨by simp only; omega, by simp only; omega, by simp only; omega⟩
            | one a ha => intro h; exact .cons a _ [] ha (by have := h a (by simp); simp only; omega) (.one _ ⟨by simp only; omega, by simp only; omega, by simp only; omega⟩)
            | cons a b l ha hab _ ih => intro h; exact .cons a b _ ha hab (ih fun t ht => h t (by simp only [List.mem_cons] at ht ⊢; exact .inr ht))
          exact app _ ih0 low
        · rcases List.mem_append.1 ht with ht | ht
          · have := low t ht; omega
          · simp only [List.mem_singleton] at ht; subst ht; simp
      | false =>
        have e' : e = (e.1, false) := by rw [← he]
        simp only [Bool.false_eq_true, if_false]
        exact ih1 (e.1, s.2) (by simp only; omega) (by rw [← e']; exact hd) hb0.1 h1

/-- The reference's intervals. -/
def spans : List E → List I
  | [] => []
  | e :: r => if e.2 then spans r else
    let f := match r with | [] => e.1 | g :: _ => g.1 + 1
    match (spans r).getLast? with
    | some t => if t.2 = f then (spans r).dropLast ++ [(t.1, e.1 + 1)] else spans r ++ [(f, e.1 + 1)]
    | none => [(f, e.1 + 1)]
/-- An open interval is the last one, and its end may be any. -/
theorem lv_open (l : List E) : ∀ st en, ∃ m b, lv (some (st, en)) l = m ++ [(b, en)] ∧ ∀ en', lv (some (st, en')) l = m ++ [(b, en')] := by
  induction l with
  | nil => intro st en; exact ⟨[], st, rfl, fun _ => rfl⟩
  | cons e r ih =>
    intro st en
    cases he : e.2 with
    | true => exact ⟨lv none r, e.1 + 1, by simp [lv, he], fun _ => by simp [lv, he]⟩
    | false =>
      obtain ⟨m, b, h1, h2⟩ := ih e.1 en
      exact ⟨m, b, by simp [lv, he, h1], fun en' => by simp [lv, he, h2 en']⟩
theorem spans_eq (l : List E) (hd : Down l) (hb : ∀ e ∈ l, 0 ≤ e.1 ∧ e.1 ≤ 1099511627776) : spans l = lv none l := by
  induction l with
  | nil => rfl
  | cons e r ih =>
    have ih := ih hd.tail (fun f hf => hb f (by simp [hf]))
    have hA := (lv_apart r hd.tail (fun f hf => hb f (by simp [hf]))).1.2
    rw [show spans (e :: r) = _ from spans.eq_def _, lv]
    simp only
    cases he : e.2 with
    | true => simpa using ih
    | false =>
      simp only [Bool.false_eq_true, if_false]
      rw [ih]
      cases r with
      | nil => simp [lv]
      | cons f r =>
        have hf := hd.1
        cases hk : f.2 with
        | true =>
          have e1 : lv none (f :: r) = lv none r := by simp [lv, hk]
          have e2 : lv (some (e.1, e.1 + 1)) (f :: r) = lv none r ++ [(f.1 + 1, e.1 + 1)] := by simp [lv, hk]
          rw [e2, e1]
          cases hl : (lv none r).getLast? with
          | none => simp only; rw [List.getLast?_eq_none_iff.1 hl]; rfl
          | some t =>
            simp only
            have ht : t ∈ lv none r := List.mem_of_getLast? hl
            have : t.2 ≤ f.1 := by
              cases r with
              | nil => simp [lv] at ht
              | cons g r =>
                have h1 := (lv_apart (g :: r) hd.tail.tail (fun f hf => hb f (by simp [hf]))).1.2 g r rfl t ht
                have h2 := hd.tail.1
                omega
            rw [if_neg (by omega)]
        | false =>
          have e1 : lv none (f :: r) = lv (some (f.1, f.1 + 1)) r := by simp [lv, hk]
          have e2 : lv (some (e.1, e.1 + 1)) (f :: r) = lv (some (f.1, e.1 + 1)) r := by simp [lv, hk]
          obtain ⟨m, b, h1, h2⟩ := lv_open r f.1 (f.1 + 1)
          rw [e2, e1, h1, h2 (e.1 + 1)]
          simp
/-- The builder's step by step: what it holds, in the order in which it appends, and the place behind the last event (0: nothing is live). -/
def step (s : List I × Int) (e : E) : List I × Int :=
  if e.2 then (if s.2 = 0 then s else (s.1.dropLast ++ [(e.1 + 1, (s.1.getLastD (0, 0)).2)], 0))
  else if s.2 = 0 then (s.1 ++ [(e.1, e.1 + 1)], e.1 + 1) else (s.1.dropLast ++ [(e.1, (s.1.getLastD (0, 0)).2)], e.1 + 1)
theorem steps_lv (l : List E) : ∀ (s : List I) (i : Int), (∀ e ∈ l, 0 ≤ e.1) →
    (i = 0 → (l.foldl step (s, i)).1.reverse = lv none l ++ s.reverse) ∧ (0 < i → ∀ m t, s = m ++ [t] → (l.foldl step (s, i)).1.reverse = lv (some t) l ++ m.reverse) := by
  induction l with
  | nil =>
    intro s i _
    refine ⟨fun _ => by simp [lv], fun _ m t h => by simp [lv, h]⟩
  | cons e r ih =>
    intro s i hb
    have he0 := hb e (by simp)
    have hr : ∀ e ∈ r, 0 ≤ e.1 := fun f hf => hb f (by simp [hf])
    refine ⟨fun hi => ?_, fun hi m t hs => ?_⟩
    · subst hi
      simp only [List.foldl_cons]
      cases he : e.2 with
      | true => simp only [step, he, if_true, lv]; exact (ih s 0 hr).1 rfl
      | false =>
        simp only [step, he, if_true, lv, Bool.false_eq_true, if_false]
        exact (ih _ (e.1 + 1) hr).2 (by omega) s _ rfl
    · simp only [List.foldl_cons]
      have hne : ¬ i = 0 := by omega
      cases he : e.2 with
      | true =>
        simp only [step, he, if_true, lv, if_neg hne]
        rw [(ih _ 0 hr).1 rfl, hs]
        simp
      | false =>
        simp only [step, he, lv, Bool.false_eq_true, if_false, if_neg hne]
        rw [(ih _ (e.1 + 1) hr).2 (by omega) m (e.1, t.2) (by rw [hs]; simp)]
theorem steps_all (l : List E) (hb : ∀ e ∈ l, 0 ≤ e.1) : (l.foldl step ([], 0)).1.reverse = lv none l := by
  simpa using (steps_lv l [] 0 hb).1 rfl
end Go.Proofs.Ytlgdibeklelfgaa.Iv
