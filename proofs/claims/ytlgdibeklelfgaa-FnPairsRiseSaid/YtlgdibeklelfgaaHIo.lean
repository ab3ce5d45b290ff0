/- impl.in and impl.out hand the list on; impl.Merge. -/
import Derived.Test.YtlgdibeklelfgaaPAllxB
import Derived.Test.YtlgdibeklelfgaaHMg2
namespace Go.Proofs.Ytlgdibeklelfgaa.PAll
open Go.RowKit Go.Proofs.YtlgdibeklelfgaaW.PrintWords Go.Proofs.YtlgdibeklelfgaaW.PrintLast Go.Proofs.YtlgdibeklelfgaaW.PrintMore
set_option linter.unusedVariables false
set_option linter.unusedSimpArgs false
theorem rd23_get (l : List S23) (i : Nat) (h : i < l.length) : rd_T23 l (i : Int) = l[i] := by simp [rd_T23, List.getD, h]
theorem rd53_get (l : List S53) (i : Nat) (h : i < l.length) : rd_T53 l (i : Int) = l[i] := by simp [rd_T53, List.getD, h]
theorem in_l (l : List S23) (hl : l.length ≤ 4294967296) : ∀ (k : Nat) (x : List S53) (i : Nat), i ≤ l.length → l.length - i < k → x.length = i → impl_in.l0 k x l (l.length : Int) (i : Int) = some (x ++ (l.drop i).map fun s => s53 (i23 s)) := by
  intro k
  induction k with
  | zero => intro x i hi hk _; omega
  | succ k ih =>
    intro x i hi hk hx
    rw [impl_in.l0]
    by_cases h : i < l.length
    · rw [if_pos (by omega), if_pos (by omega), if_pos (by omega), rd23_get l i h]
      simp only [intervals_NewInterval.f, Option.bind_some]
      rw [if_pos (by omega), IntWalk.wrap64_in _ (by omega), show ((i : Int) + 1) = ((i + 1 : Nat) : Int) by omega, ih _ (i + 1) (by omega) (by omega) (by simp; omega)]
      rw [List.drop_eq_getElem_cons h, List.map_cons, List.append_assoc]
      rfl
    · rw [if_neg (by omega), List.drop_eq_nil_of_le (by omega), List.map_nil, List.append_nil]
theorem in_f (l : List S23) (hl : l.length ≤ 4294967296) (k : Nat) (hk : l.length < k) : impl_in.f k l = some (l.map fun s => s53 (i23 s)) := by
  have := in_l l hl k [] 0 (by omega) (by omega) rfl
  rw [List.drop_zero, List.nil_append] at this
  exact this
theorem out_l (l : List S53) (hl : l.length ≤ 8796093022207) : ∀ (k : Nat) (x : List S23) (i : Nat), i ≤ l.length → l.length - i < k → x.length = i → impl_out.l0 k x l (l.length : Int) (i : Int) = some (x ++ (l.drop i).map fun s => s23 (i53 s)) := by
  intro k
  induction k with
  | zero => intro x i hi hk _; omega
  | succ k ih =>
    intro x i hi hk hx
    rw [impl_out.l0]
    by_cases h : i < l.length
    · rw [if_pos (by omega), if_pos (by omega), if_pos (by omega), rd53_get l i h]
      simp only [intervals_Interval_Bounds.f, Option.bind_some]
      rw [if_pos (by omega), IntWalk.wrap64_in _ (by omega), show ((i : Int) + 1) = ((i + 1 : Nat) : Int) by omega, ih _ (i + 1) (by omega) (by omega) (by simp; omega)]
      rw [List.drop_eq_getElem_cons h, List.map_cons, List.append_assoc]
      rfl
    · rw [if_neg (by omega), List.drop_eq_nil_of_le (by omega), List.map_nil, List.append_nil]
theorem out_f (l : List S53) (hl : l.length ≤ 8796093022207) (k : Nat) (hk : l.length < k) : impl_out.f k l = some (l.map fun s => s23 (i53 s)) := by
  have := out_l l hl k [] 0 (by omega) (by omega) rfl
  rw [List.drop_zero, List.nil_append] at this
  exact this

/-- What Merge hands back, read. -/
def GPost (w : World) (F : List Iv.I) (e : Ending) (w' : World) : Prop := ∃ (A : Option Addr) (c : Nat) (R : List S53), e = .returned (.slice A R.length c) ∧ R.length ≤ c ∧ Kd.C k53 w' A R.length R ∧ R.map i53 = F ∧ Below w.heap.size w w'
theorem merge_any (A1 : Option Addr) (c1 : Nat) (l1 : List S53) (A2 : Option Addr) (c2 : Nat) (l2 : List S53) (w : World) (hr1 : Kd.C k53 w A1 l1.length l1) (hc1 : l1.length ≤ c1) (hr2 : Kd.C k53 w A2 l2.length l2) (hc2 : l2.length ≤ c2)
    (hb1 : bnd (l1.map i53) = true) (hb2 : bnd (l2.map i53) = true) :
    Calls Try.prog 41 #[.slice A1 l1.length c1, .slice A2 l2.length c2] w (GPost w (Iv.merge (l1.map i53) (l2.map i53))) := by
  simp only [bnd, Bool.and_eq_true, decide_eq_true_eq, List.length_map] at hb1 hb2
  cases l1 with
  | nil =>
    refine (mg_e1 A1 c1 [] A2 c2 l2 w hr1 hr2 rfl).mono ?_
    rintro e w' ⟨rfl, hb⟩
    exact ⟨A2, c2, l2, rfl, hc2, Kd.C_below hr2 hb, by simp [Iv.merge], hb⟩
  | cons a xs =>
    cases l2 with
    | nil =>
      refine (mg_e2 A1 c1 (a :: xs) A2 c2 [] w hr1 hr2 (by simp) rfl).mono ?_
      rintro e w' ⟨rfl, hb⟩
      exact ⟨A1, c1, a :: xs, rfl, hc1, Kd.C_below hr1 hb, by simp [Iv.merge], hb⟩
    | cons b ys =>
      have hall := Iv.walk_all (fun s => sm s = true) ((a :: xs).map i53) ((b :: ys).map i53) (fun s hs => List.all_eq_true.1 hb1.2 s hs) (fun s hs => List.all_eq_true.1 hb2.2 s hs)
      have hlen := Iv.walk_length ((a :: xs).map i53) ((b :: ys).map i53)
      cases hw : Iv.walk ((a :: xs).map i53) ((b :: ys).map i53) with
      | nil => rw [hw] at hlen; simp at hlen
      | cons f L =>
        rw [hw] at hall hlen
        obtain ⟨⟨u, v⟩, d⟩ := f
        simp only [List.length_cons, List.length_map] at hlen hb1 hb2
        have hm : Iv.merge ((a :: xs).map i53) ((b :: ys).map i53) = Iv.fold (u, v) (L.map (·.1)) := by
          rw [show (a :: xs).map i53 = i53 a :: xs.map i53 from rfl, show (b :: ys).map i53 = i53 b :: ys.map i53 from rfl] at hw ⊢
          simp only [Iv.merge, hw, List.map_cons]
        rw [hm]
        refine (mg_main A1 c1 (a :: xs) A2 c2 (b :: ys) u v d L _ w hr1 hr2 (by simp) (by simp) hb1.1 hb2.1 hw (by omega) ⟨hall (u, v) (by simp), fun p hp => hall p.1 (List.mem_map_of_mem (List.mem_cons_of_mem _ hp))⟩ rfl).mono ?_
        rintro e w' ⟨v, R, rfl, hR, hF, hb⟩
        obtain ⟨A, c, rfl, hl, hC⟩ := Kd.R_reads hR
        exact ⟨A, c, R, rfl, hl, hC, hF, hb⟩
set_option maxHeartbeats 1000000 in
set_option maxRecDepth 100000 in
theorem impl_Merge.calls (A0 : Option Addr) (c0 : Nat) (l0 : List (S23)) (A1 : Option Addr) (c1 : Nat) (l1 : List (S23)) (r : List (S23)) (w : World) (hr0 : Kd.C k23 w A0 l0.length l0) (hc0 : l0.length ≤ c0) (hr1 : Kd.C k23 w A1 l1.length l1) (hc1 : l1.length ≤ c1) (h : impl_Merge.f l0 l1 = some r) :
    Calls Try.prog 25 #[.slice A0 l0.length c0, .slice A1 l1.length c1] w fun e w' => ∃ v0_ : Value, e = .returned (v0_) ∧ Kd.R k23 23 w' w.heap.size (fun _ => True) v0_ r ∧ Below w.heap.size w w' := by
  unfold impl_Merge.f at h
  split at h
  · rename_i hb
    obtain ⟨hb0, hb1⟩ := hb
    have hn0 := hb0
    have hn1 := hb1
    simp only [bnd, Bool.and_eq_true, decide_eq_true_eq, List.length_map] at hn0 hn1
    have hlen := Iv.merge_length (l0.map i23) (l1.map i23)
    simp only [List.length_map] at hlen
    obtain rfl := Option.some.inj h
    have e0 : (l0.map fun s => s53 (i23 s)).map i53 = l0.map i23 := by rw [List.map_map]; rfl
    have e1 : (l1.map fun s => s53 (i23 s)).map i53 = l1.map i23 := by rw [List.map_map]; rfl
    have HI0 := Aside0.mk (in_f l0 hn0.1 (l0.length + 1) (by omega))
    have HI1 := Aside0.mk (in_f l1 hn1.1 (l1.length + 1) (by omega))
    have HB0 : Aside0 (bnd ((l0.map fun s => s53 (i23 s)).map i53) = true) := ⟨by rw [e0]; exact hb0⟩
    have HB1 : Aside0 (bnd ((l1.map fun s => s53 (i23 s)).map i53) = true) := ⟨by rw [e1]; exact hb1⟩
    have HE := Aside0.mk (congr (congrArg Iv.merge e0) e1)
    have HR0 := Aside0.mk hr0
    have HR1 := Aside0.mk hr1
    have HC0 := Aside0.mk hc0
    have HC1 := Aside0.mk hc1
    have HN := Aside0.mk (And.intro hlen (And.intro hn0.1 hn1.1))
    generalize hy0 : (l0.map fun s => s53 (i23 s)) = y0 at HI0 HB0 HE
    generalize hy1 : (l1.map fun s => s53 (i23 s)) = y1 at HI1 HB1 HE
    have HF : Aside0 (∀ R : List S53, R.map i53 = Iv.merge (l0.map i23) (l1.map i23) → (R.map fun s => s23 (i53 s)) = (Iv.merge (l0.map i23) (l1.map i23)).map s23) := ⟨fun R hR => by rw [← hR, List.map_map]; rfl⟩
    generalize hF : Iv.merge (l0.map i23) (l1.map i23) = F at HE HN HF
    generalize hG : F.map s23 = G at HF ⊢
    clear hy0 hy1 hF hG hb0 hb1 hn0 hn1 hlen e0 e1 hr0 hr1 hc0 hc1 h
    have HB := Aside0.mk (Below.refl w.heap.size w)
    go_enter Try.func25, Try.ntmps25
    go_wp2_with (fail)
    go_at_call 36
    (with_reducible refine (impl_in.calls (l0.length + 1) A0 c0 l0 y0 _ HR0.out HC0.out HI0.out).mono ?_)
    rintro e w1 ⟨v0, rfl, hR, bel⟩
    obtain ⟨B0, d0, rfl, hd0, hC0⟩ := Kd.R_reads hR
    have HX0 := Aside0.mk hC0
    have HD0 := Aside0.mk hd0
    have n0_ := Aside0.mk (below_step HB.out bel)
    clear HB hR hC0 hd0
    have HB := n0_
    clear n0_ bel
    go_wp2_with (fail)
    go_at_call 36
    (with_reducible refine (impl_in.calls (l1.length + 1) A1 c1 l1 y1 _ (Kd.C_below HR1.out HB.out) HC1.out HI1.out).mono ?_)
    rintro e w2 ⟨v1, rfl, hR, bel⟩
    obtain ⟨B1, d1, rfl, hd1, hC1⟩ := Kd.R_reads hR
    have HX1 := Aside0.mk hC1
    have HD1 := Aside0.mk hd1
    have m0_ := Aside0.mk (Kd.C_below HX0.out bel)
    have n0_ := Aside0.mk (below_step HB.out bel)
    clear HB hR hC1 hd1 HX0
    have HB := n0_
    have HX0 := m0_
    clear n0_ bel m0_
    go_wp2_with (fail)
    go_at_call 41
    (with_reducible refine (merge_any B0 d0 y0 B1 d1 y1 _ HX0.out HD0.out HX1.out HD1.out HB0.out HB1.out).mono ?_)
    rintro e w3 ⟨B2, d2, R, rfl, hd2, hC2, hF, bel⟩
    have HX2 := Aside0.mk hC2
    have HD2 := Aside0.mk hd2
    have HFF := Aside0.mk (HF.out R (hF.trans HE.out))
    have hlR : R.length = F.length := by rw [← HE.out, ← hF, List.length_map]
    have HO := Aside0.mk (out_f R (by have := HN.out; omega) (R.length + 1) (by omega))
    have n0_ := Aside0.mk (below_step HB.out bel)
    clear HB hC2 hd2 hF hlR
    have HB := n0_
    clear n0_ bel
    go_wp2_with (fail)
    go_at_call 38
    (with_reducible refine (impl_out.calls (R.length + 1) B2 d2 R _ _ HX2.out HD2.out HO.out).mono ?_)
    rintro e w4 ⟨v4, rfl, hR, bel⟩
    have HR4 := Aside0.mk hR
    have n0_ := Aside0.mk (below_step HB.out bel)
    have HSZ := Aside0.mk HB.out.size
    clear HB hR
    have HB := n0_
    clear n0_ bel
    go_wp2_with (fail)
    go_ret
    exact ⟨_, by first | rfl | (simp; done), by rw [← HFF.out]; exact Kd.R_lower HR4.out HSZ.out, HB.out⟩
  · cases h
end Go.Proofs.Ytlgdibeklelfgaa.PAll
