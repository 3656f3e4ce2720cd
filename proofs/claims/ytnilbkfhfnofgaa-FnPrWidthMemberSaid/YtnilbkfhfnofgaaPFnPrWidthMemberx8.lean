/- Contracts of Go functions of this seat: a Lean function over numbers and lists for each, and a proof that the Go function returns what it gives. Made by program. -/
import Derived.Test.YtnilbkfhfnofgaaPFnPrWidthMemberx0
namespace Go.Proofs.Ytnilbkfhfnofgaa.PFnPrWidthMember
open Go.RowKit Go.Proofs.YtnilbkfhfnofgaaW.PrintWords Go.Proofs.YtnilbkfhfnofgaaW.PrintLast Go.Proofs.YtnilbkfhfnofgaaW.PrintMore
attribute [local go_sem] max2_int min2_int max_two min_two max_three min_three max_four min_four   -- for this text's walks alone
set_option linter.unusedVariables false
set_option linter.unusedSimpArgs false
/-! ### sLi: function 24 -/
mutual
def sLi.l0 : Nat → List Int → ByteArray → Int → Int → Int → Int → Int → List (S54) → List (S28) → Option (List Int)
  | 0, _, _, _, _, _, _, _, _, _ => none
  | k + 1, x0, x1, x24, x25, x321000, x321001, x321002, x321003, x321004 => if x25 < x24 then (if x25 > 0 then ((some (([44, 32] : List Int) : List Int)).bind fun y327 => (if x0.length + y327.length < 140737488355328 then (if 0 ≤ x25 then (if x25 < (x321004.length : Int) then ((sLi.f k (x0 ++ y327) x1 ((rd_T28 x321004 x25).f0) ((rd_T28 x321004 x25).f1) ((rd_T28 x321004 x25).f2) ((rd_T28 x321004 x25).f3) ((rd_T28 x321004 x25).f4)).bind fun t334 => (sLi.l0 k t334 x1 x24 (wrap64 (x25 + 1)) x321000 x321001 x321002 x321003 x321004)) else (none)) else (none)) else (none))) else (if 0 ≤ x25 then (if x25 < (x321004.length : Int) then ((sLi.f k x0 x1 ((rd_T28 x321004 x25).f0) ((rd_T28 x321004 x25).f1) ((rd_T28 x321004 x25).f2) ((rd_T28 x321004 x25).f3) ((rd_T28 x321004 x25).f4)).bind fun t338 => (sLi.l0 k t338 x1 x24 (wrap64 (x25 + 1)) x321000 x321001 x321002 x321003 x321004)) else (none)) else (none))) else (if x0.length < 140737488355328 then (some (x0 ++ [93])) else (none))
def sLi.f : Nat → List Int → ByteArray → Int → Int → Int → List (S54) → List (S28) → Option (List Int)
  | 0, _, _, _, _, _, _, _ => none
  | k + 1, l0, a1, a2_0, a2_1, a2_2, l2_3, l2_4 => if a2_0 = 5 then (if l0.length < 140737488355328 then (sLi.l0 k (l0 ++ [91]) a1 (l2_4.length : Int) 0 a2_0 a2_1 a2_2 l2_3 l2_4) else (none)) else (if 0 ≤ a2_1 then (if a2_1 ≤ a2_2 then (if a2_2 ≤ (a1.size : Int) then (if l0.length + (a1.extract (a2_1 : Int).toNat (a2_2 : Int).toNat).size < 140737488355328 then (some (l0 ++ bytesOf (a1.extract (a2_1 : Int).toNat (a2_2 : Int).toNat))) else (none)) else (none)) else (none)) else (none))
end
theorem sLi.mono_l : ∀ k, (∀ y0 y1 y2 y3 y4 y5 y6, LeO (sLi.f k y0 y1 y2 y3 y4 y5 y6) (sLi.f (k + 1) y0 y1 y2 y3 y4 y5 y6)) ∧ (∀ y0 y1 y2 y3 y4 y5 y6 y7 y8, LeO (sLi.l0 k y0 y1 y2 y3 y4 y5 y6 y7 y8) (sLi.l0 (k + 1) y0 y1 y2 y3 y4 y5 y6 y7 y8))
 | 0 => ⟨fun _ _ _ _ _ _ _ r h => by simp [sLi.f] at h, fun _ _ _ _ _ _ _ _ _ r h => by simp [sLi.l0] at h⟩
 | k + 1 => by
  obtain ⟨ih0, ih1⟩ := sLi.mono_l k
  refine ⟨?_, ?_⟩
  all_goals intros
  all_goals (first | unfold sLi.f | unfold sLi.l0)
  all_goals repeat' first | (with_reducible first | apply ih0 | apply ih1 | apply LeO.refl | apply LeO.none | refine LeO.ite ?_ ?_ | refine LeO.bind ?_ (fun _ => ?_)) | apply ih0 | apply ih1 | apply LeO.none | refine LeO.ite ?_ ?_ | refine LeO.bind ?_ (fun _ => ?_)
theorem sLi.mono : ∀ a0 a1 a2 a3 a4 a5 a6 k, LeO (sLi.f k a0 a1 a2 a3 a4 a5 a6) (sLi.f (k + 1) a0 a1 a2 a3 a4 a5 a6) := by
 intro a0 a1 a2 a3 a4 a5 a6 k
 obtain ⟨ih0, ih1⟩ := sLi.mono_l k
 exact ih0 a0 a1 a2 a3 a4 a5 a6
set_option maxHeartbeats 8000000 in
set_option maxRecDepth 100000 in
theorem sLi.calls (k : Nat) : ∀ (P0_ : Nat → Prop) (u9000_ : Value) (l0 : List Int) (a1 : ByteArray) (a2_0 : Int) (a2_1 : Int) (a2_2 : Int) (A2_3 : Option Addr) (c2_3 : Nat) (l2_3 : List (S54)) (A2_4 : Option Addr) (c2_4 : Nat) (l2_4 : List (S28)) (r : List Int) (w0 w : World) (hB : Below w0.heap.size w0 w) (ho0 : Kd.R (Kd.int .u8) 5 w w0.heap.size P0_ u9000_ l0) (hr2_3 : Kd.C k54 w0 A2_3 l2_3.length l2_3) (hc2_3 : l2_3.length ≤ c2_3) (hr2_4 : Kd.C k28 w0 A2_4 l2_4.length l2_4) (hc2_4 : l2_4.length ≤ c2_4) (h : sLi.f k l0 a1 a2_0 a2_1 a2_2 l2_3 l2_4 = some r),
  Calls Try.prog 24 #[u9000_, .string a1, .agg #[.int .i64 a2_0, .int .i64 a2_1, .int .i64 a2_2, .slice A2_3 l2_3.length c2_3, .slice A2_4 l2_4.length c2_4]] w fun e w' => ∃ v0_ : Value, e = .returned (v0_) ∧ Kd.R (Kd.int .u8) 5 w' w0.heap.size (fun k_ => (P0_ k_ ∨ w.heap.size ≤ k_)) v0_ r ∧ Below w0.heap.size w0 w' ∧ Kept w w' (fun k_ => P0_ k_) := by
 induction k using Nat.strongRecOn with
 | _ k ih =>
 intro P0_ u9000_ l0 a1 a2_0 a2_1 a2_2 A2_3 c2_3 l2_3 A2_4 c2_4 l2_4 r w0 w hB ho0 hr2_3 hc2_3 hr2_4 hc2_4 h
 cases k with
 | zero => exact absurd h (by simp [sLi.f])
 | succ k =>
 simp only [sLi.f] at h
 have hu28 := Try.underlying28
 have HO0 := a_ (show Kd.R (Kd.int .u8) 5 w w0.heap.size (fun k_ => (P0_ k_ ∨ w.heap.size ≤ k_)) u9000_ l0 from Kd.R_mono ho0 (fun k_ hk => (.inl hk)))
 have HR2_3 := a_ hr2_3
 have HC2_3 := a_ hc2_3
 clear hr2_3 hc2_3
 have HR2_4 := a_ hr2_4
 have HC2_4 := a_ hc2_4
 clear hr2_4 hc2_4
 have HK := a_ (Kept.refl w (fun k_ => P0_ k_))
 have HW0 := a_ hB.size
 have HB := a_ hB
 clear hB
 have H : (if a2_0 = 5 then (if l0.length < 140737488355328 then (sLi.l0 k (l0 ++ [91]) a1 (l2_4.length : Int) 0 a2_0 a2_1 a2_2 l2_3 l2_4) else (none)) else (if 0 ≤ a2_1 then (if a2_1 ≤ a2_2 then (if a2_2 ≤ (a1.size : Int) then (if l0.length + (a1.extract (a2_1 : Int).toNat (a2_2 : Int).toNat).size < 140737488355328 then (some (l0 ++ bytesOf (a1.extract (a2_1 : Int).toNat (a2_2 : Int).toNat))) else (none)) else (none)) else (none)) else (none))) = some r := h
 clear h
 by_cases c4 : a2_0 = 5
 rotate_left
 ·
  rw [if_neg c4] at H
  have c4b0 : (a2_0 == 5) = false := beq_eq_false_iff_ne.mpr c4
  have c4b1 : (a2_0 != 5) = true := bne_iff_ne.mpr c4
  by_cases c31 : 0 ≤ a2_1
  rotate_left
  ·
   rw [if_neg c31] at H
   exact absurd H (by simp)
  rw [if_pos c31] at H
  have c31b0 := eq_true c31
  have c31b1 : decide (0 ≤ a2_1) = true := decide_eq_true c31
  clear c31
  by_cases c32 : a2_1 ≤ a2_2
  rotate_left
  ·
   rw [if_neg c32] at H
   exact absurd H (by simp)
  rw [if_pos c32] at H
  have c32b0 := eq_true c32
  have c32b1 : decide (a2_1 ≤ a2_2) = true := decide_eq_true c32
  clear c32
  by_cases c33 : a2_2 ≤ (a1.size : Int)
  rotate_left
  ·
   rw [if_neg c33] at H
   exact absurd H (by simp)
  rw [if_pos c33] at H
  have c33b0 := eq_true c33
  have c33b1 : decide (a2_2 ≤ (a1.size : Int)) = true := decide_eq_true c33
  clear c33
  by_cases c34 : l0.length + (a1.extract (a2_1 : Int).toNat (a2_2 : Int).toNat).size < 140737488355328
  rotate_left
  ·
   rw [if_neg c34] at H
   exact absurd H (by simp)
  rw [if_pos c34] at H
  have LMc34 := a_ c34
  clear c34
  obtain ⟨y321, hy321⟩ : ∃ y_ : List Int, y_ = (l0 ++ bytesOf (a1.extract (a2_1 : Int).toNat (a2_2 : Int).toNat)) := ⟨_, rfl⟩
  replace H : (some y321) = some r := by first | exact lt_ H hy321 | (rw [hy321]; exact H) | exact H
  have Ny321 := a_ hy321
  clear hy321
  obtain rfl := Option.some.inj H
  go_enter Try.func24, Try.ntmps24
  go_wp2_with (first | ((with_reducible refine gate_dst (N := 5) rfl ?_); refine box_event ?hg (N := 5) ?hd (cs := #[.int .i64 a2_0, .int .i64 a2_1, .int .i64 a2_2, .slice A2_3 l2_3.length c2_3, .slice A2_4 l2_4.length c2_4]) (t := 28) ?hr ?_; (case hd => rfl); (case hg => rfl); (case hr => first | (go_simp; done) | (go_simp; rfl)); intro gb320 hg w35 hbox hb; replace HO0 := a_ (Kd.R_below (rp_ HO0) hb); have BK320 := a_ hbox; have GW320 := a_ ((by rw [hg]; exact (kz_ HK) : w.heap.size ≤ gb320)); replace HK := a_ (Kept.below (S := (fun k_ => P0_ k_)) (kp_ HK) hb); have GE320 := a_ ((by rw [hg]; exact (below_size (bl_ HB)) : w0.heap.size ≤ gb320)); replace HB := a_ (below_step (bl_ HB) hb); clear hb hbox hg; obtain ⟨hcz36_0, hcz36_1, hcz36_2, hcz36_3, hcz36_4, hfz36_0, hfz36_1, hfz36_2, hfz36_3, hfz36_4⟩ := b5_ BK320) | (at_builtin; refine Kd.R_append_str (w0 := w0) w0.heap.size rfl (.tmp 11) _ 40 9 5 rfl Try.underlying40 Try.underlying9 info5 u9000_ l0 (a1.extract (a2_1 : Int).toNat (a2_2 : Int).toNat) (fun k_ => (P0_ k_ ∨ w.heap.size ≤ k_)) rfl rfl ?aF ?aO ?aB ?aS ?aL ?_; (case aB => exact (bl_ HB)); (case aF => exact (ki_ (kz_ HK))); (case aO => exact (rp_ HO0)); (case aS => exact (below_size (bl_ HB))); (case aL => have := LMc34.out; omega); intro v322 w37 ho hb hg hat; rw [← Ny321.out] at ho; replace BK320 := a_ (blk_grown (g := gb320) (o := .cells #[.int .i64 a2_0, .int .i64 a2_1, .int .i64 a2_2, .slice A2_3 l2_3.length c2_3, .slice A2_4 l2_4.length c2_4] 28 (0, 0)) (bk_ BK320) hg (Kd.R_ne HO0.out BK320.out (by decide))); replace HB := a_ hb; replace HK := a_ (Kept.of_grown (S := (fun k_ => P0_ k_)) hg (kp_ HK) (fun k_ e_ => (HO0.out.1 k_ e_))); have HO323 := a_ ho; clear HO0; clear ho hb hg hat))
  go_ret
  exact ⟨_, by first | rfl | (simp [errW_none, errW_some] <;> rfl) | (simp [*, errW_none, errW_some] <;> rfl), rp_ HO323, bl_ HB, kp_ HK⟩
 rw [if_pos c4] at H
 have c4b0 : (a2_0 == 5) = true := beq_iff_eq.mpr c4
 have c4b1 : (a2_0 != 5) = false := bne_eq_false_iff_eq.mpr c4
 clear c4
 by_cases c5 : l0.length < 140737488355328
 rotate_left
 ·
  rw [if_neg c5] at H
  exact absurd H (by simp)
 rw [if_pos c5] at H
 have LMc5 := a_ c5
 clear c5
 obtain ⟨y324, hy324⟩ : ∃ y_ : List Int, y_ = (l0 ++ [91]) := ⟨_, rfl⟩
 replace H : (sLi.l0 k y324 a1 (l2_4.length : Int) 0 a2_0 a2_1 a2_2 l2_3 l2_4) = some r := by first | exact lt_ H hy324 | (rw [hy324]; exact H) | exact H
 have Ny324 := a_ hy324
 clear hy324
 have H' := a_ H
 clear H
 go_enter Try.func24, Try.ntmps24
 go_wp2_with (first | ((with_reducible refine gate_dst (N := 5) rfl ?_); refine box_event ?hg (N := 5) ?hd (cs := #[.int .i64 a2_0, .int .i64 a2_1, .int .i64 a2_2, .slice A2_3 l2_3.length c2_3, .slice A2_4 l2_4.length c2_4]) (t := 28) ?hr ?_; (case hd => rfl); (case hg => rfl); (case hr => first | (go_simp; done) | (go_simp; rfl)); intro gb320 hg w6 hbox hb; replace HO0 := a_ (Kd.R_below (rp_ HO0) hb); have BK320 := a_ hbox; have GW320 := a_ ((by rw [hg]; exact (kz_ HK) : w.heap.size ≤ gb320)); replace HK := a_ (Kept.below (S := (fun k_ => P0_ k_)) (kp_ HK) hb); have GE320 := a_ ((by rw [hg]; exact (below_size (bl_ HB)) : w0.heap.size ≤ gb320)); replace HB := a_ (below_step (bl_ HB) hb); clear hb hbox hg; obtain ⟨hcz7_0, hcz7_1, hcz7_2, hcz7_3, hcz7_4, hfz7_0, hfz7_1, hfz7_2, hfz7_3, hfz7_4⟩ := b5_ BK320) | ((with_reducible refine gate_builtin (b := .append) (xs := #[.tmp 19, .tmp 20]) rfl ?_); at_builtin; refine Kd.R_append (Kd.int .u8) (w0 := w0) w0.heap.size rfl (.tmp 19) (.tmp 20) 40 5 (.int .u8 0) 1 rfl Try.underlying40 info5 rfl (by decide) (by omega) u9000_ l0 91 [.int .u8 91] (fun k_ => (P0_ k_ ∨ w.heap.size ≤ k_)) (fun _ => False) rfl rfl ?aP (fun _ hk => hk.elim) ?aF ?aO ?aB ?aS ?aL ?_; (case aP => exact rfl); (case aB => exact (bl_ HB)); (case aF => exact (ki_ (kz_ HK))); (case aO => exact (rp_ HO0)); (case aS => exact (below_size (bl_ HB))); (case aL => have := LMc5.out; omega); intro v325 w8 ho hb hg hat; rw [← Ny324.out] at ho; replace BK320 := a_ (blk_grown (g := gb320) (o := .cells #[.int .i64 a2_0, .int .i64 a2_1, .int .i64 a2_2, .slice A2_3 l2_3.length c2_3, .slice A2_4 l2_4.length c2_4] 28 (0, 0)) (bk_ BK320) hg (Kd.R_ne HO0.out BK320.out (by decide))); replace HB := a_ hb; replace HK := a_ (Kept.of_grown (S := (fun k_ => P0_ k_)) hg (kp_ HK) (fun k_ e_ => (HO0.out.1 k_ e_))); have HO326 := a_ ho; clear HO0; clear ho hb hg hat; obtain ⟨hcz9_0, hcz9_1, hcz9_2, hcz9_3, hcz9_4, hfz9_0, hfz9_1, hfz9_2, hfz9_3, hfz9_4⟩ := b5_ BK320))
 (try simp only [Act.put, List.setIfInBounds_toArray, List.set_cons_zero, List.set_cons_succ])
 go_loopg [0, 25] k (fun kq v0 v25 w' => ∃ (x0_1 : List Int) (x25_1 : Int), v25 = .int .i64 x25_1 ∧ Aside0 (sLi.l0 kq x0_1 a1 (l2_4.length : Int) x25_1 a2_0 a2_1 a2_2 l2_3 l2_4 = some r) ∧ Aside0 (kq ≤ k) ∧ Aside0 (Kd.R (Kd.int .u8) 5 w' w0.heap.size (fun k_ => (P0_ k_ ∨ w.heap.size ≤ k_)) v0 x0_1) ∧ Aside0 (w'.heap[gb320]? = some (.cells #[.int .i64 a2_0, .int .i64 a2_1, .int .i64 a2_2, (.slice A2_3 l2_3.length c2_3), (.slice A2_4 l2_4.length c2_4)] 28 (0, 0))) ∧ Aside0 (Kept w w' (fun k_ => P0_ k_)) ∧ Aside0 (Below w0.heap.size w0 w'))
 case atStart => exact ⟨(y324), (0), rl_, H', ⟨Nat.le_refl _⟩, ⟨rp_ HO326⟩, ⟨bk_ BK320⟩, ⟨kp_ HK⟩, ⟨bl_ HB⟩⟩
 case round =>
  clear H'
  (try clear c2); (try clear p2); (try clear c4); (try clear c4b0); (try clear c4b1); (try clear c5); (try clear hcz7_0); (try clear hcz7_1); (try clear hcz7_2); (try clear hcz7_3); (try clear hcz7_4); (try clear hcz9_0); (try clear hcz9_1); (try clear hcz9_2); (try clear hcz9_3); (try clear hcz9_4); (try clear hfz7_0); (try clear hfz7_1); (try clear hfz7_2); (try clear hfz7_3); (try clear hfz7_4); (try clear hfz9_0); (try clear hfz9_1); (try clear hfz9_2); (try clear hfz9_3); (try clear hfz9_4)
  obtain ⟨x0_1, x25_1, rfl, HA, HK1, HO_0, BK320, HK, HB⟩ := hrel
  cases gk with
  | zero => exact absurd HA.out (by simp [sLi.l0])
  | succ k1 =>
   have H := HA.out
   clear HA
   simp only [sLi.l0] at H
   by_cases c10 : x25_1 < (l2_4.length : Int)
   rotate_left
   ·
    rw [if_neg c10] at H
    have c10b0 : decide (x25_1 < (l2_4.length : Int)) = false := decide_eq_false c10
    clear c10
    by_cases c29 : x0_1.length < 140737488355328
    rotate_left
    ·
     rw [if_neg c29] at H
     exact absurd H (by simp)
    rw [if_pos c29] at H
    have LMc29 := a_ c29
    clear c29
    obtain ⟨y341, hy341⟩ : ∃ y_ : List Int, y_ = (x0_1 ++ [93]) := ⟨_, rfl⟩
    replace H : (some y341) = some r := by first | exact lt_ H hy341 | (rw [hy341]; exact H) | exact H
    have Ny341 := a_ hy341
    clear hy341
    obtain rfl := Option.some.inj H
    go_wp2_with (first | ((with_reducible refine gate_builtin (b := .append) (xs := #[.tmp 42, .tmp 43]) rfl ?_); at_builtin; refine Kd.R_append (Kd.int .u8) (w0 := w0) w0.heap.size rfl (.tmp 42) (.tmp 43) 40 5 (.int .u8 0) 1 rfl Try.underlying40 info5 rfl (by decide) (by omega) u0 x0_1 93 [.int .u8 93] (fun k_ => (P0_ k_ ∨ w.heap.size ≤ k_)) (fun _ => False) rfl rfl ?aP (fun _ hk => hk.elim) ?aF ?aO ?aB ?aS ?aL ?_; (case aP => exact rfl); (case aB => exact (bl_ HB)); (case aF => exact (ki_ (kz_ HK))); (case aO => exact (rp_ HO_0)); (case aS => exact (below_size (bl_ HB))); (case aL => have := LMc29.out; omega); intro v342 w30 ho hb hg hat; rw [← Ny341.out] at ho; replace BK320 := a_ (blk_grown (g := gb320) (o := .cells #[.int .i64 a2_0, .int .i64 a2_1, .int .i64 a2_2, .slice A2_3 l2_3.length c2_3, .slice A2_4 l2_4.length c2_4] 28 (0, 0)) (bk_ BK320) hg (Kd.R_ne HO_0.out BK320.out (by decide))); replace HB := a_ hb; replace HK := a_ (Kept.of_grown (S := (fun k_ => P0_ k_)) hg (kp_ HK) (fun k_ e_ => (HO_0.out.1 k_ e_))); have HO343 := a_ ho; clear HO_0; clear ho hb hg hat))
    go_ret
    exact ⟨_, by first | rfl | (simp [errW_none, errW_some] <;> rfl) | (simp [*, errW_none, errW_some] <;> rfl), rp_ HO343, bl_ HB, kp_ HK⟩
   rw [if_pos c10] at H
   have c10b0 : decide (x25_1 < (l2_4.length : Int)) = true := decide_eq_true c10
   clear c10
   by_cases c11 : x25_1 > 0
   rotate_left
   ·
    rw [if_neg c11] at H
    have c11b0 : decide (0 < x25_1) = false := decide_eq_false c11
    clear c11
    by_cases c23 : 0 ≤ x25_1
    rotate_left
    ·
     rw [if_neg c23] at H
     exact absurd H (by simp)
    rw [if_pos c23] at H
    have c23b0 : decide (0 ≤ x25_1) = true := decide_eq_true c23
    clear c23
    by_cases c24 : x25_1 < (l2_4.length : Int)
    rotate_left
    ·
     rw [if_neg c24] at H
     exact absurd H (by simp)
    rw [if_pos c24] at H
    have c24b0 : decide (x25_1 < (l2_4.length : Int)) = true := decide_eq_true c24
    clear c24
    replace H := Option.bind_eq_some_iff.mp H
    obtain ⟨t338, A250, H⟩ := H
    replace H : (sLi.l0 k1 t338 a1 (l2_4.length : Int) (wrap64 (x25_1 + 1)) a2_0 a2_1 a2_2 l2_3 l2_4) = some r := H
    have A25 := a_ A250
    clear A250
    have H' := a_ H
    clear H
    have hcz26_0 := bc_ BK320 0 (.int .i64 a2_0)
    have hcz26_1 := bc_ BK320 1 (.int .i64 a2_1)
    have hcz26_2 := bc_ BK320 2 (.int .i64 a2_2)
    have hcz26_3 := bc_ BK320 3 (.slice A2_3 l2_3.length c2_3)
    have hcz26_4 := bc_ BK320 4 (.slice A2_4 l2_4.length c2_4)
    have hfz26_0 := blk_frozen BK320.out 0
    have hfz26_1 := blk_frozen BK320.out 1
    have hfz26_2 := blk_frozen BK320.out 2
    have hfz26_3 := blk_frozen BK320.out 3
    have hfz26_4 := blk_frozen BK320.out 4
    have p337 : 0 ≤ (x25_1 : Int) := of_decide_eq_true as_
    have q337 : x25_1 < (l2_4.length : Int) := of_decide_eq_true as_
    obtain ⟨ad337, A337_3, c337_3, A337_4, c337_4, e337, hx337_0, hx337_1, hx337_2, hx337_3, hx337_4, hl337_3, hi337_3, hl337_4, hi337_4⟩ := at_T28_w0 HR2_4.out HB.out x25_1 p337 q337
    cases e337
    have HR337_3 := a_ hi337_3
    have HC337_3 := a_ hl337_3
    clear hi337_3 hl337_3
    have HR337_4 := a_ hi337_4
    have HC337_4 := a_ hl337_4
    clear hi337_4 hl337_4
    replace p337 := eq_true p337
    replace q337 := eq_true q337
    obtain ⟨Ao27, co27, eo27⟩ := Kd.R_slice HO_0.out
    subst eo27
    go_wp2_with (first | ((with_reducible refine gate_callee (f := 24) rfl ?_); refine goesL_ (some 40) rfl rfl Try.func24 (by kernel_rfl) rfl #[.slice Ao27 x0_1.length co27, .string a1, .agg #[.int .i64 ((rd_T28 l2_4 x25_1).f0), .int .i64 ((rd_T28 l2_4 x25_1).f1), .int .i64 ((rd_T28 l2_4 x25_1).f2), .slice A337_3 ((rd_T28 l2_4 x25_1).f3).length c337_3, .slice A337_4 ((rd_T28 l2_4 x25_1).f4).length c337_4]] rfl ar_ ?_; (with_reducible refine (ih k1 (by have := HK1.out; omega) (fun k_ => some k_ = (.slice Ao27 x0_1.length co27 : Value).ownBlock) (.slice Ao27 x0_1.length co27) x0_1 a1 ((rd_T28 l2_4 x25_1).f0) ((rd_T28 l2_4 x25_1).f1) ((rd_T28 l2_4 x25_1).f2) _ _ ((rd_T28 l2_4 x25_1).f3) _ _ ((rd_T28 l2_4 x25_1).f4) t338 w0 _ ?side1 ?side2 ?side3 ?side4 ?side5 ?side6 A25.out).mono ?_); (case side1 => exact bl_ HB); (case side2 => exact Kd.R_tight rfl HO_0.out); (case side3 => exact HR337_3.out); (case side4 => exact HC337_3.out); (case side5 => exact HR337_4.out); (case side6 => exact HC337_4.out); rintro e w28 ⟨v339, rfl, ho0, hb, hkp⟩; refine ⟨_, rfl, ?_⟩; replace BK320 := a_ (blk_kept (bk_ BK320) hkp (fun hs_ => (fun e_ => (Kd.R_ne HO_0.out BK320.out (by decide)) e_) hs_)); have HO340 := a_ (Kd.R_mono (ok' := fun k_ => (P0_ k_ ∨ w.heap.size ≤ k_)) ho0 (fun k_ hk_ => Or.elim hk_ (fun hs_ => (HO_0.out.1 k_ (hs_).symm)) (fun hn_ => (.inr (Nat.le_trans (kz_ HK) hn_))))); replace HK := a_ (Kept.then_ (S := (fun k_ => P0_ k_)) (kp_ HK) hkp (fun k_ hs_ => (fun e_ => (HO_0.out.1 k_ e_.symm)) hs_)); replace HB := a_ hb; clear HO_0; (try clear hb); (try clear hkp); (try clear ho0)))
    go_roundg k1
    case measure => have := HK1.out; omega
    case rel => exact ⟨(t338), (wrap64 (x25_1 + 1)), rl_, H', ⟨by have := HK1.out; omega⟩, ⟨rp_ HO340⟩, ⟨bk_ BK320⟩, ⟨kp_ HK⟩, ⟨bl_ HB⟩⟩
   rw [if_pos c11] at H
   have c11b0 : decide (0 < x25_1) = true := decide_eq_true c11
   clear c11
   obtain ⟨y327, hy327⟩ : ∃ y_ : List Int, y_ = (([44, 32] : List Int)) := ⟨_, rfl⟩
   replace H := lt_ H hy327
   have Ny327 := a_ hy327
   clear hy327
   by_cases c12 : x0_1.length + y327.length < 140737488355328
   rotate_left
   ·
    rw [if_neg c12] at H
    exact absurd H (by simp)
   rw [if_pos c12] at H
   have LMc12 := a_ c12
   clear c12
   obtain ⟨y330, hy330⟩ : ∃ y_ : List Int, y_ = (x0_1 ++ y327) := ⟨_, rfl⟩
   replace H : (if 0 ≤ x25_1 then (if x25_1 < (l2_4.length : Int) then ((sLi.f k1 y330 a1 ((rd_T28 l2_4 x25_1).f0) ((rd_T28 l2_4 x25_1).f1) ((rd_T28 l2_4 x25_1).f2) ((rd_T28 l2_4 x25_1).f3) ((rd_T28 l2_4 x25_1).f4)).bind fun t334 => (sLi.l0 k1 t334 a1 (l2_4.length : Int) (wrap64 (x25_1 + 1)) a2_0 a2_1 a2_2 l2_3 l2_4)) else (none)) else (none)) = some r := by first | exact lt_ H hy330 | (rw [hy330]; exact H) | exact H
   have Ny330 := a_ hy330
   clear hy330
   by_cases c13 : 0 ≤ x25_1
   rotate_left
   ·
    rw [if_neg c13] at H
    exact absurd H (by simp)
   rw [if_pos c13] at H
   have c13b0 : decide (0 ≤ x25_1) = true := decide_eq_true c13
   clear c13
   by_cases c14 : x25_1 < (l2_4.length : Int)
   rotate_left
   ·
    rw [if_neg c14] at H
    exact absurd H (by simp)
   rw [if_pos c14] at H
   have c14b0 : decide (x25_1 < (l2_4.length : Int)) = true := decide_eq_true c14
   clear c14
   replace H := Option.bind_eq_some_iff.mp H
   obtain ⟨t334, A150, H⟩ := H
   replace H : (sLi.l0 k1 t334 a1 (l2_4.length : Int) (wrap64 (x25_1 + 1)) a2_0 a2_1 a2_2 l2_3 l2_4) = some r := H
   have A15 := a_ A150
   clear A150
   have H' := a_ H
   clear H
   go_wp2_with (first | ((with_reducible refine gate_dst (N := 31) rfl ?_); refine Kd.R_lit (Kd.int .u8) _ 5 ?hg (N := 31) ?hd (xs := ([44, 32] : List Int)) (inner := [.int .u8 44, .int .u8 32]) (ok := fun _ => True) (okp := fun _ => True) ?hr ?hp (fun _ hk => hk) trivial (Below.refl _ _) (Nat.le_refl _) (by simp) ?_; (case hd => rfl); (case hg => rfl); (case hr => first | (go_simp; done) | (go_simp; rfl)); (case hp => exact (Reps.one (show Kd.M (Kd.int .u8) _ _ _ 44 [.int .u8 44] from rfl) (Reps.one (show Kd.M (Kd.int .u8) _ _ _ 32 [.int .u8 32] from rfl) (Reps.none _ _)))); intro v328 w16 ho17 hb hg_ hnew_; clear hg_ hnew_; (first | rw [← Ny327.out] at ho17 | (simp only [Int.reduceToNat] at ho17; rw [← Ny327.out] at ho17)); have HO329 := a_ (Kd.R_lower (Kd.R_new' (Kd.R_newM (M := fun k_ => (P0_ k_ ∨ w.heap.size ≤ k_)) ho17 (kz_ HK) (fun k_ h_ => .inr h_)) (Kd.R_lt (rp_ HO_0))) (below_size (bl_ HB))); replace HO_0 := a_ (Kd.R_elder' (rp_ HO_0) (Kd.R_base ho17) hb); replace BK320 := a_ (blk_below (g := gb320) (o := .cells #[.int .i64 a2_0, .int .i64 a2_1, .int .i64 a2_2, .slice A2_3 l2_3.length c2_3, .slice A2_4 l2_4.length c2_4] 28 (0, 0)) (bk_ BK320) hb); replace HK := a_ (Kept.below (S := (fun k_ => P0_ k_)) (kp_ HK) hb); replace HB := a_ (below_step (bl_ HB) hb); clear hb ho17; obtain ⟨Ao19, co19, eo19⟩ := Kd.R_slice HO329.out; subst eo19) | ((with_reducible refine gate_builtin (b := .append) (xs := #[.tmp 30, .tmp 31]) rfl ?_); at_builtin; refine Kd.R_append_rows (Kd.int .u8) (w0 := w0) w0.heap.size rfl (.tmp 30) (.tmp 31) 40 5 (.int .u8 0) 1 rfl Try.underlying40 info5 rfl (by decide) (by omega) u0 x0_1 y327 _ _ _ (fun k_ => (P0_ k_ ∨ w.heap.size ≤ k_) ∧ some k_ ≠ (.slice Ao19 y327.length co19 : Value).ownBlock) (fun _ => False) rfl rfl ?aO ?aR (fun _ _ h => h) (fun _ h => h.elim) ?aF ?aB ?aS ?aL ?_; (case aR => repeat (first | exact (Kd.R_reads' HO329.out).2.2 | (with_reducible refine Kd.C_alloc ?_ _) | (with_reducible refine Kd.C_drewN ?_ _) | (with_reducible refine Kd.C_drew ?_))); (case aB => exact (bl_ HB)); (case aF => exact (fun k_ hk => ⟨(.inr (Nat.le_trans (kz_ HK) hk)), Kd.fresh' (Kd.R_lt (rp_ HO329)) k_ hk⟩)); (case aO => exact (rp_ HO_0)); (case aS => exact (below_size (bl_ HB))); (case aL => have := LMc12.out; omega); intro v331 w18 ho hb hg hat; rw [← Ny330.out] at ho; replace BK320 := a_ (blk_grown (g := gb320) (o := .cells #[.int .i64 a2_0, .int .i64 a2_1, .int .i64 a2_2, .slice A2_3 l2_3.length c2_3, .slice A2_4 l2_4.length c2_4] 28 (0, 0)) (bk_ BK320) hg (Kd.R_ne HO_0.out BK320.out (by decide))); replace HO329 := a_ (Kd.R_after (ok := (fun k_ => (P0_ k_ ∨ w.heap.size ≤ k_))) (by (with_reducible repeat (first | apply Kd.R_alloc | apply Kd.R_drewN | apply Kd.R_drew)); exact Kd.R_mono HO329.out (fun _ hk => ⟨hk.1.1, hk.2⟩)) hg hat); replace HB := a_ hb; replace HK := a_ (Kept.of_grown (S := (fun k_ => P0_ k_)) hg (kp_ HK) (fun k_ e_ => (HO_0.out.1 k_ e_).1)); have HO332 := a_ ho; clear HO_0; clear ho hb hg hat; obtain ⟨hcz20_0, hcz20_1, hcz20_2, hcz20_3, hcz20_4, hfz20_0, hfz20_1, hfz20_2, hfz20_3, hfz20_4⟩ := b5_ BK320; have p333 : 0 ≤ (x25_1 : Int) := of_decide_eq_true as_; have q333 : x25_1 < (l2_4.length : Int) := of_decide_eq_true as_; obtain ⟨ad333, A333_3, c333_3, A333_4, c333_4, e333, hx333_0, hx333_1, hx333_2, hx333_3, hx333_4, hl333_3, hi333_3, hl333_4, hi333_4⟩ := at_T28_w0 HR2_4.out HB.out x25_1 p333 q333; cases e333; have HR333_3 := a_ hi333_3; have HC333_3 := a_ hl333_3; clear hi333_3 hl333_3; have HR333_4 := a_ hi333_4; have HC333_4 := a_ hl333_4; clear hi333_4 hl333_4; replace p333 := eq_true p333; replace q333 := eq_true q333; obtain ⟨Ao21, co21, eo21⟩ := Kd.R_slice HO332.out; subst eo21) | ((with_reducible refine gate_callee (f := 24) rfl ?_); refine goesL_ (some 40) rfl rfl Try.func24 (by kernel_rfl) rfl #[.slice Ao21 y330.length co21, .string a1, .agg #[.int .i64 ((rd_T28 l2_4 x25_1).f0), .int .i64 ((rd_T28 l2_4 x25_1).f1), .int .i64 ((rd_T28 l2_4 x25_1).f2), .slice A333_3 ((rd_T28 l2_4 x25_1).f3).length c333_3, .slice A333_4 ((rd_T28 l2_4 x25_1).f4).length c333_4]] rfl ar_ ?_; (with_reducible refine (ih k1 (by have := HK1.out; omega) (fun k_ => some k_ = (.slice Ao21 y330.length co21 : Value).ownBlock) (.slice Ao21 y330.length co21) y330 a1 ((rd_T28 l2_4 x25_1).f0) ((rd_T28 l2_4 x25_1).f1) ((rd_T28 l2_4 x25_1).f2) _ _ ((rd_T28 l2_4 x25_1).f3) _ _ ((rd_T28 l2_4 x25_1).f4) t334 w0 _ ?side1 ?side2 ?side3 ?side4 ?side5 ?side6 A15.out).mono ?_); (case side1 => exact bl_ HB); (case side2 => exact Kd.R_tight rfl HO332.out); (case side3 => exact HR333_3.out); (case side4 => exact HC333_3.out); (case side5 => exact HR333_4.out); (case side6 => exact HC333_4.out); rintro e w22 ⟨v335, rfl, ho0, hb, hkp⟩; refine ⟨_, rfl, ?_⟩; replace BK320 := a_ (blk_kept (bk_ BK320) hkp (fun hs_ => (fun e_ => (Kd.R_ne HO332.out BK320.out (by decide)) e_) hs_)); have HO336 := a_ (Kd.R_mono (ok' := fun k_ => (P0_ k_ ∨ w.heap.size ≤ k_) ∧ some k_ ≠ (.slice Ao19 y327.length co19 : Value).ownBlock) ho0 (fun k_ hk_ => ⟨Or.elim hk_ (fun hs_ => (HO332.out.1 k_ (hs_).symm).1) (fun hn_ => (.inr (Nat.le_trans (kz_ HK) hn_))), Or.elim hk_ (fun hs_ => fun e_ => (((HO329.out).1 k_ e_.symm).2) hs_) (fun hn_ => (Kd.fresh' (Kd.R_lt (rp_ HO329)) k_ hn_))⟩)); replace HO329 := a_ (Kd.R_mono (ok' := fun k_ => (P0_ k_ ∨ w.heap.size ≤ k_) ∧ some k_ ≠ (v335 : Value).ownBlock) (Kd.R_keptB (HO329.out) hkp (fun k_ hk_ hs_ => (hk_.2) hs_)) (fun k_ hk_ => ⟨hk_.1.1, fun e_ => Or.elim (ho0.1 k_ e_.symm) (fun hs_ => hk_.2.1 hs_) (fun hn_ => Nat.not_le.2 hk_.2.2 hn_)⟩)); replace HK := a_ (Kept.then_ (S := (fun k_ => P0_ k_)) (kp_ HK) hkp (fun k_ hs_ => (fun e_ => (HO332.out.1 k_ e_.symm).1) hs_)); replace HB := a_ hb; clear HO332; (try clear hb); (try clear hkp); (try clear ho0)))
   go_roundg k1
   case measure => have := HK1.out; omega
   case rel => exact ⟨(t334), (wrap64 (x25_1 + 1)), rl_, H', ⟨by have := HK1.out; omega⟩, ⟨by (with_reducible repeat (first | apply Kd.R_alloc | apply Kd.R_drewN | apply Kd.R_drew)); exact Kd.R_mono HO336.out (fun _ hk => hk.1)⟩, ⟨bk_ BK320⟩, ⟨kp_ HK⟩, ⟨bl_ HB⟩⟩
end Go.Proofs.Ytnilbkfhfnofgaa.PFnPrWidthMember
