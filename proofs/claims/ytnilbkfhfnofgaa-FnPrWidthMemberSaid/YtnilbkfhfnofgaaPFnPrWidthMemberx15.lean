/- Contracts of Go functions of this seat: a Lean function over numbers and lists for each, and a proof that the Go function returns what it gives. Made by program. -/
import Derived.Test.YtnilbkfhfnofgaaPFnPrWidthMemberx0
import Derived.Test.YtnilbkfhfnofgaaPFnPrWidthMemberx12
namespace Go.Proofs.Ytnilbkfhfnofgaa.PFnPrWidthMember
open Go.RowKit Go.Proofs.YtnilbkfhfnofgaaW.PrintWords Go.Proofs.YtnilbkfhfnofgaaW.PrintLast Go.Proofs.YtnilbkfhfnofgaaW.PrintMore
attribute [local go_sem] max2_int min2_int max_two min_two max_three min_three max_four min_four   -- for this text's walks alone
set_option linter.unusedVariables false
set_option linter.unusedSimpArgs false
/-! ### pObC: function 36 -/
set_option maxHeartbeats 8000000 in
set_option maxRecDepth 100000 in
theorem pObC.callsH (k : Nat) (ih : ∀ m_, m_ < k → pOb.CT m_) (ih25 : ∀ m_, m_ < k → pAn.CT m_) : pObC.CT k := by
 intro P0_ u9000_ l0 A1 c1 l1 a2 a3 a4 a5 a6 a7 a8 a9 a10 a11 a12 r1 r2 r3 r4 w0 w hB ho0 hr1 hc1 h
 cases k with
 | zero => exact absurd h (by simp [pObC.f])
 | succ k =>
 simp only [pObC.f] at h
 have hu72 := Try.underlying72
 have HO0 := a_ (show Kd.R (Kd.int .u8) 5 w w0.heap.size (fun k_ => (P0_ k_ ∨ w.heap.size ≤ k_)) u9000_ l0 from Kd.R_mono ho0 (fun k_ hk => (.inl hk)))
 have HR1 := a_ hr1
 have HC1 := a_ hc1
 clear hr1 hc1
 have HK := a_ (Kept.refl w (fun k_ => P0_ k_))
 have HW0 := a_ hB.size
 have HB := a_ hB
 clear hB
 have H : (if a9 = true then (none) else (if a5 = true then (none) else (if a3 = 91 then (if a6 > 0 then (if a12 = (-1) then (none) else (if a3 = 123 then (none) else (if l0.length < 140737488355328 then (pObC.l0 k (l0 ++ [a3]) l1 (wrap64 (a2 + 1)) a3 a4 a5 a6 a7 a8 a9 a10 a11 a12 0) else (none)))) else (none)) else (none)))) = some (r1, r2, r3, r4) := h
 clear h
 by_cases c14 : a9 = true
 ·
  subst c14
  rw [if_pos (by trivial)] at H
  exact absurd H (by simp)
 replace c14 := Bool.eq_false_iff.mpr c14
 subst c14
 rw [if_neg (show ¬ (false = true) by decide)] at H
 by_cases c15 : a5 = true
 ·
  subst c15
  rw [if_pos (by trivial)] at H
  exact absurd H (by simp)
 replace c15 := Bool.eq_false_iff.mpr c15
 subst c15
 rw [if_neg (show ¬ (false = true) by decide)] at H
 by_cases c16 : a3 = 91
 rotate_left
 ·
  rw [if_neg c16] at H
  exact absurd H (by simp)
 rw [if_pos c16] at H
 have c16b0 : (a3 == 91) = true := beq_iff_eq.mpr c16
 have c16b1 : (a3 != 91) = false := bne_eq_false_iff_eq.mpr c16
 clear c16
 by_cases c17 : a6 > 0
 rotate_left
 ·
  rw [if_neg c17] at H
  exact absurd H (by simp)
 rw [if_pos c17] at H
 have c17b0 : decide (0 < a6) = true := decide_eq_true c17
 clear c17
 by_cases c18 : a12 = (-1)
 ·
  rw [if_pos c18] at H
  exact absurd H (by simp)
 rw [if_neg c18] at H
 have c18b0 : (a12 == (-1)) = false := beq_eq_false_iff_ne.mpr c18
 have c18b1 : (a12 != (-1)) = true := bne_iff_ne.mpr c18
 by_cases c19 : a3 = 123
 ·
  rw [if_pos c19] at H
  exact absurd H (by simp)
 rw [if_neg c19] at H
 have c19b0 : (a3 == 123) = false := beq_eq_false_iff_ne.mpr c19
 have c19b1 : (a3 != 123) = true := bne_iff_ne.mpr c19
 by_cases c20 : l0.length < 140737488355328
 rotate_left
 ·
  rw [if_neg c20] at H
  exact absurd H (by simp)
 rw [if_pos c20] at H
 have LMc20 := a_ c20
 clear c20
 obtain ⟨y582, hy582⟩ : ∃ y_ : List Int, y_ = (l0 ++ [a3]) := ⟨_, rfl⟩
 replace H : (pObC.l0 k y582 l1 (wrap64 (a2 + 1)) a3 a4 false a6 a7 a8 false a10 a11 a12 0) = some (r1, r2, r3, r4) := by first | exact lt_ H hy582 | (rw [hy582]; exact H) | exact H
 have Ny582 := a_ hy582
 clear hy582
 have H' := a_ H
 clear H
 go_enter Try.func36, Try.ntmps36
 go_wp2_with (first | ((with_reducible refine gate_builtin (b := .append) (xs := #[.tmp 97, .tmp 99]) rfl ?_); (try (refine gate_guard (by rfl) ?_; dsimp only)); at_builtin; refine Kd.R_append (Kd.int .u8) (w0 := w0) w0.heap.size rfl (.tmp 97) (.tmp 99) 40 5 (.int .u8 0) 1 rfl Try.underlying40 info5 rfl (by decide) (by omega) u9000_ l0 a3 [.int .u8 a3] (fun k_ => (P0_ k_ ∨ w.heap.size ≤ k_)) (fun _ => False) rfl rfl ?aP (fun _ hk => hk.elim) ?aF ?aO ?aB ?aS ?aL ?_; (case aP => exact rfl); (case aB => exact (bl_ HB)); (case aF => exact (ki_ (kz_ HK))); (case aO => exact (rp_ HO0)); (case aS => exact (below_size (bl_ HB))); (case aL => have := LMc20.out; omega); intro v583 w21 ho hb hg hat; rw [← Ny582.out] at ho; replace HB := a_ hb; replace HK := a_ (Kept.of_grown (S := (fun k_ => P0_ k_)) hg (kp_ HK) (fun k_ e_ => (HO0.out.1 k_ e_))); have HO584 := a_ ho; clear HO0; clear ho hb hg hat))
 (try simp only [Act.put, List.setIfInBounds_toArray, List.set_cons_zero, List.set_cons_succ])
 go_loopg [0, 2, 9, 11, 35] k (fun kq v0 v2 v9 v11 v35 w' => ∃ (x0_1 : List Int) (x2_1 : Int) (x9_1 : Bool) (x11_1 : Int) (x35_1 : Int), v2 = .int .i64 x2_1 ∧ v9 = .bool x9_1 ∧ v11 = .int .i64 x11_1 ∧ v35 = .int .i64 x35_1 ∧ Aside0 (pObC.l0 kq x0_1 l1 x2_1 a3 a4 false a6 a7 a8 x9_1 a10 x11_1 a12 x35_1 = some (r1, r2, r3, r4)) ∧ Aside0 (kq ≤ k) ∧ Aside0 (Kd.R (Kd.int .u8) 5 w' w0.heap.size (fun k_ => (P0_ k_ ∨ w.heap.size ≤ k_)) v0 x0_1) ∧ Aside0 (Kept w w' (fun k_ => P0_ k_)) ∧ Aside0 (Below w0.heap.size w0 w'))
 case atStart => exact ⟨(y582), (wrap64 (a2 + 1)), (false), (a11), (0), rl_, rl_, rl_, rl_, H', ⟨Nat.le_refl _⟩, ⟨rp_ HO584⟩, ⟨kp_ HK⟩, ⟨bl_ HB⟩⟩
 case round =>
  clear H'
  (try clear c1); (try clear c2); (try clear p2); (try clear c3); (try clear p6); (try clear c14); (try clear c15); (try clear c16); (try clear c16b0); (try clear c16b1); (try clear c17); (try clear c17b0); (try clear c18); (try clear c18b0); (try clear c18b1); (try clear c19); (try clear c19b0); (try clear c19b1); (try clear c20)
  as_aux_lemma =>
   obtain ⟨x0_1, x2_1, x9_1, x11_1, x35_1, rfl, rfl, rfl, rfl, HA, HK1, HO_0, HK, HB⟩ := hrel
   cases gk with
   | zero => exact absurd HA.out (by simp [pObC.l0])
   | succ k1 =>
    have H := HA.out
    clear HA
    simp only [pObC.l0] at H
    by_cases c22 : x9_1 = true
    ·
     subst c22
     rw [if_pos (by trivial)] at H
     exact absurd H (by simp)
    replace c22 := Bool.eq_false_iff.mpr c22
    subst c22
    rw [if_neg (show ¬ (false = true) by decide)] at H
    have c23 : ¬ (false = true) := Bool.false_ne_true
    rw [if_neg (show ¬ (false = true) by decide)] at H
    by_cases c24 : a3 = 91
    rotate_left
    ·
     rw [if_neg c24] at H
     exact absurd H (by simp)
    rw [if_pos c24] at H
    have c24b0 : (a3 == 91) = true := beq_iff_eq.mpr c24
    have c24b1 : (a3 != 91) = false := bne_eq_false_iff_eq.mpr c24
    clear c24
    by_cases c25 : x2_1 < (l1.length : Int)
    rotate_left
    ·
     rw [if_neg c25] at H
     exact absurd H (by simp)
    rw [if_pos c25] at H
    have c25b0 : decide (x2_1 < (l1.length : Int)) = true := decide_eq_true c25
    clear c25
    by_cases c26 : 0 ≤ x2_1
    rotate_left
    ·
     rw [if_neg c26] at H
     exact absurd H (by simp)
    rw [if_pos c26] at H
    have c26b0 : decide (0 ≤ x2_1) = true := decide_eq_true c26
    clear c26
    by_cases c27 : (rd l1 x2_1) ≤ 32
    ·
     rw [if_pos c27] at H
     have c27b0 : decide ((rd l1 x2_1) ≤ 32) = true := decide_eq_true c27
     clear c27
     have H' := a_ H
     clear H
     have p585 : 0 ≤ (x2_1 : Int) := of_decide_eq_true as_
     have q585 : x2_1 < (l1.length : Int) := of_decide_eq_true as_
     obtain ⟨ad585, e585, hx585_0⟩ := Kd.at_int (Kd.C_kept_now HR1.out HK.out) x2_1 p585 q585
     cases e585
     replace p585 := eq_true p585
     replace q585 := eq_true q585
     go_wp2
     go_roundg k1
     case measure => have := HK1.out; omega
     case rel => exact ⟨(x0_1), (wrap64 (x2_1 + 1)), (false), (x11_1), (x35_1), rl_, rl_, rl_, rl_, H', ⟨by have := HK1.out; omega⟩, ⟨rp_ HO_0⟩, ⟨kp_ HK⟩, ⟨bl_ HB⟩⟩
    rw [if_neg c27] at H
    have c27b0 : decide ((rd l1 x2_1) ≤ 32) = false := decide_eq_false c27
    clear c27
    by_cases c28 : (rd l1 x2_1) = a4
    ·
     rw [if_pos c28] at H
     have c28b0 : ((rd l1 x2_1) == a4) = true := beq_iff_eq.mpr c28
     have c28b1 : ((rd l1 x2_1) != a4) = false := bne_eq_false_iff_eq.mpr c28
     clear c28
     by_cases c29 : x0_1.length < 140737488355328
     rotate_left
     ·
      rw [if_neg c29] at H
      exact absurd H (by simp)
     rw [if_pos c29] at H
     have LMc29 := a_ c29
     clear c29
     obtain ⟨y587, hy587⟩ : ∃ y_ : List Int, y_ = (x0_1 ++ [a4]) := ⟨_, rfl⟩
     replace H : (some (y587, wrap64 (x2_1 + 1), x11_1, (a3 != 123))) = some (r1, r2, r3, r4) := by first | exact lt_ H hy587 | (rw [hy587]; exact H) | exact H
     have Ny587 := a_ hy587
     clear hy587
     simp only [Option.some.injEq, Prod.mk.injEq] at H
     obtain ⟨rfl, rfl, rfl, rfl⟩ := H
     have p585 : 0 ≤ (x2_1 : Int) := of_decide_eq_true as_
     have q585 : x2_1 < (l1.length : Int) := of_decide_eq_true as_
     obtain ⟨ad585, e585, hx585_0⟩ := Kd.at_int (Kd.C_kept_now HR1.out HK.out) x2_1 p585 q585
     cases e585
     replace p585 := eq_true p585
     replace q585 := eq_true q585
     have p586 : 0 ≤ (x2_1 : Int) := of_decide_eq_true as_
     have q586 : x2_1 < (l1.length : Int) := of_decide_eq_true as_
     obtain ⟨ad586, e586, hx586_0⟩ := Kd.at_int (Kd.C_kept_now HR1.out HK.out) x2_1 p586 q586
     obtain rfl : ad585 = ad586 := (by injection e586)
     replace p586 := eq_true p586
     replace q586 := eq_true q586
     go_wp2_with (first | ((with_reducible refine gate_builtin (b := .append) (xs := #[.tmp 166, .tmp 168]) rfl ?_); (try (refine gate_guard (by rfl) ?_; dsimp only)); at_builtin; refine Kd.R_append (Kd.int .u8) (w0 := w0) w0.heap.size rfl (.tmp 166) (.tmp 168) 40 5 (.int .u8 0) 1 rfl Try.underlying40 info5 rfl (by decide) (by omega) u0 x0_1 a4 [.int .u8 a4] (fun k_ => (P0_ k_ ∨ w.heap.size ≤ k_)) (fun _ => False) rfl rfl ?aP (fun _ hk => hk.elim) ?aF ?aO ?aB ?aS ?aL ?_; (case aP => exact rfl); (case aB => exact (bl_ HB)); (case aF => exact (ki_ (kz_ HK))); (case aO => exact (rp_ HO_0)); (case aS => exact (below_size (bl_ HB))); (case aL => have := LMc29.out; omega); intro v588 w30 ho hb hg hat; rw [← Ny587.out] at ho; replace HB := a_ hb; replace HK := a_ (Kept.of_grown (S := (fun k_ => P0_ k_)) hg (kp_ HK) (fun k_ e_ => (HO_0.out.1 k_ e_))); have HO589 := a_ ho; clear HO_0; clear ho hb hg hat))
     refine bodyPost_ret (results_list (rs := [.tmp 26, .tmp 27, .tmp 28, .tmp 29]) rfl (by simp) (.tmp (.tmp (.tmp (.tmp .nil))))) rfl ?_
     exact ⟨_, by first | rfl | (simp [errW_none, errW_some] <;> rfl) | (simp [*, errW_none, errW_some] <;> rfl), rp_ HO589, bl_ HB, kp_ HK⟩
    rw [if_neg c28] at H
    have c28b0 : ((rd l1 x2_1) == a4) = false := beq_eq_false_iff_ne.mpr c28
    have c28b1 : ((rd l1 x2_1) != a4) = true := bne_iff_ne.mpr c28
    have HC31 := a_ H
    clear H
    have p585 : 0 ≤ (x2_1 : Int) := of_decide_eq_true as_
    have q585 : x2_1 < (l1.length : Int) := of_decide_eq_true as_
    obtain ⟨ad585, e585, hx585_0⟩ := Kd.at_int (Kd.C_kept_now HR1.out HK.out) x2_1 p585 q585
    cases e585
    replace p585 := eq_true p585
    replace q585 := eq_true q585
    have p586 : 0 ≤ (x2_1 : Int) := of_decide_eq_true as_
    have q586 : x2_1 < (l1.length : Int) := of_decide_eq_true as_
    obtain ⟨ad586, e586, hx586_0⟩ := Kd.at_int (Kd.C_kept_now HR1.out HK.out) x2_1 p586 q586
    obtain rfl : ad585 = ad586 := (by injection e586)
    replace p586 := eq_true p586
    replace q586 := eq_true q586
    go_upto_if 186 with (fail)
    go_cut [0] (fun v0 wc => ∃ (kq : Nat) (x0_30 : List Int), Aside0 (pObC.j1 kq x0_30 l1 x2_1 a3 a4 false a6 a7 a8 false a10 x11_1 a12 x35_1 = some (r1, r2, r3, r4)) ∧ Aside0 (kq ≤ k1) ∧ Aside0 (Kd.R (Kd.int .u8) 5 wc w0.heap.size (fun k_ => (P0_ k_ ∨ w.heap.size ≤ k_)) v0 x0_30) ∧ Aside0 (Kept w wc (fun k_ => P0_ k_)) ∧ Aside0 (Below w0.heap.size w0 wc))
    case first =>
     have H := HC31.out
     clear HC31
     by_cases c32 : x35_1 > 0
     rotate_left
     ·
      rw [if_neg c32] at H
      have c32b0 : decide (0 < x35_1) = false := decide_eq_false c32
      clear c32
      (first | rw [c32b0] | (simp only [i64_w, i32_w]; rw [c32b0]) | skip)
      have H' := a_ H
      clear H
      go_wp2
      go_meet
      case rel => exact ⟨_, (x0_1), H', ⟨by have := HK1.out; first | omega | exact Nat.le_refl _⟩, ⟨rp_ HO_0⟩, ⟨kp_ HK⟩, ⟨bl_ HB⟩⟩
     rw [if_pos c32] at H
     have c32b0 : decide (0 < x35_1) = true := decide_eq_true c32
     clear c32
     (first | rw [c32b0] | (simp only [i64_w, i32_w]; rw [c32b0]) | skip)
     by_cases c33 : x0_1.length < 140737488355328
     rotate_left
     ·
      rw [if_neg c33] at H
      exact absurd H (by simp)
     rw [if_pos c33] at H
     have LMc33 := a_ c33
     clear c33
     obtain ⟨y590, hy590⟩ : ∃ y_ : List Int, y_ = (x0_1 ++ [44]) := ⟨_, rfl⟩
     replace H := lt_ H hy590
     have Ny590 := a_ hy590
     clear hy590
     by_cases c34 : a6 = (-1)
     ·
      rw [if_pos c34] at H
      exact absurd H (by simp)
     rw [if_neg c34] at H
     have c34b0 : (a6 == (-1)) = false := beq_eq_false_iff_ne.mpr c34
     have c34b1 : (a6 != (-1)) = true := bne_iff_ne.mpr c34
     by_cases c35 : y590.length < 140737488355328
     rotate_left
     ·
      rw [if_neg c35] at H
      exact absurd H (by simp)
     rw [if_pos c35] at H
     have LMc35 := a_ c35
     clear c35
     obtain ⟨y593, hy593⟩ : ∃ y_ : List Int, y_ = (y590 ++ [32]) := ⟨_, rfl⟩
     replace H : (pObC.j1 k1 y593 l1 x2_1 a3 a4 false a6 a7 a8 false a10 x11_1 a12 x35_1) = some (r1, r2, r3, r4) := by first | exact lt_ H hy593 | (rw [hy593]; exact H) | exact H
     have Ny593 := a_ hy593
     clear hy593
     have H' := a_ H
     clear H
     go_wp2_with (first | ((with_reducible refine gate_builtin (b := .append) (xs := #[.tmp 187, .tmp 188]) rfl ?_); (try (refine gate_guard (by rfl) ?_; dsimp only)); at_builtin; refine Kd.R_append (Kd.int .u8) (w0 := w0) w0.heap.size rfl (.tmp 187) (.tmp 188) 40 5 (.int .u8 0) 1 rfl Try.underlying40 info5 rfl (by decide) (by omega) u0 x0_1 44 [.int .u8 44] (fun k_ => (P0_ k_ ∨ w.heap.size ≤ k_)) (fun _ => False) rfl rfl ?aP (fun _ hk => hk.elim) ?aF ?aO ?aB ?aS ?aL ?_; (case aP => exact rfl); (case aB => exact (bl_ HB)); (case aF => exact (ki_ (kz_ HK))); (case aO => exact (rp_ HO_0)); (case aS => exact (below_size (bl_ HB))); (case aL => have := LMc33.out; omega); intro v591 w36 ho hb hg hat; rw [← Ny590.out] at ho; replace HB := a_ hb; replace HK := a_ (Kept.of_grown (S := (fun k_ => P0_ k_)) hg (kp_ HK) (fun k_ e_ => (HO_0.out.1 k_ e_))); have HO592 := a_ ho; clear HO_0; clear ho hb hg hat) | ((with_reducible refine gate_builtin (b := .append) (xs := #[.tmp 196, .tmp 197]) rfl ?_); (try (refine gate_guard (by rfl) ?_; dsimp only)); at_builtin; refine Kd.R_append (Kd.int .u8) (w0 := w0) w0.heap.size rfl (.tmp 196) (.tmp 197) 40 5 (.int .u8 0) 1 rfl Try.underlying40 info5 rfl (by decide) (by omega) v591 y590 32 [.int .u8 32] (fun k_ => (P0_ k_ ∨ w.heap.size ≤ k_)) (fun _ => False) rfl rfl ?aP (fun _ hk => hk.elim) ?aF ?aO ?aB ?aS ?aL ?_; (case aP => exact rfl); (case aB => exact (bl_ HB)); (case aF => exact (ki_ (kz_ HK))); (case aO => exact (rp_ HO592)); (case aS => exact (below_size (bl_ HB))); (case aL => have := LMc35.out; omega); intro v594 w37 ho hb hg hat; rw [← Ny593.out] at ho; replace HB := a_ hb; replace HK := a_ (Kept.of_grown (S := (fun k_ => P0_ k_)) hg (kp_ HK) (fun k_ e_ => (HO592.out.1 k_ e_))); have HO595 := a_ ho; clear HO592; clear ho hb hg hat))
     go_meet
     case rel => exact ⟨_, (y593), H', ⟨by have := HK1.out; first | omega | exact Nat.le_refl _⟩, ⟨rp_ HO595⟩, ⟨kp_ HK⟩, ⟨bl_ HB⟩⟩
    clear HC31
    (try clear c1); (try clear c2); (try clear p2); (try clear c3); (try clear p5); (try clear q5); (try clear hx5); (try clear p6); (try clear c14); (try clear c15); (try clear c16); (try clear c16b0); (try clear c16b1); (try clear c17); (try clear c17b0); (try clear c18); (try clear c18b0); (try clear c18b1); (try clear c19); (try clear c19b0); (try clear c19b1); (try clear c20); (try clear c22); (try clear c23); (try clear c24); (try clear c24b0); (try clear c24b1); (try clear c25); (try clear c25b0); (try clear c26); (try clear c26b0); (try clear c27); (try clear c27b0); (try clear c28); (try clear c28b0); (try clear c28b1); (try clear c29); (try clear c32); (try clear c32b0); (try clear c33); (try clear c34); (try clear c34b0); (try clear c34b1); (try clear c35); (try clear c36); (try clear hx585_0); (try clear hx586_0); (try clear p2); (try clear p585); (try clear p586); (try clear p6); (try clear q585); (try clear q586)
    as_aux_lemma =>
     obtain ⟨kq, x0_30, HA, HJ30, HO_0, HK, HB⟩ := hcut
     cases kq with
     | zero => exact absurd HA.out (by simp [pObC.j1])
     | succ kj30 =>
      have H := HA.out
      clear HA
      simp only [pObC.j1] at H
      have c38 : ¬ (false = true) := Bool.false_ne_true
      rw [if_neg (show ¬ (false = true) by decide)] at H
      have c39 : ¬ (false = true) := Bool.false_ne_true
      rw [if_neg (show ¬ (false = true) by decide)] at H
      by_cases c40 : a3 = 91
      rotate_left
      ·
       rw [if_neg c40] at H
       exact absurd H (by simp)
      rw [if_pos c40] at H
      have c40b0 : (a3 == 91) = true := beq_iff_eq.mpr c40
      have c40b1 : (a3 != 91) = false := bne_eq_false_iff_eq.mpr c40
      clear c40
      by_cases c41 : a3 = 123
      ·
       rw [if_pos c41] at H
       exact absurd H (by simp)
      rw [if_neg c41] at H
      have c41b0 : (a3 == 123) = false := beq_eq_false_iff_ne.mpr c41
      have c41b1 : (a3 != 123) = true := bne_iff_ne.mpr c41
      replace H := Option.bind_eq_some_iff.mp H
      obtain ⟨⟨t597, t600, t601, t602⟩, A420, H⟩ := H
      replace H : (if a12 = (-1) then (none) else (if t602 = true then (pObC.l0 kj30 t597 l1 (wrap64 ((wrap64 (t600 - 1)) + 1)) a3 a4 false a6 a7 a8 false a10 t601 a12 (wrap64 (x35_1 + 1))) else (some (t597, t600, t601, false)))) = some (r1, r2, r3, r4) := H
      have A42 := a_ A420
      clear A420
      by_cases c43 : a12 = (-1)
      ·
       rw [if_pos c43] at H
       exact absurd H (by simp)
      rw [if_neg c43] at H
      have c43b0 : (a12 == (-1)) = false := beq_eq_false_iff_ne.mpr c43
      have c43b1 : (a12 != (-1)) = true := bne_iff_ne.mpr c43
      by_cases c44 : t602 = true
      ·
       subst c44
       rw [if_pos (by trivial)] at H
       have H' := a_ H
       clear H
       go_wp2_with (first | ((with_reducible refine gate_dst (N := 36) rfl ?_); (try (refine gate_guard (by rfl) ?_; dsimp only)); refine box_event ?hg (N := 36) ?hd (cs := #[.int .i64 0, .int .i64 0, .int .i64 0, .int .i64 0]) (t := 72) ?hr ?_; (case hd => rfl); (case hg => rfl); (case hr => first | (go_simp; done) | (go_simp; rfl)); intro gb596 hg w45 hbox hb; replace HO_0 := a_ (Kd.R_below (rp_ HO_0) hb); have BK596 := a_ hbox; have GW596 := a_ ((by rw [hg]; exact (kz_ HK) : w.heap.size ≤ gb596)); replace HK := a_ (Kept.below (S := (fun k_ => P0_ k_)) (kp_ HK) hb); have GE596 := a_ ((by rw [hg]; exact (below_size (bl_ HB)) : w0.heap.size ≤ gb596)); replace HB := a_ (below_step (bl_ HB) hb); clear hb hbox hg; obtain ⟨Ao46, co46, eo46⟩ := Kd.R_slice HO_0.out; subst eo46) | ((with_reducible refine gate_callee (f := 25) rfl ?_); refine goesL_ (some 266) rfl rfl Try.func25 (by kernel_rfl) rfl #[.slice Ao46 x0_30.length co46, .slice (some ad585) l1.length c1, .int .i64 x2_1, .bool false, .int .i64 a6, .string a7, .string a8, .bool false, .int .i64 (wrap64 (a10 + 1)), .int .i64 x11_1, .int .i64 a12] rfl ar_ ?_; (with_reducible refine (ih25 kj30 (by have := HK1.out; have := HJ30.out; omega) (fun k_ => some k_ = (.slice Ao46 x0_30.length co46 : Value).ownBlock) (.slice Ao46 x0_30.length co46) x0_30 _ _ l1 x2_1 false a6 a7 a8 false (wrap64 (a10 + 1)) x11_1 a12 t597 t600 t601 true w0 _ ?side1 ?side2 ?side3 ?side4 A42.out).mono ?_); (case side1 => exact bl_ HB); (case side2 => exact Kd.R_tight rfl HO_0.out); (case side3 => exact Kd.C_kept_call HR1.out (kp_ HK) (fun k_ hs_ => (fun e_ => (HO_0.out.1 k_ e_.symm)) hs_)); (case side4 => exact HC1.out); rintro e w47 ⟨v598, rfl, ho0, hb, hkp⟩; refine ⟨_, rfl, ?_⟩; replace BK596 := a_ (blk_kept (bk_ BK596) hkp (fun hs_ => (fun e_ => (Kd.R_ne HO_0.out BK596.out (by decide)) e_) hs_)); have HO599 := a_ (Kd.R_mono (ok' := fun k_ => (P0_ k_ ∨ w.heap.size ≤ k_)) ho0 (fun k_ hk_ => Or.elim hk_ (fun hs_ => (HO_0.out.1 k_ (hs_).symm)) (fun hn_ => (.inr (Nat.le_trans (kz_ HK) hn_))))); replace HK := a_ (Kept.then_ (S := (fun k_ => P0_ k_)) (kp_ HK) hkp (fun k_ hs_ => (fun e_ => (HO_0.out.1 k_ e_.symm)) hs_)); replace HB := a_ hb; clear HO_0; (try clear hb); (try clear hkp); (try clear ho0)))
       go_roundg kj30
       case measure => have := HK1.out; have := HJ30.out; omega
       case rel => exact ⟨(t597), (wrap64 ((wrap64 (t600 - 1)) + 1)), (false), (t601), (wrap64 (x35_1 + 1)), rl_, rl_, rl_, rl_, H', ⟨by have := HK1.out; have := HJ30.out; omega⟩, ⟨rp_ HO599⟩, ⟨kp_ HK⟩, ⟨bl_ HB⟩⟩
      replace c44 := Bool.eq_false_iff.mpr c44
      subst c44
      rw [if_neg (show ¬ (false = true) by decide)] at H
      simp only [Option.some.injEq, Prod.mk.injEq] at H
      obtain ⟨rfl, rfl, rfl, rfl⟩ := H
      go_wp2_with (first | ((with_reducible refine gate_dst (N := 36) rfl ?_); (try (refine gate_guard (by rfl) ?_; dsimp only)); refine box_event ?hg (N := 36) ?hd (cs := #[.int .i64 0, .int .i64 0, .int .i64 0, .int .i64 0]) (t := 72) ?hr ?_; (case hd => rfl); (case hg => rfl); (case hr => first | (go_simp; done) | (go_simp; rfl)); intro gb596 hg w48 hbox hb; replace HO_0 := a_ (Kd.R_below (rp_ HO_0) hb); have BK596 := a_ hbox; have GW596 := a_ ((by rw [hg]; exact (kz_ HK) : w.heap.size ≤ gb596)); replace HK := a_ (Kept.below (S := (fun k_ => P0_ k_)) (kp_ HK) hb); have GE596 := a_ ((by rw [hg]; exact (below_size (bl_ HB)) : w0.heap.size ≤ gb596)); replace HB := a_ (below_step (bl_ HB) hb); clear hb hbox hg; obtain ⟨Ao49, co49, eo49⟩ := Kd.R_slice HO_0.out; subst eo49) | ((with_reducible refine gate_callee (f := 25) rfl ?_); refine goesL_ (some 266) rfl rfl Try.func25 (by kernel_rfl) rfl #[.slice Ao49 x0_30.length co49, .slice (some ad585) l1.length c1, .int .i64 x2_1, .bool false, .int .i64 a6, .string a7, .string a8, .bool false, .int .i64 (wrap64 (a10 + 1)), .int .i64 x11_1, .int .i64 a12] rfl ar_ ?_; (with_reducible refine (ih25 kj30 (by have := HK1.out; have := HJ30.out; omega) (fun k_ => some k_ = (.slice Ao49 x0_30.length co49 : Value).ownBlock) (.slice Ao49 x0_30.length co49) x0_30 _ _ l1 x2_1 false a6 a7 a8 false (wrap64 (a10 + 1)) x11_1 a12 t597 t600 t601 false w0 _ ?side1 ?side2 ?side3 ?side4 A42.out).mono ?_); (case side1 => exact bl_ HB); (case side2 => exact Kd.R_tight rfl HO_0.out); (case side3 => exact Kd.C_kept_call HR1.out (kp_ HK) (fun k_ hs_ => (fun e_ => (HO_0.out.1 k_ e_.symm)) hs_)); (case side4 => exact HC1.out); rintro e w50 ⟨v598, rfl, ho0, hb, hkp⟩; refine ⟨_, rfl, ?_⟩; replace BK596 := a_ (blk_kept (bk_ BK596) hkp (fun hs_ => (fun e_ => (Kd.R_ne HO_0.out BK596.out (by decide)) e_) hs_)); have HO599 := a_ (Kd.R_mono (ok' := fun k_ => (P0_ k_ ∨ w.heap.size ≤ k_)) ho0 (fun k_ hk_ => Or.elim hk_ (fun hs_ => (HO_0.out.1 k_ (hs_).symm)) (fun hn_ => (.inr (Nat.le_trans (kz_ HK) hn_))))); replace HK := a_ (Kept.then_ (S := (fun k_ => P0_ k_)) (kp_ HK) hkp (fun k_ hs_ => (fun e_ => (HO_0.out.1 k_ e_.symm)) hs_)); replace HB := a_ hb; clear HO_0; (try clear hb); (try clear hkp); (try clear ho0)))
      refine bodyPost_ret (results_list (rs := [.tmp 26, .tmp 27, .tmp 28, .tmp 29]) rfl (by simp) (.tmp (.tmp (.tmp (.tmp .nil))))) rfl ?_
      exact ⟨_, by first | rfl | (simp [errW_none, errW_some] <;> rfl) | (simp [*, errW_none, errW_some] <;> rfl), rp_ HO599, bl_ HB, kp_ HK⟩
end Go.Proofs.Ytnilbkfhfnofgaa.PFnPrWidthMember
