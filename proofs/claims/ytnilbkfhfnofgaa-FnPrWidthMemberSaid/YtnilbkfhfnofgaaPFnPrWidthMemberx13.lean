/- Contracts of Go functions of this seat: a Lean function over numbers and lists for each, and a proof that the Go function returns what it gives. Made by program. -/
import Derived.Test.YtnilbkfhfnofgaaPFnPrWidthMemberx0
import Derived.Test.YtnilbkfhfnofgaaPFnPrWidthMemberx10
import Derived.Test.YtnilbkfhfnofgaaPFnPrWidthMemberx11
import Derived.Test.YtnilbkfhfnofgaaPFnPrWidthMemberx12
namespace Go.Proofs.Ytnilbkfhfnofgaa.PFnPrWidthMember
open Go.RowKit Go.Proofs.YtnilbkfhfnofgaaW.PrintWords Go.Proofs.YtnilbkfhfnofgaaW.PrintLast Go.Proofs.YtnilbkfhfnofgaaW.PrintMore
attribute [local go_sem] max2_int min2_int max_two min_two max_three min_three max_four min_four   -- for this text's walks alone
set_option linter.unusedVariables false
set_option linter.unusedSimpArgs false
/-! ### pObA: function 36 -/
set_option maxHeartbeats 8000000 in
set_option maxRecDepth 100000 in
theorem pObA.callsH (k : Nat) (ih : ∀ m_, m_ < k → pOb.CT m_) (ih25 : ∀ m_, m_ < k → pAn.CT m_) : pObA.CT k := by
 intro P0_ u9000_ l0 A1 c1 l1 a2 a3 a4 a5 a6 a7 a8 a9 a10 a11 a12 r1 r2 r3 r4 w0 w hB ho0 hr1 hc1 h
 cases k with
 | zero => exact absurd h (by simp [pObA.f])
 | succ k =>
 simp only [pObA.f] at h
 have hu72 := Try.underlying72
 have HO0 := a_ (show Kd.R (Kd.int .u8) 5 w w0.heap.size (fun k_ => (P0_ k_ ∨ w.heap.size ≤ k_)) u9000_ l0 from Kd.R_mono ho0 (fun k_ hk => (.inl hk)))
 have HR1 := a_ hr1
 have HC1 := a_ hc1
 clear hr1 hc1
 have HK := a_ (Kept.refl w (fun k_ => P0_ k_))
 have HW0 := a_ hB.size
 have HB := a_ hB
 clear hB
 have H : (if a9 = true then (none) else (if a5 = true then (if a3 = 123 then (if a12 = (-1) then (if a6 > 0 then (if a3 = 91 then (none) else (pObA.j0 k l0 l1 a2 a3 a4 a5 a6 a7 a8 a9 a10 a12)) else (pObA.j0 k l0 l1 a2 a3 a4 a5 a6 a7 a8 a9 a10 a12)) else (none)) else (none)) else (none))) = some (r1, r2, r3, r4) := h
 clear h
 by_cases c14 : a9 = true
 ·
  subst c14
  rw [if_pos (by trivial)] at H
  exact absurd H (by simp)
 replace c14 := Bool.eq_false_iff.mpr c14
 subst c14
 rw [if_neg (show ¬ (false = true) by decide)] at H
 by_cases c15 : a5 = true
 rotate_left
 ·
  replace c15 := Bool.eq_false_iff.mpr c15
  subst c15
  rw [if_neg (show ¬ (false = true) by decide)] at H
  exact absurd H (by simp)
 subst c15
 rw [if_pos (by trivial)] at H
 by_cases c16 : a3 = 123
 rotate_left
 ·
  rw [if_neg c16] at H
  exact absurd H (by simp)
 rw [if_pos c16] at H
 have c16b0 : (a3 == 123) = true := beq_iff_eq.mpr c16
 have c16b1 : (a3 != 123) = false := bne_eq_false_iff_eq.mpr c16
 clear c16
 by_cases c17 : a12 = (-1)
 rotate_left
 ·
  rw [if_neg c17] at H
  exact absurd H (by simp)
 rw [if_pos c17] at H
 have c17b0 : (a12 == (-1)) = true := beq_iff_eq.mpr c17
 have c17b1 : (a12 != (-1)) = false := bne_eq_false_iff_eq.mpr c17
 clear c17
 have HC18 := a_ H
 clear H
 go_enter Try.func36, Try.ntmps36
 go_upto_if 38 with (fail)
 go_cut [0, 2] (fun v0 v2 wc => ∃ (kq : Nat) (x0_17 : List Int) (x2_17 : Int), v2 = .int .i64 x2_17 ∧ Aside0 (pObA.j0 kq x0_17 l1 x2_17 a3 a4 true a6 a7 a8 false a10 a12 = some (r1, r2, r3, r4)) ∧ Aside0 (kq ≤ k) ∧ Aside0 (Kd.R (Kd.int .u8) 5 wc w0.heap.size (fun k_ => (P0_ k_ ∨ w.heap.size ≤ k_)) v0 x0_17) ∧ Aside0 (Kept w wc (fun k_ => P0_ k_)) ∧ Aside0 (Below w0.heap.size w0 wc))
 case first =>
  have H := HC18.out
  clear HC18
  by_cases c19 : a6 > 0
  rotate_left
  ·
   rw [if_neg c19] at H
   have c19b0 : decide (0 < a6) = false := decide_eq_false c19
   clear c19
   (first | rw [c19b0] | (simp only [i64_w, i32_w]; rw [c19b0]) | skip)
   have H' := a_ H
   clear H
   go_wp2
   go_meet
   case rel => exact ⟨_, (l0), (a2), rl_, H', ⟨by first | omega | exact Nat.le_refl _⟩, ⟨rp_ HO0⟩, ⟨kp_ HK⟩, ⟨bl_ HB⟩⟩
  rw [if_pos c19] at H
  have c19b0 : decide (0 < a6) = true := decide_eq_true c19
  clear c19
  (first | rw [c19b0] | (simp only [i64_w, i32_w]; rw [c19b0]) | skip)
  by_cases c20 : a3 = 91
  ·
   rw [if_pos c20] at H
   exact absurd H (by simp)
  rw [if_neg c20] at H
  have c20b0 : (a3 == 91) = false := beq_eq_false_iff_ne.mpr c20
  have c20b1 : (a3 != 91) = true := bne_iff_ne.mpr c20
  have H' := a_ H
  clear H
  go_wp2
  go_meet
  case rel => exact ⟨_, (l0), (a2), rl_, H', ⟨by first | omega | exact Nat.le_refl _⟩, ⟨rp_ HO0⟩, ⟨kp_ HK⟩, ⟨bl_ HB⟩⟩
 clear HC18
 (try clear c1); (try clear c2); (try clear p2); (try clear c3); (try clear c14); (try clear c15); (try clear c16); (try clear c16b0); (try clear c16b1); (try clear c17); (try clear c17b0); (try clear c17b1); (try clear c19); (try clear c19b0); (try clear c20); (try clear c20b0); (try clear c20b1)
 as_aux_lemma =>
  obtain ⟨kq, x0_17, x2_17, rfl, HA, HJ17, HO_0, HK, HB⟩ := hcut
  cases kq with
  | zero => exact absurd HA.out (by simp [pObA.j0])
  | succ kj17 =>
   have H := HA.out
   clear HA
   simp only [pObA.j0] at H
   have c21 : ¬ (false = true) := Bool.false_ne_true
   rw [if_neg (show ¬ (false = true) by decide)] at H
   rw [if_pos (by trivial)] at H
   by_cases c23 : a3 = 123
   rotate_left
   ·
    rw [if_neg c23] at H
    exact absurd H (by simp)
   rw [if_pos c23] at H
   have c23b0 : (a3 == 123) = true := beq_iff_eq.mpr c23
   have c23b1 : (a3 != 123) = false := bne_eq_false_iff_eq.mpr c23
   clear c23
   by_cases c24 : a12 = (-1)
   rotate_left
   ·
    rw [if_neg c24] at H
    exact absurd H (by simp)
   rw [if_pos c24] at H
   have c24b0 : (a12 == (-1)) = true := beq_iff_eq.mpr c24
   have c24b1 : (a12 != (-1)) = false := bne_eq_false_iff_eq.mpr c24
   clear c24
   by_cases c25 : x0_17.length < 140737488355328
   rotate_left
   ·
    rw [if_neg c25] at H
    exact absurd H (by simp)
   rw [if_pos c25] at H
   have LMc25 := a_ c25
   clear c25
   obtain ⟨y490, hy490⟩ : ∃ y_ : List Int, y_ = (x0_17 ++ [a3]) := ⟨_, rfl⟩
   replace H : (pObA.l0 kj17 y490 l1 (wrap64 (x2_17 + 1)) a3 a4 true a6 a7 a8 false a10 a12 0) = some (r1, r2, r3, r4) := by first | exact lt_ H hy490 | (rw [hy490]; exact H) | exact H
   have Ny490 := a_ hy490
   clear hy490
   have H' := a_ H
   clear H
   go_wp2_with (first | ((with_reducible refine gate_builtin (b := .append) (xs := #[.tmp 97, .tmp 99]) rfl ?_); (try (refine gate_guard (by rfl) ?_; dsimp only)); at_builtin; refine Kd.R_append (Kd.int .u8) (w0 := w0) w0.heap.size rfl (.tmp 97) (.tmp 99) 40 5 (.int .u8 0) 1 rfl Try.underlying40 info5 rfl (by decide) (by omega) u0 x0_17 a3 [.int .u8 a3] (fun k_ => (P0_ k_ ∨ w.heap.size ≤ k_)) (fun _ => False) rfl rfl ?aP (fun _ hk => hk.elim) ?aF ?aO ?aB ?aS ?aL ?_; (case aP => exact rfl); (case aB => exact (bl_ HB)); (case aF => exact (ki_ (kz_ HK))); (case aO => exact (rp_ HO_0)); (case aS => exact (below_size (bl_ HB))); (case aL => have := LMc25.out; omega); intro v491 w26 ho hb hg hat; rw [← Ny490.out] at ho; replace HB := a_ hb; replace HK := a_ (Kept.of_grown (S := (fun k_ => P0_ k_)) hg (kp_ HK) (fun k_ e_ => (HO_0.out.1 k_ e_))); have HO492 := a_ ho; clear HO_0; clear ho hb hg hat))
   (try simp only [Act.put, List.setIfInBounds_toArray, List.set_cons_zero, List.set_cons_succ])
   go_loopg [0, 2, 9, 35] kj17 (fun kq v0 v2 v9 v35 w' => ∃ (x0_2 : List Int) (x2_2 : Int) (x9_2 : Bool) (x35_2 : Int), v2 = .int .i64 x2_2 ∧ v9 = .bool x9_2 ∧ v35 = .int .i64 x35_2 ∧ Aside0 (pObA.l0 kq x0_2 l1 x2_2 a3 a4 true a6 a7 a8 x9_2 a10 a12 x35_2 = some (r1, r2, r3, r4)) ∧ Aside0 (kq ≤ kj17) ∧ Aside0 (Kd.R (Kd.int .u8) 5 w' w0.heap.size (fun k_ => (P0_ k_ ∨ w.heap.size ≤ k_)) v0 x0_2) ∧ Aside0 (Kept w w' (fun k_ => P0_ k_)) ∧ Aside0 (Below w0.heap.size w0 w'))
   case atStart => exact ⟨(y490), (wrap64 (x2_17 + 1)), (false), (0), rl_, rl_, rl_, H', ⟨Nat.le_refl _⟩, ⟨rp_ HO492⟩, ⟨kp_ HK⟩, ⟨bl_ HB⟩⟩
   case round =>
    clear H'
    (try clear c1); (try clear c2); (try clear p2); (try clear c3); (try clear p6); (try clear c14); (try clear c15); (try clear c16); (try clear c16b0); (try clear c16b1); (try clear c17); (try clear c17b0); (try clear c17b1); (try clear c19); (try clear c19b0); (try clear c20); (try clear c20b0); (try clear c20b1); (try clear c21); (try clear c22); (try clear c23); (try clear c23b0); (try clear c23b1); (try clear c24); (try clear c24b0); (try clear c24b1); (try clear c25); (try clear p2)
    as_aux_lemma =>
     obtain ⟨x0_2, x2_2, x9_2, x35_2, rfl, rfl, rfl, HA, HK2, HO_0, HK, HB⟩ := hrel
     cases gk with
     | zero => exact absurd HA.out (by simp [pObA.l0])
     | succ k2 =>
      have H := HA.out
      clear HA
      simp only [pObA.l0] at H
      by_cases c27 : x9_2 = true
      ·
       subst c27
       rw [if_pos (by trivial)] at H
       exact absurd H (by simp)
      replace c27 := Bool.eq_false_iff.mpr c27
      subst c27
      rw [if_neg (show ¬ (false = true) by decide)] at H
      rw [if_pos (by trivial)] at H
      by_cases c29 : a3 = 123
      rotate_left
      ·
       rw [if_neg c29] at H
       exact absurd H (by simp)
      rw [if_pos c29] at H
      have c29b0 : (a3 == 123) = true := beq_iff_eq.mpr c29
      have c29b1 : (a3 != 123) = false := bne_eq_false_iff_eq.mpr c29
      clear c29
      by_cases c30 : a12 = (-1)
      rotate_left
      ·
       rw [if_neg c30] at H
       exact absurd H (by simp)
      rw [if_pos c30] at H
      have c30b0 : (a12 == (-1)) = true := beq_iff_eq.mpr c30
      have c30b1 : (a12 != (-1)) = false := bne_eq_false_iff_eq.mpr c30
      clear c30
      by_cases c31 : x2_2 < (l1.length : Int)
      rotate_left
      ·
       rw [if_neg c31] at H
       exact absurd H (by simp)
      rw [if_pos c31] at H
      have c31b0 : decide (x2_2 < (l1.length : Int)) = true := decide_eq_true c31
      clear c31
      by_cases c32 : 0 ≤ x2_2
      rotate_left
      ·
       rw [if_neg c32] at H
       exact absurd H (by simp)
      rw [if_pos c32] at H
      have c32b0 : decide (0 ≤ x2_2) = true := decide_eq_true c32
      clear c32
      by_cases c33 : (rd l1 x2_2) ≤ 32
      ·
       rw [if_pos c33] at H
       have c33b0 : decide ((rd l1 x2_2) ≤ 32) = true := decide_eq_true c33
       clear c33
       have H' := a_ H
       clear H
       have p493 : 0 ≤ (x2_2 : Int) := of_decide_eq_true as_
       have q493 : x2_2 < (l1.length : Int) := of_decide_eq_true as_
       obtain ⟨ad493, e493, hx493_0⟩ := Kd.at_int (Kd.C_kept_now HR1.out HK.out) x2_2 p493 q493
       cases e493
       replace p493 := eq_true p493
       replace q493 := eq_true q493
       go_wp2
       go_roundg k2
       case measure => have := HJ17.out; have := HK2.out; omega
       case rel => exact ⟨(x0_2), (wrap64 (x2_2 + 1)), (false), (x35_2), rl_, rl_, rl_, H', ⟨by have := HJ17.out; have := HK2.out; omega⟩, ⟨rp_ HO_0⟩, ⟨kp_ HK⟩, ⟨bl_ HB⟩⟩
      rw [if_neg c33] at H
      have c33b0 : decide ((rd l1 x2_2) ≤ 32) = false := decide_eq_false c33
      clear c33
      by_cases c34 : (rd l1 x2_2) = a4
      ·
       rw [if_pos c34] at H
       have c34b0 : ((rd l1 x2_2) == a4) = true := beq_iff_eq.mpr c34
       have c34b1 : ((rd l1 x2_2) != a4) = false := bne_eq_false_iff_eq.mpr c34
       clear c34
       by_cases c35 : x35_2 > 0
       rotate_left
       ·
        rw [if_neg c35] at H
        exact absurd H (by simp)
       rw [if_pos c35] at H
       have c35b0 : decide (0 < x35_2) = true := decide_eq_true c35
       clear c35
       obtain ⟨ji36, hji36⟩ : ∃ j_ : Int, (wrap64 ((x0_2.length : Int) - 1)) = j_ := ⟨_, rfl⟩
       replace H : (if 0 ≤ (ji36) then (if (ji36) < (x0_2.length : Int) then (if (rd x0_2 (ji36)) = 32 then (none) else (if x0_2.length < 140737488355328 then ((some (x0_2 ++ [10] : List Int)).bind fun y496 => (if 0 ≤ (wrap64 ((y496.length : Int) - 1)) then (if (wrap64 ((y496.length : Int) - 1)) < (y496.length : Int) then (if (rd y496 (wrap64 ((y496.length : Int) - 1))) = a3 then (none) else ((pTb.f k2 y496 a7 a8 a10).bind fun t500 => (if t500.length < 140737488355328 then (some ((t500 ++ [a4]), wrap64 (x2_2 + 1), (x0_2.length : Int), (a3 != 123))) else (none)))) else (none)) else (none))) else (none))) else (none)) else (none)) = some (r1, r2, r3, r4) := by first | (rw [hji36] at H; exact H) | (simp only [hji36] at H ⊢; exact H)
       have hji36w : (IntKind.i64.wrap ((x0_2.length : Int) - 1)) = ji36 := (i64_w _).trans hji36
       by_cases c37 : 0 ≤ (ji36)
       rotate_left
       ·
        rw [if_neg c37] at H
        exact absurd H (by simp)
       rw [if_pos c37] at H
       have c37b0 : decide (0 ≤ (ji36)) = true := decide_eq_true c37
       clear c37
       by_cases c38 : (ji36) < (x0_2.length : Int)
       rotate_left
       ·
        rw [if_neg c38] at H
        exact absurd H (by simp)
       rw [if_pos c38] at H
       have c38b0 : decide ((ji36) < (x0_2.length : Int)) = true := decide_eq_true c38
       clear c38
       by_cases c39 : (rd x0_2 (ji36)) = 32
       ·
        rw [if_pos c39] at H
        exact absurd H (by simp)
       rw [if_neg c39] at H
       have c39b0 : ((rd x0_2 (ji36)) == 32) = false := beq_eq_false_iff_ne.mpr c39
       have c39b1 : ((rd x0_2 (ji36)) != 32) = true := bne_iff_ne.mpr c39
       by_cases c40 : x0_2.length < 140737488355328
       rotate_left
       ·
        rw [if_neg c40] at H
        exact absurd H (by simp)
       rw [if_pos c40] at H
       have LMc40 := a_ c40
       clear c40
       obtain ⟨y496, hy496⟩ : ∃ y_ : List Int, y_ = (x0_2 ++ [10]) := ⟨_, rfl⟩
       replace H := lt_ H hy496
       have Ny496 := a_ hy496
       clear hy496
       obtain ⟨ji41, hji41⟩ : ∃ j_ : Int, (wrap64 ((y496.length : Int) - 1)) = j_ := ⟨_, rfl⟩
       replace H : (if 0 ≤ (ji41) then (if (ji41) < (y496.length : Int) then (if (rd y496 (ji41)) = a3 then (none) else ((pTb.f k2 y496 a7 a8 a10).bind fun t500 => (if t500.length < 140737488355328 then (some ((t500 ++ [a4]), wrap64 (x2_2 + 1), (x0_2.length : Int), (a3 != 123))) else (none)))) else (none)) else (none)) = some (r1, r2, r3, r4) := by first | (rw [hji41] at H; exact H) | (simp only [hji41] at H ⊢; exact H)
       have hji41w : (IntKind.i64.wrap ((y496.length : Int) - 1)) = ji41 := (i64_w _).trans hji41
       by_cases c42 : 0 ≤ (ji41)
       rotate_left
       ·
        rw [if_neg c42] at H
        exact absurd H (by simp)
       rw [if_pos c42] at H
       have c42b0 : decide (0 ≤ (ji41)) = true := decide_eq_true c42
       clear c42
       by_cases c43 : (ji41) < (y496.length : Int)
       rotate_left
       ·
        rw [if_neg c43] at H
        exact absurd H (by simp)
       rw [if_pos c43] at H
       have c43b0 : decide ((ji41) < (y496.length : Int)) = true := decide_eq_true c43
       clear c43
       by_cases c44 : (rd y496 (ji41)) = a3
       ·
        rw [if_pos c44] at H
        exact absurd H (by simp)
       rw [if_neg c44] at H
       have c44b0 : ((rd y496 (ji41)) == a3) = false := beq_eq_false_iff_ne.mpr c44
       have c44b1 : ((rd y496 (ji41)) != a3) = true := bne_iff_ne.mpr c44
       replace H := Option.bind_eq_some_iff.mp H
       obtain ⟨t500, A450, H⟩ := H
       replace H : (if t500.length < 140737488355328 then (some ((t500 ++ [a4]), wrap64 (x2_2 + 1), (x0_2.length : Int), (a3 != 123))) else (none)) = some (r1, r2, r3, r4) := H
       have A45 := a_ A450
       clear A450
       by_cases c46 : t500.length < 140737488355328
       rotate_left
       ·
        rw [if_neg c46] at H
        exact absurd H (by simp)
       rw [if_pos c46] at H
       have LMc46 := a_ c46
       clear c46
       obtain ⟨y503, hy503⟩ : ∃ y_ : List Int, y_ = (t500 ++ [a4]) := ⟨_, rfl⟩
       replace H : (some (y503, wrap64 (x2_2 + 1), (x0_2.length : Int), (a3 != 123))) = some (r1, r2, r3, r4) := by first | exact lt_ H hy503 | (rw [hy503]; exact H) | exact H
       have Ny503 := a_ hy503
       clear hy503
       simp only [Option.some.injEq, Prod.mk.injEq] at H
       obtain ⟨rfl, rfl, rfl, rfl⟩ := H
       have p493 : 0 ≤ (x2_2 : Int) := of_decide_eq_true as_
       have q493 : x2_2 < (l1.length : Int) := of_decide_eq_true as_
       obtain ⟨ad493, e493, hx493_0⟩ := Kd.at_int (Kd.C_kept_now HR1.out HK.out) x2_2 p493 q493
       cases e493
       replace p493 := eq_true p493
       replace q493 := eq_true q493
       have p494 : 0 ≤ (x2_2 : Int) := of_decide_eq_true as_
       have q494 : x2_2 < (l1.length : Int) := of_decide_eq_true as_
       obtain ⟨ad494, e494, hx494_0⟩ := Kd.at_int (Kd.C_kept_now HR1.out HK.out) x2_2 p494 q494
       obtain rfl : ad493 = ad494 := (by injection e494)
       replace p494 := eq_true p494
       replace q494 := eq_true q494
       obtain ⟨Ao47, co47, eo47⟩ := Kd.R_slice HO_0.out
       subst eo47
       have p495 : 0 ≤ ((ji36) : Int) := of_decide_eq_true as_
       have q495 : (ji36) < (x0_2.length : Int) := of_decide_eq_true as_
       obtain ⟨ad495, e495, hx495_0⟩ := Kd.at_int (Kd.R_reads' HO_0.out).2.2 (ji36) p495 q495
       cases e495
       replace p495 := eq_true p495
       replace q495 := eq_true q495
       go_wp2_with (first | ((with_reducible refine gate_builtin (b := .append) (xs := #[.tmp 150, .tmp 151]) rfl ?_); (try (refine gate_guard (by rfl) ?_; dsimp only)); at_builtin; refine Kd.R_append (Kd.int .u8) (w0 := w0) w0.heap.size rfl (.tmp 150) (.tmp 151) 40 5 (.int .u8 0) 1 rfl Try.underlying40 info5 rfl (by decide) (by omega) (.slice (some ad495) x0_2.length co47) x0_2 10 [.int .u8 10] (fun k_ => (P0_ k_ ∨ w.heap.size ≤ k_)) (fun _ => False) rfl rfl ?aP (fun _ hk => hk.elim) ?aF ?aO ?aB ?aS ?aL ?_; (case aP => exact rfl); (case aB => exact (bl_ HB)); (case aF => exact (ki_ (kz_ HK))); (case aO => exact (rp_ HO_0)); (case aS => exact (below_size (bl_ HB))); (case aL => have := LMc40.out; omega); intro v497 w48 ho hb hg hat; rw [← Ny496.out] at ho; replace HB := a_ hb; replace HK := a_ (Kept.of_grown (S := (fun k_ => P0_ k_)) hg (kp_ HK) (fun k_ e_ => (HO_0.out.1 k_ e_))); have HO498 := a_ ho; clear HO_0; clear ho hb hg hat; obtain ⟨Ao49, co49, eo49⟩ := Kd.R_slice HO498.out; subst eo49; have p499 : 0 ≤ ((ji41) : Int) := of_decide_eq_true as_; have q499 : (ji41) < (y496.length : Int) := of_decide_eq_true as_; obtain ⟨ad499, e499, hx499_0⟩ := Kd.at_int (Kd.R_reads' HO498.out).2.2 (ji41) p499 q499; cases e499; replace p499 := eq_true p499; replace q499 := eq_true q499) | ((with_reducible refine gate_callee (f := 41) rfl ?_); refine goesL_ (some 165) rfl rfl Try.func41 (by kernel_rfl) rfl #[.slice (some ad499) y496.length co49, .string a7, .string a8, .int .i64 a10] rfl ar_ ?_; (with_reducible refine (pTb.calls k2 (fun k_ => some k_ = (.slice (some ad499) y496.length co49 : Value).ownBlock) (.slice (some ad499) y496.length co49) y496 a7 a8 a10 t500 w0 _ ?side1 ?side2 A45.out).mono ?_); (case side1 => exact bl_ HB); (case side2 => exact Kd.R_tight rfl HO498.out); rintro e w50 ⟨v501, rfl, ho0, hb, hkp⟩; refine ⟨_, rfl, ?_⟩; have HO502 := a_ (Kd.R_mono (ok' := fun k_ => (P0_ k_ ∨ w.heap.size ≤ k_)) ho0 (fun k_ hk_ => Or.elim hk_ (fun hs_ => (HO498.out.1 k_ (hs_).symm)) (fun hn_ => (.inr (Nat.le_trans (kz_ HK) hn_))))); replace HK := a_ (Kept.then_ (S := (fun k_ => P0_ k_)) (kp_ HK) hkp (fun k_ hs_ => (fun e_ => (HO498.out.1 k_ e_.symm)) hs_)); replace HB := a_ hb; clear HO498; (try clear hb); (try clear hkp); (try clear ho0)) | ((with_reducible refine gate_builtin (b := .append) (xs := #[.tmp 166, .tmp 168]) rfl ?_); (try (refine gate_guard (by rfl) ?_; dsimp only)); at_builtin; refine Kd.R_append (Kd.int .u8) (w0 := w0) w0.heap.size rfl (.tmp 166) (.tmp 168) 40 5 (.int .u8 0) 1 rfl Try.underlying40 info5 rfl (by decide) (by omega) v501 t500 a4 [.int .u8 a4] (fun k_ => (P0_ k_ ∨ w.heap.size ≤ k_)) (fun _ => False) rfl rfl ?aP (fun _ hk => hk.elim) ?aF ?aO ?aB ?aS ?aL ?_; (case aP => exact rfl); (case aB => exact (bl_ HB)); (case aF => exact (ki_ (kz_ HK))); (case aO => exact (rp_ HO502)); (case aS => exact (below_size (bl_ HB))); (case aL => have := LMc46.out; omega); intro v504 w51 ho hb hg hat; rw [← Ny503.out] at ho; replace HB := a_ hb; replace HK := a_ (Kept.of_grown (S := (fun k_ => P0_ k_)) hg (kp_ HK) (fun k_ e_ => (HO502.out.1 k_ e_))); have HO505 := a_ ho; clear HO502; clear ho hb hg hat))
       refine bodyPost_ret (results_list (rs := [.tmp 26, .tmp 27, .tmp 28, .tmp 29]) rfl (by simp) (.tmp (.tmp (.tmp (.tmp .nil))))) rfl ?_
       exact ⟨_, by first | rfl | (simp [errW_none, errW_some] <;> rfl) | (simp only [← hji36, ← hji41]; first | rfl | (simp [errW_none, errW_some] <;> rfl)) | (simp [*, errW_none, errW_some] <;> rfl), rp_ HO505, bl_ HB, kp_ HK⟩
      rw [if_neg c34] at H
      have c34b0 : ((rd l1 x2_2) == a4) = false := beq_eq_false_iff_ne.mpr c34
      have c34b1 : ((rd l1 x2_2) != a4) = true := bne_iff_ne.mpr c34
      by_cases c52 : a3 = 91
      ·
       rw [if_pos c52] at H
       exact absurd H (by simp)
      rw [if_neg c52] at H
      have c52b0 : (a3 == 91) = false := beq_eq_false_iff_ne.mpr c52
      have c52b1 : (a3 != 91) = true := bne_iff_ne.mpr c52
      by_cases c53 : (rd l1 x2_2) = 34
      rotate_left
      ·
       rw [if_neg c53] at H
       exact absurd H (by simp)
      rw [if_pos c53] at H
      have c53b0 : ((rd l1 x2_2) == 34) = true := beq_iff_eq.mpr c53
      have c53b1 : ((rd l1 x2_2) != 34) = false := bne_eq_false_iff_eq.mpr c53
      clear c53
      by_cases c54 : x35_2 > 0
      ·
       rw [if_pos c54] at H
       exact absurd H (by simp)
      rw [if_neg c54] at H
      have c54b0 : decide (0 < x35_2) = false := decide_eq_false c54
      clear c54
      obtain ⟨ji55, hji55⟩ : ∃ j_ : Int, (wrap64 ((x0_2.length : Int) - 1)) = j_ := ⟨_, rfl⟩
      replace H : (if 0 ≤ (ji55) then (if (ji55) < (x0_2.length : Int) then (if (rd x0_2 (ji55)) = 32 then (none) else (if x0_2.length < 140737488355328 then ((pTb.f k2 (x0_2 ++ [10]) a7 a8 (wrap64 (a10 + 1))).bind fun t512 => ((pSt.f k2 t512 l1 x2_2 (x0_2.length : Int)).bind fun bt515 => (if bt515.1.length < 140737488355328 then ((some (bt515.1 ++ [58] : List Int)).bind fun y521 => (if y521.length < 140737488355328 then ((pAn.f k2 (y521 ++ [32]) l1 bt515.2.1 true a6 a7 a8 false (wrap64 (a10 + 1)) bt515.2.2.1 a12).bind fun bt527 => (pObA.l0 k2 bt527.1 l1 (wrap64 ((wrap64 (bt527.2.1 - 1)) + 1)) a3 a4 true a6 a7 a8 false a10 a12 (wrap64 (x35_2 + 1)))) else (none))) else (none)))) else (none))) else (none)) else (none)) = some (r1, r2, r3, r4) := by first | (rw [hji55] at H; exact H) | (simp only [hji55] at H ⊢; exact H)
      have hji55w : (IntKind.i64.wrap ((x0_2.length : Int) - 1)) = ji55 := (i64_w _).trans hji55
      by_cases c56 : 0 ≤ (ji55)
      rotate_left
      ·
       rw [if_neg c56] at H
       exact absurd H (by simp)
      rw [if_pos c56] at H
      have c56b0 : decide (0 ≤ (ji55)) = true := decide_eq_true c56
      clear c56
      by_cases c57 : (ji55) < (x0_2.length : Int)
      rotate_left
      ·
       rw [if_neg c57] at H
       exact absurd H (by simp)
      rw [if_pos c57] at H
      have c57b0 : decide ((ji55) < (x0_2.length : Int)) = true := decide_eq_true c57
      clear c57
      by_cases c58 : (rd x0_2 (ji55)) = 32
      ·
       rw [if_pos c58] at H
       exact absurd H (by simp)
      rw [if_neg c58] at H
      have c58b0 : ((rd x0_2 (ji55)) == 32) = false := beq_eq_false_iff_ne.mpr c58
      have c58b1 : ((rd x0_2 (ji55)) != 32) = true := bne_iff_ne.mpr c58
      by_cases c59 : x0_2.length < 140737488355328
      rotate_left
      ·
       rw [if_neg c59] at H
       exact absurd H (by simp)
      rw [if_pos c59] at H
      have LMc59 := a_ c59
      clear c59
      obtain ⟨y509, hy509⟩ : ∃ y_ : List Int, y_ = (x0_2 ++ [10]) := ⟨_, rfl⟩
      replace H : ((pTb.f k2 y509 a7 a8 (wrap64 (a10 + 1))).bind fun t512 => ((pSt.f k2 t512 l1 x2_2 (x0_2.length : Int)).bind fun bt515 => (if bt515.1.length < 140737488355328 then ((some (bt515.1 ++ [58] : List Int)).bind fun y521 => (if y521.length < 140737488355328 then ((pAn.f k2 (y521 ++ [32]) l1 bt515.2.1 true a6 a7 a8 false (wrap64 (a10 + 1)) bt515.2.2.1 a12).bind fun bt527 => (pObA.l0 k2 bt527.1 l1 (wrap64 ((wrap64 (bt527.2.1 - 1)) + 1)) a3 a4 true a6 a7 a8 false a10 a12 (wrap64 (x35_2 + 1)))) else (none))) else (none)))) = some (r1, r2, r3, r4) := by first | exact lt_ H hy509 | (rw [hy509]; exact H) | exact H
      have Ny509 := a_ hy509
      clear hy509
      replace H := Option.bind_eq_some_iff.mp H
      obtain ⟨t512, A600, H⟩ := H
      replace H : ((pSt.f k2 t512 l1 x2_2 (x0_2.length : Int)).bind fun bt515 => (if bt515.1.length < 140737488355328 then ((some (bt515.1 ++ [58] : List Int)).bind fun y521 => (if y521.length < 140737488355328 then ((pAn.f k2 (y521 ++ [32]) l1 bt515.2.1 true a6 a7 a8 false (wrap64 (a10 + 1)) bt515.2.2.1 a12).bind fun bt527 => (pObA.l0 k2 bt527.1 l1 (wrap64 ((wrap64 (bt527.2.1 - 1)) + 1)) a3 a4 true a6 a7 a8 false a10 a12 (wrap64 (x35_2 + 1)))) else (none))) else (none))) = some (r1, r2, r3, r4) := H
      have A60 := a_ A600
      clear A600
      replace H := Option.bind_eq_some_iff.mp H
      obtain ⟨⟨t515, t518, t519, t520⟩, A610, H⟩ := H
      replace H : (if t515.length < 140737488355328 then ((some (t515 ++ [58] : List Int)).bind fun y521 => (if y521.length < 140737488355328 then ((pAn.f k2 (y521 ++ [32]) l1 t518 true a6 a7 a8 false (wrap64 (a10 + 1)) t519 a12).bind fun bt527 => (pObA.l0 k2 bt527.1 l1 (wrap64 ((wrap64 (bt527.2.1 - 1)) + 1)) a3 a4 true a6 a7 a8 false a10 a12 (wrap64 (x35_2 + 1)))) else (none))) else (none)) = some (r1, r2, r3, r4) := H
      have A61 := a_ A610
      clear A610
      by_cases c62 : t515.length < 140737488355328
      rotate_left
      ·
       rw [if_neg c62] at H
       exact absurd H (by simp)
      rw [if_pos c62] at H
      have LMc62 := a_ c62
      clear c62
      obtain ⟨y521, hy521⟩ : ∃ y_ : List Int, y_ = (t515 ++ [58]) := ⟨_, rfl⟩
      replace H := lt_ H hy521
      have Ny521 := a_ hy521
      clear hy521
      by_cases c63 : y521.length < 140737488355328
      rotate_left
      ·
       rw [if_neg c63] at H
       exact absurd H (by simp)
      rw [if_pos c63] at H
      have LMc63 := a_ c63
      clear c63
      obtain ⟨y524, hy524⟩ : ∃ y_ : List Int, y_ = (y521 ++ [32]) := ⟨_, rfl⟩
      replace H : ((pAn.f k2 y524 l1 t518 true a6 a7 a8 false (wrap64 (a10 + 1)) t519 a12).bind fun bt527 => (pObA.l0 k2 bt527.1 l1 (wrap64 ((wrap64 (bt527.2.1 - 1)) + 1)) a3 a4 true a6 a7 a8 false a10 a12 (wrap64 (x35_2 + 1)))) = some (r1, r2, r3, r4) := by first | exact lt_ H hy524 | (rw [hy524]; exact H) | exact H
      have Ny524 := a_ hy524
      clear hy524
      replace H := Option.bind_eq_some_iff.mp H
      obtain ⟨⟨t527, t530, t531, t532⟩, A640, H⟩ := H
      replace H : (pObA.l0 k2 t527 l1 (wrap64 ((wrap64 (t530 - 1)) + 1)) a3 a4 true a6 a7 a8 false a10 a12 (wrap64 (x35_2 + 1))) = some (r1, r2, r3, r4) := H
      have A64 := a_ A640
      clear A640
      have H' := a_ H
      clear H
      have p493 : 0 ≤ (x2_2 : Int) := of_decide_eq_true as_
      have q493 : x2_2 < (l1.length : Int) := of_decide_eq_true as_
      obtain ⟨ad493, e493, hx493_0⟩ := Kd.at_int (Kd.C_kept_now HR1.out HK.out) x2_2 p493 q493
      cases e493
      replace p493 := eq_true p493
      replace q493 := eq_true q493
      have p494 : 0 ≤ (x2_2 : Int) := of_decide_eq_true as_
      have q494 : x2_2 < (l1.length : Int) := of_decide_eq_true as_
      obtain ⟨ad494, e494, hx494_0⟩ := Kd.at_int (Kd.C_kept_now HR1.out HK.out) x2_2 p494 q494
      obtain rfl : ad493 = ad494 := (by injection e494)
      replace p494 := eq_true p494
      replace q494 := eq_true q494
      have p506 : 0 ≤ (x2_2 : Int) := of_decide_eq_true as_
      have q506 : x2_2 < (l1.length : Int) := of_decide_eq_true as_
      obtain ⟨ad506, e506, hx506_0⟩ := Kd.at_int (Kd.C_kept_now HR1.out HK.out) x2_2 p506 q506
      obtain rfl : ad493 = ad506 := (by injection e506)
      replace p506 := eq_true p506
      replace q506 := eq_true q506
      go_wp2_with (first | ((with_reducible refine gate_dst (N := 36) rfl ?_); (try (refine gate_guard (by rfl) ?_; dsimp only)); refine box_event ?hg (N := 36) ?hd (cs := #[.int .i64 0, .int .i64 0, .int .i64 0, .int .i64 0]) (t := 72) ?hr ?_; (case hd => rfl); (case hg => rfl); (case hr => first | (go_simp; done) | (go_simp; rfl)); intro gb507 hg w65 hbox hb; replace HO_0 := a_ (Kd.R_below (rp_ HO_0) hb); have BK507 := a_ hbox; have GW507 := a_ ((by rw [hg]; exact (kz_ HK) : w.heap.size ≤ gb507)); replace HK := a_ (Kept.below (S := (fun k_ => P0_ k_)) (kp_ HK) hb); have GE507 := a_ ((by rw [hg]; exact (below_size (bl_ HB)) : w0.heap.size ≤ gb507)); replace HB := a_ (below_step (bl_ HB) hb); clear hb hbox hg; obtain ⟨Ao66, co66, eo66⟩ := Kd.R_slice HO_0.out; subst eo66; have p508 : 0 ≤ ((ji55) : Int) := of_decide_eq_true as_; have q508 : (ji55) < (x0_2.length : Int) := of_decide_eq_true as_; obtain ⟨ad508, e508, hx508_0⟩ := Kd.at_int (Kd.R_reads' HO_0.out).2.2 (ji55) p508 q508; cases e508; replace p508 := eq_true p508; replace q508 := eq_true q508) | ((with_reducible refine gate_builtin (b := .append) (xs := #[.tmp 212, .tmp 213]) rfl ?_); (try (refine gate_guard (by rfl) ?_; dsimp only)); at_builtin; refine Kd.R_append (Kd.int .u8) (w0 := w0) w0.heap.size rfl (.tmp 212) (.tmp 213) 40 5 (.int .u8 0) 1 rfl Try.underlying40 info5 rfl (by decide) (by omega) (.slice (some ad508) x0_2.length co66) x0_2 10 [.int .u8 10] (fun k_ => (P0_ k_ ∨ w.heap.size ≤ k_)) (fun _ => False) rfl rfl ?aP (fun _ hk => hk.elim) ?aF ?aO ?aB ?aS ?aL ?_; (case aP => exact rfl); (case aB => exact (bl_ HB)); (case aF => exact (ki_ (kz_ HK))); (case aO => exact (rp_ HO_0)); (case aS => exact (below_size (bl_ HB))); (case aL => have := LMc59.out; omega); intro v510 w67 ho hb hg hat; rw [← Ny509.out] at ho; replace BK507 := a_ (blk_grown (g := gb507) (o := .cells #[.int .i64 0, .int .i64 0, .int .i64 0, .int .i64 0] 72 (0, 0)) (bk_ BK507) hg (Kd.R_ne HO_0.out BK507.out (by decide))); replace HB := a_ hb; replace HK := a_ (Kept.of_grown (S := (fun k_ => P0_ k_)) hg (kp_ HK) (fun k_ e_ => (HO_0.out.1 k_ e_))); have HO511 := a_ ho; clear HO_0; clear ho hb hg hat; obtain ⟨Ao68, co68, eo68⟩ := Kd.R_slice HO511.out; subst eo68) | ((with_reducible refine gate_callee (f := 41) rfl ?_); refine goesL_ (some 230) rfl rfl Try.func41 (by kernel_rfl) rfl #[.slice Ao68 y509.length co68, .string a7, .string a8, .int .i64 (wrap64 (a10 + 1))] rfl ar_ ?_; (with_reducible refine (pTb.calls k2 (fun k_ => some k_ = (.slice Ao68 y509.length co68 : Value).ownBlock) (.slice Ao68 y509.length co68) y509 a7 a8 (wrap64 (a10 + 1)) t512 w0 _ ?side1 ?side2 A60.out).mono ?_); (case side1 => exact bl_ HB); (case side2 => exact Kd.R_tight rfl HO511.out); rintro e w69 ⟨v513, rfl, ho0, hb, hkp⟩; refine ⟨_, rfl, ?_⟩; replace BK507 := a_ (blk_kept (bk_ BK507) hkp (fun hs_ => (fun e_ => (Kd.R_ne HO511.out BK507.out (by decide)) e_) hs_)); have HO514 := a_ (Kd.R_mono (ok' := fun k_ => (P0_ k_ ∨ w.heap.size ≤ k_)) ho0 (fun k_ hk_ => Or.elim hk_ (fun hs_ => (HO511.out.1 k_ (hs_).symm)) (fun hn_ => (.inr (Nat.le_trans (kz_ HK) hn_))))); replace HK := a_ (Kept.then_ (S := (fun k_ => P0_ k_)) (kp_ HK) hkp (fun k_ hs_ => (fun e_ => (HO511.out.1 k_ e_.symm)) hs_)); replace HB := a_ hb; clear HO511; (try clear hb); (try clear hkp); (try clear ho0); obtain ⟨Ao70, co70, eo70⟩ := Kd.R_slice HO514.out; subst eo70) | ((with_reducible refine gate_callee (f := 33) rfl ?_); refine goesL_ (some 238) rfl rfl Try.func33 (by kernel_rfl) rfl #[.slice Ao70 t512.length co70, .slice (some ad493) l1.length c1, .int .i64 x2_2, .int .i64 (x0_2.length : Int)] rfl ar_ ?_; (with_reducible refine (pSt.calls k2 (fun k_ => some k_ = (.slice Ao70 t512.length co70 : Value).ownBlock) (.slice Ao70 t512.length co70) t512 _ _ l1 x2_2 (x0_2.length : Int) t515 t518 t519 t520 w0 _ ?side1 ?side2 ?side3 ?side4 A61.out).mono ?_); (case side1 => exact bl_ HB); (case side2 => exact Kd.R_tight rfl HO514.out); (case side3 => exact Kd.C_kept_call HR1.out (kp_ HK) (fun k_ hs_ => (fun e_ => (HO514.out.1 k_ e_.symm)) hs_)); (case side4 => exact HC1.out); rintro e w71 ⟨v516, rfl, ho0, hb, hkp⟩; refine ⟨_, rfl, ?_⟩; replace BK507 := a_ (blk_kept (bk_ BK507) hkp (fun hs_ => (fun e_ => (Kd.R_ne HO514.out BK507.out (by decide)) e_) hs_)); have HO517 := a_ (Kd.R_mono (ok' := fun k_ => (P0_ k_ ∨ w.heap.size ≤ k_)) ho0 (fun k_ hk_ => Or.elim hk_ (fun hs_ => (HO514.out.1 k_ (hs_).symm)) (fun hn_ => (.inr (Nat.le_trans (kz_ HK) hn_))))); replace HK := a_ (Kept.then_ (S := (fun k_ => P0_ k_)) (kp_ HK) hkp (fun k_ hs_ => (fun e_ => (HO514.out.1 k_ e_.symm)) hs_)); replace HB := a_ hb; clear HO514; (try clear hb); (try clear hkp); (try clear ho0)) | ((with_reducible refine gate_builtin (b := .append) (xs := #[.tmp 246, .tmp 247]) rfl ?_); (try (refine gate_guard (by rfl) ?_; dsimp only)); at_builtin; refine Kd.R_append (Kd.int .u8) (w0 := w0) w0.heap.size rfl (.tmp 246) (.tmp 247) 40 5 (.int .u8 0) 1 rfl Try.underlying40 info5 rfl (by decide) (by omega) v516 t515 58 [.int .u8 58] (fun k_ => (P0_ k_ ∨ w.heap.size ≤ k_)) (fun _ => False) rfl rfl ?aP (fun _ hk => hk.elim) ?aF ?aO ?aB ?aS ?aL ?_; (case aP => exact rfl); (case aB => exact (bl_ HB)); (case aF => exact (ki_ (kz_ HK))); (case aO => exact (rp_ HO517)); (case aS => exact (below_size (bl_ HB))); (case aL => have := LMc62.out; omega); intro v522 w72 ho hb hg hat; rw [← Ny521.out] at ho; replace BK507 := a_ (blk_grown (g := gb507) (o := .cells #[.int .i64 0, .int .i64 0, .int .i64 0, .int .i64 0] 72 (0, 0)) (bk_ BK507) hg (Kd.R_ne HO517.out BK507.out (by decide))); replace HB := a_ hb; replace HK := a_ (Kept.of_grown (S := (fun k_ => P0_ k_)) hg (kp_ HK) (fun k_ e_ => (HO517.out.1 k_ e_))); have HO523 := a_ ho; clear HO517; clear ho hb hg hat) | ((with_reducible refine gate_builtin (b := .append) (xs := #[.tmp 250, .tmp 251]) rfl ?_); (try (refine gate_guard (by rfl) ?_; dsimp only)); at_builtin; refine Kd.R_append (Kd.int .u8) (w0 := w0) w0.heap.size rfl (.tmp 250) (.tmp 251) 40 5 (.int .u8 0) 1 rfl Try.underlying40 info5 rfl (by decide) (by omega) v522 y521 32 [.int .u8 32] (fun k_ => (P0_ k_ ∨ w.heap.size ≤ k_)) (fun _ => False) rfl rfl ?aP (fun _ hk => hk.elim) ?aF ?aO ?aB ?aS ?aL ?_; (case aP => exact rfl); (case aB => exact (bl_ HB)); (case aF => exact (ki_ (kz_ HK))); (case aO => exact (rp_ HO523)); (case aS => exact (below_size (bl_ HB))); (case aL => have := LMc63.out; omega); intro v525 w73 ho hb hg hat; rw [← Ny524.out] at ho; replace BK507 := a_ (blk_grown (g := gb507) (o := .cells #[.int .i64 0, .int .i64 0, .int .i64 0, .int .i64 0] 72 (0, 0)) (bk_ BK507) hg (Kd.R_ne HO523.out BK507.out (by decide))); replace HB := a_ hb; replace HK := a_ (Kept.of_grown (S := (fun k_ => P0_ k_)) hg (kp_ HK) (fun k_ e_ => (HO523.out.1 k_ e_))); have HO526 := a_ ho; clear HO523; clear ho hb hg hat; obtain ⟨Ao74, co74, eo74⟩ := Kd.R_slice HO526.out; subst eo74) | ((with_reducible refine gate_callee (f := 25) rfl ?_); refine goesL_ (some 266) rfl rfl Try.func25 (by kernel_rfl) rfl #[.slice Ao74 y524.length co74, .slice (some ad493) l1.length c1, .int .i64 t518, .bool true, .int .i64 a6, .string a7, .string a8, .bool false, .int .i64 (wrap64 (a10 + 1)), .int .i64 t519, .int .i64 a12] rfl ar_ ?_; (with_reducible refine (ih25 k2 (by have := HJ17.out; have := HK2.out; omega) (fun k_ => some k_ = (.slice Ao74 y524.length co74 : Value).ownBlock) (.slice Ao74 y524.length co74) y524 _ _ l1 t518 true a6 a7 a8 false (wrap64 (a10 + 1)) t519 a12 t527 t530 t531 t532 w0 _ ?side1 ?side2 ?side3 ?side4 A64.out).mono ?_); (case side1 => exact bl_ HB); (case side2 => exact Kd.R_tight rfl HO526.out); (case side3 => exact Kd.C_kept_call HR1.out (kp_ HK) (fun k_ hs_ => (fun e_ => (HO526.out.1 k_ e_.symm)) hs_)); (case side4 => exact HC1.out); rintro e w75 ⟨v528, rfl, ho0, hb, hkp⟩; refine ⟨_, rfl, ?_⟩; replace BK507 := a_ (blk_kept (bk_ BK507) hkp (fun hs_ => (fun e_ => (Kd.R_ne HO526.out BK507.out (by decide)) e_) hs_)); have HO529 := a_ (Kd.R_mono (ok' := fun k_ => (P0_ k_ ∨ w.heap.size ≤ k_)) ho0 (fun k_ hk_ => Or.elim hk_ (fun hs_ => (HO526.out.1 k_ (hs_).symm)) (fun hn_ => (.inr (Nat.le_trans (kz_ HK) hn_))))); replace HK := a_ (Kept.then_ (S := (fun k_ => P0_ k_)) (kp_ HK) hkp (fun k_ hs_ => (fun e_ => (HO526.out.1 k_ e_.symm)) hs_)); replace HB := a_ hb; clear HO526; (try clear hb); (try clear hkp); (try clear ho0)))
      go_roundg k2
      case measure => have := HJ17.out; have := HK2.out; omega
      case rel => exact ⟨(t527), (wrap64 ((wrap64 (t530 - 1)) + 1)), (false), (wrap64 (x35_2 + 1)), rl_, rl_, rl_, H', ⟨by have := HJ17.out; have := HK2.out; omega⟩, ⟨rp_ HO529⟩, ⟨kp_ HK⟩, ⟨bl_ HB⟩⟩
end Go.Proofs.Ytnilbkfhfnofgaa.PFnPrWidthMember
