/- Contracts of Go functions of this seat: for each a Lean function over numbers and lists and a proof that the Go function, called in any memory, returns what it gives. Made by program. -/
import Derived.Test.YtapgjhgjhcfmoaaPFnPrDefaultLaidx0
import Derived.Test.YtapgjhgjhcfmoaaPFnPrDefaultLaidx5
import Derived.Test.YtapgjhgjhcfmoaaPFnPrDefaultLaidx8
namespace Go.Proofs.Ytapgjhgjhcfmoaa.PFnPrDefaultLaid
open Go.RowKit Go.Proofs.YtapgjhgjhcfmoaaW.PrintWords Go.Proofs.YtapgjhgjhcfmoaaW.PrintLast Go.Proofs.YtapgjhgjhcfmoaaW.PrintMore
attribute [local go_sem] max2_int min2_int max_two min_two max_three min_three max_four min_four   -- for this text's walks alone
set_option linter.unusedVariables false
set_option linter.unusedSimpArgs false
/-! ### pretty_appendPrettyObjectA: function 31 -/
set_option maxHeartbeats 8000000 in
set_option maxRecDepth 100000 in
theorem pretty_appendPrettyObjectA.callsH (k : Nat) (ih : ∀ m_, m_ < k → pretty_appendPrettyObject.CT m_) (ih24 : ∀ m_, m_ < k → pretty_appendPrettyAny.CT m_) : pretty_appendPrettyObjectA.CT k := by
 intro P0_ u9000_ l0 P1_ A1 c1 l1 a2 a3 a4 a5 a6 a7 a8 a9 a10 a11 a12 r1 r2 r3 r4 w0 w hB ho0 hs1 h
 cases k with
 | zero => exact absurd h (by simp [pretty_appendPrettyObjectA.f])
 | succ k =>
 simp only [pretty_appendPrettyObjectA.f] at h
 have hu64 := Try.underlying64
 have HO0 := a_ (show Kd.R (Kd.int .u8) 5 w w0.heap.size (fun k_ => (P0_ k_ ∨ w.heap.size ≤ k_)) u9000_ l0 from Kd.R_mono ho0 (fun k_ hk => (.inl hk)))
 have HO1 := a_ (show Kd.V (Kd.int .u8) 5 w w0.heap.size (fun k_ => ((P0_ k_ ∨ P1_ k_) ∨ w.heap.size ≤ k_) ∧ some k_ ≠ (u9000_ : Value).ownBlock) (.slice A1 l1.length c1) l1 from Kd.V_mono hs1 (fun k_ hk => ⟨.inl (.inr hk.1), hk.2⟩))
 have HK := a_ (Kept.refl w (fun k_ => P0_ k_))
 have HW0 := a_ hB.size
 have HB := a_ hB
 clear hB
 have H : (if a9 = true then (none) else (if a5 = true then (if a3 = 123 then (if a12 = (-1) then (if a6 > 0 then (if a3 = 91 then (none) else (pretty_appendPrettyObjectA.j0 k l0 l1 a2 a3 a4 a5 a6 a7 a8 a9 a10 a11 a12)) else (pretty_appendPrettyObjectA.j0 k l0 l1 a2 a3 a4 a5 a6 a7 a8 a9 a10 a11 a12)) else (none)) else (none)) else (none))) = some (r1, r2, r3, r4) := h
 clear h
 by_cases c14 : a9 = true
 ·
  subst c14
  have H1 : (none) = some (r1, r2, r3, r4) := by rw [if_pos rfl] at H; exact H
  clear H
  have H := H1
  clear H1
  exact absurd H (by simp)
 replace c14 := Bool.eq_false_iff.mpr c14
 subst c14
 have H1 : (if a5 = true then (if a3 = 123 then (if a12 = (-1) then (if a6 > 0 then (if a3 = 91 then (none) else (pretty_appendPrettyObjectA.j0 k l0 l1 a2 a3 a4 a5 a6 a7 a8 false a10 a11 a12)) else (pretty_appendPrettyObjectA.j0 k l0 l1 a2 a3 a4 a5 a6 a7 a8 false a10 a11 a12)) else (none)) else (none)) else (none)) = some (r1, r2, r3, r4) := by rw [if_neg (show ¬ (false = true) by decide)] at H; exact H
 clear H
 have H := H1
 clear H1
 by_cases c15 : a5 = true
 rotate_left
 ·
  replace c15 := Bool.eq_false_iff.mpr c15
  subst c15
  have H1 : (none) = some (r1, r2, r3, r4) := by rw [if_neg (show ¬ (false = true) by decide)] at H; exact H
  clear H
  have H := H1
  clear H1
  exact absurd H (by simp)
 subst c15
 have H1 : (if a3 = 123 then (if a12 = (-1) then (if a6 > 0 then (if a3 = 91 then (none) else (pretty_appendPrettyObjectA.j0 k l0 l1 a2 a3 a4 true a6 a7 a8 false a10 a11 a12)) else (pretty_appendPrettyObjectA.j0 k l0 l1 a2 a3 a4 true a6 a7 a8 false a10 a11 a12)) else (none)) else (none)) = some (r1, r2, r3, r4) := by rw [if_pos rfl] at H; exact H
 clear H
 have H := H1
 clear H1
 by_cases c16 : a3 = 123
 rotate_left
 ·
  rw [if_neg c16] at H
  exact absurd H (by simp)
 rw [if_pos c16] at H
 have c16b0 : (a3 == 123) = true := beq_iff_eq.mpr c16
 have c16b1 : (a3 != 123) = false := bne_eq_false_iff_eq.mpr c16
 clear c16
 by_cases c17 : a12 = (-1)
 rotate_left
 ·
  rw [if_neg c17] at H
  exact absurd H (by simp)
 rw [if_pos c17] at H
 have c17b0 : (a12 == (-1)) = true := beq_iff_eq.mpr c17
 have c17b1 : (a12 != (-1)) = false := bne_eq_false_iff_eq.mpr c17
 clear c17
 have HC18 := a_ H
 clear H
 go_enter Try.func31, Try.ntmps31
 go_upto_if 38 with (fail)
 go_cut [0, 2] (fun v0 v2 wc => ∃ (kq : Nat) (x0_17 : List Int) (x2_17 : Int), v2 = .int .i64 x2_17 ∧ Aside0 (pretty_appendPrettyObjectA.j0 kq x0_17 l1 x2_17 a3 a4 true a6 a7 a8 false a10 a11 a12 = some (r1, r2, r3, r4)) ∧ Aside0 (kq ≤ k) ∧ Aside0 (Kd.R (Kd.int .u8) 5 wc w0.heap.size (fun k_ => (P0_ k_ ∨ w.heap.size ≤ k_)) v0 x0_17) ∧ Aside0 (Kd.V (Kd.int .u8) 5 wc w0.heap.size (fun k_ => ((P0_ k_ ∨ P1_ k_) ∨ w.heap.size ≤ k_) ∧ some k_ ≠ (v0 : Value).ownBlock) (.slice A1 l1.length c1) l1) ∧ Aside0 (Kept w wc (fun k_ => P0_ k_)) ∧ Aside0 (Below w0.heap.size w0 wc))
 case first =>
  have H := HC18.out
  clear HC18
  by_cases c19 : a6 > 0
  rotate_left
  ·
   rw [if_neg c19] at H
   have c19b0 : decide (0 < a6) = false := decide_eq_false c19
   clear c19
   (first | rw [c19b0] | (simp only [i64_w, i32_w]; rw [c19b0]) | skip)
   have H' := a_ H
   clear H
   go_wp2
   go_meet
   case rel => exact ⟨_, (l0), (a2), rl_, H', ⟨by first | omega | exact Nat.le_refl _⟩, ⟨rp_ HO0⟩, ⟨vp_ HO1⟩, ⟨kp_ HK⟩, ⟨bl_ HB⟩⟩
  rw [if_pos c19] at H
  have c19b0 : decide (0 < a6) = true := decide_eq_true c19
  clear c19
  (first | rw [c19b0] | (simp only [i64_w, i32_w]; rw [c19b0]) | skip)
  by_cases c20 : a3 = 91
  ·
   rw [if_pos c20] at H
   exact absurd H (by simp)
  rw [if_neg c20] at H
  have c20b0 : (a3 == 91) = false := beq_eq_false_iff_ne.mpr c20
  have c20b1 : (a3 != 91) = true := bne_iff_ne.mpr c20
  have H' := a_ H
  clear H
  go_wp2
  go_meet
  case rel => exact ⟨_, (l0), (a2), rl_, H', ⟨by first | omega | exact Nat.le_refl _⟩, ⟨rp_ HO0⟩, ⟨vp_ HO1⟩, ⟨kp_ HK⟩, ⟨bl_ HB⟩⟩
 clear HC18
 (try clear c1); (try clear c2); (try clear p2); (try clear c3); (try clear c14); (try clear c15); (try clear c16); (try clear c16b0); (try clear c16b1); (try clear c17); (try clear c17b0); (try clear c17b1); (try clear c19); (try clear c19b0); (try clear c20); (try clear c20b0); (try clear c20b1)
 as_aux_lemma =>
  obtain ⟨kq, x0_17, x2_17, rfl, HA, HJ17, HO_0, HO_1, HK, HB⟩ := hcut
  cases kq with
  | zero => exact absurd HA.out (by simp [pretty_appendPrettyObjectA.j0])
  | succ kj17 =>
   have H := HA.out
   clear HA
   simp only [pretty_appendPrettyObjectA.j0] at H
   have c21 : ¬ (false = true) := Bool.false_ne_true
   have H1 : (if true = true then (if a3 = 123 then (if a12 = (-1) then (if x0_17.length < 140737488355328 then (pretty_appendPrettyObjectA.l0 kj17 (x0_17 ++ [a3]) l1 (wrap64 (x2_17 + 1)) a3 a4 true a6 a7 a8 false a10 a11 a12 0) else (none)) else (none)) else (none)) else (none)) = some (r1, r2, r3, r4) := by rw [if_neg (show ¬ (false = true) by decide)] at H; exact H
   clear H
   have H := H1
   clear H1
   have H1 : (if a3 = 123 then (if a12 = (-1) then (if x0_17.length < 140737488355328 then (pretty_appendPrettyObjectA.l0 kj17 (x0_17 ++ [a3]) l1 (wrap64 (x2_17 + 1)) a3 a4 true a6 a7 a8 false a10 a11 a12 0) else (none)) else (none)) else (none)) = some (r1, r2, r3, r4) := by rw [if_pos rfl] at H; exact H
   clear H
   have H := H1
   clear H1
   by_cases c23 : a3 = 123
   rotate_left
   ·
    rw [if_neg c23] at H
    exact absurd H (by simp)
   rw [if_pos c23] at H
   have c23b0 : (a3 == 123) = true := beq_iff_eq.mpr c23
   have c23b1 : (a3 != 123) = false := bne_eq_false_iff_eq.mpr c23
   clear c23
   by_cases c24 : a12 = (-1)
   rotate_left
   ·
    rw [if_neg c24] at H
    exact absurd H (by simp)
   rw [if_pos c24] at H
   have c24b0 : (a12 == (-1)) = true := beq_iff_eq.mpr c24
   have c24b1 : (a12 != (-1)) = false := bne_eq_false_iff_eq.mpr c24
   clear c24
   by_cases c25 : x0_17.length < 140737488355328
   rotate_left
   ·
    rw [if_neg c25] at H
    exact absurd H (by simp)
   rw [if_pos c25] at H
   have LMc25 := a_ c25
   clear c25
   obtain ⟨y370, hy370⟩ : ∃ y_ : List Int, y_ = (x0_17 ++ [a3]) := ⟨_, rfl⟩
   replace H : (pretty_appendPrettyObjectA.l0 kj17 y370 l1 (wrap64 (x2_17 + 1)) a3 a4 true a6 a7 a8 false a10 a11 a12 0) = some (r1, r2, r3, r4) := by first | exact lt_ H hy370 | (rw [hy370]; exact H) | exact H
   have Ny370 := a_ hy370
   clear hy370
   have H' := a_ H
   clear H
   go_wp2_with (first | ((with_reducible refine gate_builtin (b := .append) (xs := #[.tmp 97, .tmp 99]) rfl ?_); (try (refine gate_guard (by rfl) ?_; dsimp only)); at_builtin; refine Kd.R_append (Kd.int .u8) (w0 := w0) w0.heap.size rfl (.tmp 97) (.tmp 99) 32 5 (.int .u8 0) 1 rfl Try.underlying32 info5 rfl (by decide) (by omega) u0 x0_17 a3 [.int .u8 a3] (fun k_ => (P0_ k_ ∨ w.heap.size ≤ k_)) (fun _ => False) rfl rfl ?aP (fun _ hk => hk.elim) ?aF ?aO ?aB ?aS ?aL ?_; (case aP => exact rfl); (case aB => exact (bl_ HB)); (case aF => exact (fun k_ hk => (.inr (Nat.le_trans (kz_ HK) hk)))); (case aO => exact (rp_ HO_0)); (case aS => exact (below_size (bl_ HB))); (case aL => have := LMc25.out; omega); intro v371 w26 ho hb hg hat; rw [← Ny370.out] at ho; have n0_ := a_ (Kd.V_afterv (ok := (fun k_ => ((P0_ k_ ∨ P1_ k_) ∨ w.heap.size ≤ k_))) (vp_ HO_1) hg hat); have n1_ := a_ (hb); have n2_ := a_ (Kept.of_grown (S := (fun k_ => P0_ k_)) hg (kp_ HK) (fun k_ e_ => (HO_0.out.1 k_ e_))); have n3_ := a_ (ho); clear HO_1 HB HK HO_0; have HO_1 := n0_; have HB := n1_; have HK := n2_; have HO372 := n3_; clear n0_ n1_ n2_ n3_; clear ho hb hg hat))
   (try simp only [Act.put, List.setIfInBounds_toArray, List.set_cons_zero, List.set_cons_succ])
   go_loopg [0, 2, 9, 11, 35] kj17 (fun kq v0 v2 v9 v11 v35 w' => ∃ (x0_2 : List Int) (x1_2 : List Int) (x2_2 : Int) (x9_2 : Bool) (x11_2 : Int) (x35_2 : Int), v2 = .int .i64 x2_2 ∧ v9 = .bool x9_2 ∧ v11 = .int .i64 x11_2 ∧ v35 = .int .i64 x35_2 ∧ Aside0 (pretty_appendPrettyObjectA.l0 kq x0_2 x1_2 x2_2 a3 a4 true a6 a7 a8 x9_2 a10 x11_2 a12 x35_2 = some (r1, r2, r3, r4)) ∧ Aside0 (kq ≤ kj17) ∧ Aside0 (Kd.R (Kd.int .u8) 5 w' w0.heap.size (fun k_ => (P0_ k_ ∨ w.heap.size ≤ k_)) v0 x0_2) ∧ Aside0 (Kd.V (Kd.int .u8) 5 w' w0.heap.size (fun k_ => ((P0_ k_ ∨ P1_ k_) ∨ w.heap.size ≤ k_) ∧ some k_ ≠ (v0 : Value).ownBlock) (.slice A1 l1.length c1) x1_2) ∧ Aside0 (Kept w w' (fun k_ => P0_ k_)) ∧ Aside0 (Below w0.heap.size w0 w'))
   case atStart => exact ⟨(y370), (l1), (wrap64 (x2_17 + 1)), (false), (a11), (0), rl_, rl_, rl_, rl_, H', ⟨Nat.le_refl _⟩, ⟨rp_ HO372⟩, ⟨vp_ HO_1⟩, ⟨kp_ HK⟩, ⟨bl_ HB⟩⟩
   case round =>
    clear H'
    (try clear c1); (try clear c2); (try clear p2); (try clear c3); (try clear p6); (try clear c14); (try clear c15); (try clear c16); (try clear c16b0); (try clear c16b1); (try clear c17); (try clear c17b0); (try clear c17b1); (try clear c19); (try clear c19b0); (try clear c20); (try clear c20b0); (try clear c20b1); (try clear c21); (try clear c22); (try clear c23); (try clear c23b0); (try clear c23b1); (try clear c24); (try clear c24b0); (try clear c24b1); (try clear c25); (try clear p2)
    as_aux_lemma =>
     obtain ⟨x0_2, x1_2, x2_2, x9_2, x11_2, x35_2, rfl, rfl, rfl, rfl, HA, HK2, HO_0, HO_1, HK, HB⟩ := hrel
     have hl1_2 := (Kd.V_reads' HO_1.out).1
     rw [hl1_2] at HO_1
     (try simp only [hl1_2])
     (try simp only [hl1_2] at HO_0)
     cases gk with
     | zero => exact absurd HA.out (by simp [pretty_appendPrettyObjectA.l0])
     | succ k2 =>
      have H := HA.out
      clear HA
      simp only [pretty_appendPrettyObjectA.l0] at H
      by_cases c27 : x9_2 = true
      ·
       subst c27
       have H1 : (none) = some (r1, r2, r3, r4) := by rw [if_pos rfl] at H; exact H
       clear H
       have H := H1
       clear H1
       exact absurd H (by simp)
      replace c27 := Bool.eq_false_iff.mpr c27
      subst c27
      have H1 : (if true = true then (if a3 = 123 then (if a12 = (-1) then (if x2_2 < (x1_2.length : Int) then (if 0 ≤ x2_2 then (if (rd x1_2 x2_2) ≤ 32 then (pretty_appendPrettyObjectA.l0 k2 x0_2 x1_2 (wrap64 (x2_2 + 1)) a3 a4 true a6 a7 a8 false a10 x11_2 a12 x35_2) else (if (rd x1_2 x2_2) = a4 then (if x35_2 > 0 then (if 0 ≤ (wrap64 ((x0_2.length : Int) - 1)) then (if (wrap64 ((x0_2.length : Int) - 1)) < (x0_2.length : Int) then (if (rd x0_2 (wrap64 ((x0_2.length : Int) - 1))) = 32 then ((some (x0_2.set ((wrap64 ((x0_2.length : Int) - 1)) : Int).toNat 10 : List Int)).bind fun y376 => (if (rd y376 (wrap64 ((x0_2.length : Int) - 1))) = a3 then (if y376.length < 140737488355328 then (some ((y376 ++ [a4]), wrap64 (x2_2 + 1), (x0_2.length : Int), (a3 != 123))) else (none)) else ((pretty_appendTabs.f k2 y376 a7 a8 a10).bind fun t381 => (if t381.length < 140737488355328 then (some ((t381 ++ [a4]), wrap64 (x2_2 + 1), (x0_2.length : Int), (a3 != 123))) else (none))))) else (if x0_2.length < 140737488355328 then ((some (x0_2 ++ [10] : List Int)).bind fun y387 => (if 0 ≤ (wrap64 ((y387.length : Int) - 1)) then (if (wrap64 ((y387.length : Int) - 1)) < (y387.length : Int) then (if (rd y387 (wrap64 ((y387.length : Int) - 1))) = a3 then (if y387.length < 140737488355328 then (some ((y387 ++ [a4]), wrap64 (x2_2 + 1), (x0_2.length : Int), (a3 != 123))) else (none)) else ((pretty_appendTabs.f k2 y387 a7 a8 a10).bind fun t394 => (if t394.length < 140737488355328 then (some ((t394 ++ [a4]), wrap64 (x2_2 + 1), (x0_2.length : Int), (a3 != 123))) else (none)))) else (none)) else (none))) else (none))) else (none)) else (none)) else (if 0 ≤ (wrap64 ((x0_2.length : Int) - 1)) then (if (wrap64 ((x0_2.length : Int) - 1)) < (x0_2.length : Int) then (if (rd x0_2 (wrap64 ((x0_2.length : Int) - 1))) = a3 then (if x0_2.length < 140737488355328 then (some ((x0_2 ++ [a4]), wrap64 (x2_2 + 1), x11_2, (a3 != 123))) else (none)) else ((pretty_appendTabs.f k2 x0_2 a7 a8 a10).bind fun t404 => (if t404.length < 140737488355328 then (some ((t404 ++ [a4]), wrap64 (x2_2 + 1), x11_2, (a3 != 123))) else (none)))) else (none)) else (none))) else (if a3 = 91 then (none) else (if (rd x1_2 x2_2) = 34 then (if x35_2 > 0 then (if x0_2.length < 140737488355328 then ((some (x0_2 ++ [44] : List Int)).bind fun y411 => (if a6 = (-1) then (pretty_appendPrettyObjectA.j2 k2 y411 x1_2 x2_2 a3 a4 true a6 a7 a8 false a10 a12 x35_2) else (pretty_appendPrettyObjectA.j2 k2 y411 x1_2 x2_2 a3 a4 true a6 a7 a8 false a10 a12 x35_2))) else (none)) else (pretty_appendPrettyObjectA.j2 k2 x0_2 x1_2 x2_2 a3 a4 true a6 a7 a8 false a10 a12 x35_2)) else (pretty_appendPrettyObjectA.l0 k2 x0_2 x1_2 (wrap64 (x2_2 + 1)) a3 a4 true a6 a7 a8 false a10 x11_2 a12 x35_2))))) else (none)) else (some (x0_2, x2_2, x11_2, (a3 != 123)))) else (none)) else (none)) else (none)) = some (r1, r2, r3, r4) := by rw [if_neg (show ¬ (false = true) by decide)] at H; exact H
      clear H
      have H := H1
      clear H1
      have H1 : (if a3 = 123 then (if a12 = (-1) then (if x2_2 < (x1_2.length : Int) then (if 0 ≤ x2_2 then (if (rd x1_2 x2_2) ≤ 32 then (pretty_appendPrettyObjectA.l0 k2 x0_2 x1_2 (wrap64 (x2_2 + 1)) a3 a4 true a6 a7 a8 false a10 x11_2 a12 x35_2) else (if (rd x1_2 x2_2) = a4 then (if x35_2 > 0 then (if 0 ≤ (wrap64 ((x0_2.length : Int) - 1)) then (if (wrap64 ((x0_2.length : Int) - 1)) < (x0_2.length : Int) then (if (rd x0_2 (wrap64 ((x0_2.length : Int) - 1))) = 32 then ((some (x0_2.set ((wrap64 ((x0_2.length : Int) - 1)) : Int).toNat 10 : List Int)).bind fun y376 => (if (rd y376 (wrap64 ((x0_2.length : Int) - 1))) = a3 then (if y376.length < 140737488355328 then (some ((y376 ++ [a4]), wrap64 (x2_2 + 1), (x0_2.length : Int), (a3 != 123))) else (none)) else ((pretty_appendTabs.f k2 y376 a7 a8 a10).bind fun t381 => (if t381.length < 140737488355328 then (some ((t381 ++ [a4]), wrap64 (x2_2 + 1), (x0_2.length : Int), (a3 != 123))) else (none))))) else (if x0_2.length < 140737488355328 then ((some (x0_2 ++ [10] : List Int)).bind fun y387 => (if 0 ≤ (wrap64 ((y387.length : Int) - 1)) then (if (wrap64 ((y387.length : Int) - 1)) < (y387.length : Int) then (if (rd y387 (wrap64 ((y387.length : Int) - 1))) = a3 then (if y387.length < 140737488355328 then (some ((y387 ++ [a4]), wrap64 (x2_2 + 1), (x0_2.length : Int), (a3 != 123))) else (none)) else ((pretty_appendTabs.f k2 y387 a7 a8 a10).bind fun t394 => (if t394.length < 140737488355328 then (some ((t394 ++ [a4]), wrap64 (x2_2 + 1), (x0_2.length : Int), (a3 != 123))) else (none)))) else (none)) else (none))) else (none))) else (none)) else (none)) else (if 0 ≤ (wrap64 ((x0_2.length : Int) - 1)) then (if (wrap64 ((x0_2.length : Int) - 1)) < (x0_2.length : Int) then (if (rd x0_2 (wrap64 ((x0_2.length : Int) - 1))) = a3 then (if x0_2.length < 140737488355328 then (some ((x0_2 ++ [a4]), wrap64 (x2_2 + 1), x11_2, (a3 != 123))) else (none)) else ((pretty_appendTabs.f k2 x0_2 a7 a8 a10).bind fun t404 => (if t404.length < 140737488355328 then (some ((t404 ++ [a4]), wrap64 (x2_2 + 1), x11_2, (a3 != 123))) else (none)))) else (none)) else (none))) else (if a3 = 91 then (none) else (if (rd x1_2 x2_2) = 34 then (if x35_2 > 0 then (if x0_2.length < 140737488355328 then ((some (x0_2 ++ [44] : List Int)).bind fun y411 => (if a6 = (-1) then (pretty_appendPrettyObjectA.j2 k2 y411 x1_2 x2_2 a3 a4 true a6 a7 a8 false a10 a12 x35_2) else (pretty_appendPrettyObjectA.j2 k2 y411 x1_2 x2_2 a3 a4 true a6 a7 a8 false a10 a12 x35_2))) else (none)) else (pretty_appendPrettyObjectA.j2 k2 x0_2 x1_2 x2_2 a3 a4 true a6 a7 a8 false a10 a12 x35_2)) else (pretty_appendPrettyObjectA.l0 k2 x0_2 x1_2 (wrap64 (x2_2 + 1)) a3 a4 true a6 a7 a8 false a10 x11_2 a12 x35_2))))) else (none)) else (some (x0_2, x2_2, x11_2, (a3 != 123)))) else (none)) else (none)) = some (r1, r2, r3, r4) := by rw [if_pos rfl] at H; exact H
      clear H
      have H := H1
      clear H1
      by_cases c29 : a3 = 123
      rotate_left
      ·
       rw [if_neg c29] at H
       exact absurd H (by simp)
      rw [if_pos c29] at H
      have c29b0 : (a3 == 123) = true := beq_iff_eq.mpr c29
      have c29b1 : (a3 != 123) = false := bne_eq_false_iff_eq.mpr c29
      clear c29
      by_cases c30 : a12 = (-1)
      rotate_left
      ·
       rw [if_neg c30] at H
       exact absurd H (by simp)
      rw [if_pos c30] at H
      have c30b0 : (a12 == (-1)) = true := beq_iff_eq.mpr c30
      have c30b1 : (a12 != (-1)) = false := bne_eq_false_iff_eq.mpr c30
      clear c30
      by_cases c31 : x2_2 < (x1_2.length : Int)
      rotate_left
      ·
       rw [if_neg c31] at H
       have c31b0 : decide (x2_2 < (x1_2.length : Int)) = false := decide_eq_false c31
       clear c31
       simp only [Option.some.injEq, Prod.mk.injEq] at H
       obtain ⟨rfl, rfl, rfl, rfl⟩ := H
       go_wp2
       refine bodyPost_ret (results_list (rs := [.tmp 26, .tmp 27, .tmp 28, .tmp 29]) rfl (by simp) (.tmp (.tmp (.tmp (.tmp .nil))))) rfl ?_
       exact ⟨_, by first | rfl | (simp [errW_none, errW_some] <;> rfl) | (simp [*, errW_none, errW_some] <;> rfl), rp_ HO_0, bl_ HB, kp_ HK⟩
      rw [if_pos c31] at H
      have c31b0 : decide (x2_2 < (x1_2.length : Int)) = true := decide_eq_true c31
      clear c31
      by_cases c32 : 0 ≤ x2_2
      rotate_left
      ·
       rw [if_neg c32] at H
       exact absurd H (by simp)
      rw [if_pos c32] at H
      have c32b0 : decide (0 ≤ x2_2) = true := decide_eq_true c32
      clear c32
      by_cases c33 : (rd x1_2 x2_2) ≤ 32
      ·
       rw [if_pos c33] at H
       have c33b0 : decide ((rd x1_2 x2_2) ≤ 32) = true := decide_eq_true c33
       clear c33
       have H' := a_ H
       clear H
       have p373 : 0 ≤ (x2_2 : Int) := of_decide_eq_true as_
       have q373 : x2_2 < (x1_2.length : Int) := of_decide_eq_true as_
       obtain ⟨ad373, e373, hx373_0⟩ := Kd.at_int (Kd.V_reads' HO_1.out).2.2 x2_2 p373 q373
       cases e373
       replace p373 := eq_true p373
       replace q373 := eq_true q373
       go_wp2
       (try simp only [← hl1_2])
       go_roundg k2
       case measure => have := HJ17.out; have := HK2.out; omega
       case rel => exact ⟨(x0_2), (x1_2), (wrap64 (x2_2 + 1)), (false), (x11_2), (x35_2), rl_, rl_, rl_, rl_, H', ⟨by have := HJ17.out; have := HK2.out; omega⟩, ⟨by (try simp only [hl1_2]); (with_reducible repeat (first | apply Kd.R_alloc | apply Kd.R_drewN | apply Kd.R_drew)); exact HO_0.out⟩, ⟨by (try simp only [hl1_2]); (with_reducible repeat (first | apply Kd.V_alloc | apply Kd.V_drewN | apply Kd.V_drew)); first | exact HO_1.out | exact Kd.V_len HO_1.out⟩, ⟨kp_ HK⟩, ⟨bl_ HB⟩⟩
      rw [if_neg c33] at H
      have c33b0 : decide ((rd x1_2 x2_2) ≤ 32) = false := decide_eq_false c33
      clear c33
      by_cases c34 : (rd x1_2 x2_2) = a4
      ·
       rw [if_pos c34] at H
       have c34b0 : ((rd x1_2 x2_2) == a4) = true := beq_iff_eq.mpr c34
       have c34b1 : ((rd x1_2 x2_2) != a4) = false := bne_eq_false_iff_eq.mpr c34
       clear c34
       by_cases c35 : x35_2 > 0
       rotate_left
       ·
        rw [if_neg c35] at H
        have c35b0 : decide (0 < x35_2) = false := decide_eq_false c35
        clear c35
        obtain ⟨ji71, hji71⟩ : ∃ j_ : Int, (wrap64 ((x0_2.length : Int) - 1)) = j_ := ⟨_, rfl⟩
        replace H : (if 0 ≤ (ji71) then (if (ji71) < (x0_2.length : Int) then (if (rd x0_2 (ji71)) = a3 then (if x0_2.length < 140737488355328 then (some ((x0_2 ++ [a4]), wrap64 (x2_2 + 1), x11_2, (a3 != 123))) else (none)) else ((pretty_appendTabs.f k2 x0_2 a7 a8 a10).bind fun t404 => (if t404.length < 140737488355328 then (some ((t404 ++ [a4]), wrap64 (x2_2 + 1), x11_2, (a3 != 123))) else (none)))) else (none)) else (none)) = some (r1, r2, r3, r4) := by first | (rw [hji71] at H; exact H) | (simp only [hji71] at H ⊢; exact H)
        have hji71w : (IntKind.i64.wrap ((x0_2.length : Int) - 1)) = ji71 := (i64_w _).trans hji71
        by_cases c72 : 0 ≤ (ji71)
        rotate_left
        ·
         rw [if_neg c72] at H
         exact absurd H (by simp)
        rw [if_pos c72] at H
        have c72b0 : decide (0 ≤ (ji71)) = true := decide_eq_true c72
        clear c72
        by_cases c73 : (ji71) < (x0_2.length : Int)
        rotate_left
        ·
         rw [if_neg c73] at H
         exact absurd H (by simp)
        rw [if_pos c73] at H
        have c73b0 : decide ((ji71) < (x0_2.length : Int)) = true := decide_eq_true c73
        clear c73
        by_cases c74 : (rd x0_2 (ji71)) = a3
        ·
         rw [if_pos c74] at H
         have c74b0 : ((rd x0_2 (ji71)) == a3) = true := beq_iff_eq.mpr c74
         have c74b1 : ((rd x0_2 (ji71)) != a3) = false := bne_eq_false_iff_eq.mpr c74
         clear c74
         by_cases c75 : x0_2.length < 140737488355328
         rotate_left
         ·
          rw [if_neg c75] at H
          exact absurd H (by simp)
         rw [if_pos c75] at H
         have LMc75 := a_ c75
         clear c75
         obtain ⟨y401, hy401⟩ : ∃ y_ : List Int, y_ = (x0_2 ++ [a4]) := ⟨_, rfl⟩
         replace H : (some (y401, wrap64 (x2_2 + 1), x11_2, (a3 != 123))) = some (r1, r2, r3, r4) := by first | exact lt_ H hy401 | (rw [hy401]; exact H) | exact H
         have Ny401 := a_ hy401
         clear hy401
         simp only [Option.some.injEq, Prod.mk.injEq] at H
         obtain ⟨rfl, rfl, rfl, rfl⟩ := H
         have p373 : 0 ≤ (x2_2 : Int) := of_decide_eq_true as_
         have q373 : x2_2 < (x1_2.length : Int) := of_decide_eq_true as_
         obtain ⟨ad373, e373, hx373_0⟩ := Kd.at_int (Kd.V_reads' HO_1.out).2.2 x2_2 p373 q373
         cases e373
         replace p373 := eq_true p373
         replace q373 := eq_true q373
         have p374 : 0 ≤ (x2_2 : Int) := of_decide_eq_true as_
         have q374 : x2_2 < (x1_2.length : Int) := of_decide_eq_true as_
         obtain ⟨ad374, e374, hx374_0⟩ := Kd.at_int (Kd.V_reads' HO_1.out).2.2 x2_2 p374 q374
         obtain rfl : ad373 = ad374 := (by injection e374)
         replace p374 := eq_true p374
         replace q374 := eq_true q374
         obtain ⟨Ao76, co76, eo76⟩ := Kd.R_slice HO_0.out
         subst eo76
         have p400 : 0 ≤ ((ji71) : Int) := of_decide_eq_true as_
         have q400 : (ji71) < (x0_2.length : Int) := of_decide_eq_true as_
         obtain ⟨ad400, e400, hx400_0⟩ := Kd.at_int (Kd.R_reads' HO_0.out).2.2 (ji71) p400 q400
         cases e400
         replace p400 := eq_true p400
         replace q400 := eq_true q400
         go_wp2_with (first | ((with_reducible refine gate_builtin (b := .append) (xs := #[.tmp 166, .tmp 168]) rfl ?_); (try (refine gate_guard (by rfl) ?_; dsimp only)); at_builtin; refine Kd.R_append (Kd.int .u8) (w0 := w0) w0.heap.size rfl (.tmp 166) (.tmp 168) 32 5 (.int .u8 0) 1 rfl Try.underlying32 info5 rfl (by decide) (by omega) (.slice (some ad400) x0_2.length co76) x0_2 a4 [.int .u8 a4] (fun k_ => (P0_ k_ ∨ w.heap.size ≤ k_)) (fun _ => False) rfl rfl ?aP (fun _ hk => hk.elim) ?aF ?aO ?aB ?aS ?aL ?_; (case aP => exact rfl); (case aB => exact (bl_ HB)); (case aF => exact (fun k_ hk => (.inr (Nat.le_trans (kz_ HK) hk)))); (case aO => exact (rp_ HO_0)); (case aS => exact (below_size (bl_ HB))); (case aL => have := LMc75.out; omega); intro v402 w77 ho hb hg hat; rw [← Ny401.out] at ho; have n0_ := a_ (Kd.V_afterv (ok := (fun k_ => ((P0_ k_ ∨ P1_ k_) ∨ w.heap.size ≤ k_))) (vp_ HO_1) hg hat); have n1_ := a_ (hb); have n2_ := a_ (Kept.of_grown (S := (fun k_ => P0_ k_)) hg (kp_ HK) (fun k_ e_ => (HO_0.out.1 k_ e_))); have n3_ := a_ (ho); clear HO_1 HB HK HO_0; have HO_1 := n0_; have HB := n1_; have HK := n2_; have HO403 := n3_; clear n0_ n1_ n2_ n3_; clear ho hb hg hat))
         refine bodyPost_ret (results_list (rs := [.tmp 26, .tmp 27, .tmp 28, .tmp 29]) rfl (by simp) (.tmp (.tmp (.tmp (.tmp .nil))))) rfl ?_
         exact ⟨_, by first | rfl | (simp [errW_none, errW_some] <;> rfl) | (simp only [← hji71]; first | rfl | (simp [errW_none, errW_some] <;> rfl)) | (simp [*, errW_none, errW_some] <;> rfl), rp_ HO403, bl_ HB, kp_ HK⟩
        rw [if_neg c74] at H
        have c74b0 : ((rd x0_2 (ji71)) == a3) = false := beq_eq_false_iff_ne.mpr c74
        have c74b1 : ((rd x0_2 (ji71)) != a3) = true := bne_iff_ne.mpr c74
        replace H := Option.bind_eq_some_iff.mp H
        obtain ⟨t404, A780, H⟩ := H
        replace H : (if t404.length < 140737488355328 then (some ((t404 ++ [a4]), wrap64 (x2_2 + 1), x11_2, (a3 != 123))) else (none)) = some (r1, r2, r3, r4) := H
        have A78 := a_ A780
        clear A780
        by_cases c79 : t404.length < 140737488355328
        rotate_left
        ·
         rw [if_neg c79] at H
         exact absurd H (by simp)
        rw [if_pos c79] at H
        have LMc79 := a_ c79
        clear c79
        obtain ⟨y407, hy407⟩ : ∃ y_ : List Int, y_ = (t404 ++ [a4]) := ⟨_, rfl⟩
        replace H : (some (y407, wrap64 (x2_2 + 1), x11_2, (a3 != 123))) = some (r1, r2, r3, r4) := by first | exact lt_ H hy407 | (rw [hy407]; exact H) | exact H
        have Ny407 := a_ hy407
        clear hy407
        simp only [Option.some.injEq, Prod.mk.injEq] at H
        obtain ⟨rfl, rfl, rfl, rfl⟩ := H
        have p373 : 0 ≤ (x2_2 : Int) := of_decide_eq_true as_
        have q373 : x2_2 < (x1_2.length : Int) := of_decide_eq_true as_
        obtain ⟨ad373, e373, hx373_0⟩ := Kd.at_int (Kd.V_reads' HO_1.out).2.2 x2_2 p373 q373
        cases e373
        replace p373 := eq_true p373
        replace q373 := eq_true q373
        have p374 : 0 ≤ (x2_2 : Int) := of_decide_eq_true as_
        have q374 : x2_2 < (x1_2.length : Int) := of_decide_eq_true as_
        obtain ⟨ad374, e374, hx374_0⟩ := Kd.at_int (Kd.V_reads' HO_1.out).2.2 x2_2 p374 q374
        obtain rfl : ad373 = ad374 := (by injection e374)
        replace p374 := eq_true p374
        replace q374 := eq_true q374
        obtain ⟨Ao80, co80, eo80⟩ := Kd.R_slice HO_0.out
        subst eo80
        have p400 : 0 ≤ ((ji71) : Int) := of_decide_eq_true as_
        have q400 : (ji71) < (x0_2.length : Int) := of_decide_eq_true as_
        obtain ⟨ad400, e400, hx400_0⟩ := Kd.at_int (Kd.R_reads' HO_0.out).2.2 (ji71) p400 q400
        cases e400
        replace p400 := eq_true p400
        replace q400 := eq_true q400
        go_wp2_with (first | ((with_reducible refine gate_callee (f := 34) rfl ?_); refine goesL_ (some 165) rfl rfl Try.func34 (by kernel_rfl) rfl #[.slice (some ad400) x0_2.length co80, .string a7, .string a8, .int .i64 a10] rfl ar_ ?_; (with_reducible refine (pretty_appendTabs.calls k2 (fun k_ => some k_ = (.slice (some ad400) x0_2.length co80 : Value).ownBlock) (.slice (some ad400) x0_2.length co80) x0_2 a7 a8 a10 t404 w0 _ ?side1 ?side2 A78.out).mono ?_); (case side1 => exact bl_ HB); (case side2 => exact Kd.R_tight rfl HO_0.out); rintro e w81 ⟨v405, rfl, ho0, hb, hkp⟩; refine ⟨_, rfl, ?_⟩; have n0_ := a_ (Kd.V_mono (ok' := fun k_ => ((P0_ k_ ∨ P1_ k_) ∨ w.heap.size ≤ k_) ∧ some k_ ≠ (v405 : Value).ownBlock) (Kd.V_keptB (HO_1.out) hkp (fun k_ hk_ hs_ => (hk_.2) hs_)) (fun k_ hk_ => ⟨hk_.1.1, fun e_ => Or.elim (ho0.1 k_ e_.symm) (fun hs_ => hk_.2.1 hs_) (fun hn_ => Nat.not_le.2 hk_.2.2 hn_)⟩)); have n1_ := a_ (Kd.R_mono (ok' := fun k_ => (P0_ k_ ∨ w.heap.size ≤ k_)) ho0 (fun k_ hk_ => Or.elim hk_ (fun hs_ => (HO_0.out.1 k_ (hs_).symm)) (fun hn_ => (.inr (Nat.le_trans (kz_ HK) hn_))))); have n2_ := a_ (Kept.then_ (S := (fun k_ => P0_ k_)) (kp_ HK) hkp (fun k_ hs_ => (fun e_ => (HO_0.out.1 k_ e_.symm)) hs_)); have n3_ := a_ (hb); clear HO_1 HK HB HO_0; have HO_1 := n0_; have HO406 := n1_; have HK := n2_; have HB := n3_; clear n0_ n1_ n2_ n3_; (try clear hb); (try clear hkp); (try clear ho0)) | ((with_reducible refine gate_builtin (b := .append) (xs := #[.tmp 166, .tmp 168]) rfl ?_); (try (refine gate_guard (by rfl) ?_; dsimp only)); at_builtin; refine Kd.R_append (Kd.int .u8) (w0 := w0) w0.heap.size rfl (.tmp 166) (.tmp 168) 32 5 (.int .u8 0) 1 rfl Try.underlying32 info5 rfl (by decide) (by omega) v405 t404 a4 [.int .u8 a4] (fun k_ => (P0_ k_ ∨ w.heap.size ≤ k_)) (fun _ => False) rfl rfl ?aP (fun _ hk => hk.elim) ?aF ?aO ?aB ?aS ?aL ?_; (case aP => exact rfl); (case aB => exact (bl_ HB)); (case aF => exact (fun k_ hk => (.inr (Nat.le_trans (kz_ HK) hk)))); (case aO => exact (rp_ HO406)); (case aS => exact (below_size (bl_ HB))); (case aL => have := LMc79.out; omega); intro v408 w82 ho hb hg hat; rw [← Ny407.out] at ho; have n0_ := a_ (Kd.V_afterv (ok := (fun k_ => ((P0_ k_ ∨ P1_ k_) ∨ w.heap.size ≤ k_))) (vp_ HO_1) hg hat); have n1_ := a_ (hb); have n2_ := a_ (Kept.of_grown (S := (fun k_ => P0_ k_)) hg (kp_ HK) (fun k_ e_ => (HO406.out.1 k_ e_))); have n3_ := a_ (ho); clear HO_1 HB HK HO406; have HO_1 := n0_; have HB := n1_; have HK := n2_; have HO409 := n3_; clear n0_ n1_ n2_ n3_; clear ho hb hg hat))
        refine bodyPost_ret (results_list (rs := [.tmp 26, .tmp 27, .tmp 28, .tmp 29]) rfl (by simp) (.tmp (.tmp (.tmp (.tmp .nil))))) rfl ?_
        exact ⟨_, by first | rfl | (simp [errW_none, errW_some] <;> rfl) | (simp only [← hji71]; first | rfl | (simp [errW_none, errW_some] <;> rfl)) | (simp [*, errW_none, errW_some] <;> rfl), rp_ HO409, bl_ HB, kp_ HK⟩
       rw [if_pos c35] at H
       have c35b0 : decide (0 < x35_2) = true := decide_eq_true c35
       clear c35
       obtain ⟨ji36, hji36⟩ : ∃ j_ : Int, (wrap64 ((x0_2.length : Int) - 1)) = j_ := ⟨_, rfl⟩
       replace H : (if 0 ≤ (ji36) then (if (ji36) < (x0_2.length : Int) then (if (rd x0_2 (ji36)) = 32 then ((some (x0_2.set ((ji36) : Int).toNat 10 : List Int)).bind fun y376 => (if (rd y376 (ji36)) = a3 then (if y376.length < 140737488355328 then (some ((y376 ++ [a4]), wrap64 (x2_2 + 1), (x0_2.length : Int), (a3 != 123))) else (none)) else ((pretty_appendTabs.f k2 y376 a7 a8 a10).bind fun t381 => (if t381.length < 140737488355328 then (some ((t381 ++ [a4]), wrap64 (x2_2 + 1), (x0_2.length : Int), (a3 != 123))) else (none))))) else (if x0_2.length < 140737488355328 then ((some (x0_2 ++ [10] : List Int)).bind fun y387 => (if 0 ≤ (wrap64 ((y387.length : Int) - 1)) then (if (wrap64 ((y387.length : Int) - 1)) < (y387.length : Int) then (if (rd y387 (wrap64 ((y387.length : Int) - 1))) = a3 then (if y387.length < 140737488355328 then (some ((y387 ++ [a4]), wrap64 (x2_2 + 1), (x0_2.length : Int), (a3 != 123))) else (none)) else ((pretty_appendTabs.f k2 y387 a7 a8 a10).bind fun t394 => (if t394.length < 140737488355328 then (some ((t394 ++ [a4]), wrap64 (x2_2 + 1), (x0_2.length : Int), (a3 != 123))) else (none)))) else (none)) else (none))) else (none))) else (none)) else (none)) = some (r1, r2, r3, r4) := by first | (rw [hji36] at H; exact H) | (simp only [hji36] at H ⊢; exact H)
       have hji36w : (IntKind.i64.wrap ((x0_2.length : Int) - 1)) = ji36 := (i64_w _).trans hji36
       by_cases c37 : 0 ≤ (ji36)
       rotate_left
       ·
        rw [if_neg c37] at H
        exact absurd H (by simp)
       rw [if_pos c37] at H
       have c37b0 : decide (0 ≤ (ji36)) = true := decide_eq_true c37
       clear c37
       by_cases c38 : (ji36) < (x0_2.length : Int)
       rotate_left
       ·
        rw [if_neg c38] at H
        exact absurd H (by simp)
       rw [if_pos c38] at H
       have c38b0 : decide ((ji36) < (x0_2.length : Int)) = true := decide_eq_true c38
       clear c38
       by_cases c39 : (rd x0_2 (ji36)) = 32
       rotate_left
       ·
        rw [if_neg c39] at H
        have c39b0 : ((rd x0_2 (ji36)) == 32) = false := beq_eq_false_iff_ne.mpr c39
        have c39b1 : ((rd x0_2 (ji36)) != 32) = true := bne_iff_ne.mpr c39
        by_cases c54 : x0_2.length < 140737488355328
        rotate_left
        ·
         rw [if_neg c54] at H
         exact absurd H (by simp)
        rw [if_pos c54] at H
        have LMc54 := a_ c54
        clear c54
        obtain ⟨y387, hy387⟩ : ∃ y_ : List Int, y_ = (x0_2 ++ [10]) := ⟨_, rfl⟩
        replace H := lt_ H hy387
        have Ny387 := a_ hy387
        clear hy387
        obtain ⟨ji55, hji55⟩ : ∃ j_ : Int, (wrap64 ((y387.length : Int) - 1)) = j_ := ⟨_, rfl⟩
        replace H : (if 0 ≤ (ji55) then (if (ji55) < (y387.length : Int) then (if (rd y387 (ji55)) = a3 then (if y387.length < 140737488355328 then (some ((y387 ++ [a4]), wrap64 (x2_2 + 1), (x0_2.length : Int), (a3 != 123))) else (none)) else ((pretty_appendTabs.f k2 y387 a7 a8 a10).bind fun t394 => (if t394.length < 140737488355328 then (some ((t394 ++ [a4]), wrap64 (x2_2 + 1), (x0_2.length : Int), (a3 != 123))) else (none)))) else (none)) else (none)) = some (r1, r2, r3, r4) := by first | (rw [hji55] at H; exact H) | (simp only [hji55] at H ⊢; exact H)
        have hji55w : (IntKind.i64.wrap ((y387.length : Int) - 1)) = ji55 := (i64_w _).trans hji55
        by_cases c56 : 0 ≤ (ji55)
        rotate_left
        ·
         rw [if_neg c56] at H
         exact absurd H (by simp)
        rw [if_pos c56] at H
        have c56b0 : decide (0 ≤ (ji55)) = true := decide_eq_true c56
        clear c56
        by_cases c57 : (ji55) < (y387.length : Int)
        rotate_left
        ·
         rw [if_neg c57] at H
         exact absurd H (by simp)
        rw [if_pos c57] at H
        have c57b0 : decide ((ji55) < (y387.length : Int)) = true := decide_eq_true c57
        clear c57
        by_cases c58 : (rd y387 (ji55)) = a3
        ·
         rw [if_pos c58] at H
         have c58b0 : ((rd y387 (ji55)) == a3) = true := beq_iff_eq.mpr c58
         have c58b1 : ((rd y387 (ji55)) != a3) = false := bne_eq_false_iff_eq.mpr c58
         clear c58
         by_cases c59 : y387.length < 140737488355328
         rotate_left
         ·
          rw [if_neg c59] at H
          exact absurd H (by simp)
         rw [if_pos c59] at H
         have LMc59 := a_ c59
         clear c59
         obtain ⟨y391, hy391⟩ : ∃ y_ : List Int, y_ = (y387 ++ [a4]) := ⟨_, rfl⟩
         replace H : (some (y391, wrap64 (x2_2 + 1), (x0_2.length : Int), (a3 != 123))) = some (r1, r2, r3, r4) := by first | exact lt_ H hy391 | (rw [hy391]; exact H) | exact H
         have Ny391 := a_ hy391
         clear hy391
         simp only [Option.some.injEq, Prod.mk.injEq] at H
         obtain ⟨rfl, rfl, rfl, rfl⟩ := H
         have p373 : 0 ≤ (x2_2 : Int) := of_decide_eq_true as_
         have q373 : x2_2 < (x1_2.length : Int) := of_decide_eq_true as_
         obtain ⟨ad373, e373, hx373_0⟩ := Kd.at_int (Kd.V_reads' HO_1.out).2.2 x2_2 p373 q373
         cases e373
         replace p373 := eq_true p373
         replace q373 := eq_true q373
         have p374 : 0 ≤ (x2_2 : Int) := of_decide_eq_true as_
         have q374 : x2_2 < (x1_2.length : Int) := of_decide_eq_true as_
         obtain ⟨ad374, e374, hx374_0⟩ := Kd.at_int (Kd.V_reads' HO_1.out).2.2 x2_2 p374 q374
         obtain rfl : ad373 = ad374 := (by injection e374)
         replace p374 := eq_true p374
         replace q374 := eq_true q374
         obtain ⟨Ao60, co60, eo60⟩ := Kd.R_slice HO_0.out
         subst eo60
         have p375 : 0 ≤ ((ji36) : Int) := of_decide_eq_true as_
         have q375 : (ji36) < (x0_2.length : Int) := of_decide_eq_true as_
         obtain ⟨ad375, e375, hx375_0⟩ := Kd.at_int (Kd.R_reads' HO_0.out).2.2 (ji36) p375 q375
         cases e375
         replace p375 := eq_true p375
         replace q375 := eq_true q375
         go_wp2_with (first | ((with_reducible refine gate_builtin (b := .append) (xs := #[.tmp 150, .tmp 151]) rfl ?_); (try (refine gate_guard (by rfl) ?_; dsimp only)); at_builtin; refine Kd.R_append (Kd.int .u8) (w0 := w0) w0.heap.size rfl (.tmp 150) (.tmp 151) 32 5 (.int .u8 0) 1 rfl Try.underlying32 info5 rfl (by decide) (by omega) (.slice (some ad375) x0_2.length co60) x0_2 10 [.int .u8 10] (fun k_ => (P0_ k_ ∨ w.heap.size ≤ k_)) (fun _ => False) rfl rfl ?aP (fun _ hk => hk.elim) ?aF ?aO ?aB ?aS ?aL ?_; (case aP => exact rfl); (case aB => exact (bl_ HB)); (case aF => exact (fun k_ hk => (.inr (Nat.le_trans (kz_ HK) hk)))); (case aO => exact (rp_ HO_0)); (case aS => exact (below_size (bl_ HB))); (case aL => have := LMc54.out; omega); intro v388 w61 ho hb hg hat; rw [← Ny387.out] at ho; have n0_ := a_ (Kd.V_afterv (ok := (fun k_ => ((P0_ k_ ∨ P1_ k_) ∨ w.heap.size ≤ k_))) (vp_ HO_1) hg hat); have n1_ := a_ (hb); have n2_ := a_ (Kept.of_grown (S := (fun k_ => P0_ k_)) hg (kp_ HK) (fun k_ e_ => (HO_0.out.1 k_ e_))); have n3_ := a_ (ho); clear HO_1 HB HK HO_0; have HO_1 := n0_; have HB := n1_; have HK := n2_; have HO389 := n3_; clear n0_ n1_ n2_ n3_; clear ho hb hg hat; obtain ⟨Ao62, co62, eo62⟩ := Kd.R_slice HO389.out; subst eo62; have p390 : 0 ≤ ((ji55) : Int) := of_decide_eq_true as_; have q390 : (ji55) < (y387.length : Int) := of_decide_eq_true as_; obtain ⟨ad390, e390, hx390_0⟩ := Kd.at_int (Kd.R_reads' HO389.out).2.2 (ji55) p390 q390; cases e390; replace p390 := eq_true p390; replace q390 := eq_true q390) | ((with_reducible refine gate_builtin (b := .append) (xs := #[.tmp 166, .tmp 168]) rfl ?_); (try (refine gate_guard (by rfl) ?_; dsimp only)); at_builtin; refine Kd.R_append (Kd.int .u8) (w0 := w0) w0.heap.size rfl (.tmp 166) (.tmp 168) 32 5 (.int .u8 0) 1 rfl Try.underlying32 info5 rfl (by decide) (by omega) (.slice (some ad390) y387.length co62) y387 a4 [.int .u8 a4] (fun k_ => (P0_ k_ ∨ w.heap.size ≤ k_)) (fun _ => False) rfl rfl ?aP (fun _ hk => hk.elim) ?aF ?aO ?aB ?aS ?aL ?_; (case aP => exact rfl); (case aB => exact (bl_ HB)); (case aF => exact (fun k_ hk => (.inr (Nat.le_trans (kz_ HK) hk)))); (case aO => exact (rp_ HO389)); (case aS => exact (below_size (bl_ HB))); (case aL => have := LMc59.out; omega); intro v392 w63 ho hb hg hat; rw [← Ny391.out] at ho; have n0_ := a_ (Kd.V_afterv (ok := (fun k_ => ((P0_ k_ ∨ P1_ k_) ∨ w.heap.size ≤ k_))) (vp_ HO_1) hg hat); have n1_ := a_ (hb); have n2_ := a_ (Kept.of_grown (S := (fun k_ => P0_ k_)) hg (kp_ HK) (fun k_ e_ => (HO389.out.1 k_ e_))); have n3_ := a_ (ho); clear HO_1 HB HK HO389; have HO_1 := n0_; have HB := n1_; have HK := n2_; have HO393 := n3_; clear n0_ n1_ n2_ n3_; clear ho hb hg hat))
         refine bodyPost_ret (results_list (rs := [.tmp 26, .tmp 27, .tmp 28, .tmp 29]) rfl (by simp) (.tmp (.tmp (.tmp (.tmp .nil))))) rfl ?_
         exact ⟨_, by first | rfl | (simp [errW_none, errW_some] <;> rfl) | (simp only [← hji36, ← hji55]; first | rfl | (simp [errW_none, errW_some] <;> rfl)) | (simp [*, errW_none, errW_some] <;> rfl), rp_ HO393, bl_ HB, kp_ HK⟩
        rw [if_neg c58] at H
        have c58b0 : ((rd y387 (ji55)) == a3) = false := beq_eq_false_iff_ne.mpr c58
        have c58b1 : ((rd y387 (ji55)) != a3) = true := bne_iff_ne.mpr c58
        replace H := Option.bind_eq_some_iff.mp H
        obtain ⟨t394, A640, H⟩ := H
        replace H : (if t394.length < 140737488355328 then (some ((t394 ++ [a4]), wrap64 (x2_2 + 1), (x0_2.length : Int), (a3 != 123))) else (none)) = some (r1, r2, r3, r4) := H
        have A64 := a_ A640
        clear A640
        by_cases c65 : t394.length < 140737488355328
        rotate_left
        ·
         rw [if_neg c65] at H
         exact absurd H (by simp)
        rw [if_pos c65] at H
        have LMc65 := a_ c65
        clear c65
        obtain ⟨y397, hy397⟩ : ∃ y_ : List Int, y_ = (t394 ++ [a4]) := ⟨_, rfl⟩
        replace H : (some (y397, wrap64 (x2_2 + 1), (x0_2.length : Int), (a3 != 123))) = some (r1, r2, r3, r4) := by first | exact lt_ H hy397 | (rw [hy397]; exact H) | exact H
        have Ny397 := a_ hy397
        clear hy397
        simp only [Option.some.injEq, Prod.mk.injEq] at H
        obtain ⟨rfl, rfl, rfl, rfl⟩ := H
        have p373 : 0 ≤ (x2_2 : Int) := of_decide_eq_true as_
        have q373 : x2_2 < (x1_2.length : Int) := of_decide_eq_true as_
        obtain ⟨ad373, e373, hx373_0⟩ := Kd.at_int (Kd.V_reads' HO_1.out).2.2 x2_2 p373 q373
        cases e373
        replace p373 := eq_true p373
        replace q373 := eq_true q373
        have p374 : 0 ≤ (x2_2 : Int) := of_decide_eq_true as_
        have q374 : x2_2 < (x1_2.length : Int) := of_decide_eq_true as_
        obtain ⟨ad374, e374, hx374_0⟩ := Kd.at_int (Kd.V_reads' HO_1.out).2.2 x2_2 p374 q374
        obtain rfl : ad373 = ad374 := (by injection e374)
        replace p374 := eq_true p374
        replace q374 := eq_true q374
        obtain ⟨Ao66, co66, eo66⟩ := Kd.R_slice HO_0.out
        subst eo66
        have p375 : 0 ≤ ((ji36) : Int) := of_decide_eq_true as_
        have q375 : (ji36) < (x0_2.length : Int) := of_decide_eq_true as_
        obtain ⟨ad375, e375, hx375_0⟩ := Kd.at_int (Kd.R_reads' HO_0.out).2.2 (ji36) p375 q375
        cases e375
        replace p375 := eq_true p375
        replace q375 := eq_true q375
        go_wp2_with (first | ((with_reducible refine gate_builtin (b := .append) (xs := #[.tmp 150, .tmp 151]) rfl ?_); (try (refine gate_guard (by rfl) ?_; dsimp only)); at_builtin; refine Kd.R_append (Kd.int .u8) (w0 := w0) w0.heap.size rfl (.tmp 150) (.tmp 151) 32 5 (.int .u8 0) 1 rfl Try.underlying32 info5 rfl (by decide) (by omega) (.slice (some ad375) x0_2.length co66) x0_2 10 [.int .u8 10] (fun k_ => (P0_ k_ ∨ w.heap.size ≤ k_)) (fun _ => False) rfl rfl ?aP (fun _ hk => hk.elim) ?aF ?aO ?aB ?aS ?aL ?_; (case aP => exact rfl); (case aB => exact (bl_ HB)); (case aF => exact (fun k_ hk => (.inr (Nat.le_trans (kz_ HK) hk)))); (case aO => exact (rp_ HO_0)); (case aS => exact (below_size (bl_ HB))); (case aL => have := LMc54.out; omega); intro v388 w67 ho hb hg hat; rw [← Ny387.out] at ho; have n0_ := a_ (Kd.V_afterv (ok := (fun k_ => ((P0_ k_ ∨ P1_ k_) ∨ w.heap.size ≤ k_))) (vp_ HO_1) hg hat); have n1_ := a_ (hb); have n2_ := a_ (Kept.of_grown (S := (fun k_ => P0_ k_)) hg (kp_ HK) (fun k_ e_ => (HO_0.out.1 k_ e_))); have n3_ := a_ (ho); clear HO_1 HB HK HO_0; have HO_1 := n0_; have HB := n1_; have HK := n2_; have HO389 := n3_; clear n0_ n1_ n2_ n3_; clear ho hb hg hat; obtain ⟨Ao68, co68, eo68⟩ := Kd.R_slice HO389.out; subst eo68; have p390 : 0 ≤ ((ji55) : Int) := of_decide_eq_true as_; have q390 : (ji55) < (y387.length : Int) := of_decide_eq_true as_; obtain ⟨ad390, e390, hx390_0⟩ := Kd.at_int (Kd.R_reads' HO389.out).2.2 (ji55) p390 q390; cases e390; replace p390 := eq_true p390; replace q390 := eq_true q390) | ((with_reducible refine gate_callee (f := 34) rfl ?_); refine goesL_ (some 165) rfl rfl Try.func34 (by kernel_rfl) rfl #[.slice (some ad390) y387.length co68, .string a7, .string a8, .int .i64 a10] rfl ar_ ?_; (with_reducible refine (pretty_appendTabs.calls k2 (fun k_ => some k_ = (.slice (some ad390) y387.length co68 : Value).ownBlock) (.slice (some ad390) y387.length co68) y387 a7 a8 a10 t394 w0 _ ?side1 ?side2 A64.out).mono ?_); (case side1 => exact bl_ HB); (case side2 => exact Kd.R_tight rfl HO389.out); rintro e w69 ⟨v395, rfl, ho0, hb, hkp⟩; refine ⟨_, rfl, ?_⟩; have n0_ := a_ (Kd.V_mono (ok' := fun k_ => ((P0_ k_ ∨ P1_ k_) ∨ w.heap.size ≤ k_) ∧ some k_ ≠ (v395 : Value).ownBlock) (Kd.V_keptB (HO_1.out) hkp (fun k_ hk_ hs_ => (hk_.2) hs_)) (fun k_ hk_ => ⟨hk_.1.1, fun e_ => Or.elim (ho0.1 k_ e_.symm) (fun hs_ => hk_.2.1 hs_) (fun hn_ => Nat.not_le.2 hk_.2.2 hn_)⟩)); have n1_ := a_ (Kd.R_mono (ok' := fun k_ => (P0_ k_ ∨ w.heap.size ≤ k_)) ho0 (fun k_ hk_ => Or.elim hk_ (fun hs_ => (HO389.out.1 k_ (hs_).symm)) (fun hn_ => (.inr (Nat.le_trans (kz_ HK) hn_))))); have n2_ := a_ (Kept.then_ (S := (fun k_ => P0_ k_)) (kp_ HK) hkp (fun k_ hs_ => (fun e_ => (HO389.out.1 k_ e_.symm)) hs_)); have n3_ := a_ (hb); clear HO_1 HK HB HO389; have HO_1 := n0_; have HO396 := n1_; have HK := n2_; have HB := n3_; clear n0_ n1_ n2_ n3_; (try clear hb); (try clear hkp); (try clear ho0)) | ((with_reducible refine gate_builtin (b := .append) (xs := #[.tmp 166, .tmp 168]) rfl ?_); (try (refine gate_guard (by rfl) ?_; dsimp only)); at_builtin; refine Kd.R_append (Kd.int .u8) (w0 := w0) w0.heap.size rfl (.tmp 166) (.tmp 168) 32 5 (.int .u8 0) 1 rfl Try.underlying32 info5 rfl (by decide) (by omega) v395 t394 a4 [.int .u8 a4] (fun k_ => (P0_ k_ ∨ w.heap.size ≤ k_)) (fun _ => False) rfl rfl ?aP (fun _ hk => hk.elim) ?aF ?aO ?aB ?aS ?aL ?_; (case aP => exact rfl); (case aB => exact (bl_ HB)); (case aF => exact (fun k_ hk => (.inr (Nat.le_trans (kz_ HK) hk)))); (case aO => exact (rp_ HO396)); (case aS => exact (below_size (bl_ HB))); (case aL => have := LMc65.out; omega); intro v398 w70 ho hb hg hat; rw [← Ny397.out] at ho; have n0_ := a_ (Kd.V_afterv (ok := (fun k_ => ((P0_ k_ ∨ P1_ k_) ∨ w.heap.size ≤ k_))) (vp_ HO_1) hg hat); have n1_ := a_ (hb); have n2_ := a_ (Kept.of_grown (S := (fun k_ => P0_ k_)) hg (kp_ HK) (fun k_ e_ => (HO396.out.1 k_ e_))); have n3_ := a_ (ho); clear HO_1 HB HK HO396; have HO_1 := n0_; have HB := n1_; have HK := n2_; have HO399 := n3_; clear n0_ n1_ n2_ n3_; clear ho hb hg hat))
        refine bodyPost_ret (results_list (rs := [.tmp 26, .tmp 27, .tmp 28, .tmp 29]) rfl (by simp) (.tmp (.tmp (.tmp (.tmp .nil))))) rfl ?_
        exact ⟨_, by first | rfl | (simp [errW_none, errW_some] <;> rfl) | (simp only [← hji36, ← hji55]; first | rfl | (simp [errW_none, errW_some] <;> rfl)) | (simp [*, errW_none, errW_some] <;> rfl), rp_ HO399, bl_ HB, kp_ HK⟩
       rw [if_pos c39] at H
       have c39b0 : ((rd x0_2 (ji36)) == 32) = true := beq_iff_eq.mpr c39
       have c39b1 : ((rd x0_2 (ji36)) != 32) = false := bne_eq_false_iff_eq.mpr c39
       clear c39
       obtain ⟨y376, hy376⟩ : ∃ y_ : List Int, y_ = (x0_2.set ((ji36) : Int).toNat 10) := ⟨_, rfl⟩
       replace H := lt_ H hy376
       have Ny376 := a_ hy376
       clear hy376
       by_cases c41 : (rd y376 (ji36)) = a3
       ·
        rw [if_pos c41] at H
        have c41b0 : ((rd y376 (ji36)) == a3) = true := beq_iff_eq.mpr c41
        have c41b1 : ((rd y376 (ji36)) != a3) = false := bne_eq_false_iff_eq.mpr c41
        clear c41
        by_cases c42 : y376.length < 140737488355328
        rotate_left
        ·
         rw [if_neg c42] at H
         exact absurd H (by simp)
        rw [if_pos c42] at H
        have LMc42 := a_ c42
        clear c42
        obtain ⟨y378, hy378⟩ : ∃ y_ : List Int, y_ = (y376 ++ [a4]) := ⟨_, rfl⟩
        replace H : (some (y378, wrap64 (x2_2 + 1), (x0_2.length : Int), (a3 != 123))) = some (r1, r2, r3, r4) := by first | exact lt_ H hy378 | (rw [hy378]; exact H) | exact H
        have Ny378 := a_ hy378
        clear hy378
        simp only [Option.some.injEq, Prod.mk.injEq] at H
        obtain ⟨rfl, rfl, rfl, rfl⟩ := H
        have p373 : 0 ≤ (x2_2 : Int) := of_decide_eq_true as_
        have q373 : x2_2 < (x1_2.length : Int) := of_decide_eq_true as_
        obtain ⟨ad373, e373, hx373_0⟩ := Kd.at_int (Kd.V_reads' HO_1.out).2.2 x2_2 p373 q373
        cases e373
        replace p373 := eq_true p373
        replace q373 := eq_true q373
        have p374 : 0 ≤ (x2_2 : Int) := of_decide_eq_true as_
        have q374 : x2_2 < (x1_2.length : Int) := of_decide_eq_true as_
        obtain ⟨ad374, e374, hx374_0⟩ := Kd.at_int (Kd.V_reads' HO_1.out).2.2 x2_2 p374 q374
        obtain rfl : ad373 = ad374 := (by injection e374)
        replace p374 := eq_true p374
        replace q374 := eq_true q374
        obtain ⟨Ao43, co43, eo43⟩ := Kd.R_slice HO_0.out
        subst eo43
        have p375 : 0 ≤ ((ji36) : Int) := of_decide_eq_true as_
        have q375 : (ji36) < (x0_2.length : Int) := of_decide_eq_true as_
        obtain ⟨ad375, e375, hx375_0⟩ := Kd.at_int (Kd.R_reads' HO_0.out).2.2 (ji36) p375 q375
        cases e375
        replace p375 := eq_true p375
        replace q375 := eq_true q375
        have p40 : 0 ≤ ((ji36) : Int) := of_decide_eq_true as_
        have q40 : ((ji36) : Int) < ((x0_2.length : Int) : Int) := of_decide_eq_true as_
        obtain ⟨go40, co40, eo40, gb40, gl40, cl40, HG40⟩ := Kd.R_form HO_0.out (by omega)
        (first | cases eo40 | (injection eo40 with ea_ en_ ec_; (first | subst ea_ | (injection ea_ with ea_; subst ea_)); subst ec_; clear en_))
        have GB40 := a_ gb40
        have GG40 := a_ HG40
        clear gb40 gl40 HG40
        have HMgo40 := a_ (show (P0_ go40 ∨ w.heap.size ≤ go40) from (HO_0.out.1 _ rfl))
        (first | simp only [add_plain] at hx375_0 | skip)
        obtain ⟨hx40_0, hf40_0⟩ := Kd.R_celln 0 HO_0.out ((ji36) : Int) p40 q40
        replace p40 := eq_true p40
        replace q40 := eq_true q40
        have HP44 := Kd.R_putg HO_0.out ((ji36) : Int) 10
        go_wp2_with (first | ((with_reducible refine gate_store (t := 5) (p := 149) rfl ?_); refine store_event (t := 5) (p := 149) (v := ?vo_w45) (w1 := (wr.setCell ⟨go40, ((ji36) : Int).toNat, none⟩ (.int .u8 10))) ?hg ?ho ?hn ?hr ?_; (case ho => rfl); (case hg => rfl); (case hn => rfl); (case hr => first | (go_simp; done) | (go_simp; rfl)); intro w45 hw; have hg : wr.grownBy w45 (some go40) := (by rw [hw]; exact HP44.2); have hp_ : Kd.R (Kd.int .u8) 5 w45 w0.heap.size (fun k_ => (P0_ k_ ∨ w.heap.size ≤ k_)) (.slice (some ⟨go40, 0, none⟩) x0_2.length co43) y376 := (by rw [hw, Ny376.out]; exact HP44.1); clear HP44; have n0_ := a_ (hp_); have n1_ := a_ (Kd.V_afterv (v := (.slice (some ⟨go40, 0, none⟩) x0_2.length co43)) (v1 := (.slice (some ⟨go40, 0, none⟩) x0_2.length co43)) (ok := (fun k_ => ((P0_ k_ ∨ P1_ k_) ∨ w.heap.size ≤ k_))) (vp_ HO_1) hg (.inl rfl)); have n2_ := a_ ((by rw [hw]; exact below_set (HB.out) GB40.out : Below w0.heap.size w0 w45)); have n3_ := a_ (Kept.of_grown (S := (fun k_ => P0_ k_)) hg (kp_ HK) (fun k_ e_ => (HO_0.out.1 k_ e_))); clear HO_0 HO_1 HB HK; have HO_0 := n0_; have HO_1 := n1_; have HB := n2_; have HK := n3_; clear n0_ n1_ n2_ n3_; clear hg hw hp_; have p377 : 0 ≤ ((ji36) : Int) := of_decide_eq_true as_; have q377 : (ji36) < (y376.length : Int) := (by have h_ : ((ji36) : Int) < ((x0_2.length : Int) : Int) := of_decide_eq_true as_; first | (have e_ := (Kd.R_reads' HO_0.out).1; omega) | simpa only [Ny376.out, List.length_set] using h_); have ql377 : (((ji36) : Int) < ((x0_2.length : Int) : Int)) = True := eq_true (of_decide_eq_true as_); obtain ⟨ad377, e377, hx377_0⟩ := Kd.at_int (Kd.R_reads' HO_0.out).2.2 (ji36) p377 q377; obtain rfl : (⟨go40, 0, none⟩ : Addr) = ad377 := (by injection e377); (first | simp only [add_plain] at hx377_0 | simp only [add_at] at hx377_0 | simp only [Addr.add, Nat.zero_add] at hx377_0 | skip); replace p377 := eq_true p377; replace q377 := eq_true q377) | ((with_reducible refine gate_builtin (b := .append) (xs := #[.tmp 166, .tmp 168]) rfl ?_); (try (refine gate_guard (by rfl) ?_; dsimp only)); at_builtin; refine Kd.R_append (Kd.int .u8) (w0 := w0) w0.heap.size rfl (.tmp 166) (.tmp 168) 32 5 (.int .u8 0) 1 rfl Try.underlying32 info5 rfl (by decide) (by omega) (.slice (some ⟨go40, 0, none⟩) x0_2.length co43) y376 a4 [.int .u8 a4] (fun k_ => (P0_ k_ ∨ w.heap.size ≤ k_)) (fun _ => False) rfl rfl ?aP (fun _ hk => hk.elim) ?aF ?aO ?aB ?aS ?aL ?_; (case aP => exact rfl); (case aB => exact (bl_ HB)); (case aF => exact (fun k_ hk => (.inr (Nat.le_trans (kz_ HK) hk)))); (case aO => exact (rp_ HO_0)); (case aS => exact (below_size (bl_ HB))); (case aL => have := LMc42.out; omega); intro v379 w46 ho hb hg hat; rw [← Ny378.out] at ho; have n0_ := a_ (Kd.V_afterv (ok := (fun k_ => ((P0_ k_ ∨ P1_ k_) ∨ w.heap.size ≤ k_))) (vp_ HO_1) hg hat); have n1_ := a_ (hb); have n2_ := a_ (Kept.of_grown (S := (fun k_ => P0_ k_)) hg (kp_ HK) (fun k_ e_ => (HO_0.out.1 k_ e_))); have n3_ := a_ (ho); clear HO_1 HB HK HO_0; have HO_1 := n0_; have HB := n1_; have HK := n2_; have HO380 := n3_; clear n0_ n1_ n2_ n3_; clear ho hb hg hat))
        refine bodyPost_ret (results_list (rs := [.tmp 26, .tmp 27, .tmp 28, .tmp 29]) rfl (by simp) (.tmp (.tmp (.tmp (.tmp .nil))))) rfl ?_
        exact ⟨_, by first | rfl | (simp [errW_none, errW_some] <;> rfl) | (simp only [← hji36]; first | rfl | (simp [errW_none, errW_some] <;> rfl)) | (simp [*, errW_none, errW_some] <;> rfl), rp_ HO380, bl_ HB, kp_ HK⟩
       rw [if_neg c41] at H
       have c41b0 : ((rd y376 (ji36)) == a3) = false := beq_eq_false_iff_ne.mpr c41
       have c41b1 : ((rd y376 (ji36)) != a3) = true := bne_iff_ne.mpr c41
       replace H := Option.bind_eq_some_iff.mp H
       obtain ⟨t381, A470, H⟩ := H
       replace H : (if t381.length < 140737488355328 then (some ((t381 ++ [a4]), wrap64 (x2_2 + 1), (x0_2.length : Int), (a3 != 123))) else (none)) = some (r1, r2, r3, r4) := H
       have A47 := a_ A470
       clear A470
       by_cases c48 : t381.length < 140737488355328
       rotate_left
       ·
        rw [if_neg c48] at H
        exact absurd H (by simp)
       rw [if_pos c48] at H
       have LMc48 := a_ c48
       clear c48
       obtain ⟨y384, hy384⟩ : ∃ y_ : List Int, y_ = (t381 ++ [a4]) := ⟨_, rfl⟩
       replace H : (some (y384, wrap64 (x2_2 + 1), (x0_2.length : Int), (a3 != 123))) = some (r1, r2, r3, r4) := by first | exact lt_ H hy384 | (rw [hy384]; exact H) | exact H
       have Ny384 := a_ hy384
       clear hy384
       simp only [Option.some.injEq, Prod.mk.injEq] at H
       obtain ⟨rfl, rfl, rfl, rfl⟩ := H
       have p373 : 0 ≤ (x2_2 : Int) := of_decide_eq_true as_
       have q373 : x2_2 < (x1_2.length : Int) := of_decide_eq_true as_
       obtain ⟨ad373, e373, hx373_0⟩ := Kd.at_int (Kd.V_reads' HO_1.out).2.2 x2_2 p373 q373
       cases e373
       replace p373 := eq_true p373
       replace q373 := eq_true q373
       have p374 : 0 ≤ (x2_2 : Int) := of_decide_eq_true as_
       have q374 : x2_2 < (x1_2.length : Int) := of_decide_eq_true as_
       obtain ⟨ad374, e374, hx374_0⟩ := Kd.at_int (Kd.V_reads' HO_1.out).2.2 x2_2 p374 q374
       obtain rfl : ad373 = ad374 := (by injection e374)
       replace p374 := eq_true p374
       replace q374 := eq_true q374
       obtain ⟨Ao49, co49, eo49⟩ := Kd.R_slice HO_0.out
       subst eo49
       have p375 : 0 ≤ ((ji36) : Int) := of_decide_eq_true as_
       have q375 : (ji36) < (x0_2.length : Int) := of_decide_eq_true as_
       obtain ⟨ad375, e375, hx375_0⟩ := Kd.at_int (Kd.R_reads' HO_0.out).2.2 (ji36) p375 q375
       cases e375
       replace p375 := eq_true p375
       replace q375 := eq_true q375
       have p40 : 0 ≤ ((ji36) : Int) := of_decide_eq_true as_
       have q40 : ((ji36) : Int) < ((x0_2.length : Int) : Int) := of_decide_eq_true as_
       obtain ⟨go40, co40, eo40, gb40, gl40, cl40, HG40⟩ := Kd.R_form HO_0.out (by omega)
       (first | cases eo40 | (injection eo40 with ea_ en_ ec_; (first | subst ea_ | (injection ea_ with ea_; subst ea_)); subst ec_; clear en_))
       have GB40 := a_ gb40
       have GG40 := a_ HG40
       clear gb40 gl40 HG40
       have HMgo40 := a_ (show (P0_ go40 ∨ w.heap.size ≤ go40) from (HO_0.out.1 _ rfl))
       (first | simp only [add_plain] at hx375_0 | skip)
       obtain ⟨hx40_0, hf40_0⟩ := Kd.R_celln 0 HO_0.out ((ji36) : Int) p40 q40
       replace p40 := eq_true p40
       replace q40 := eq_true q40
       have HP50 := Kd.R_putg HO_0.out ((ji36) : Int) 10
       go_wp2_with (first | ((with_reducible refine gate_store (t := 5) (p := 149) rfl ?_); refine store_event (t := 5) (p := 149) (v := ?vo_w51) (w1 := (wr.setCell ⟨go40, ((ji36) : Int).toNat, none⟩ (.int .u8 10))) ?hg ?ho ?hn ?hr ?_; (case ho => rfl); (case hg => rfl); (case hn => rfl); (case hr => first | (go_simp; done) | (go_simp; rfl)); intro w51 hw; have hg : wr.grownBy w51 (some go40) := (by rw [hw]; exact HP50.2); have hp_ : Kd.R (Kd.int .u8) 5 w51 w0.heap.size (fun k_ => (P0_ k_ ∨ w.heap.size ≤ k_)) (.slice (some ⟨go40, 0, none⟩) x0_2.length co49) y376 := (by rw [hw, Ny376.out]; exact HP50.1); clear HP50; have n0_ := a_ (hp_); have n1_ := a_ (Kd.V_afterv (v := (.slice (some ⟨go40, 0, none⟩) x0_2.length co49)) (v1 := (.slice (some ⟨go40, 0, none⟩) x0_2.length co49)) (ok := (fun k_ => ((P0_ k_ ∨ P1_ k_) ∨ w.heap.size ≤ k_))) (vp_ HO_1) hg (.inl rfl)); have n2_ := a_ ((by rw [hw]; exact below_set (HB.out) GB40.out : Below w0.heap.size w0 w51)); have n3_ := a_ (Kept.of_grown (S := (fun k_ => P0_ k_)) hg (kp_ HK) (fun k_ e_ => (HO_0.out.1 k_ e_))); clear HO_0 HO_1 HB HK; have HO_0 := n0_; have HO_1 := n1_; have HB := n2_; have HK := n3_; clear n0_ n1_ n2_ n3_; clear hg hw hp_; have p377 : 0 ≤ ((ji36) : Int) := of_decide_eq_true as_; have q377 : (ji36) < (y376.length : Int) := (by have h_ : ((ji36) : Int) < ((x0_2.length : Int) : Int) := of_decide_eq_true as_; first | (have e_ := (Kd.R_reads' HO_0.out).1; omega) | simpa only [Ny376.out, List.length_set] using h_); have ql377 : (((ji36) : Int) < ((x0_2.length : Int) : Int)) = True := eq_true (of_decide_eq_true as_); obtain ⟨ad377, e377, hx377_0⟩ := Kd.at_int (Kd.R_reads' HO_0.out).2.2 (ji36) p377 q377; obtain rfl : (⟨go40, 0, none⟩ : Addr) = ad377 := (by injection e377); (first | simp only [add_plain] at hx377_0 | simp only [add_at] at hx377_0 | simp only [Addr.add, Nat.zero_add] at hx377_0 | skip); replace p377 := eq_true p377; replace q377 := eq_true q377) | ((with_reducible refine gate_callee (f := 34) rfl ?_); refine goesL_ (some 165) rfl rfl Try.func34 (by kernel_rfl) rfl #[.slice (some ⟨go40, 0, none⟩) x0_2.length co49, .string a7, .string a8, .int .i64 a10] rfl ar_ ?_; (with_reducible refine (pretty_appendTabs.calls k2 (fun k_ => some k_ = (.slice (some ⟨go40, 0, none⟩) x0_2.length co49 : Value).ownBlock) (.slice (some ⟨go40, 0, none⟩) x0_2.length co49) y376 a7 a8 a10 t381 w0 _ ?side1 ?side2 A47.out).mono ?_); (case side1 => exact bl_ HB); (case side2 => exact Kd.R_tight rfl HO_0.out); rintro e w52 ⟨v382, rfl, ho0, hb, hkp⟩; refine ⟨_, rfl, ?_⟩; have n0_ := a_ (Kd.V_mono (ok' := fun k_ => ((P0_ k_ ∨ P1_ k_) ∨ w.heap.size ≤ k_) ∧ some k_ ≠ (v382 : Value).ownBlock) (Kd.V_keptB (HO_1.out) hkp (fun k_ hk_ hs_ => (hk_.2) hs_)) (fun k_ hk_ => ⟨hk_.1.1, fun e_ => Or.elim (ho0.1 k_ e_.symm) (fun hs_ => hk_.2.1 hs_) (fun hn_ => Nat.not_le.2 hk_.2.2 hn_)⟩)); have n1_ := a_ (Kd.R_mono (ok' := fun k_ => (P0_ k_ ∨ w.heap.size ≤ k_)) ho0 (fun k_ hk_ => Or.elim hk_ (fun hs_ => (HO_0.out.1 k_ (hs_).symm)) (fun hn_ => (.inr (Nat.le_trans (kz_ HK) hn_))))); have n2_ := a_ (Kept.then_ (S := (fun k_ => P0_ k_)) (kp_ HK) hkp (fun k_ hs_ => (fun e_ => (HO_0.out.1 k_ e_.symm)) hs_)); have n3_ := a_ (hb); clear HO_1 HK HB HO_0; have HO_1 := n0_; have HO383 := n1_; have HK := n2_; have HB := n3_; clear n0_ n1_ n2_ n3_; (try clear hb); (try clear hkp); (try clear ho0)) | ((with_reducible refine gate_builtin (b := .append) (xs := #[.tmp 166, .tmp 168]) rfl ?_); (try (refine gate_guard (by rfl) ?_; dsimp only)); at_builtin; refine Kd.R_append (Kd.int .u8) (w0 := w0) w0.heap.size rfl (.tmp 166) (.tmp 168) 32 5 (.int .u8 0) 1 rfl Try.underlying32 info5 rfl (by decide) (by omega) v382 t381 a4 [.int .u8 a4] (fun k_ => (P0_ k_ ∨ w.heap.size ≤ k_)) (fun _ => False) rfl rfl ?aP (fun _ hk => hk.elim) ?aF ?aO ?aB ?aS ?aL ?_; (case aP => exact rfl); (case aB => exact (bl_ HB)); (case aF => exact (fun k_ hk => (.inr (Nat.le_trans (kz_ HK) hk)))); (case aO => exact (rp_ HO383)); (case aS => exact (below_size (bl_ HB))); (case aL => have := LMc48.out; omega); intro v385 w53 ho hb hg hat; rw [← Ny384.out] at ho; have n0_ := a_ (Kd.V_afterv (ok := (fun k_ => ((P0_ k_ ∨ P1_ k_) ∨ w.heap.size ≤ k_))) (vp_ HO_1) hg hat); have n1_ := a_ (hb); have n2_ := a_ (Kept.of_grown (S := (fun k_ => P0_ k_)) hg (kp_ HK) (fun k_ e_ => (HO383.out.1 k_ e_))); have n3_ := a_ (ho); clear HO_1 HB HK HO383; have HO_1 := n0_; have HB := n1_; have HK := n2_; have HO386 := n3_; clear n0_ n1_ n2_ n3_; clear ho hb hg hat))
       refine bodyPost_ret (results_list (rs := [.tmp 26, .tmp 27, .tmp 28, .tmp 29]) rfl (by simp) (.tmp (.tmp (.tmp (.tmp .nil))))) rfl ?_
       exact ⟨_, by first | rfl | (simp [errW_none, errW_some] <;> rfl) | (simp only [← hji36]; first | rfl | (simp [errW_none, errW_some] <;> rfl)) | (simp [*, errW_none, errW_some] <;> rfl), rp_ HO386, bl_ HB, kp_ HK⟩
      rw [if_neg c34] at H
      have c34b0 : ((rd x1_2 x2_2) == a4) = false := beq_eq_false_iff_ne.mpr c34
      have c34b1 : ((rd x1_2 x2_2) != a4) = true := bne_iff_ne.mpr c34
      by_cases c83 : a3 = 91
      ·
       rw [if_pos c83] at H
       exact absurd H (by simp)
      rw [if_neg c83] at H
      have c83b0 : (a3 == 91) = false := beq_eq_false_iff_ne.mpr c83
      have c83b1 : (a3 != 91) = true := bne_iff_ne.mpr c83
      by_cases c84 : (rd x1_2 x2_2) = 34
      rotate_left
      ·
       rw [if_neg c84] at H
       have c84b0 : ((rd x1_2 x2_2) == 34) = false := beq_eq_false_iff_ne.mpr c84
       have c84b1 : ((rd x1_2 x2_2) != 34) = true := bne_iff_ne.mpr c84
       have H' := a_ H
       clear H
       have p373 : 0 ≤ (x2_2 : Int) := of_decide_eq_true as_
       have q373 : x2_2 < (x1_2.length : Int) := of_decide_eq_true as_
       obtain ⟨ad373, e373, hx373_0⟩ := Kd.at_int (Kd.V_reads' HO_1.out).2.2 x2_2 p373 q373
       cases e373
       replace p373 := eq_true p373
       replace q373 := eq_true q373
       have p374 : 0 ≤ (x2_2 : Int) := of_decide_eq_true as_
       have q374 : x2_2 < (x1_2.length : Int) := of_decide_eq_true as_
       obtain ⟨ad374, e374, hx374_0⟩ := Kd.at_int (Kd.V_reads' HO_1.out).2.2 x2_2 p374 q374
       obtain rfl : ad373 = ad374 := (by injection e374)
       replace p374 := eq_true p374
       replace q374 := eq_true q374
       have p410 : 0 ≤ (x2_2 : Int) := of_decide_eq_true as_
       have q410 : x2_2 < (x1_2.length : Int) := of_decide_eq_true as_
       obtain ⟨ad410, e410, hx410_0⟩ := Kd.at_int (Kd.V_reads' HO_1.out).2.2 x2_2 p410 q410
       obtain rfl : ad373 = ad410 := (by injection e410)
       replace p410 := eq_true p410
       replace q410 := eq_true q410
       go_wp2
       (try simp only [← hl1_2])
       go_roundg k2
       case measure => have := HJ17.out; have := HK2.out; omega
       case rel => exact ⟨(x0_2), (x1_2), (wrap64 (x2_2 + 1)), (false), (x11_2), (x35_2), rl_, rl_, rl_, rl_, H', ⟨by have := HJ17.out; have := HK2.out; omega⟩, ⟨by (try simp only [hl1_2]); (with_reducible repeat (first | apply Kd.R_alloc | apply Kd.R_drewN | apply Kd.R_drew)); exact HO_0.out⟩, ⟨by (try simp only [hl1_2]); (with_reducible repeat (first | apply Kd.V_alloc | apply Kd.V_drewN | apply Kd.V_drew)); first | exact HO_1.out | exact Kd.V_len HO_1.out⟩, ⟨kp_ HK⟩, ⟨bl_ HB⟩⟩
      rw [if_pos c84] at H
      have c84b0 : ((rd x1_2 x2_2) == 34) = true := beq_iff_eq.mpr c84
      have c84b1 : ((rd x1_2 x2_2) != 34) = false := bne_eq_false_iff_eq.mpr c84
      clear c84
      have HC85 := a_ H
      clear H
      have p373 : 0 ≤ (x2_2 : Int) := of_decide_eq_true as_
      have q373 : x2_2 < (x1_2.length : Int) := of_decide_eq_true as_
      obtain ⟨ad373, e373, hx373_0⟩ := Kd.at_int (Kd.V_reads' HO_1.out).2.2 x2_2 p373 q373
      cases e373
      replace p373 := eq_true p373
      replace q373 := eq_true q373
      have p374 : 0 ≤ (x2_2 : Int) := of_decide_eq_true as_
      have q374 : x2_2 < (x1_2.length : Int) := of_decide_eq_true as_
      obtain ⟨ad374, e374, hx374_0⟩ := Kd.at_int (Kd.V_reads' HO_1.out).2.2 x2_2 p374 q374
      obtain rfl : ad373 = ad374 := (by injection e374)
      replace p374 := eq_true p374
      replace q374 := eq_true q374
      have p410 : 0 ≤ (x2_2 : Int) := of_decide_eq_true as_
      have q410 : x2_2 < (x1_2.length : Int) := of_decide_eq_true as_
      obtain ⟨ad410, e410, hx410_0⟩ := Kd.at_int (Kd.V_reads' HO_1.out).2.2 x2_2 p410 q410
      obtain rfl : ad373 = ad410 := (by injection e410)
      replace p410 := eq_true p410
      replace q410 := eq_true q410
      go_upto_if 186 with (fail)
      go_cut [0] (fun v0 wc => ∃ (kq : Nat) (x0_84 : List Int), Aside0 (pretty_appendPrettyObjectA.j2 kq x0_84 x1_2 x2_2 a3 a4 true a6 a7 a8 false a10 a12 x35_2 = some (r1, r2, r3, r4)) ∧ Aside0 (kq ≤ k2) ∧ Aside0 (Kd.R (Kd.int .u8) 5 wc w0.heap.size (fun k_ => (P0_ k_ ∨ w.heap.size ≤ k_)) v0 x0_84) ∧ Aside0 (Kd.V (Kd.int .u8) 5 wc w0.heap.size (fun k_ => ((P0_ k_ ∨ P1_ k_) ∨ w.heap.size ≤ k_) ∧ some k_ ≠ (v0 : Value).ownBlock) (.slice (some ad373) x1_2.length c1) x1_2) ∧ Aside0 (Kept w wc (fun k_ => P0_ k_)) ∧ Aside0 (Below w0.heap.size w0 wc))
      case first =>
       have H := HC85.out
       clear HC85
       by_cases c86 : x35_2 > 0
       rotate_left
       ·
        rw [if_neg c86] at H
        have c86b0 : decide (0 < x35_2) = false := decide_eq_false c86
        clear c86
        (first | rw [c86b0] | (simp only [i64_w, i32_w]; rw [c86b0]) | skip)
        have H' := a_ H
        clear H
        go_wp2
        go_meet
        case rel => exact ⟨_, (x0_2), H', ⟨by have := HJ17.out; have := HK2.out; first | omega | exact Nat.le_refl _⟩, ⟨by (try simp only [hl1_2]); (with_reducible repeat (first | apply Kd.R_alloc | apply Kd.R_drewN | apply Kd.R_drew)); exact HO_0.out⟩, ⟨by (try simp only [hl1_2]); (with_reducible repeat (first | apply Kd.V_alloc | apply Kd.V_drewN | apply Kd.V_drew)); first | exact HO_1.out | exact Kd.V_len HO_1.out⟩, ⟨kp_ HK⟩, ⟨bl_ HB⟩⟩
       rw [if_pos c86] at H
       have c86b0 : decide (0 < x35_2) = true := decide_eq_true c86
       clear c86
       (first | rw [c86b0] | (simp only [i64_w, i32_w]; rw [c86b0]) | skip)
       by_cases c87 : x0_2.length < 140737488355328
       rotate_left
       ·
        rw [if_neg c87] at H
        exact absurd H (by simp)
       rw [if_pos c87] at H
       have LMc87 := a_ c87
       clear c87
       obtain ⟨y411, hy411⟩ : ∃ y_ : List Int, y_ = (x0_2 ++ [44]) := ⟨_, rfl⟩
       replace H := lt_ H hy411
       have Ny411 := a_ hy411
       clear hy411
       by_cases c88 : a6 = (-1)
       rotate_left
       ·
        rw [if_neg c88] at H
        have c88b0 : (a6 == (-1)) = false := beq_eq_false_iff_ne.mpr c88
        have c88b1 : (a6 != (-1)) = true := bne_iff_ne.mpr c88
        have H' := a_ H
        clear H
        go_wp2_with (first | ((with_reducible refine gate_builtin (b := .append) (xs := #[.tmp 187, .tmp 188]) rfl ?_); (try (refine gate_guard (by rfl) ?_; dsimp only)); at_builtin; refine Kd.R_append (Kd.int .u8) (w0 := w0) w0.heap.size rfl (.tmp 187) (.tmp 188) 32 5 (.int .u8 0) 1 rfl Try.underlying32 info5 rfl (by decide) (by omega) u0 x0_2 44 [.int .u8 44] (fun k_ => (P0_ k_ ∨ w.heap.size ≤ k_)) (fun _ => False) rfl rfl ?aP (fun _ hk => hk.elim) ?aF ?aO ?aB ?aS ?aL ?_; (case aP => exact rfl); (case aB => exact (bl_ HB)); (case aF => exact (fun k_ hk => (.inr (Nat.le_trans (kz_ HK) hk)))); (case aO => exact (rp_ HO_0)); (case aS => exact (below_size (bl_ HB))); (case aL => have := LMc87.out; omega); intro v412 w90 ho hb hg hat; rw [← Ny411.out] at ho; have n0_ := a_ (Kd.V_afterv (ok := (fun k_ => ((P0_ k_ ∨ P1_ k_) ∨ w.heap.size ≤ k_))) (vp_ HO_1) hg hat); have n1_ := a_ (hb); have n2_ := a_ (Kept.of_grown (S := (fun k_ => P0_ k_)) hg (kp_ HK) (fun k_ e_ => (HO_0.out.1 k_ e_))); have n3_ := a_ (ho); clear HO_1 HB HK HO_0; have HO_1 := n0_; have HB := n1_; have HK := n2_; have HO413 := n3_; clear n0_ n1_ n2_ n3_; clear ho hb hg hat))
        go_meet
        case rel => exact ⟨_, (y411), H', ⟨by have := HJ17.out; have := HK2.out; first | omega | exact Nat.le_refl _⟩, ⟨by (try simp only [hl1_2]); (with_reducible repeat (first | apply Kd.R_alloc | apply Kd.R_drewN | apply Kd.R_drew)); exact HO413.out⟩, ⟨by (try simp only [hl1_2]); (with_reducible repeat (first | apply Kd.V_alloc | apply Kd.V_drewN | apply Kd.V_drew)); first | exact HO_1.out | exact Kd.V_len HO_1.out⟩, ⟨kp_ HK⟩, ⟨bl_ HB⟩⟩
       rw [if_pos c88] at H
       have c88b0 : (a6 == (-1)) = true := beq_iff_eq.mpr c88
       have c88b1 : (a6 != (-1)) = false := bne_eq_false_iff_eq.mpr c88
       clear c88
       have H' := a_ H
       clear H
       go_wp2_with (first | ((with_reducible refine gate_builtin (b := .append) (xs := #[.tmp 187, .tmp 188]) rfl ?_); (try (refine gate_guard (by rfl) ?_; dsimp only)); at_builtin; refine Kd.R_append (Kd.int .u8) (w0 := w0) w0.heap.size rfl (.tmp 187) (.tmp 188) 32 5 (.int .u8 0) 1 rfl Try.underlying32 info5 rfl (by decide) (by omega) u0 x0_2 44 [.int .u8 44] (fun k_ => (P0_ k_ ∨ w.heap.size ≤ k_)) (fun _ => False) rfl rfl ?aP (fun _ hk => hk.elim) ?aF ?aO ?aB ?aS ?aL ?_; (case aP => exact rfl); (case aB => exact (bl_ HB)); (case aF => exact (fun k_ hk => (.inr (Nat.le_trans (kz_ HK) hk)))); (case aO => exact (rp_ HO_0)); (case aS => exact (below_size (bl_ HB))); (case aL => have := LMc87.out; omega); intro v412 w89 ho hb hg hat; rw [← Ny411.out] at ho; have n0_ := a_ (Kd.V_afterv (ok := (fun k_ => ((P0_ k_ ∨ P1_ k_) ∨ w.heap.size ≤ k_))) (vp_ HO_1) hg hat); have n1_ := a_ (hb); have n2_ := a_ (Kept.of_grown (S := (fun k_ => P0_ k_)) hg (kp_ HK) (fun k_ e_ => (HO_0.out.1 k_ e_))); have n3_ := a_ (ho); clear HO_1 HB HK HO_0; have HO_1 := n0_; have HB := n1_; have HK := n2_; have HO413 := n3_; clear n0_ n1_ n2_ n3_; clear ho hb hg hat))
       go_meet
       case rel => exact ⟨_, (y411), H', ⟨by have := HJ17.out; have := HK2.out; first | omega | exact Nat.le_refl _⟩, ⟨by (try simp only [hl1_2]); (with_reducible repeat (first | apply Kd.R_alloc | apply Kd.R_drewN | apply Kd.R_drew)); exact HO413.out⟩, ⟨by (try simp only [hl1_2]); (with_reducible repeat (first | apply Kd.V_alloc | apply Kd.V_drewN | apply Kd.V_drew)); first | exact HO_1.out | exact Kd.V_len HO_1.out⟩, ⟨kp_ HK⟩, ⟨bl_ HB⟩⟩
      clear HC85
      (try clear c1); (try clear c2); (try clear p2); (try clear c3); (try clear p3); (try clear q3); (try clear hx3); (try clear c4); (try clear p4); (try clear q4); (try clear hx4); (try clear c5); (try clear c6); (try clear p6); (try clear c7); (try clear c8); (try clear c14); (try clear c15); (try clear c16); (try clear c16b0); (try clear c16b1); (try clear c17); (try clear c17b0); (try clear c17b1); (try clear c19); (try clear c19b0); (try clear c20); (try clear c20b0); (try clear c20b1); (try clear c21); (try clear c22); (try clear c23); (try clear c23b0); (try clear c23b1); (try clear c24); (try clear c24b0); (try clear c24b1); (try clear c25); (try clear c27); (try clear c28); (try clear c29); (try clear c29b0); (try clear c29b1); (try clear c30); (try clear c30b0); (try clear c30b1); (try clear c31); (try clear c31b0); (try clear c32); (try clear c32b0); (try clear c33); (try clear c33b0); (try clear c34); (try clear c34b0); (try clear c34b1); (try clear c35); (try clear c35b0); (try clear c37); (try clear c37b0); (try clear p37); (try clear q37); (try clear hx37); (try clear c38); (try clear c38b0); (try clear c39); (try clear c39b0); (try clear c39b1); (try clear p39); (try clear q39); (try clear hx39); (try clear p40); (try clear q40); (try clear hx40); (try clear hf40); (try clear c41); (try clear c41b0); (try clear c41b1); (try clear p41); (try clear q41); (try clear hx41); (try clear c42); (try clear c48); (try clear c54); (try clear c56); (try clear c56b0)
      (try clear c57); (try clear c57b0); (try clear c58); (try clear c58b0); (try clear c58b1); (try clear c59); (try clear p64); (try clear c65); (try clear c72); (try clear c72b0); (try clear c73); (try clear c73b0); (try clear c74); (try clear c74b0); (try clear c74b1); (try clear c75); (try clear c79); (try clear c83); (try clear c83b0); (try clear c83b1); (try clear c84); (try clear c84b0); (try clear c84b1); (try clear c86); (try clear c86b0); (try clear c87); (try clear c88); (try clear c88b0); (try clear c88b1); (try clear hx373_0); (try clear hx374_0); (try clear hx375_0); (try clear hx377_0); (try clear hx390_0); (try clear hx400_0); (try clear hx40_0); (try clear hx410_0); (try clear p2); (try clear p373); (try clear p374); (try clear p375); (try clear p377); (try clear p390); (try clear p40); (try clear p400); (try clear p410); (try clear p6); (try clear q373); (try clear q374); (try clear q375); (try clear q377); (try clear q390); (try clear q40); (try clear q400); (try clear q410)
      as_aux_lemma =>
       obtain ⟨kq, x0_84, HA, HJ84, HO_0, HO_1, HK, HB⟩ := hcut
       cases kq with
       | zero => exact absurd HA.out (by simp [pretty_appendPrettyObjectA.j2])
       | succ kj84 =>
        have H := HA.out
        clear HA
        simp only [pretty_appendPrettyObjectA.j2] at H
        have c91 : ¬ (false = true) := Bool.false_ne_true
        have H1 : (if true = true then (if a3 = 123 then (if a12 = (-1) then (if 0 ≤ (wrap64 ((x0_84.length : Int) - 1)) then (if (wrap64 ((x0_84.length : Int) - 1)) < (x0_84.length : Int) then (if (rd x0_84 (wrap64 ((x0_84.length : Int) - 1))) = 32 then ((pretty_appendTabs.f kj84 (x0_84.set ((wrap64 ((x0_84.length : Int) - 1)) : Int).toNat 10) a7 a8 (wrap64 (a10 + 1))).bind fun t417 => (pretty_appendPrettyObjectA.j3 kj84 t417 x1_2 x2_2 a3 a4 true a6 a7 a8 false a10 (x0_84.length : Int) a12 x35_2)) else (if x0_84.length < 140737488355328 then ((pretty_appendTabs.f kj84 (x0_84 ++ [10]) a7 a8 (wrap64 (a10 + 1))).bind fun t423 => (pretty_appendPrettyObjectA.j3 kj84 t423 x1_2 x2_2 a3 a4 true a6 a7 a8 false a10 (x0_84.length : Int) a12 x35_2)) else (none))) else (none)) else (none)) else (none)) else (none)) else (none)) = some (r1, r2, r3, r4) := by rw [if_neg (show ¬ (false = true) by decide)] at H; exact H
        clear H
        have H := H1
        clear H1
        have H1 : (if a3 = 123 then (if a12 = (-1) then (if 0 ≤ (wrap64 ((x0_84.length : Int) - 1)) then (if (wrap64 ((x0_84.length : Int) - 1)) < (x0_84.length : Int) then (if (rd x0_84 (wrap64 ((x0_84.length : Int) - 1))) = 32 then ((pretty_appendTabs.f kj84 (x0_84.set ((wrap64 ((x0_84.length : Int) - 1)) : Int).toNat 10) a7 a8 (wrap64 (a10 + 1))).bind fun t417 => (pretty_appendPrettyObjectA.j3 kj84 t417 x1_2 x2_2 a3 a4 true a6 a7 a8 false a10 (x0_84.length : Int) a12 x35_2)) else (if x0_84.length < 140737488355328 then ((pretty_appendTabs.f kj84 (x0_84 ++ [10]) a7 a8 (wrap64 (a10 + 1))).bind fun t423 => (pretty_appendPrettyObjectA.j3 kj84 t423 x1_2 x2_2 a3 a4 true a6 a7 a8 false a10 (x0_84.length : Int) a12 x35_2)) else (none))) else (none)) else (none)) else (none)) else (none)) = some (r1, r2, r3, r4) := by rw [if_pos rfl] at H; exact H
        clear H
        have H := H1
        clear H1
        by_cases c93 : a3 = 123
        rotate_left
        ·
         rw [if_neg c93] at H
         exact absurd H (by simp)
        rw [if_pos c93] at H
        have c93b0 : (a3 == 123) = true := beq_iff_eq.mpr c93
        have c93b1 : (a3 != 123) = false := bne_eq_false_iff_eq.mpr c93
        clear c93
        by_cases c94 : a12 = (-1)
        rotate_left
        ·
         rw [if_neg c94] at H
         exact absurd H (by simp)
        rw [if_pos c94] at H
        have c94b0 : (a12 == (-1)) = true := beq_iff_eq.mpr c94
        have c94b1 : (a12 != (-1)) = false := bne_eq_false_iff_eq.mpr c94
        clear c94
        have HC95 := a_ H
        clear H
        go_upto_if 199 with (first | ((with_reducible refine gate_dst (N := 36) rfl ?_); (try (refine gate_guard (by rfl) ?_; dsimp only)); refine box_event ?hg (N := 36) ?hd (cs := #[.int .i64 0, .int .i64 0, .int .i64 0, .int .i64 0]) (t := 64) ?hr ?_; (case hd => rfl); (case hg => rfl); (case hr => first | (go_simp; done) | (go_simp; rfl)); intro gb414 hg w96 hbox hb; have n0_ := a_ (Kd.R_below (rp_ HO_0) hb); have n1_ := a_ (Kd.V_below (Kd.V_elderB (vp_ HO_1) gb414 (Nat.le_of_eq hg.symm)) hb); have n2_ := a_ (Kept.below (S := (fun k_ => P0_ k_)) (kp_ HK) hb); have n3_ := a_ (below_step (bl_ HB) hb); have n4_ := a_ (hbox); have n5_ := a_ ((by rw [hg]; exact (kz_ HK) : w.heap.size ≤ gb414)); have n6_ := a_ ((by rw [hg]; exact (below_size (bl_ HB)) : w0.heap.size ≤ gb414)); clear HO_0 HO_1 HK HB; have HO_0 := n0_; have HO_1 := n1_; have HK := n2_; have HB := n3_; have BK414 := n4_; have GW414 := n5_; have GE414 := n6_; clear n0_ n1_ n2_ n3_ n4_ n5_ n6_; clear hb hbox hg))
        (try simp only [Act.put, List.setIfInBounds_toArray, List.set_cons_zero, List.set_cons_succ])
        go_cut [0, 11] (fun v0 v11 wc => ∃ (kq : Nat) (x0_94 : List Int) (x1_94 : List Int) (x11_94 : Int) (x415000_94 : Int) (x415002_94 : Int), v11 = .int .i64 x11_94 ∧ Aside0 (pretty_appendPrettyObjectA.j3 kq x0_94 x1_94 x2_2 a3 a4 true a6 a7 a8 false a10 x11_94 a12 x35_2 = some (r1, r2, r3, r4)) ∧ Aside0 (kq ≤ kj84) ∧ Aside0 (Kd.R (Kd.int .u8) 5 wc w0.heap.size (fun k_ => (P0_ k_ ∨ w.heap.size ≤ k_)) v0 x0_94) ∧ Aside0 (Kd.V (Kd.int .u8) 5 wc w0.heap.size (fun k_ => ((P0_ k_ ∨ P1_ k_) ∨ w.heap.size ≤ k_) ∧ some k_ ≠ (v0 : Value).ownBlock ∧ k_ ≠ gb414) (.slice (some ad373) x1_2.length c1) x1_94) ∧ Aside0 (wc.heap[gb414]? = some (.cells #[.int .i64 x415000_94, .int .i64 0, .int .i64 x415002_94, .int .i64 0] 64 (0, 0))) ∧ Aside0 (Kept w wc (fun k_ => P0_ k_)) ∧ Aside0 (Below w0.heap.size w0 wc))
        case first =>
         have H := HC95.out
         clear HC95
         obtain ⟨ji97, hji97⟩ : ∃ j_ : Int, (wrap64 ((x0_84.length : Int) - 1)) = j_ := ⟨_, rfl⟩
         replace H : (if 0 ≤ (ji97) then (if (ji97) < (x0_84.length : Int) then (if (rd x0_84 (ji97)) = 32 then ((pretty_appendTabs.f kj84 (x0_84.set ((ji97) : Int).toNat 10) a7 a8 (wrap64 (a10 + 1))).bind fun t417 => (pretty_appendPrettyObjectA.j3 kj84 t417 x1_2 x2_2 a3 a4 true a6 a7 a8 false a10 (x0_84.length : Int) a12 x35_2)) else (if x0_84.length < 140737488355328 then ((pretty_appendTabs.f kj84 (x0_84 ++ [10]) a7 a8 (wrap64 (a10 + 1))).bind fun t423 => (pretty_appendPrettyObjectA.j3 kj84 t423 x1_2 x2_2 a3 a4 true a6 a7 a8 false a10 (x0_84.length : Int) a12 x35_2)) else (none))) else (none)) else (none)) = some (r1, r2, r3, r4) := by first | (rw [hji97] at H; exact H) | (simp only [hji97] at H ⊢; exact H)
         have hji97w : (IntKind.i64.wrap ((x0_84.length : Int) - 1)) = ji97 := (i64_w _).trans hji97
         by_cases c98 : 0 ≤ (ji97)
         rotate_left
         ·
          rw [if_neg c98] at H
          exact absurd H (by simp)
         rw [if_pos c98] at H
         have c98b0 : decide (0 ≤ (ji97)) = true := decide_eq_true c98
         clear c98
         (first | rw [c98b0] | (simp only [i64_w, i32_w]; rw [c98b0]) | skip)
         by_cases c99 : (ji97) < (x0_84.length : Int)
         rotate_left
         ·
          rw [if_neg c99] at H
          exact absurd H (by simp)
         rw [if_pos c99] at H
         have c99b0 : decide ((ji97) < (x0_84.length : Int)) = true := decide_eq_true c99
         clear c99
         by_cases c100 : (rd x0_84 (ji97)) = 32
         rotate_left
         ·
          rw [if_neg c100] at H
          have c100b0 : ((rd x0_84 (ji97)) == 32) = false := beq_eq_false_iff_ne.mpr c100
          have c100b1 : ((rd x0_84 (ji97)) != 32) = true := bne_iff_ne.mpr c100
          by_cases c107 : x0_84.length < 140737488355328
          rotate_left
          ·
           rw [if_neg c107] at H
           exact absurd H (by simp)
          rw [if_pos c107] at H
          have LMc107 := a_ c107
          clear c107
          obtain ⟨y420, hy420⟩ : ∃ y_ : List Int, y_ = (x0_84 ++ [10]) := ⟨_, rfl⟩
          replace H : ((pretty_appendTabs.f kj84 y420 a7 a8 (wrap64 (a10 + 1))).bind fun t423 => (pretty_appendPrettyObjectA.j3 kj84 t423 x1_2 x2_2 a3 a4 true a6 a7 a8 false a10 (x0_84.length : Int) a12 x35_2)) = some (r1, r2, r3, r4) := by first | exact lt_ H hy420 | (rw [hy420]; exact H) | exact H
          have Ny420 := a_ hy420
          clear hy420
          replace H := Option.bind_eq_some_iff.mp H
          obtain ⟨t423, A1080, H⟩ := H
          replace H : (pretty_appendPrettyObjectA.j3 kj84 t423 x1_2 x2_2 a3 a4 true a6 a7 a8 false a10 (x0_84.length : Int) a12 x35_2) = some (r1, r2, r3, r4) := H
          have A108 := a_ A1080
          clear A1080
          have H' := a_ H
          clear H
          obtain ⟨Ao109, co109, eo109⟩ := Kd.R_slice HO_0.out
          subst eo109
          have p415 : 0 ≤ ((ji97) : Int) := of_decide_eq_true as_
          have q415 : (ji97) < (x0_84.length : Int) := of_decide_eq_true as_
          obtain ⟨ad415, e415, hx415_0⟩ := Kd.at_int (Kd.R_reads' HO_0.out).2.2 (ji97) p415 q415
          cases e415
          replace p415 := eq_true p415
          replace q415 := eq_true q415
          go_wp2_with (first | ((with_reducible refine gate_builtin (b := .append) (xs := #[.tmp 212, .tmp 213]) rfl ?_); (try (refine gate_guard (by rfl) ?_; dsimp only)); at_builtin; refine Kd.R_append (Kd.int .u8) (w0 := w0) w0.heap.size rfl (.tmp 212) (.tmp 213) 32 5 (.int .u8 0) 1 rfl Try.underlying32 info5 rfl (by decide) (by omega) (.slice (some ad415) x0_84.length co109) x0_84 10 [.int .u8 10] (fun k_ => (P0_ k_ ∨ w.heap.size ≤ k_)) (fun _ => False) rfl rfl ?aP (fun _ hk => hk.elim) ?aF ?aO ?aB ?aS ?aL ?_; (case aP => exact rfl); (case aB => exact (bl_ HB)); (case aF => exact (fun k_ hk => (.inr (Nat.le_trans (kz_ HK) hk)))); (case aO => exact (rp_ HO_0)); (case aS => exact (below_size (bl_ HB))); (case aL => have := LMc107.out; omega); intro v421 w110 ho hb hg hat; rw [← Ny420.out] at ho; have n0_ := a_ (Kd.V_afterv (ok := (fun k_ => ((P0_ k_ ∨ P1_ k_) ∨ w.heap.size ≤ k_) ∧ k_ ≠ gb414)) (by (with_reducible repeat (first | apply Kd.V_alloc | apply Kd.V_drewN | apply Kd.V_drew)); exact Kd.V_mono HO_1.out (fun _ hk => ⟨⟨hk.1.1, hk.2⟩, hk.1.2⟩)) hg hat); have n1_ := a_ (blk_grown (g := gb414) (o := .cells #[.int .i64 0, .int .i64 0, .int .i64 0, .int .i64 0] 64 (0, 0)) (bk_ BK414) hg (Kd.R_ne HO_0.out BK414.out (by decide))); have n2_ := a_ (hb); have n3_ := a_ (Kept.of_grown (S := (fun k_ => P0_ k_)) hg (kp_ HK) (fun k_ e_ => (HO_0.out.1 k_ e_))); have n4_ := a_ (ho); clear HO_1 BK414 HB HK HO_0; have HO_1 := n0_; have BK414 := n1_; have HB := n2_; have HK := n3_; have HO422 := n4_; clear n0_ n1_ n2_ n3_ n4_; clear ho hb hg hat; obtain ⟨Ao111, co111, eo111⟩ := Kd.R_slice HO422.out; subst eo111) | ((with_reducible refine gate_callee (f := 34) rfl ?_); refine goesL_ (some 230) rfl rfl Try.func34 (by kernel_rfl) rfl #[.slice Ao111 y420.length co111, .string a7, .string a8, .int .i64 (wrap64 (a10 + 1))] rfl ar_ ?_; (with_reducible refine (pretty_appendTabs.calls kj84 (fun k_ => some k_ = (.slice Ao111 y420.length co111 : Value).ownBlock) (.slice Ao111 y420.length co111) y420 a7 a8 (wrap64 (a10 + 1)) t423 w0 _ ?side1 ?side2 A108.out).mono ?_); (case side1 => exact bl_ HB); (case side2 => exact Kd.R_tight rfl HO422.out); rintro e w112 ⟨v424, rfl, ho0, hb, hkp⟩; refine ⟨_, rfl, ?_⟩; have n0_ := a_ (Kd.V_mono (ok' := fun k_ => ((P0_ k_ ∨ P1_ k_) ∨ w.heap.size ≤ k_) ∧ k_ ≠ gb414 ∧ some k_ ≠ (v424 : Value).ownBlock) (Kd.V_keptB (HO_1.out) hkp (fun k_ hk_ hs_ => (hk_.2) hs_)) (fun k_ hk_ => ⟨hk_.1.1.1, hk_.1.1.2, fun e_ => Or.elim (ho0.1 k_ e_.symm) (fun hs_ => hk_.2.1 hs_) (fun hn_ => Nat.not_le.2 hk_.2.2 hn_)⟩)); have n1_ := a_ (blk_kept (bk_ BK414) hkp (fun hs_ => (fun e_ => (Kd.R_ne HO422.out BK414.out (by decide)) e_) hs_)); have n2_ := a_ (Kd.R_mono (ok' := fun k_ => (P0_ k_ ∨ w.heap.size ≤ k_)) ho0 (fun k_ hk_ => Or.elim hk_ (fun hs_ => (HO422.out.1 k_ (hs_).symm)) (fun hn_ => (.inr (Nat.le_trans (kz_ HK) hn_))))); have n3_ := a_ (Kept.then_ (S := (fun k_ => P0_ k_)) (kp_ HK) hkp (fun k_ hs_ => (fun e_ => (HO422.out.1 k_ e_.symm)) hs_)); have n4_ := a_ (hb); clear HO_1 BK414 HK HB HO422; have HO_1 := n0_; have BK414 := n1_; have HO425 := n2_; have HK := n3_; have HB := n4_; clear n0_ n1_ n2_ n3_ n4_; (try clear hb); (try clear hkp); (try clear ho0)))
          go_meet
          case rel => exact ⟨_, (t423), (x1_2), ((x0_84.length : Int)), (0), (0), rl_, H', ⟨by have := HJ17.out; have := HK2.out; have := HJ84.out; first | omega | exact Nat.le_refl _⟩, ⟨by (try simp only [hl1_2]); (with_reducible repeat (first | apply Kd.R_alloc | apply Kd.R_drewN | apply Kd.R_drew)); exact HO425.out⟩, ⟨by (try simp only [hl1_2]); (with_reducible repeat (first | apply Kd.V_alloc | apply Kd.V_drewN | apply Kd.V_drew)); exact Kd.V_mono HO_1.out (fun _ hk => ⟨hk.1, ⟨hk.2.2, hk.2.1⟩⟩)⟩, ⟨by (try simp only [hl1_2]); (with_reducible repeat (first | refine blk_drewN ?_ _ | refine blk_drew ?_ | refine blk_alloc ?_ _)); exact BK414.out⟩, ⟨kp_ HK⟩, ⟨bl_ HB⟩⟩
         rw [if_pos c100] at H
         have c100b0 : ((rd x0_84 (ji97)) == 32) = true := beq_iff_eq.mpr c100
         have c100b1 : ((rd x0_84 (ji97)) != 32) = false := bne_eq_false_iff_eq.mpr c100
         clear c100
         obtain ⟨y416, hy416⟩ : ∃ y_ : List Int, y_ = (x0_84.set ((ji97) : Int).toNat 10) := ⟨_, rfl⟩
         replace H : ((pretty_appendTabs.f kj84 y416 a7 a8 (wrap64 (a10 + 1))).bind fun t417 => (pretty_appendPrettyObjectA.j3 kj84 t417 x1_2 x2_2 a3 a4 true a6 a7 a8 false a10 (x0_84.length : Int) a12 x35_2)) = some (r1, r2, r3, r4) := by first | exact lt_ H hy416 | (rw [hy416]; exact H) | exact H
         have Ny416 := a_ hy416
         clear hy416
         replace H := Option.bind_eq_some_iff.mp H
         obtain ⟨t417, A1020, H⟩ := H
         replace H : (pretty_appendPrettyObjectA.j3 kj84 t417 x1_2 x2_2 a3 a4 true a6 a7 a8 false a10 (x0_84.length : Int) a12 x35_2) = some (r1, r2, r3, r4) := H
         have A102 := a_ A1020
         clear A1020
         have H' := a_ H
         clear H
         obtain ⟨Ao103, co103, eo103⟩ := Kd.R_slice HO_0.out
         subst eo103
         have p415 : 0 ≤ ((ji97) : Int) := of_decide_eq_true as_
         have q415 : (ji97) < (x0_84.length : Int) := of_decide_eq_true as_
         obtain ⟨ad415, e415, hx415_0⟩ := Kd.at_int (Kd.R_reads' HO_0.out).2.2 (ji97) p415 q415
         cases e415
         replace p415 := eq_true p415
         replace q415 := eq_true q415
         have p101 : 0 ≤ ((ji97) : Int) := of_decide_eq_true as_
         have q101 : ((ji97) : Int) < ((x0_84.length : Int) : Int) := of_decide_eq_true as_
         obtain ⟨go101, co101, eo101, gb101, gl101, cl101, HG101⟩ := Kd.R_form HO_0.out (by omega)
         (first | cases eo101 | (injection eo101 with ea_ en_ ec_; (first | subst ea_ | (injection ea_ with ea_; subst ea_)); subst ec_; clear en_))
         have GB101 := a_ gb101
         have GG101 := a_ HG101
         clear gb101 gl101 HG101
         have HMgo101 := a_ (show (P0_ go101 ∨ w.heap.size ≤ go101) from (HO_0.out.1 _ rfl))
         (first | simp only [add_plain] at hx415_0 | skip)
         obtain ⟨hx101_0, hf101_0⟩ := Kd.R_celln 0 HO_0.out ((ji97) : Int) p101 q101
         replace p101 := eq_true p101
         replace q101 := eq_true q101
         have HP104 := Kd.R_putg HO_0.out ((ji97) : Int) 10
         go_wp2_with (first | ((with_reducible refine gate_store (t := 5) (p := 211) rfl ?_); refine store_event (t := 5) (p := 211) (v := ?vo_w105) (w1 := (w96.setCell ⟨go101, ((ji97) : Int).toNat, none⟩ (.int .u8 10))) ?hg ?ho ?hn ?hr ?_; (case ho => rfl); (case hg => rfl); (case hn => rfl); (case hr => first | (go_simp; done) | (go_simp; rfl)); intro w105 hw; have hg : w96.grownBy w105 (some go101) := (by rw [hw]; exact HP104.2); have hp_ : Kd.R (Kd.int .u8) 5 w105 w0.heap.size (fun k_ => (P0_ k_ ∨ w.heap.size ≤ k_)) (.slice (some ⟨go101, 0, none⟩) x0_84.length co103) y416 := (by rw [hw, Ny416.out]; exact HP104.1); clear HP104; have n0_ := a_ (hp_); have n1_ := a_ (Kd.V_afterv (v := (.slice (some ⟨go101, 0, none⟩) x0_84.length co103)) (v1 := (.slice (some ⟨go101, 0, none⟩) x0_84.length co103)) (ok := (fun k_ => ((P0_ k_ ∨ P1_ k_) ∨ w.heap.size ≤ k_) ∧ k_ ≠ gb414)) (by (with_reducible repeat (first | apply Kd.V_alloc | apply Kd.V_drewN | apply Kd.V_drew)); exact Kd.V_mono HO_1.out (fun _ hk => ⟨⟨hk.1.1, hk.2⟩, hk.1.2⟩)) hg (.inl rfl)); have n2_ := a_ (blk_grown (g := gb414) (o := .cells #[.int .i64 0, .int .i64 0, .int .i64 0, .int .i64 0] 64 (0, 0)) (bk_ BK414) hg (Kd.R_ne HO_0.out BK414.out (by decide))); have n3_ := a_ ((by rw [hw]; exact below_set (HB.out) GB101.out : Below w0.heap.size w0 w105)); have n4_ := a_ (Kept.of_grown (S := (fun k_ => P0_ k_)) hg (kp_ HK) (fun k_ e_ => (HO_0.out.1 k_ e_))); clear HO_0 HO_1 BK414 HB HK; have HO_0 := n0_; have HO_1 := n1_; have BK414 := n2_; have HB := n3_; have HK := n4_; clear n0_ n1_ n2_ n3_ n4_; clear hg hw hp_) | ((with_reducible refine gate_callee (f := 34) rfl ?_); refine goesL_ (some 230) rfl rfl Try.func34 (by kernel_rfl) rfl #[.slice (some ⟨go101, 0, none⟩) x0_84.length co103, .string a7, .string a8, .int .i64 (wrap64 (a10 + 1))] rfl ar_ ?_; (with_reducible refine (pretty_appendTabs.calls kj84 (fun k_ => some k_ = (.slice (some ⟨go101, 0, none⟩) x0_84.length co103 : Value).ownBlock) (.slice (some ⟨go101, 0, none⟩) x0_84.length co103) y416 a7 a8 (wrap64 (a10 + 1)) t417 w0 _ ?side1 ?side2 A102.out).mono ?_); (case side1 => exact bl_ HB); (case side2 => exact Kd.R_tight rfl HO_0.out); rintro e w106 ⟨v418, rfl, ho0, hb, hkp⟩; refine ⟨_, rfl, ?_⟩; have n0_ := a_ (Kd.V_mono (ok' := fun k_ => ((P0_ k_ ∨ P1_ k_) ∨ w.heap.size ≤ k_) ∧ k_ ≠ gb414 ∧ some k_ ≠ (v418 : Value).ownBlock) (Kd.V_keptB (HO_1.out) hkp (fun k_ hk_ hs_ => (hk_.2) hs_)) (fun k_ hk_ => ⟨hk_.1.1.1, hk_.1.1.2, fun e_ => Or.elim (ho0.1 k_ e_.symm) (fun hs_ => hk_.2.1 hs_) (fun hn_ => Nat.not_le.2 hk_.2.2 hn_)⟩)); have n1_ := a_ (blk_kept (bk_ BK414) hkp (fun hs_ => (fun e_ => (Kd.R_ne HO_0.out BK414.out (by decide)) e_) hs_)); have n2_ := a_ (Kd.R_mono (ok' := fun k_ => (P0_ k_ ∨ w.heap.size ≤ k_)) ho0 (fun k_ hk_ => Or.elim hk_ (fun hs_ => (HO_0.out.1 k_ (hs_).symm)) (fun hn_ => (.inr (Nat.le_trans (kz_ HK) hn_))))); have n3_ := a_ (Kept.then_ (S := (fun k_ => P0_ k_)) (kp_ HK) hkp (fun k_ hs_ => (fun e_ => (HO_0.out.1 k_ e_.symm)) hs_)); have n4_ := a_ (hb); clear HO_1 BK414 HK HB HO_0; have HO_1 := n0_; have BK414 := n1_; have HO419 := n2_; have HK := n3_; have HB := n4_; clear n0_ n1_ n2_ n3_ n4_; (try clear hb); (try clear hkp); (try clear ho0)))
         go_meet
         case rel => exact ⟨_, (t417), (x1_2), ((x0_84.length : Int)), (0), (0), rl_, H', ⟨by have := HJ17.out; have := HK2.out; have := HJ84.out; first | omega | exact Nat.le_refl _⟩, ⟨by (try simp only [hl1_2]); (with_reducible repeat (first | apply Kd.R_alloc | apply Kd.R_drewN | apply Kd.R_drew)); exact HO419.out⟩, ⟨by (try simp only [hl1_2]); (with_reducible repeat (first | apply Kd.V_alloc | apply Kd.V_drewN | apply Kd.V_drew)); exact Kd.V_mono HO_1.out (fun _ hk => ⟨hk.1, ⟨hk.2.2, hk.2.1⟩⟩)⟩, ⟨by (try simp only [hl1_2]); (with_reducible repeat (first | refine blk_drewN ?_ _ | refine blk_drew ?_ | refine blk_alloc ?_ _)); exact BK414.out⟩, ⟨kp_ HK⟩, ⟨bl_ HB⟩⟩
        clear HC95
        (try clear c1); (try clear p1); (try clear q1); (try clear hx1); (try clear c2); (try clear p2); (try clear c3); (try clear p3); (try clear q3); (try clear hx3); (try clear c4); (try clear p4); (try clear q4); (try clear hx4); (try clear c5); (try clear c6); (try clear p6); (try clear c7); (try clear c8); (try clear c9); (try clear c10); (try clear p10); (try clear q10); (try clear hx10); (try clear c14); (try clear c15); (try clear c16); (try clear c16b0); (try clear c16b1); (try clear c17); (try clear c17b0); (try clear c17b1); (try clear c19); (try clear c19b0); (try clear c20); (try clear c20b0); (try clear c20b1); (try clear c21); (try clear c22); (try clear c23); (try clear c23b0); (try clear c23b1); (try clear c24); (try clear c24b0); (try clear c24b1); (try clear c25); (try clear c27); (try clear c28); (try clear c29); (try clear c29b0); (try clear c29b1); (try clear c30); (try clear c30b0); (try clear c30b1); (try clear c31); (try clear c31b0); (try clear c32); (try clear c32b0); (try clear c33); (try clear c33b0); (try clear c34); (try clear c34b0); (try clear c34b1); (try clear c35); (try clear c35b0); (try clear c37); (try clear c37b0); (try clear p37); (try clear q37); (try clear hx37); (try clear c38); (try clear c38b0); (try clear c39); (try clear c39b0); (try clear c39b1); (try clear p39); (try clear q39); (try clear hx39); (try clear p40); (try clear q40); (try clear hx40); (try clear hf40); (try clear c41); (try clear c41b0); (try clear c41b1)
        (try clear p41); (try clear q41); (try clear hx41); (try clear c42); (try clear c48); (try clear c54); (try clear c56); (try clear c56b0); (try clear c57); (try clear c57b0); (try clear c58); (try clear c58b0); (try clear c58b1); (try clear c59); (try clear p64); (try clear c65); (try clear c72); (try clear c72b0); (try clear c73); (try clear c73b0); (try clear c74); (try clear c74b0); (try clear c74b1); (try clear c75); (try clear c79); (try clear c83); (try clear c83b0); (try clear c83b1); (try clear c84); (try clear c84b0); (try clear c84b1); (try clear c86); (try clear c86b0); (try clear c87); (try clear c88); (try clear c88b0); (try clear c88b1); (try clear c91); (try clear c92); (try clear c93); (try clear c93b0); (try clear c93b1); (try clear c94); (try clear c94b0); (try clear c94b1); (try clear c98); (try clear c98b0); (try clear c99); (try clear c99b0); (try clear c100); (try clear c100b0); (try clear c100b1); (try clear p101); (try clear q101); (try clear hx101); (try clear hf101); (try clear c107); (try clear hx101_0); (try clear hx373_0); (try clear hx374_0); (try clear hx375_0); (try clear hx377_0); (try clear hx390_0); (try clear hx400_0); (try clear hx40_0); (try clear hx410_0); (try clear hx415_0); (try clear p101); (try clear p2); (try clear p3); (try clear p37); (try clear p373); (try clear p374); (try clear p375); (try clear p377); (try clear p39); (try clear p390); (try clear p4); (try clear p40); (try clear p400); (try clear p41)
        (try clear p410); (try clear p415); (try clear p6); (try clear p64); (try clear q101); (try clear q3); (try clear q37); (try clear q373); (try clear q374); (try clear q375); (try clear q377); (try clear q39); (try clear q390); (try clear q4); (try clear q40); (try clear q400); (try clear q41); (try clear q410); (try clear q415)
        as_aux_lemma =>
         obtain ⟨kq, x0_94, x1_94, x11_94, x415000_94, x415002_94, rfl, HA, HJ94, HO_0, HO_1, BK414, HK, HB⟩ := hcut
         have hl1_94 := (Kd.V_reads' HO_1.out).1
         rw [hl1_94] at HO_1
         (try simp only [hl1_94])
         (try simp only [hl1_94] at BK414)
         (try simp only [hl1_94] at HO_0)
         cases kq with
         | zero => exact absurd HA.out (by simp [pretty_appendPrettyObjectA.j3])
         | succ kj94 =>
          have H := HA.out
          clear HA
          simp only [pretty_appendPrettyObjectA.j3] at H
          have c113 : ¬ (false = true) := Bool.false_ne_true
          have H1 : (if true = true then (if a3 = 123 then (if a12 = (-1) then ((pretty_appendPrettyString.f kj94 x0_94 x1_94 x2_2 x11_94).bind fun bt426 => (if bt426.1.length < 140737488355328 then ((some (bt426.1 ++ [58] : List Int)).bind fun y432 => (if y432.length < 140737488355328 then ((pretty_appendPrettyAny.f kj94 (y432 ++ [32]) x1_94 bt426.2.1 true a6 a7 a8 false (wrap64 (a10 + 1)) bt426.2.2.1 a12).bind fun bt438 => (pretty_appendPrettyObjectA.l0 kj94 bt438.1 x1_94 (wrap64 ((wrap64 (bt438.2.1 - 1)) + 1)) a3 a4 true a6 a7 a8 false a10 bt438.2.2.1 a12 (wrap64 (x35_2 + 1)))) else (none))) else (none))) else (none)) else (none)) else (none)) = some (r1, r2, r3, r4) := by rw [if_neg (show ¬ (false = true) by decide)] at H; exact H
          clear H
          have H := H1
          clear H1
          have H1 : (if a3 = 123 then (if a12 = (-1) then ((pretty_appendPrettyString.f kj94 x0_94 x1_94 x2_2 x11_94).bind fun bt426 => (if bt426.1.length < 140737488355328 then ((some (bt426.1 ++ [58] : List Int)).bind fun y432 => (if y432.length < 140737488355328 then ((pretty_appendPrettyAny.f kj94 (y432 ++ [32]) x1_94 bt426.2.1 true a6 a7 a8 false (wrap64 (a10 + 1)) bt426.2.2.1 a12).bind fun bt438 => (pretty_appendPrettyObjectA.l0 kj94 bt438.1 x1_94 (wrap64 ((wrap64 (bt438.2.1 - 1)) + 1)) a3 a4 true a6 a7 a8 false a10 bt438.2.2.1 a12 (wrap64 (x35_2 + 1)))) else (none))) else (none))) else (none)) else (none)) = some (r1, r2, r3, r4) := by rw [if_pos rfl] at H; exact H
          clear H
          have H := H1
          clear H1
          by_cases c115 : a3 = 123
          rotate_left
          ·
           rw [if_neg c115] at H
           exact absurd H (by simp)
          rw [if_pos c115] at H
          have c115b0 : (a3 == 123) = true := beq_iff_eq.mpr c115
          have c115b1 : (a3 != 123) = false := bne_eq_false_iff_eq.mpr c115
          clear c115
          by_cases c116 : a12 = (-1)
          rotate_left
          ·
           rw [if_neg c116] at H
           exact absurd H (by simp)
          rw [if_pos c116] at H
          have c116b0 : (a12 == (-1)) = true := beq_iff_eq.mpr c116
          have c116b1 : (a12 != (-1)) = false := bne_eq_false_iff_eq.mpr c116
          clear c116
          replace H := Option.bind_eq_some_iff.mp H
          obtain ⟨⟨t426, t429, t430, t431⟩, A1170, H⟩ := H
          replace H : (if t426.length < 140737488355328 then ((some (t426 ++ [58] : List Int)).bind fun y432 => (if y432.length < 140737488355328 then ((pretty_appendPrettyAny.f kj94 (y432 ++ [32]) x1_94 t429 true a6 a7 a8 false (wrap64 (a10 + 1)) t430 a12).bind fun bt438 => (pretty_appendPrettyObjectA.l0 kj94 bt438.1 x1_94 (wrap64 ((wrap64 (bt438.2.1 - 1)) + 1)) a3 a4 true a6 a7 a8 false a10 bt438.2.2.1 a12 (wrap64 (x35_2 + 1)))) else (none))) else (none)) = some (r1, r2, r3, r4) := H
          have A117 := a_ A1170
          clear A1170
          by_cases c118 : t426.length < 140737488355328
          rotate_left
          ·
           rw [if_neg c118] at H
           exact absurd H (by simp)
          rw [if_pos c118] at H
          have LMc118 := a_ c118
          clear c118
          obtain ⟨y432, hy432⟩ : ∃ y_ : List Int, y_ = (t426 ++ [58]) := ⟨_, rfl⟩
          replace H := lt_ H hy432
          have Ny432 := a_ hy432
          clear hy432
          by_cases c119 : y432.length < 140737488355328
          rotate_left
          ·
           rw [if_neg c119] at H
           exact absurd H (by simp)
          rw [if_pos c119] at H
          have LMc119 := a_ c119
          clear c119
          obtain ⟨y435, hy435⟩ : ∃ y_ : List Int, y_ = (y432 ++ [32]) := ⟨_, rfl⟩
          replace H : ((pretty_appendPrettyAny.f kj94 y435 x1_94 t429 true a6 a7 a8 false (wrap64 (a10 + 1)) t430 a12).bind fun bt438 => (pretty_appendPrettyObjectA.l0 kj94 bt438.1 x1_94 (wrap64 ((wrap64 (bt438.2.1 - 1)) + 1)) a3 a4 true a6 a7 a8 false a10 bt438.2.2.1 a12 (wrap64 (x35_2 + 1)))) = some (r1, r2, r3, r4) := by first | exact lt_ H hy435 | (rw [hy435]; exact H) | exact H
          have Ny435 := a_ hy435
          clear hy435
          replace H := Option.bind_eq_some_iff.mp H
          obtain ⟨⟨t438, t441, t442, t443⟩, A1200, H⟩ := H
          replace H : (pretty_appendPrettyObjectA.l0 kj94 t438 x1_94 (wrap64 ((wrap64 (t441 - 1)) + 1)) a3 a4 true a6 a7 a8 false a10 t442 a12 (wrap64 (x35_2 + 1))) = some (r1, r2, r3, r4) := H
          have A120 := a_ A1200
          clear A1200
          have H' := a_ H
          clear H
          obtain ⟨Ao121, co121, eo121⟩ := Kd.R_slice HO_0.out
          subst eo121
          go_wp2_with (first | ((with_reducible refine gate_callee (f := 28) rfl ?_); refine goesL_ (some 238) rfl rfl Try.func28 (by kernel_rfl) rfl #[.slice Ao121 x0_94.length co121, .slice (some ad373) x1_94.length c1, .int .i64 x2_2, .int .i64 x11_94] rfl ar_ ?_; (with_reducible refine (pretty_appendPrettyString.calls kj94 (fun k_ => some k_ = (.slice Ao121 x0_94.length co121 : Value).ownBlock) (.slice Ao121 x0_94.length co121) x0_94 _ _ x1_94 x2_2 x11_94 t426 t429 t430 t431 w0 _ ?side1 ?side2 ?side3 ?side4 A117.out).mono ?_); (case side1 => exact bl_ HB); (case side2 => exact Kd.R_tight rfl HO_0.out); (case side3 => exact Kd.C_kept_ownV (HO_1.out) (fun k_ hk_ hs_ => (hk_.2.1) hs_)); (case side4 => exact (Kd.V_reads' HO_1.out).2.1); rintro e w122 ⟨v427, rfl, ho0, hb, hkp⟩; refine ⟨_, rfl, ?_⟩; have n0_ := a_ (Kd.V_mono (ok' := fun k_ => ((P0_ k_ ∨ P1_ k_) ∨ w.heap.size ≤ k_) ∧ k_ ≠ gb414 ∧ some k_ ≠ (v427 : Value).ownBlock) (Kd.V_keptB (HO_1.out) hkp (fun k_ hk_ hs_ => (hk_.2.1) hs_)) (fun k_ hk_ => ⟨hk_.1.1, hk_.1.2.2, fun e_ => Or.elim (ho0.1 k_ e_.symm) (fun hs_ => hk_.2.1 hs_) (fun hn_ => Nat.not_le.2 hk_.2.2 hn_)⟩)); have n1_ := a_ (blk_kept (bk_ BK414) hkp (fun hs_ => (fun e_ => (Kd.R_ne HO_0.out BK414.out (by decide)) e_) hs_)); have n2_ := a_ (Kd.R_mono (ok' := fun k_ => (P0_ k_ ∨ w.heap.size ≤ k_)) ho0 (fun k_ hk_ => Or.elim hk_ (fun hs_ => (HO_0.out.1 k_ (hs_).symm)) (fun hn_ => (.inr (Nat.le_trans (kz_ HK) hn_))))); have n3_ := a_ (Kept.then_ (S := (fun k_ => P0_ k_)) (kp_ HK) hkp (fun k_ hs_ => (fun e_ => (HO_0.out.1 k_ e_.symm)) hs_)); have n4_ := a_ (hb); clear HO_1 BK414 HK HB HO_0; have HO_1 := n0_; have BK414 := n1_; have HO428 := n2_; have HK := n3_; have HB := n4_; clear n0_ n1_ n2_ n3_ n4_; (try clear hb); (try clear hkp); (try clear ho0)) | ((with_reducible refine gate_builtin (b := .append) (xs := #[.tmp 246, .tmp 247]) rfl ?_); (try (refine gate_guard (by rfl) ?_; dsimp only)); at_builtin; refine Kd.R_append (Kd.int .u8) (w0 := w0) w0.heap.size rfl (.tmp 246) (.tmp 247) 32 5 (.int .u8 0) 1 rfl Try.underlying32 info5 rfl (by decide) (by omega) v427 t426 58 [.int .u8 58] (fun k_ => (P0_ k_ ∨ w.heap.size ≤ k_)) (fun _ => False) rfl rfl ?aP (fun _ hk => hk.elim) ?aF ?aO ?aB ?aS ?aL ?_; (case aP => exact rfl); (case aB => exact (bl_ HB)); (case aF => exact (fun k_ hk => (.inr (Nat.le_trans (kz_ HK) hk)))); (case aO => exact (rp_ HO428)); (case aS => exact (below_size (bl_ HB))); (case aL => have := LMc118.out; omega); intro v433 w123 ho hb hg hat; rw [← Ny432.out] at ho; have n0_ := a_ (Kd.V_afterv (ok := (fun k_ => ((P0_ k_ ∨ P1_ k_) ∨ w.heap.size ≤ k_) ∧ k_ ≠ gb414)) (by (with_reducible repeat (first | apply Kd.V_alloc | apply Kd.V_drewN | apply Kd.V_drew)); exact Kd.V_mono HO_1.out (fun _ hk => ⟨⟨hk.1, hk.2.1⟩, hk.2.2⟩)) hg hat); have n1_ := a_ (blk_grown (g := gb414) (o := .cells #[.int .i64 x415000_94, .int .i64 0, .int .i64 x415002_94, .int .i64 0] 64 (0, 0)) (bk_ BK414) hg (Kd.R_ne HO428.out BK414.out (by decide))); have n2_ := a_ (hb); have n3_ := a_ (Kept.of_grown (S := (fun k_ => P0_ k_)) hg (kp_ HK) (fun k_ e_ => (HO428.out.1 k_ e_))); have n4_ := a_ (ho); clear HO_1 BK414 HB HK HO428; have HO_1 := n0_; have BK414 := n1_; have HB := n2_; have HK := n3_; have HO434 := n4_; clear n0_ n1_ n2_ n3_ n4_; clear ho hb hg hat) | ((with_reducible refine gate_builtin (b := .append) (xs := #[.tmp 250, .tmp 251]) rfl ?_); (try (refine gate_guard (by rfl) ?_; dsimp only)); at_builtin; refine Kd.R_append (Kd.int .u8) (w0 := w0) w0.heap.size rfl (.tmp 250) (.tmp 251) 32 5 (.int .u8 0) 1 rfl Try.underlying32 info5 rfl (by decide) (by omega) v433 y432 32 [.int .u8 32] (fun k_ => (P0_ k_ ∨ w.heap.size ≤ k_)) (fun _ => False) rfl rfl ?aP (fun _ hk => hk.elim) ?aF ?aO ?aB ?aS ?aL ?_; (case aP => exact rfl); (case aB => exact (bl_ HB)); (case aF => exact (fun k_ hk => (.inr (Nat.le_trans (kz_ HK) hk)))); (case aO => exact (rp_ HO434)); (case aS => exact (below_size (bl_ HB))); (case aL => have := LMc119.out; omega); intro v436 w124 ho hb hg hat; rw [← Ny435.out] at ho; have n0_ := a_ (Kd.V_afterv (ok := (fun k_ => ((P0_ k_ ∨ P1_ k_) ∨ w.heap.size ≤ k_) ∧ k_ ≠ gb414)) (vp_ HO_1) hg hat); have n1_ := a_ (blk_grown (g := gb414) (o := .cells #[.int .i64 x415000_94, .int .i64 0, .int .i64 x415002_94, .int .i64 0] 64 (0, 0)) (bk_ BK414) hg (Kd.R_ne HO434.out BK414.out (by decide))); have n2_ := a_ (hb); have n3_ := a_ (Kept.of_grown (S := (fun k_ => P0_ k_)) hg (kp_ HK) (fun k_ e_ => (HO434.out.1 k_ e_))); have n4_ := a_ (ho); clear HO_1 BK414 HB HK HO434; have HO_1 := n0_; have BK414 := n1_; have HB := n2_; have HK := n3_; have HO437 := n4_; clear n0_ n1_ n2_ n3_ n4_; clear ho hb hg hat; obtain ⟨Ao125, co125, eo125⟩ := Kd.R_slice HO437.out; subst eo125) | ((with_reducible refine gate_callee (f := 24) rfl ?_); refine goesL_ (some 266) rfl rfl Try.func24 (by kernel_rfl) rfl #[.slice Ao125 y435.length co125, .slice (some ad373) x1_94.length c1, .int .i64 t429, .bool true, .int .i64 a6, .string a7, .string a8, .bool false, .int .i64 (wrap64 (a10 + 1)), .int .i64 t430, .int .i64 a12] rfl ar_ ?_; (with_reducible refine (ih24 kj94 (by have := HJ17.out; have := HK2.out; have := HJ84.out; have := HJ94.out; omega) (fun k_ => some k_ = (.slice Ao125 y435.length co125 : Value).ownBlock) (.slice Ao125 y435.length co125) y435 (fun k_ => ((((P0_ k_ ∨ P1_ k_) ∨ w.heap.size ≤ k_) ∧ k_ ≠ gb414) ∧ some k_ ≠ (.slice Ao125 y435.length co125 : Value).ownBlock)) _ _ x1_94 t429 true a6 a7 a8 false (wrap64 (a10 + 1)) t430 a12 t438 t441 t442 t443 w0 _ ?side1 ?side2 ?side3 A120.out).mono ?_); (case side1 => exact bl_ HB); (case side2 => exact Kd.R_tight rfl HO437.out); (case side3 => exact Kd.V_mono (HO_1.out) (fun k_ hk_ => ⟨hk_, hk_.2⟩)); rintro e w126 ⟨v439, rfl, ho0, hb, hkp⟩; refine ⟨_, rfl, ?_⟩; have n0_ := a_ (Kd.V_mono (ok' := fun k_ => ((P0_ k_ ∨ P1_ k_) ∨ w.heap.size ≤ k_) ∧ k_ ≠ gb414 ∧ some k_ ≠ (v439 : Value).ownBlock) (Kd.V_keptB (HO_1.out) hkp (fun k_ hk_ hs_ => (hk_.2) hs_)) (fun k_ hk_ => ⟨hk_.1.1.1, hk_.1.1.2, fun e_ => Or.elim (ho0.1 k_ e_.symm) (fun hs_ => hk_.2.1 hs_) (fun hn_ => Nat.not_le.2 hk_.2.2 hn_)⟩)); have n1_ := a_ (blk_kept (bk_ BK414) hkp (fun hs_ => (fun e_ => (Kd.R_ne HO437.out BK414.out (by decide)) e_) hs_)); have n2_ := a_ (Kd.R_mono (ok' := fun k_ => (P0_ k_ ∨ w.heap.size ≤ k_)) ho0 (fun k_ hk_ => Or.elim hk_ (fun hs_ => (HO437.out.1 k_ (hs_).symm)) (fun hn_ => (.inr (Nat.le_trans (kz_ HK) hn_))))); have n3_ := a_ (Kept.then_ (S := (fun k_ => P0_ k_)) (kp_ HK) hkp (fun k_ hs_ => (fun e_ => (HO437.out.1 k_ e_.symm)) hs_)); have n4_ := a_ (hb); clear HO_1 BK414 HK HB HO437; have HO_1 := n0_; have BK414 := n1_; have HO440 := n2_; have HK := n3_; have HB := n4_; clear n0_ n1_ n2_ n3_ n4_; (try clear hb); (try clear hkp); (try clear ho0)))
          (try simp only [← hl1_2, ← hl1_94])
          go_roundg kj94
          case measure => have := HJ17.out; have := HK2.out; have := HJ84.out; have := HJ94.out; omega
          case rel => exact ⟨(t438), (x1_94), (wrap64 ((wrap64 (t441 - 1)) + 1)), (false), (t442), (wrap64 (x35_2 + 1)), rl_, rl_, rl_, rl_, H', ⟨by have := HJ17.out; have := HK2.out; have := HJ84.out; have := HJ94.out; omega⟩, ⟨by (try simp only [hl1_2]); (try simp only [hl1_94]); (with_reducible repeat (first | apply Kd.R_alloc | apply Kd.R_drewN | apply Kd.R_drew)); exact HO440.out⟩, ⟨by (try simp only [hl1_2]); (try simp only [hl1_94]); (with_reducible repeat (first | apply Kd.V_alloc | apply Kd.V_drewN | apply Kd.V_drew)); exact Kd.V_mono HO_1.out (fun _ hk => ⟨hk.1, hk.2.2⟩)⟩, ⟨kp_ HK⟩, ⟨bl_ HB⟩⟩
end Go.Proofs.Ytapgjhgjhcfmoaa.PFnPrDefaultLaid
