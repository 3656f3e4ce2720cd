/- Contracts of Go functions of this seat: a Lean function over numbers and lists for each, and a proof that the Go function returns what it gives. Made by program. -/
import Derived.Test.YtnilbkfhfnofgaaPFnPrWidthMemberx0
import Derived.Test.YtnilbkfhfnofgaaPFnPrWidthMemberx11
import Derived.Test.YtnilbkfhfnofgaaPFnPrWidthMemberx12
namespace Go.Proofs.Ytnilbkfhfnofgaa.PFnPrWidthMember
open Go.RowKit Go.Proofs.YtnilbkfhfnofgaaW.PrintWords Go.Proofs.YtnilbkfhfnofgaaW.PrintLast Go.Proofs.YtnilbkfhfnofgaaW.PrintMore
attribute [local go_sem] max2_int min2_int max_two min_two max_three min_three max_four min_four   -- for this text's walks alone
set_option linter.unusedVariables false
set_option linter.unusedSimpArgs false
/-! ### pObB: function 36 -/
set_option maxHeartbeats 8000000 in
set_option maxRecDepth 100000 in
theorem pObB.callsH (k : Nat) (ih : ∀ m_, m_ < k → pOb.CT m_) (ih25 : ∀ m_, m_ < k → pAn.CT m_) : pObB.CT k := by
 intro P0_ u9000_ l0 A1 c1 l1 a2 a3 a4 a5 a6 a7 a8 a9 a10 a11 a12 r1 r2 r3 r4 w0 w hB ho0 hr1 hc1 h
 cases k with
 | zero => exact absurd h (by simp [pObB.f])
 | succ k =>
 simp only [pObB.f] at h
 have hu72 := Try.underlying72
 have HO0 := a_ (show Kd.R (Kd.int .u8) 5 w w0.heap.size (fun k_ => (P0_ k_ ∨ w.heap.size ≤ k_)) u9000_ l0 from Kd.R_mono ho0 (fun k_ hk => (.inl hk)))
 have HR1 := a_ hr1
 have HC1 := a_ hc1
 clear hr1 hc1
 have HK := a_ (Kept.refl w (fun k_ => P0_ k_))
 have HW0 := a_ hB.size
 have HB := a_ hB
 clear hB
 have H : (if a9 = true then (none) else (if a5 = true then (if a3 = 91 then (if a12 = (-1) then (if a6 > 0 then (if (wrap64 (a6 - (wrap64 ((l0.length : Int) - a11)))) > 3 then ((pOb.f k l0 l1 a2 91 93 false a6 a7 (⟨#[]⟩ : ByteArray) a9 0 0 (wrap64 (a6 - (wrap64 ((l0.length : Int) - a11))))).bind fun bt533 => (if bt533.2.2.2 = true then (if (wrap64 ((bt533.1.length : Int) - (l0.length : Int))) ≤ (wrap64 (a6 - (wrap64 ((l0.length : Int) - a11)))) then (some (bt533.1, bt533.2.1, a11, true)) else (if 0 ≤ (l0.length : Int) then (if (l0.length : Int) ≤ (bt533.1.length : Int) then (pObB.j0 k (bt533.1.take ((l0.length : Int) : Int).toNat) l1 a2 a3 a4 a5 a6 a7 a8 a9 a10 a12) else (none)) else (none))) else (none))) else (pObB.j0 k l0 l1 a2 a3 a4 a5 a6 a7 a8 a9 a10 a12)) else (pObB.j0 k l0 l1 a2 a3 a4 a5 a6 a7 a8 a9 a10 a12)) else (none)) else (none)) else (none))) = some (r1, r2, r3, r4) := h
 clear h
 by_cases c14 : a9 = true
 ·
  subst c14
  rw [if_pos (by trivial)] at H
  exact absurd H (by simp)
 replace c14 := Bool.eq_false_iff.mpr c14
 subst c14
 rw [if_neg (show ¬ (false = true) by decide)] at H
 by_cases c15 : a5 = true
 rotate_left
 ·
  replace c15 := Bool.eq_false_iff.mpr c15
  subst c15
  rw [if_neg (show ¬ (false = true) by decide)] at H
  exact absurd H (by simp)
 subst c15
 rw [if_pos (by trivial)] at H
 by_cases c16 : a3 = 91
 rotate_left
 ·
  rw [if_neg c16] at H
  exact absurd H (by simp)
 rw [if_pos c16] at H
 have c16b0 : (a3 == 91) = true := beq_iff_eq.mpr c16
 have c16b1 : (a3 != 91) = false := bne_eq_false_iff_eq.mpr c16
 clear c16
 by_cases c17 : a12 = (-1)
 rotate_left
 ·
  rw [if_neg c17] at H
  exact absurd H (by simp)
 rw [if_pos c17] at H
 have c17b0 : (a12 == (-1)) = true := beq_iff_eq.mpr c17
 have c17b1 : (a12 != (-1)) = false := bne_eq_false_iff_eq.mpr c17
 clear c17
 have HC18 := a_ H
 clear H
 go_enter Try.func36, Try.ntmps36
 go_upto_if 38 with (fail)
 go_cut [0, 2] (fun v0 v2 wc => ∃ (kq : Nat) (x0_17 : List Int) (x2_17 : Int), v2 = .int .i64 x2_17 ∧ Aside0 (pObB.j0 kq x0_17 l1 x2_17 a3 a4 true a6 a7 a8 false a10 a12 = some (r1, r2, r3, r4)) ∧ Aside0 (kq ≤ k) ∧ Aside0 (Kd.R (Kd.int .u8) 5 wc w0.heap.size (fun k_ => (P0_ k_ ∨ w.heap.size ≤ k_)) v0 x0_17) ∧ Aside0 (Kept w wc (fun k_ => P0_ k_)) ∧ Aside0 (Below w0.heap.size w0 wc))
 case first =>
  have H := HC18.out
  clear HC18
  by_cases c19 : a6 > 0
  rotate_left
  ·
   rw [if_neg c19] at H
   have c19b0 : decide (0 < a6) = false := decide_eq_false c19
   clear c19
   (first | rw [c19b0] | (simp only [i64_w, i32_w]; rw [c19b0]) | skip)
   have H' := a_ H
   clear H
   go_wp2
   go_meet
   case rel => exact ⟨_, (l0), (a2), rl_, H', ⟨by first | omega | exact Nat.le_refl _⟩, ⟨rp_ HO0⟩, ⟨kp_ HK⟩, ⟨bl_ HB⟩⟩
  rw [if_pos c19] at H
  have c19b0 : decide (0 < a6) = true := decide_eq_true c19
  clear c19
  (first | rw [c19b0] | (simp only [i64_w, i32_w]; rw [c19b0]) | skip)
  by_cases c20 : (wrap64 (a6 - (wrap64 ((l0.length : Int) - a11)))) > 3
  rotate_left
  ·
   rw [if_neg c20] at H
   have c20b0 : decide (3 < (wrap64 (a6 - (wrap64 ((l0.length : Int) - a11))))) = false := decide_eq_false c20
   clear c20
   have H' := a_ H
   clear H
   obtain ⟨Ao33, co33, eo33⟩ := Kd.R_slice HO0.out
   subst eo33
   go_wp2
   go_meet
   case rel => exact ⟨_, (l0), (a2), rl_, H', ⟨by first | omega | exact Nat.le_refl _⟩, ⟨rp_ HO0⟩, ⟨kp_ HK⟩, ⟨bl_ HB⟩⟩
  rw [if_pos c20] at H
  have c20b0 : decide (3 < (wrap64 (a6 - (wrap64 ((l0.length : Int) - a11))))) = true := decide_eq_true c20
  clear c20
  replace H := Option.bind_eq_some_iff.mp H
  obtain ⟨⟨t533, t536, t537, t538⟩, A210, H⟩ := H
  replace H : (if t538 = true then (if (wrap64 ((t533.length : Int) - (l0.length : Int))) ≤ (wrap64 (a6 - (wrap64 ((l0.length : Int) - a11)))) then (some (t533, t536, a11, true)) else (if 0 ≤ (l0.length : Int) then (if (l0.length : Int) ≤ (t533.length : Int) then (pObB.j0 k (t533.take ((l0.length : Int) : Int).toNat) l1 a2 a3 a4 true a6 a7 a8 false a10 a12) else (none)) else (none))) else (none)) = some (r1, r2, r3, r4) := H
  have A21 := a_ A210
  clear A210
  by_cases c22 : t538 = true
  rotate_left
  ·
   replace c22 := Bool.eq_false_iff.mpr c22
   subst c22
   rw [if_neg (show ¬ (false = true) by decide)] at H
   exact absurd H (by simp)
  subst c22
  rw [if_pos (by trivial)] at H
  by_cases c23 : (wrap64 ((t533.length : Int) - (l0.length : Int))) ≤ (wrap64 (a6 - (wrap64 ((l0.length : Int) - a11))))
  ·
   rw [if_pos c23] at H
   have c23b0 : decide ((wrap64 ((t533.length : Int) - (l0.length : Int))) ≤ (wrap64 (a6 - (wrap64 ((l0.length : Int) - a11))))) = true := decide_eq_true c23
   clear c23
   simp only [Option.some.injEq, Prod.mk.injEq] at H
   obtain ⟨rfl, rfl, rfl, rfl⟩ := H
   obtain ⟨Ao24, co24, eo24⟩ := Kd.R_slice HO0.out
   subst eo24
   go_wp2_with (first | ((with_reducible refine gate_callee (f := 36) rfl ?_); refine goesL_ (some 67) rfl rfl Try.func36 (by kernel_rfl) rfl #[.slice Ao24 l0.length co24, .slice A1 l1.length c1, .int .i64 a2, .int .u8 91, .int .u8 93, .bool false, .int .i64 a6, .string a7, .string (⟨#[]⟩ : ByteArray), .bool false, .int .i64 0, .int .i64 0, .int .i64 (wrap64 (a6 - (wrap64 ((l0.length : Int) - a11))))] rfl ar_ ?_; (with_reducible refine (ih k (by omega) (fun k_ => some k_ = (.slice Ao24 l0.length co24 : Value).ownBlock) (.slice Ao24 l0.length co24) l0 _ _ l1 a2 91 93 false a6 a7 (⟨#[]⟩ : ByteArray) false 0 0 (wrap64 (a6 - (wrap64 ((l0.length : Int) - a11)))) t533 t536 t537 true w0 _ ?side1 ?side2 ?side3 ?side4 A21.out).mono ?_); (case side1 => exact bl_ HB); (case side2 => exact Kd.R_tight rfl HO0.out); (case side3 => exact Kd.C_kept_call HR1.out (kp_ HK) (fun k_ hs_ => (fun e_ => (HO0.out.1 k_ e_.symm)) hs_)); (case side4 => exact HC1.out); rintro e w25 ⟨v534, rfl, ho0, hb, hkp⟩; refine ⟨_, rfl, ?_⟩; have HO535 := a_ (Kd.R_mono (ok' := fun k_ => (P0_ k_ ∨ w.heap.size ≤ k_)) ho0 (fun k_ hk_ => Or.elim hk_ (fun hs_ => (HO0.out.1 k_ (hs_).symm)) (fun hn_ => (.inr (Nat.le_trans (kz_ HK) hn_))))); replace HK := a_ (Kept.then_ (S := (fun k_ => P0_ k_)) (kp_ HK) hkp (fun k_ hs_ => (fun e_ => (HO0.out.1 k_ e_.symm)) hs_)); replace HB := a_ hb; clear HO0; (try clear hb); (try clear hkp); (try clear ho0); obtain ⟨Ao26, co26, eo26⟩ := Kd.R_slice HO535.out; subst eo26))
   refine bodyPost_ret (results_list (rs := [.tmp 26, .tmp 27, .tmp 28, .tmp 29]) rfl (by simp) (.tmp (.tmp (.tmp (.tmp .nil))))) rfl ?_
   exact ⟨_, by first | rfl | (simp [errW_none, errW_some] <;> rfl) | (simp [*, errW_none, errW_some] <;> rfl), rp_ HO535, bl_ HB, kp_ HK⟩
  rw [if_neg c23] at H
  have c23b0 : decide ((wrap64 ((t533.length : Int) - (l0.length : Int))) ≤ (wrap64 (a6 - (wrap64 ((l0.length : Int) - a11))))) = false := decide_eq_false c23
  clear c23
  by_cases c27 : 0 ≤ (l0.length : Int)
  rotate_left
  ·
   rw [if_neg c27] at H
   exact absurd H (by simp)
  rw [if_pos c27] at H
  have c27b0 := eq_true c27
  have c27b1 : decide (0 ≤ (l0.length : Int)) = true := decide_eq_true c27
  clear c27
  by_cases c28 : (l0.length : Int) ≤ (t533.length : Int)
  rotate_left
  ·
   rw [if_neg c28] at H
   exact absurd H (by simp)
  rw [if_pos c28] at H
  have c28b0 := eq_true c28
  have c28b1 : decide ((l0.length : Int) ≤ (t533.length : Int)) = true := decide_eq_true c28
  clear c28
  obtain ⟨y539, hy539⟩ : ∃ y_ : List Int, y_ = (t533.take ((l0.length : Int) : Int).toNat) := ⟨_, rfl⟩
  replace H : (pObB.j0 k y539 l1 a2 a3 a4 true a6 a7 a8 false a10 a12) = some (r1, r2, r3, r4) := by first | exact lt_ H hy539 | (rw [hy539]; exact H) | exact H
  have Ny539 := a_ hy539
  clear hy539
  have H' := a_ H
  clear H
  obtain ⟨Ao29, co29, eo29⟩ := Kd.R_slice HO0.out
  subst eo29
  go_wp2_with (first | ((with_reducible refine gate_callee (f := 36) rfl ?_); refine goesL_ (some 67) rfl rfl Try.func36 (by kernel_rfl) rfl #[.slice Ao29 l0.length co29, .slice A1 l1.length c1, .int .i64 a2, .int .u8 91, .int .u8 93, .bool false, .int .i64 a6, .string a7, .string (⟨#[]⟩ : ByteArray), .bool false, .int .i64 0, .int .i64 0, .int .i64 (wrap64 (a6 - (wrap64 ((l0.length : Int) - a11))))] rfl ar_ ?_; (with_reducible refine (ih k (by omega) (fun k_ => some k_ = (.slice Ao29 l0.length co29 : Value).ownBlock) (.slice Ao29 l0.length co29) l0 _ _ l1 a2 91 93 false a6 a7 (⟨#[]⟩ : ByteArray) false 0 0 (wrap64 (a6 - (wrap64 ((l0.length : Int) - a11)))) t533 t536 t537 true w0 _ ?side1 ?side2 ?side3 ?side4 A21.out).mono ?_); (case side1 => exact bl_ HB); (case side2 => exact Kd.R_tight rfl HO0.out); (case side3 => exact Kd.C_kept_call HR1.out (kp_ HK) (fun k_ hs_ => (fun e_ => (HO0.out.1 k_ e_.symm)) hs_)); (case side4 => exact HC1.out); rintro e w30 ⟨v534, rfl, ho0, hb, hkp⟩; refine ⟨_, rfl, ?_⟩; have HO535 := a_ (Kd.R_mono (ok' := fun k_ => (P0_ k_ ∨ w.heap.size ≤ k_)) ho0 (fun k_ hk_ => Or.elim hk_ (fun hs_ => (HO0.out.1 k_ (hs_).symm)) (fun hn_ => (.inr (Nat.le_trans (kz_ HK) hn_))))); replace HK := a_ (Kept.then_ (S := (fun k_ => P0_ k_)) (kp_ HK) hkp (fun k_ hs_ => (fun e_ => (HO0.out.1 k_ e_.symm)) hs_)); replace HB := a_ hb; clear HO0; (try clear hb); (try clear hkp); (try clear ho0); obtain ⟨Ao31, co31, eo31⟩ := Kd.R_slice HO535.out; subst eo31; have q32 : ((l0.length : Int) : Int) ≤ ((t533.length : Int) : Int) := of_decide_eq_true as_; obtain ⟨i032, hi032, _, hsz32, _⟩ := info_parts info5; have hcut32 := cut_to (P := Try.prog) 40 5 .i64 Try.underlying40 hi032 Ao31 t533.length co31 (l0.length : Int) (of_decide_eq_true as_) q32 (Kd.R_reads' HO535.out).2.1; have hr32 := Kd.R_take (m := ((l0.length : Int) : Int).toNat) HO535.out (by omega); have hy32 : y539.length = ((l0.length : Int) : Int).toNat := (by rw [Ny539.out, List.length_take]; omega); rw [← Ny539.out] at hr32; rw [← hy32] at hr32 hcut32; clear hy32 hi032 hsz32 HO535; have HO541 := a_ hr32; clear hr32; replace q32 := eq_true q32))
  go_meet
  case rel => exact ⟨_, (y539), (a2), rl_, H', ⟨by first | omega | exact Nat.le_refl _⟩, ⟨rp_ HO541⟩, ⟨kp_ HK⟩, ⟨bl_ HB⟩⟩
 clear HC18
 (try clear c1); (try clear c2); (try clear p2); (try clear c3); (try clear q3); (try clear p6); (try clear c14); (try clear c15); (try clear c16); (try clear c16b0); (try clear c16b1); (try clear c17); (try clear c17b0); (try clear c17b1); (try clear c19); (try clear c19b0); (try clear c20); (try clear c20b0); (try clear c22); (try clear c23); (try clear c23b0); (try clear c27); (try clear c27b0); (try clear c27b1); (try clear c28); (try clear c28b0); (try clear c28b1); (try clear q32); (try clear q32)
 as_aux_lemma =>
  obtain ⟨kq, x0_17, x2_17, rfl, HA, HJ17, HO_0, HK, HB⟩ := hcut
  cases kq with
  | zero => exact absurd HA.out (by simp [pObB.j0])
  | succ kj17 =>
   have H := HA.out
   clear HA
   simp only [pObB.j0] at H
   have c34 : ¬ (false = true) := Bool.false_ne_true
   rw [if_neg (show ¬ (false = true) by decide)] at H
   rw [if_pos (by trivial)] at H
   by_cases c36 : a3 = 91
   rotate_left
   ·
    rw [if_neg c36] at H
    exact absurd H (by simp)
   rw [if_pos c36] at H
   have c36b0 : (a3 == 91) = true := beq_iff_eq.mpr c36
   have c36b1 : (a3 != 91) = false := bne_eq_false_iff_eq.mpr c36
   clear c36
   by_cases c37 : a12 = (-1)
   rotate_left
   ·
    rw [if_neg c37] at H
    exact absurd H (by simp)
   rw [if_pos c37] at H
   have c37b0 : (a12 == (-1)) = true := beq_iff_eq.mpr c37
   have c37b1 : (a12 != (-1)) = false := bne_eq_false_iff_eq.mpr c37
   clear c37
   by_cases c38 : x0_17.length < 140737488355328
   rotate_left
   ·
    rw [if_neg c38] at H
    exact absurd H (by simp)
   rw [if_pos c38] at H
   have LMc38 := a_ c38
   clear c38
   obtain ⟨y542, hy542⟩ : ∃ y_ : List Int, y_ = (x0_17 ++ [a3]) := ⟨_, rfl⟩
   replace H : (if a3 = 123 then (none) else (pObB.l0 kj17 y542 l1 (wrap64 (x2_17 + 1)) a3 a4 true a6 a7 a8 false a10 a12 0)) = some (r1, r2, r3, r4) := by first | exact lt_ H hy542 | (rw [hy542]; exact H) | exact H
   have Ny542 := a_ hy542
   clear hy542
   by_cases c39 : a3 = 123
   ·
    rw [if_pos c39] at H
    exact absurd H (by simp)
   rw [if_neg c39] at H
   have c39b0 : (a3 == 123) = false := beq_eq_false_iff_ne.mpr c39
   have c39b1 : (a3 != 123) = true := bne_iff_ne.mpr c39
   have H' := a_ H
   clear H
   go_wp2_with (first | ((with_reducible refine gate_builtin (b := .append) (xs := #[.tmp 97, .tmp 99]) rfl ?_); (try (refine gate_guard (by rfl) ?_; dsimp only)); at_builtin; refine Kd.R_append (Kd.int .u8) (w0 := w0) w0.heap.size rfl (.tmp 97) (.tmp 99) 40 5 (.int .u8 0) 1 rfl Try.underlying40 info5 rfl (by decide) (by omega) u0 x0_17 a3 [.int .u8 a3] (fun k_ => (P0_ k_ ∨ w.heap.size ≤ k_)) (fun _ => False) rfl rfl ?aP (fun _ hk => hk.elim) ?aF ?aO ?aB ?aS ?aL ?_; (case aP => exact rfl); (case aB => exact (bl_ HB)); (case aF => exact (ki_ (kz_ HK))); (case aO => exact (rp_ HO_0)); (case aS => exact (below_size (bl_ HB))); (case aL => have := LMc38.out; omega); intro v543 w40 ho hb hg hat; rw [← Ny542.out] at ho; replace HB := a_ hb; replace HK := a_ (Kept.of_grown (S := (fun k_ => P0_ k_)) hg (kp_ HK) (fun k_ e_ => (HO_0.out.1 k_ e_))); have HO544 := a_ ho; clear HO_0; clear ho hb hg hat))
   (try simp only [Act.put, List.setIfInBounds_toArray, List.set_cons_zero, List.set_cons_succ])
   go_loopg [0, 2, 9, 35] kj17 (fun kq v0 v2 v9 v35 w' => ∃ (x0_2 : List Int) (x2_2 : Int) (x9_2 : Bool) (x35_2 : Int), v2 = .int .i64 x2_2 ∧ v9 = .bool x9_2 ∧ v35 = .int .i64 x35_2 ∧ Aside0 (pObB.l0 kq x0_2 l1 x2_2 a3 a4 true a6 a7 a8 x9_2 a10 a12 x35_2 = some (r1, r2, r3, r4)) ∧ Aside0 (kq ≤ kj17) ∧ Aside0 (Kd.R (Kd.int .u8) 5 w' w0.heap.size (fun k_ => (P0_ k_ ∨ w.heap.size ≤ k_)) v0 x0_2) ∧ Aside0 (Kept w w' (fun k_ => P0_ k_)) ∧ Aside0 (Below w0.heap.size w0 w'))
   case atStart => exact ⟨(y542), (wrap64 (x2_17 + 1)), (false), (0), rl_, rl_, rl_, H', ⟨Nat.le_refl _⟩, ⟨rp_ HO544⟩, ⟨kp_ HK⟩, ⟨bl_ HB⟩⟩
   case round =>
    clear H'
    (try clear c1); (try clear c2); (try clear p2); (try clear c3); (try clear q3); (try clear p6); (try clear c14); (try clear c15); (try clear c16); (try clear c16b0); (try clear c16b1); (try clear c17); (try clear c17b0); (try clear c17b1); (try clear c19); (try clear c19b0); (try clear c20); (try clear c20b0); (try clear c22); (try clear c23); (try clear c23b0); (try clear c27); (try clear c27b0); (try clear c27b1); (try clear c28); (try clear c28b0); (try clear c28b1); (try clear q32); (try clear c34); (try clear c35); (try clear c36); (try clear c36b0); (try clear c36b1); (try clear c37); (try clear c37b0); (try clear c37b1); (try clear c38); (try clear c39); (try clear c39b0); (try clear c39b1); (try clear p2); (try clear p6); (try clear q3); (try clear q32)
    as_aux_lemma =>
     obtain ⟨x0_2, x2_2, x9_2, x35_2, rfl, rfl, rfl, HA, HK2, HO_0, HK, HB⟩ := hrel
     cases gk with
     | zero => exact absurd HA.out (by simp [pObB.l0])
     | succ k2 =>
      have H := HA.out
      clear HA
      simp only [pObB.l0] at H
      by_cases c41 : x9_2 = true
      ·
       subst c41
       rw [if_pos (by trivial)] at H
       exact absurd H (by simp)
      replace c41 := Bool.eq_false_iff.mpr c41
      subst c41
      rw [if_neg (show ¬ (false = true) by decide)] at H
      rw [if_pos (by trivial)] at H
      by_cases c43 : a3 = 91
      rotate_left
      ·
       rw [if_neg c43] at H
       exact absurd H (by simp)
      rw [if_pos c43] at H
      have c43b0 : (a3 == 91) = true := beq_iff_eq.mpr c43
      have c43b1 : (a3 != 91) = false := bne_eq_false_iff_eq.mpr c43
      clear c43
      by_cases c44 : a12 = (-1)
      rotate_left
      ·
       rw [if_neg c44] at H
       exact absurd H (by simp)
      rw [if_pos c44] at H
      have c44b0 : (a12 == (-1)) = true := beq_iff_eq.mpr c44
      have c44b1 : (a12 != (-1)) = false := bne_eq_false_iff_eq.mpr c44
      clear c44
      by_cases c45 : x2_2 < (l1.length : Int)
      rotate_left
      ·
       rw [if_neg c45] at H
       exact absurd H (by simp)
      rw [if_pos c45] at H
      have c45b0 : decide (x2_2 < (l1.length : Int)) = true := decide_eq_true c45
      clear c45
      by_cases c46 : 0 ≤ x2_2
      rotate_left
      ·
       rw [if_neg c46] at H
       exact absurd H (by simp)
      rw [if_pos c46] at H
      have c46b0 : decide (0 ≤ x2_2) = true := decide_eq_true c46
      clear c46
      by_cases c47 : (rd l1 x2_2) ≤ 32
      ·
       rw [if_pos c47] at H
       have c47b0 : decide ((rd l1 x2_2) ≤ 32) = true := decide_eq_true c47
       clear c47
       have H' := a_ H
       clear H
       have p545 : 0 ≤ (x2_2 : Int) := of_decide_eq_true as_
       have q545 : x2_2 < (l1.length : Int) := of_decide_eq_true as_
       obtain ⟨ad545, e545, hx545_0⟩ := Kd.at_int (Kd.C_kept_now HR1.out HK.out) x2_2 p545 q545
       cases e545
       replace p545 := eq_true p545
       replace q545 := eq_true q545
       go_wp2
       go_roundg k2
       case measure => have := HJ17.out; have := HK2.out; omega
       case rel => exact ⟨(x0_2), (wrap64 (x2_2 + 1)), (false), (x35_2), rl_, rl_, rl_, H', ⟨by have := HJ17.out; have := HK2.out; omega⟩, ⟨rp_ HO_0⟩, ⟨kp_ HK⟩, ⟨bl_ HB⟩⟩
      rw [if_neg c47] at H
      have c47b0 : decide ((rd l1 x2_2) ≤ 32) = false := decide_eq_false c47
      clear c47
      by_cases c48 : (rd l1 x2_2) = a4
      ·
       rw [if_pos c48] at H
       have c48b0 : ((rd l1 x2_2) == a4) = true := beq_iff_eq.mpr c48
       have c48b1 : ((rd l1 x2_2) != a4) = false := bne_eq_false_iff_eq.mpr c48
       clear c48
       by_cases c49 : a3 = 123
       ·
        rw [if_pos c49] at H
        exact absurd H (by simp)
       rw [if_neg c49] at H
       have c49b0 : (a3 == 123) = false := beq_eq_false_iff_ne.mpr c49
       have c49b1 : (a3 != 123) = true := bne_iff_ne.mpr c49
       by_cases c50 : x35_2 > 0
       rotate_left
       ·
        rw [if_neg c50] at H
        exact absurd H (by simp)
       rw [if_pos c50] at H
       have c50b0 : decide (0 < x35_2) = true := decide_eq_true c50
       clear c50
       obtain ⟨ji51, hji51⟩ : ∃ j_ : Int, (wrap64 ((x0_2.length : Int) - 1)) = j_ := ⟨_, rfl⟩
       replace H : (if 0 ≤ (ji51) then (if (ji51) < (x0_2.length : Int) then (if (rd x0_2 (ji51)) = 32 then (none) else (if x0_2.length < 140737488355328 then ((some (x0_2 ++ [10] : List Int)).bind fun y548 => (if 0 ≤ (wrap64 ((y548.length : Int) - 1)) then (if (wrap64 ((y548.length : Int) - 1)) < (y548.length : Int) then (if (rd y548 (wrap64 ((y548.length : Int) - 1))) = a3 then (none) else ((pTb.f k2 y548 a7 a8 a10).bind fun t552 => (if t552.length < 140737488355328 then (some ((t552 ++ [a4]), wrap64 (x2_2 + 1), (x0_2.length : Int), (a3 != 123))) else (none)))) else (none)) else (none))) else (none))) else (none)) else (none)) = some (r1, r2, r3, r4) := by first | (rw [hji51] at H; exact H) | (simp only [hji51] at H ⊢; exact H)
       have hji51w : (IntKind.i64.wrap ((x0_2.length : Int) - 1)) = ji51 := (i64_w _).trans hji51
       by_cases c52 : 0 ≤ (ji51)
       rotate_left
       ·
        rw [if_neg c52] at H
        exact absurd H (by simp)
       rw [if_pos c52] at H
       have c52b0 : decide (0 ≤ (ji51)) = true := decide_eq_true c52
       clear c52
       by_cases c53 : (ji51) < (x0_2.length : Int)
       rotate_left
       ·
        rw [if_neg c53] at H
        exact absurd H (by simp)
       rw [if_pos c53] at H
       have c53b0 : decide ((ji51) < (x0_2.length : Int)) = true := decide_eq_true c53
       clear c53
       by_cases c54 : (rd x0_2 (ji51)) = 32
       ·
        rw [if_pos c54] at H
        exact absurd H (by simp)
       rw [if_neg c54] at H
       have c54b0 : ((rd x0_2 (ji51)) == 32) = false := beq_eq_false_iff_ne.mpr c54
       have c54b1 : ((rd x0_2 (ji51)) != 32) = true := bne_iff_ne.mpr c54
       by_cases c55 : x0_2.length < 140737488355328
       rotate_left
       ·
        rw [if_neg c55] at H
        exact absurd H (by simp)
       rw [if_pos c55] at H
       have LMc55 := a_ c55
       clear c55
       obtain ⟨y548, hy548⟩ : ∃ y_ : List Int, y_ = (x0_2 ++ [10]) := ⟨_, rfl⟩
       replace H := lt_ H hy548
       have Ny548 := a_ hy548
       clear hy548
       obtain ⟨ji56, hji56⟩ : ∃ j_ : Int, (wrap64 ((y548.length : Int) - 1)) = j_ := ⟨_, rfl⟩
       replace H : (if 0 ≤ (ji56) then (if (ji56) < (y548.length : Int) then (if (rd y548 (ji56)) = a3 then (none) else ((pTb.f k2 y548 a7 a8 a10).bind fun t552 => (if t552.length < 140737488355328 then (some ((t552 ++ [a4]), wrap64 (x2_2 + 1), (x0_2.length : Int), (a3 != 123))) else (none)))) else (none)) else (none)) = some (r1, r2, r3, r4) := by first | (rw [hji56] at H; exact H) | (simp only [hji56] at H ⊢; exact H)
       have hji56w : (IntKind.i64.wrap ((y548.length : Int) - 1)) = ji56 := (i64_w _).trans hji56
       by_cases c57 : 0 ≤ (ji56)
       rotate_left
       ·
        rw [if_neg c57] at H
        exact absurd H (by simp)
       rw [if_pos c57] at H
       have c57b0 : decide (0 ≤ (ji56)) = true := decide_eq_true c57
       clear c57
       by_cases c58 : (ji56) < (y548.length : Int)
       rotate_left
       ·
        rw [if_neg c58] at H
        exact absurd H (by simp)
       rw [if_pos c58] at H
       have c58b0 : decide ((ji56) < (y548.length : Int)) = true := decide_eq_true c58
       clear c58
       by_cases c59 : (rd y548 (ji56)) = a3
       ·
        rw [if_pos c59] at H
        exact absurd H (by simp)
       rw [if_neg c59] at H
       have c59b0 : ((rd y548 (ji56)) == a3) = false := beq_eq_false_iff_ne.mpr c59
       have c59b1 : ((rd y548 (ji56)) != a3) = true := bne_iff_ne.mpr c59
       replace H := Option.bind_eq_some_iff.mp H
       obtain ⟨t552, A600, H⟩ := H
       replace H : (if t552.length < 140737488355328 then (some ((t552 ++ [a4]), wrap64 (x2_2 + 1), (x0_2.length : Int), (a3 != 123))) else (none)) = some (r1, r2, r3, r4) := H
       have A60 := a_ A600
       clear A600
       by_cases c61 : t552.length < 140737488355328
       rotate_left
       ·
        rw [if_neg c61] at H
        exact absurd H (by simp)
       rw [if_pos c61] at H
       have LMc61 := a_ c61
       clear c61
       obtain ⟨y555, hy555⟩ : ∃ y_ : List Int, y_ = (t552 ++ [a4]) := ⟨_, rfl⟩
       replace H : (some (y555, wrap64 (x2_2 + 1), (x0_2.length : Int), (a3 != 123))) = some (r1, r2, r3, r4) := by first | exact lt_ H hy555 | (rw [hy555]; exact H) | exact H
       have Ny555 := a_ hy555
       clear hy555
       simp only [Option.some.injEq, Prod.mk.injEq] at H
       obtain ⟨rfl, rfl, rfl, rfl⟩ := H
       have p545 : 0 ≤ (x2_2 : Int) := of_decide_eq_true as_
       have q545 : x2_2 < (l1.length : Int) := of_decide_eq_true as_
       obtain ⟨ad545, e545, hx545_0⟩ := Kd.at_int (Kd.C_kept_now HR1.out HK.out) x2_2 p545 q545
       cases e545
       replace p545 := eq_true p545
       replace q545 := eq_true q545
       have p546 : 0 ≤ (x2_2 : Int) := of_decide_eq_true as_
       have q546 : x2_2 < (l1.length : Int) := of_decide_eq_true as_
       obtain ⟨ad546, e546, hx546_0⟩ := Kd.at_int (Kd.C_kept_now HR1.out HK.out) x2_2 p546 q546
       obtain rfl : ad545 = ad546 := (by injection e546)
       replace p546 := eq_true p546
       replace q546 := eq_true q546
       obtain ⟨Ao62, co62, eo62⟩ := Kd.R_slice HO_0.out
       subst eo62
       have p547 : 0 ≤ ((ji51) : Int) := of_decide_eq_true as_
       have q547 : (ji51) < (x0_2.length : Int) := of_decide_eq_true as_
       obtain ⟨ad547, e547, hx547_0⟩ := Kd.at_int (Kd.R_reads' HO_0.out).2.2 (ji51) p547 q547
       cases e547
       replace p547 := eq_true p547
       replace q547 := eq_true q547
       go_wp2_with (first | ((with_reducible refine gate_builtin (b := .append) (xs := #[.tmp 150, .tmp 151]) rfl ?_); (try (refine gate_guard (by rfl) ?_; dsimp only)); at_builtin; refine Kd.R_append (Kd.int .u8) (w0 := w0) w0.heap.size rfl (.tmp 150) (.tmp 151) 40 5 (.int .u8 0) 1 rfl Try.underlying40 info5 rfl (by decide) (by omega) (.slice (some ad547) x0_2.length co62) x0_2 10 [.int .u8 10] (fun k_ => (P0_ k_ ∨ w.heap.size ≤ k_)) (fun _ => False) rfl rfl ?aP (fun _ hk => hk.elim) ?aF ?aO ?aB ?aS ?aL ?_; (case aP => exact rfl); (case aB => exact (bl_ HB)); (case aF => exact (ki_ (kz_ HK))); (case aO => exact (rp_ HO_0)); (case aS => exact (below_size (bl_ HB))); (case aL => have := LMc55.out; omega); intro v549 w63 ho hb hg hat; rw [← Ny548.out] at ho; replace HB := a_ hb; replace HK := a_ (Kept.of_grown (S := (fun k_ => P0_ k_)) hg (kp_ HK) (fun k_ e_ => (HO_0.out.1 k_ e_))); have HO550 := a_ ho; clear HO_0; clear ho hb hg hat; obtain ⟨Ao64, co64, eo64⟩ := Kd.R_slice HO550.out; subst eo64; have p551 : 0 ≤ ((ji56) : Int) := of_decide_eq_true as_; have q551 : (ji56) < (y548.length : Int) := of_decide_eq_true as_; obtain ⟨ad551, e551, hx551_0⟩ := Kd.at_int (Kd.R_reads' HO550.out).2.2 (ji56) p551 q551; cases e551; replace p551 := eq_true p551; replace q551 := eq_true q551) | ((with_reducible refine gate_callee (f := 41) rfl ?_); refine goesL_ (some 165) rfl rfl Try.func41 (by kernel_rfl) rfl #[.slice (some ad551) y548.length co64, .string a7, .string a8, .int .i64 a10] rfl ar_ ?_; (with_reducible refine (pTb.calls k2 (fun k_ => some k_ = (.slice (some ad551) y548.length co64 : Value).ownBlock) (.slice (some ad551) y548.length co64) y548 a7 a8 a10 t552 w0 _ ?side1 ?side2 A60.out).mono ?_); (case side1 => exact bl_ HB); (case side2 => exact Kd.R_tight rfl HO550.out); rintro e w65 ⟨v553, rfl, ho0, hb, hkp⟩; refine ⟨_, rfl, ?_⟩; have HO554 := a_ (Kd.R_mono (ok' := fun k_ => (P0_ k_ ∨ w.heap.size ≤ k_)) ho0 (fun k_ hk_ => Or.elim hk_ (fun hs_ => (HO550.out.1 k_ (hs_).symm)) (fun hn_ => (.inr (Nat.le_trans (kz_ HK) hn_))))); replace HK := a_ (Kept.then_ (S := (fun k_ => P0_ k_)) (kp_ HK) hkp (fun k_ hs_ => (fun e_ => (HO550.out.1 k_ e_.symm)) hs_)); replace HB := a_ hb; clear HO550; (try clear hb); (try clear hkp); (try clear ho0)) | ((with_reducible refine gate_builtin (b := .append) (xs := #[.tmp 166, .tmp 168]) rfl ?_); (try (refine gate_guard (by rfl) ?_; dsimp only)); at_builtin; refine Kd.R_append (Kd.int .u8) (w0 := w0) w0.heap.size rfl (.tmp 166) (.tmp 168) 40 5 (.int .u8 0) 1 rfl Try.underlying40 info5 rfl (by decide) (by omega) v553 t552 a4 [.int .u8 a4] (fun k_ => (P0_ k_ ∨ w.heap.size ≤ k_)) (fun _ => False) rfl rfl ?aP (fun _ hk => hk.elim) ?aF ?aO ?aB ?aS ?aL ?_; (case aP => exact rfl); (case aB => exact (bl_ HB)); (case aF => exact (ki_ (kz_ HK))); (case aO => exact (rp_ HO554)); (case aS => exact (below_size (bl_ HB))); (case aL => have := LMc61.out; omega); intro v556 w66 ho hb hg hat; rw [← Ny555.out] at ho; replace HB := a_ hb; replace HK := a_ (Kept.of_grown (S := (fun k_ => P0_ k_)) hg (kp_ HK) (fun k_ e_ => (HO554.out.1 k_ e_))); have HO557 := a_ ho; clear HO554; clear ho hb hg hat))
       refine bodyPost_ret (results_list (rs := [.tmp 26, .tmp 27, .tmp 28, .tmp 29]) rfl (by simp) (.tmp (.tmp (.tmp (.tmp .nil))))) rfl ?_
       exact ⟨_, by first | rfl | (simp [errW_none, errW_some] <;> rfl) | (simp only [← hji51, ← hji56]; first | rfl | (simp [errW_none, errW_some] <;> rfl)) | (simp [*, errW_none, errW_some] <;> rfl), rp_ HO557, bl_ HB, kp_ HK⟩
      rw [if_neg c48] at H
      have c48b0 : ((rd l1 x2_2) == a4) = false := beq_eq_false_iff_ne.mpr c48
      have c48b1 : ((rd l1 x2_2) != a4) = true := bne_iff_ne.mpr c48
      have HC67 := a_ H
      clear H
      have p545 : 0 ≤ (x2_2 : Int) := of_decide_eq_true as_
      have q545 : x2_2 < (l1.length : Int) := of_decide_eq_true as_
      obtain ⟨ad545, e545, hx545_0⟩ := Kd.at_int (Kd.C_kept_now HR1.out HK.out) x2_2 p545 q545
      cases e545
      replace p545 := eq_true p545
      replace q545 := eq_true q545
      have p546 : 0 ≤ (x2_2 : Int) := of_decide_eq_true as_
      have q546 : x2_2 < (l1.length : Int) := of_decide_eq_true as_
      obtain ⟨ad546, e546, hx546_0⟩ := Kd.at_int (Kd.C_kept_now HR1.out HK.out) x2_2 p546 q546
      obtain rfl : ad545 = ad546 := (by injection e546)
      replace p546 := eq_true p546
      replace q546 := eq_true q546
      go_upto_if 186 with (fail)
      go_cut [0] (fun v0 wc => ∃ (kq : Nat) (x0_66 : List Int), Aside0 (pObB.j2 kq x0_66 l1 x2_2 a3 a4 true a6 a7 a8 false a10 a12 x35_2 = some (r1, r2, r3, r4)) ∧ Aside0 (kq ≤ k2) ∧ Aside0 (Kd.R (Kd.int .u8) 5 wc w0.heap.size (fun k_ => (P0_ k_ ∨ w.heap.size ≤ k_)) v0 x0_66) ∧ Aside0 (Kept w wc (fun k_ => P0_ k_)) ∧ Aside0 (Below w0.heap.size w0 wc))
      case first =>
       have H := HC67.out
       clear HC67
       by_cases c68 : x35_2 > 0
       rotate_left
       ·
        rw [if_neg c68] at H
        have c68b0 : decide (0 < x35_2) = false := decide_eq_false c68
        clear c68
        (first | rw [c68b0] | (simp only [i64_w, i32_w]; rw [c68b0]) | skip)
        have H' := a_ H
        clear H
        go_wp2
        go_meet
        case rel => exact ⟨_, (x0_2), H', ⟨by have := HJ17.out; have := HK2.out; first | omega | exact Nat.le_refl _⟩, ⟨rp_ HO_0⟩, ⟨kp_ HK⟩, ⟨bl_ HB⟩⟩
       rw [if_pos c68] at H
       have c68b0 : decide (0 < x35_2) = true := decide_eq_true c68
       clear c68
       (first | rw [c68b0] | (simp only [i64_w, i32_w]; rw [c68b0]) | skip)
       by_cases c69 : x0_2.length < 140737488355328
       rotate_left
       ·
        rw [if_neg c69] at H
        exact absurd H (by simp)
       rw [if_pos c69] at H
       have LMc69 := a_ c69
       clear c69
       obtain ⟨y558, hy558⟩ : ∃ y_ : List Int, y_ = (x0_2 ++ [44]) := ⟨_, rfl⟩
       replace H := lt_ H hy558
       have Ny558 := a_ hy558
       clear hy558
       by_cases c70 : a6 = (-1)
       ·
        rw [if_pos c70] at H
        exact absurd H (by simp)
       rw [if_neg c70] at H
       have c70b0 : (a6 == (-1)) = false := beq_eq_false_iff_ne.mpr c70
       have c70b1 : (a6 != (-1)) = true := bne_iff_ne.mpr c70
       by_cases c71 : y558.length < 140737488355328
       rotate_left
       ·
        rw [if_neg c71] at H
        exact absurd H (by simp)
       rw [if_pos c71] at H
       have LMc71 := a_ c71
       clear c71
       obtain ⟨y561, hy561⟩ : ∃ y_ : List Int, y_ = (y558 ++ [32]) := ⟨_, rfl⟩
       replace H : (pObB.j2 k2 y561 l1 x2_2 a3 a4 true a6 a7 a8 false a10 a12 x35_2) = some (r1, r2, r3, r4) := by first | exact lt_ H hy561 | (rw [hy561]; exact H) | exact H
       have Ny561 := a_ hy561
       clear hy561
       have H' := a_ H
       clear H
       go_wp2_with (first | ((with_reducible refine gate_builtin (b := .append) (xs := #[.tmp 187, .tmp 188]) rfl ?_); (try (refine gate_guard (by rfl) ?_; dsimp only)); at_builtin; refine Kd.R_append (Kd.int .u8) (w0 := w0) w0.heap.size rfl (.tmp 187) (.tmp 188) 40 5 (.int .u8 0) 1 rfl Try.underlying40 info5 rfl (by decide) (by omega) u0 x0_2 44 [.int .u8 44] (fun k_ => (P0_ k_ ∨ w.heap.size ≤ k_)) (fun _ => False) rfl rfl ?aP (fun _ hk => hk.elim) ?aF ?aO ?aB ?aS ?aL ?_; (case aP => exact rfl); (case aB => exact (bl_ HB)); (case aF => exact (ki_ (kz_ HK))); (case aO => exact (rp_ HO_0)); (case aS => exact (below_size (bl_ HB))); (case aL => have := LMc69.out; omega); intro v559 w72 ho hb hg hat; rw [← Ny558.out] at ho; replace HB := a_ hb; replace HK := a_ (Kept.of_grown (S := (fun k_ => P0_ k_)) hg (kp_ HK) (fun k_ e_ => (HO_0.out.1 k_ e_))); have HO560 := a_ ho; clear HO_0; clear ho hb hg hat) | ((with_reducible refine gate_builtin (b := .append) (xs := #[.tmp 196, .tmp 197]) rfl ?_); (try (refine gate_guard (by rfl) ?_; dsimp only)); at_builtin; refine Kd.R_append (Kd.int .u8) (w0 := w0) w0.heap.size rfl (.tmp 196) (.tmp 197) 40 5 (.int .u8 0) 1 rfl Try.underlying40 info5 rfl (by decide) (by omega) v559 y558 32 [.int .u8 32] (fun k_ => (P0_ k_ ∨ w.heap.size ≤ k_)) (fun _ => False) rfl rfl ?aP (fun _ hk => hk.elim) ?aF ?aO ?aB ?aS ?aL ?_; (case aP => exact rfl); (case aB => exact (bl_ HB)); (case aF => exact (ki_ (kz_ HK))); (case aO => exact (rp_ HO560)); (case aS => exact (below_size (bl_ HB))); (case aL => have := LMc71.out; omega); intro v562 w73 ho hb hg hat; rw [← Ny561.out] at ho; replace HB := a_ hb; replace HK := a_ (Kept.of_grown (S := (fun k_ => P0_ k_)) hg (kp_ HK) (fun k_ e_ => (HO560.out.1 k_ e_))); have HO563 := a_ ho; clear HO560; clear ho hb hg hat))
       go_meet
       case rel => exact ⟨_, (y561), H', ⟨by have := HJ17.out; have := HK2.out; first | omega | exact Nat.le_refl _⟩, ⟨rp_ HO563⟩, ⟨kp_ HK⟩, ⟨bl_ HB⟩⟩
      clear HC67
      (try clear c1); (try clear c2); (try clear p2); (try clear c3); (try clear q3); (try clear c4); (try clear c5); (try clear p5); (try clear q5); (try clear hx5); (try clear c6); (try clear p6); (try clear c7); (try clear c14); (try clear c15); (try clear c16); (try clear c16b0); (try clear c16b1); (try clear c17); (try clear c17b0); (try clear c17b1); (try clear c19); (try clear c19b0); (try clear c20); (try clear c20b0); (try clear c22); (try clear c23); (try clear c23b0); (try clear c27); (try clear c27b0); (try clear c27b1); (try clear c28); (try clear c28b0); (try clear c28b1); (try clear q32); (try clear c34); (try clear c35); (try clear c36); (try clear c36b0); (try clear c36b1); (try clear c37); (try clear c37b0); (try clear c37b1); (try clear c38); (try clear c39); (try clear c39b0); (try clear c39b1); (try clear c41); (try clear c42); (try clear c43); (try clear c43b0); (try clear c43b1); (try clear c44); (try clear c44b0); (try clear c44b1); (try clear c45); (try clear c45b0); (try clear c46); (try clear c46b0); (try clear c47); (try clear c47b0); (try clear c48); (try clear c48b0); (try clear c48b1); (try clear c49); (try clear c49b0); (try clear c49b1); (try clear c50); (try clear c50b0); (try clear c52); (try clear c52b0); (try clear c53); (try clear c53b0); (try clear c54); (try clear c54b0); (try clear c54b1); (try clear p54); (try clear q54); (try clear hx54); (try clear c55); (try clear p55); (try clear q55); (try clear hx55); (try clear c57)
      (try clear c57b0); (try clear c58); (try clear c58b0); (try clear c59); (try clear c59b0); (try clear c59b1); (try clear c61); (try clear p64); (try clear c68); (try clear c68b0); (try clear c69); (try clear c70); (try clear c70b0); (try clear c70b1); (try clear c71); (try clear hx545_0); (try clear hx546_0); (try clear hx547_0); (try clear hx551_0); (try clear p2); (try clear p545); (try clear p546); (try clear p547); (try clear p551); (try clear p6); (try clear q3); (try clear q32); (try clear q545); (try clear q546); (try clear q547); (try clear q551)
      as_aux_lemma =>
       obtain ⟨kq, x0_66, HA, HJ66, HO_0, HK, HB⟩ := hcut
       cases kq with
       | zero => exact absurd HA.out (by simp [pObB.j2])
       | succ kj66 =>
        have H := HA.out
        clear HA
        simp only [pObB.j2] at H
        have c74 : ¬ (false = true) := Bool.false_ne_true
        rw [if_neg (show ¬ (false = true) by decide)] at H
        rw [if_pos (by trivial)] at H
        by_cases c76 : a3 = 91
        rotate_left
        ·
         rw [if_neg c76] at H
         exact absurd H (by simp)
        rw [if_pos c76] at H
        have c76b0 : (a3 == 91) = true := beq_iff_eq.mpr c76
        have c76b1 : (a3 != 91) = false := bne_eq_false_iff_eq.mpr c76
        clear c76
        by_cases c77 : a12 = (-1)
        rotate_left
        ·
         rw [if_neg c77] at H
         exact absurd H (by simp)
        rw [if_pos c77] at H
        have c77b0 : (a12 == (-1)) = true := beq_iff_eq.mpr c77
        have c77b1 : (a12 != (-1)) = false := bne_eq_false_iff_eq.mpr c77
        clear c77
        have HC78 := a_ H
        clear H
        go_upto_if 199 with (first | ((with_reducible refine gate_dst (N := 36) rfl ?_); (try (refine gate_guard (by rfl) ?_; dsimp only)); refine box_event ?hg (N := 36) ?hd (cs := #[.int .i64 0, .int .i64 0, .int .i64 0, .int .i64 0]) (t := 72) ?hr ?_; (case hd => rfl); (case hg => rfl); (case hr => first | (go_simp; done) | (go_simp; rfl)); intro gb564 hg w79 hbox hb; replace HO_0 := a_ (Kd.R_below (rp_ HO_0) hb); have BK564 := a_ hbox; have GW564 := a_ ((by rw [hg]; exact (kz_ HK) : w.heap.size ≤ gb564)); replace HK := a_ (Kept.below (S := (fun k_ => P0_ k_)) (kp_ HK) hb); have GE564 := a_ ((by rw [hg]; exact (below_size (bl_ HB)) : w0.heap.size ≤ gb564)); replace HB := a_ (below_step (bl_ HB) hb); clear hb hbox hg))
        (try simp only [Act.put, List.setIfInBounds_toArray, List.set_cons_zero, List.set_cons_succ])
        go_cut [0, 11] (fun v0 v11 wc => ∃ (kq : Nat) (x0_77 : List Int) (x11_77 : Int) (x565000_77 : Int) (x565002_77 : Int), v11 = .int .i64 x11_77 ∧ Aside0 (pObB.j3 kq x0_77 l1 x2_2 a3 a4 true a6 a7 a8 false a10 x11_77 a12 x35_2 = some (r1, r2, r3, r4)) ∧ Aside0 (kq ≤ kj66) ∧ Aside0 (Kd.R (Kd.int .u8) 5 wc w0.heap.size (fun k_ => (P0_ k_ ∨ w.heap.size ≤ k_)) v0 x0_77) ∧ Aside0 (wc.heap[gb564]? = some (.cells #[.int .i64 x565000_77, .int .i64 0, .int .i64 x565002_77, .int .i64 0] 72 (0, 0))) ∧ Aside0 (Kept w wc (fun k_ => P0_ k_)) ∧ Aside0 (Below w0.heap.size w0 wc))
        case first =>
         have H := HC78.out
         clear HC78
         obtain ⟨ji80, hji80⟩ : ∃ j_ : Int, (wrap64 ((x0_66.length : Int) - 1)) = j_ := ⟨_, rfl⟩
         replace H : (if 0 ≤ (ji80) then (if (ji80) < (x0_66.length : Int) then (if (rd x0_66 (ji80)) = 32 then (if a3 = 123 then (none) else ((pTb.f kj66 (x0_66.set ((ji80) : Int).toNat 10) a7 a8 (wrap64 (a10 + 1))).bind fun t567 => (pObB.j3 kj66 t567 l1 x2_2 a3 a4 true a6 a7 a8 false a10 (x0_66.length : Int) a12 x35_2))) else (if x0_66.length < 140737488355328 then (if a3 = 123 then (none) else ((pTb.f kj66 (x0_66 ++ [10]) a7 a8 (wrap64 (a10 + 1))).bind fun t573 => (pObB.j3 kj66 t573 l1 x2_2 a3 a4 true a6 a7 a8 false a10 (x0_66.length : Int) a12 x35_2))) else (none))) else (none)) else (none)) = some (r1, r2, r3, r4) := by first | (rw [hji80] at H; exact H) | (simp only [hji80] at H ⊢; exact H)
         have hji80w : (IntKind.i64.wrap ((x0_66.length : Int) - 1)) = ji80 := (i64_w _).trans hji80
         by_cases c81 : 0 ≤ (ji80)
         rotate_left
         ·
          rw [if_neg c81] at H
          exact absurd H (by simp)
         rw [if_pos c81] at H
         have c81b0 : decide (0 ≤ (ji80)) = true := decide_eq_true c81
         clear c81
         (first | rw [c81b0] | (simp only [i64_w, i32_w]; rw [c81b0]) | skip)
         by_cases c82 : (ji80) < (x0_66.length : Int)
         rotate_left
         ·
          rw [if_neg c82] at H
          exact absurd H (by simp)
         rw [if_pos c82] at H
         have c82b0 : decide ((ji80) < (x0_66.length : Int)) = true := decide_eq_true c82
         clear c82
         by_cases c83 : (rd x0_66 (ji80)) = 32
         rotate_left
         ·
          rw [if_neg c83] at H
          have c83b0 : ((rd x0_66 (ji80)) == 32) = false := beq_eq_false_iff_ne.mpr c83
          have c83b1 : ((rd x0_66 (ji80)) != 32) = true := bne_iff_ne.mpr c83
          by_cases c91 : x0_66.length < 140737488355328
          rotate_left
          ·
           rw [if_neg c91] at H
           exact absurd H (by simp)
          rw [if_pos c91] at H
          have LMc91 := a_ c91
          clear c91
          obtain ⟨y570, hy570⟩ : ∃ y_ : List Int, y_ = (x0_66 ++ [10]) := ⟨_, rfl⟩
          replace H : (if a3 = 123 then (none) else ((pTb.f kj66 y570 a7 a8 (wrap64 (a10 + 1))).bind fun t573 => (pObB.j3 kj66 t573 l1 x2_2 a3 a4 true a6 a7 a8 false a10 (x0_66.length : Int) a12 x35_2))) = some (r1, r2, r3, r4) := by first | exact lt_ H hy570 | (rw [hy570]; exact H) | exact H
          have Ny570 := a_ hy570
          clear hy570
          by_cases c92 : a3 = 123
          ·
           rw [if_pos c92] at H
           exact absurd H (by simp)
          rw [if_neg c92] at H
          have c92b0 : (a3 == 123) = false := beq_eq_false_iff_ne.mpr c92
          have c92b1 : (a3 != 123) = true := bne_iff_ne.mpr c92
          replace H := Option.bind_eq_some_iff.mp H
          obtain ⟨t573, A930, H⟩ := H
          replace H : (pObB.j3 kj66 t573 l1 x2_2 a3 a4 true a6 a7 a8 false a10 (x0_66.length : Int) a12 x35_2) = some (r1, r2, r3, r4) := H
          have A93 := a_ A930
          clear A930
          have H' := a_ H
          clear H
          obtain ⟨Ao94, co94, eo94⟩ := Kd.R_slice HO_0.out
          subst eo94
          have p565 : 0 ≤ ((ji80) : Int) := of_decide_eq_true as_
          have q565 : (ji80) < (x0_66.length : Int) := of_decide_eq_true as_
          obtain ⟨ad565, e565, hx565_0⟩ := Kd.at_int (Kd.R_reads' HO_0.out).2.2 (ji80) p565 q565
          cases e565
          replace p565 := eq_true p565
          replace q565 := eq_true q565
          go_wp2_with (first | ((with_reducible refine gate_builtin (b := .append) (xs := #[.tmp 212, .tmp 213]) rfl ?_); (try (refine gate_guard (by rfl) ?_; dsimp only)); at_builtin; refine Kd.R_append (Kd.int .u8) (w0 := w0) w0.heap.size rfl (.tmp 212) (.tmp 213) 40 5 (.int .u8 0) 1 rfl Try.underlying40 info5 rfl (by decide) (by omega) (.slice (some ad565) x0_66.length co94) x0_66 10 [.int .u8 10] (fun k_ => (P0_ k_ ∨ w.heap.size ≤ k_)) (fun _ => False) rfl rfl ?aP (fun _ hk => hk.elim) ?aF ?aO ?aB ?aS ?aL ?_; (case aP => exact rfl); (case aB => exact (bl_ HB)); (case aF => exact (ki_ (kz_ HK))); (case aO => exact (rp_ HO_0)); (case aS => exact (below_size (bl_ HB))); (case aL => have := LMc91.out; omega); intro v571 w95 ho hb hg hat; rw [← Ny570.out] at ho; replace BK564 := a_ (blk_grown (g := gb564) (o := .cells #[.int .i64 0, .int .i64 0, .int .i64 0, .int .i64 0] 72 (0, 0)) (bk_ BK564) hg (Kd.R_ne HO_0.out BK564.out (by decide))); replace HB := a_ hb; replace HK := a_ (Kept.of_grown (S := (fun k_ => P0_ k_)) hg (kp_ HK) (fun k_ e_ => (HO_0.out.1 k_ e_))); have HO572 := a_ ho; clear HO_0; clear ho hb hg hat; obtain ⟨Ao96, co96, eo96⟩ := Kd.R_slice HO572.out; subst eo96) | ((with_reducible refine gate_callee (f := 41) rfl ?_); refine goesL_ (some 230) rfl rfl Try.func41 (by kernel_rfl) rfl #[.slice Ao96 y570.length co96, .string a7, .string a8, .int .i64 (wrap64 (a10 + 1))] rfl ar_ ?_; (with_reducible refine (pTb.calls kj66 (fun k_ => some k_ = (.slice Ao96 y570.length co96 : Value).ownBlock) (.slice Ao96 y570.length co96) y570 a7 a8 (wrap64 (a10 + 1)) t573 w0 _ ?side1 ?side2 A93.out).mono ?_); (case side1 => exact bl_ HB); (case side2 => exact Kd.R_tight rfl HO572.out); rintro e w97 ⟨v574, rfl, ho0, hb, hkp⟩; refine ⟨_, rfl, ?_⟩; replace BK564 := a_ (blk_kept (bk_ BK564) hkp (fun hs_ => (fun e_ => (Kd.R_ne HO572.out BK564.out (by decide)) e_) hs_)); have HO575 := a_ (Kd.R_mono (ok' := fun k_ => (P0_ k_ ∨ w.heap.size ≤ k_)) ho0 (fun k_ hk_ => Or.elim hk_ (fun hs_ => (HO572.out.1 k_ (hs_).symm)) (fun hn_ => (.inr (Nat.le_trans (kz_ HK) hn_))))); replace HK := a_ (Kept.then_ (S := (fun k_ => P0_ k_)) (kp_ HK) hkp (fun k_ hs_ => (fun e_ => (HO572.out.1 k_ e_.symm)) hs_)); replace HB := a_ hb; clear HO572; (try clear hb); (try clear hkp); (try clear ho0)))
          go_meet
          case rel => exact ⟨_, (t573), ((x0_66.length : Int)), (0), (0), rl_, H', ⟨by have := HJ17.out; have := HK2.out; have := HJ66.out; first | omega | exact Nat.le_refl _⟩, ⟨rp_ HO575⟩, ⟨bk_ BK564⟩, ⟨kp_ HK⟩, ⟨bl_ HB⟩⟩
         rw [if_pos c83] at H
         have c83b0 : ((rd x0_66 (ji80)) == 32) = true := beq_iff_eq.mpr c83
         have c83b1 : ((rd x0_66 (ji80)) != 32) = false := bne_eq_false_iff_eq.mpr c83
         clear c83
         obtain ⟨y566, hy566⟩ : ∃ y_ : List Int, y_ = (x0_66.set ((ji80) : Int).toNat 10) := ⟨_, rfl⟩
         replace H : (if a3 = 123 then (none) else ((pTb.f kj66 y566 a7 a8 (wrap64 (a10 + 1))).bind fun t567 => (pObB.j3 kj66 t567 l1 x2_2 a3 a4 true a6 a7 a8 false a10 (x0_66.length : Int) a12 x35_2))) = some (r1, r2, r3, r4) := by first | exact lt_ H hy566 | (rw [hy566]; exact H) | exact H
         have Ny566 := a_ hy566
         clear hy566
         by_cases c85 : a3 = 123
         ·
          rw [if_pos c85] at H
          exact absurd H (by simp)
         rw [if_neg c85] at H
         have c85b0 : (a3 == 123) = false := beq_eq_false_iff_ne.mpr c85
         have c85b1 : (a3 != 123) = true := bne_iff_ne.mpr c85
         replace H := Option.bind_eq_some_iff.mp H
         obtain ⟨t567, A860, H⟩ := H
         replace H : (pObB.j3 kj66 t567 l1 x2_2 a3 a4 true a6 a7 a8 false a10 (x0_66.length : Int) a12 x35_2) = some (r1, r2, r3, r4) := H
         have A86 := a_ A860
         clear A860
         have H' := a_ H
         clear H
         obtain ⟨Ao87, co87, eo87⟩ := Kd.R_slice HO_0.out
         subst eo87
         have p565 : 0 ≤ ((ji80) : Int) := of_decide_eq_true as_
         have q565 : (ji80) < (x0_66.length : Int) := of_decide_eq_true as_
         obtain ⟨ad565, e565, hx565_0⟩ := Kd.at_int (Kd.R_reads' HO_0.out).2.2 (ji80) p565 q565
         cases e565
         replace p565 := eq_true p565
         replace q565 := eq_true q565
         have p84 : 0 ≤ ((ji80) : Int) := of_decide_eq_true as_
         have q84 : ((ji80) : Int) < ((x0_66.length : Int) : Int) := of_decide_eq_true as_
         obtain ⟨go84, co84, eo84, gb84, gl84, cl84, HG84⟩ := Kd.R_form HO_0.out (by omega)
         (first | cases eo84 | (injection eo84 with ea_ en_ ec_; (first | subst ea_ | (injection ea_ with ea_; subst ea_)); subst ec_; clear en_))
         have GB84 := a_ gb84
         have GG84 := a_ HG84
         clear gb84 gl84 HG84
         have HMgo84 := a_ (show (P0_ go84 ∨ w.heap.size ≤ go84) from (HO_0.out.1 _ rfl))
         (first | simp only [add_plain] at hx565_0 | skip)
         obtain ⟨hx84_0, hf84_0⟩ := Kd.R_celln 0 HO_0.out ((ji80) : Int) p84 q84
         replace p84 := eq_true p84
         replace q84 := eq_true q84
         have HP88 := Kd.R_putg HO_0.out ((ji80) : Int) 10
         go_wp2_with (first | ((with_reducible refine gate_store (t := 5) (p := 211) rfl ?_); refine store_event (t := 5) (p := 211) (v := ?vo_w89) (w1 := (w79.setCell ⟨go84, ((ji80) : Int).toNat, none⟩ (.int .u8 10))) ?hg ?ho ?hn ?hr ?_; (case ho => rfl); (case hg => rfl); (case hn => rfl); (case hr => first | (go_simp; done) | (go_simp; rfl)); intro w89 hw; have hg : w79.grownBy w89 (some go84) := (by rw [hw]; exact HP88.2); have hp_ : Kd.R (Kd.int .u8) 5 w89 w0.heap.size (fun k_ => (P0_ k_ ∨ w.heap.size ≤ k_)) (.slice (some ⟨go84, 0, none⟩) x0_66.length co87) y566 := (by rw [hw, Ny566.out]; exact HP88.1); clear HP88; replace BK564 := a_ (blk_grown (g := gb564) (o := .cells #[.int .i64 0, .int .i64 0, .int .i64 0, .int .i64 0] 72 (0, 0)) (bk_ BK564) hg (Kd.R_ne HO_0.out BK564.out (by decide))); replace HB := a_ ((by rw [hw]; exact below_set (HB.out) GB84.out : Below w0.heap.size w0 w89)); replace HK := a_ (Kept.of_grown (S := (fun k_ => P0_ k_)) hg (kp_ HK) (fun k_ e_ => (HO_0.out.1 k_ e_))); replace HO_0 := a_ hp_; clear hg hw hp_) | ((with_reducible refine gate_callee (f := 41) rfl ?_); refine goesL_ (some 230) rfl rfl Try.func41 (by kernel_rfl) rfl #[.slice (some ⟨go84, 0, none⟩) x0_66.length co87, .string a7, .string a8, .int .i64 (wrap64 (a10 + 1))] rfl ar_ ?_; (with_reducible refine (pTb.calls kj66 (fun k_ => some k_ = (.slice (some ⟨go84, 0, none⟩) x0_66.length co87 : Value).ownBlock) (.slice (some ⟨go84, 0, none⟩) x0_66.length co87) y566 a7 a8 (wrap64 (a10 + 1)) t567 w0 _ ?side1 ?side2 A86.out).mono ?_); (case side1 => exact bl_ HB); (case side2 => exact Kd.R_tight rfl HO_0.out); rintro e w90 ⟨v568, rfl, ho0, hb, hkp⟩; refine ⟨_, rfl, ?_⟩; replace BK564 := a_ (blk_kept (bk_ BK564) hkp (fun hs_ => (fun e_ => (Kd.R_ne HO_0.out BK564.out (by decide)) e_) hs_)); have HO569 := a_ (Kd.R_mono (ok' := fun k_ => (P0_ k_ ∨ w.heap.size ≤ k_)) ho0 (fun k_ hk_ => Or.elim hk_ (fun hs_ => (HO_0.out.1 k_ (hs_).symm)) (fun hn_ => (.inr (Nat.le_trans (kz_ HK) hn_))))); replace HK := a_ (Kept.then_ (S := (fun k_ => P0_ k_)) (kp_ HK) hkp (fun k_ hs_ => (fun e_ => (HO_0.out.1 k_ e_.symm)) hs_)); replace HB := a_ hb; clear HO_0; (try clear hb); (try clear hkp); (try clear ho0)))
         go_meet
         case rel => exact ⟨_, (t567), ((x0_66.length : Int)), (0), (0), rl_, H', ⟨by have := HJ17.out; have := HK2.out; have := HJ66.out; first | omega | exact Nat.le_refl _⟩, ⟨rp_ HO569⟩, ⟨bk_ BK564⟩, ⟨kp_ HK⟩, ⟨bl_ HB⟩⟩
        clear HC78
        (try clear c1); (try clear c2); (try clear p2); (try clear c3); (try clear q3); (try clear c4); (try clear c5); (try clear p5); (try clear q5); (try clear hx5); (try clear c6); (try clear p6); (try clear c7); (try clear c8); (try clear p8); (try clear q8); (try clear hx8); (try clear c9); (try clear c14); (try clear c15); (try clear c16); (try clear c16b0); (try clear c16b1); (try clear c17); (try clear c17b0); (try clear c17b1); (try clear c19); (try clear c19b0); (try clear c20); (try clear c20b0); (try clear c22); (try clear c23); (try clear c23b0); (try clear c27); (try clear c27b0); (try clear c27b1); (try clear c28); (try clear c28b0); (try clear c28b1); (try clear q32); (try clear c34); (try clear c35); (try clear c36); (try clear c36b0); (try clear c36b1); (try clear c37); (try clear c37b0); (try clear c37b1); (try clear c38); (try clear c39); (try clear c39b0); (try clear c39b1); (try clear c41); (try clear c42); (try clear c43); (try clear c43b0); (try clear c43b1); (try clear c44); (try clear c44b0); (try clear c44b1); (try clear c45); (try clear c45b0); (try clear c46); (try clear c46b0); (try clear c47); (try clear c47b0); (try clear c48); (try clear c48b0); (try clear c48b1); (try clear c49); (try clear c49b0); (try clear c49b1); (try clear c50); (try clear c50b0); (try clear c52); (try clear c52b0); (try clear c53); (try clear c53b0); (try clear c54); (try clear c54b0); (try clear c54b1); (try clear p54); (try clear q54); (try clear hx54)
        (try clear c55); (try clear p55); (try clear q55); (try clear hx55); (try clear p56); (try clear q56); (try clear hx56); (try clear c57); (try clear c57b0); (try clear c58); (try clear c58b0); (try clear c59); (try clear c59b0); (try clear c59b1); (try clear c61); (try clear p64); (try clear c68); (try clear c68b0); (try clear c69); (try clear c70); (try clear c70b0); (try clear c70b1); (try clear c71); (try clear c74); (try clear c75); (try clear c76); (try clear c76b0); (try clear c76b1); (try clear c77); (try clear c77b0); (try clear c77b1); (try clear c81); (try clear c81b0); (try clear c82); (try clear c82b0); (try clear c83); (try clear c83b0); (try clear c83b1); (try clear p84); (try clear q84); (try clear hx84); (try clear hf84); (try clear c85); (try clear c85b0); (try clear c85b1); (try clear c91); (try clear c92); (try clear c92b0); (try clear c92b1); (try clear hx545_0); (try clear hx546_0); (try clear hx547_0); (try clear hx551_0); (try clear hx565_0); (try clear hx84_0); (try clear p2); (try clear p5); (try clear p54); (try clear p545); (try clear p546); (try clear p547); (try clear p55); (try clear p551); (try clear p565); (try clear p6); (try clear p64); (try clear p84); (try clear q3); (try clear q32); (try clear q5); (try clear q54); (try clear q545); (try clear q546); (try clear q547); (try clear q55); (try clear q551); (try clear q565); (try clear q84)
        as_aux_lemma =>
         obtain ⟨kq, x0_77, x11_77, x565000_77, x565002_77, rfl, HA, HJ77, HO_0, BK564, HK, HB⟩ := hcut
         cases kq with
         | zero => exact absurd HA.out (by simp [pObB.j3])
         | succ kj77 =>
          have H := HA.out
          clear HA
          simp only [pObB.j3] at H
          have c98 : ¬ (false = true) := Bool.false_ne_true
          rw [if_neg (show ¬ (false = true) by decide)] at H
          rw [if_pos (by trivial)] at H
          by_cases c100 : a3 = 91
          rotate_left
          ·
           rw [if_neg c100] at H
           exact absurd H (by simp)
          rw [if_pos c100] at H
          have c100b0 : (a3 == 91) = true := beq_iff_eq.mpr c100
          have c100b1 : (a3 != 91) = false := bne_eq_false_iff_eq.mpr c100
          clear c100
          by_cases c101 : a12 = (-1)
          rotate_left
          ·
           rw [if_neg c101] at H
           exact absurd H (by simp)
          rw [if_pos c101] at H
          have c101b0 : (a12 == (-1)) = true := beq_iff_eq.mpr c101
          have c101b1 : (a12 != (-1)) = false := bne_eq_false_iff_eq.mpr c101
          clear c101
          by_cases c102 : a3 = 123
          ·
           rw [if_pos c102] at H
           exact absurd H (by simp)
          rw [if_neg c102] at H
          have c102b0 : (a3 == 123) = false := beq_eq_false_iff_ne.mpr c102
          have c102b1 : (a3 != 123) = true := bne_iff_ne.mpr c102
          replace H := Option.bind_eq_some_iff.mp H
          obtain ⟨⟨t576, t579, t580, t581⟩, A1030, H⟩ := H
          replace H : (pObB.l0 kj77 t576 l1 (wrap64 ((wrap64 (t579 - 1)) + 1)) a3 a4 true a6 a7 a8 false a10 a12 (wrap64 (x35_2 + 1))) = some (r1, r2, r3, r4) := H
          have A103 := a_ A1030
          clear A1030
          have H' := a_ H
          clear H
          obtain ⟨Ao104, co104, eo104⟩ := Kd.R_slice HO_0.out
          subst eo104
          go_wp2_with (first | ((with_reducible refine gate_callee (f := 25) rfl ?_); refine goesL_ (some 266) rfl rfl Try.func25 (by kernel_rfl) rfl #[.slice Ao104 x0_77.length co104, .slice (some ad545) l1.length c1, .int .i64 x2_2, .bool true, .int .i64 a6, .string a7, .string a8, .bool false, .int .i64 (wrap64 (a10 + 1)), .int .i64 x11_77, .int .i64 a12] rfl ar_ ?_; (with_reducible refine (ih25 kj77 (by have := HJ17.out; have := HK2.out; have := HJ66.out; have := HJ77.out; omega) (fun k_ => some k_ = (.slice Ao104 x0_77.length co104 : Value).ownBlock) (.slice Ao104 x0_77.length co104) x0_77 _ _ l1 x2_2 true a6 a7 a8 false (wrap64 (a10 + 1)) x11_77 a12 t576 t579 t580 t581 w0 _ ?side1 ?side2 ?side3 ?side4 A103.out).mono ?_); (case side1 => exact bl_ HB); (case side2 => exact Kd.R_tight rfl HO_0.out); (case side3 => exact Kd.C_kept_call HR1.out (kp_ HK) (fun k_ hs_ => (fun e_ => (HO_0.out.1 k_ e_.symm)) hs_)); (case side4 => exact HC1.out); rintro e w105 ⟨v577, rfl, ho0, hb, hkp⟩; refine ⟨_, rfl, ?_⟩; replace BK564 := a_ (blk_kept (bk_ BK564) hkp (fun hs_ => (fun e_ => (Kd.R_ne HO_0.out BK564.out (by decide)) e_) hs_)); have HO578 := a_ (Kd.R_mono (ok' := fun k_ => (P0_ k_ ∨ w.heap.size ≤ k_)) ho0 (fun k_ hk_ => Or.elim hk_ (fun hs_ => (HO_0.out.1 k_ (hs_).symm)) (fun hn_ => (.inr (Nat.le_trans (kz_ HK) hn_))))); replace HK := a_ (Kept.then_ (S := (fun k_ => P0_ k_)) (kp_ HK) hkp (fun k_ hs_ => (fun e_ => (HO_0.out.1 k_ e_.symm)) hs_)); replace HB := a_ hb; clear HO_0; (try clear hb); (try clear hkp); (try clear ho0)))
          go_roundg kj77
          case measure => have := HJ17.out; have := HK2.out; have := HJ66.out; have := HJ77.out; omega
          case rel => exact ⟨(t576), (wrap64 ((wrap64 (t579 - 1)) + 1)), (false), (wrap64 (x35_2 + 1)), rl_, rl_, rl_, H', ⟨by have := HJ17.out; have := HK2.out; have := HJ66.out; have := HJ77.out; omega⟩, ⟨rp_ HO578⟩, ⟨kp_ HK⟩, ⟨bl_ HB⟩⟩
end Go.Proofs.Ytnilbkfhfnofgaa.PFnPrWidthMember
