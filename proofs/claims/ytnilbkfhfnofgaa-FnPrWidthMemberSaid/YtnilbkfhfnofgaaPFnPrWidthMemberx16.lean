/- Contracts of Go functions of this seat: a Lean function over numbers and lists for each, and a proof that the Go function returns what it gives. Made by program. -/
import Derived.Test.YtnilbkfhfnofgaaPFnPrWidthMemberx0
import Derived.Test.YtnilbkfhfnofgaaPFnPrWidthMemberx10
import Derived.Test.YtnilbkfhfnofgaaPFnPrWidthMemberx11
import Derived.Test.YtnilbkfhfnofgaaPFnPrWidthMemberx12
import Derived.Test.YtnilbkfhfnofgaaPFnPrWidthMemberx13
import Derived.Test.YtnilbkfhfnofgaaPFnPrWidthMemberx14
import Derived.Test.YtnilbkfhfnofgaaPFnPrWidthMemberx15
namespace Go.Proofs.Ytnilbkfhfnofgaa.PFnPrWidthMember
open Go.RowKit Go.Proofs.YtnilbkfhfnofgaaW.PrintWords Go.Proofs.YtnilbkfhfnofgaaW.PrintLast Go.Proofs.YtnilbkfhfnofgaaW.PrintMore
attribute [local go_sem] max2_int min2_int max_two min_two max_three min_three max_four min_four   -- for this text's walks alone
set_option linter.unusedVariables false
set_option linter.unusedSimpArgs false
/-! ### pAn: function 25 -/
set_option maxHeartbeats 8000000 in
set_option maxRecDepth 100000 in
theorem pAn.callsH (k : Nat) (ih36 : ∀ m_, m_ < k → pOb.CT m_) (ih : ∀ m_, m_ < k → pAn.CT m_) : pAn.CT k := by
 intro P0_ u9000_ l0 A1 c1 l1 a2 a3 a4 a5 a6 a7 a8 a9 a10 r1 r2 r3 r4 w0 w hB ho0 hr1 hc1 h
 cases k with
 | zero => exact absurd h (by simp [pAn.f])
 | succ k =>
 simp only [pAn.f] at h
 have HO0 := a_ (show Kd.R (Kd.int .u8) 5 w w0.heap.size (fun k_ => (P0_ k_ ∨ w.heap.size ≤ k_)) u9000_ l0 from Kd.R_mono ho0 (fun k_ hk => (.inl hk)))
 have HR1 := a_ hr1
 have HC1 := a_ hc1
 clear hr1 hc1
 have HK := a_ (Kept.refl w (fun k_ => P0_ k_))
 have HW0 := a_ hB.size
 have HB := a_ hB
 clear hB
 have H : (pAn.l0 k l0 l1 a2 a3 a4 a5 a6 a7 a8 a9 a10) = some (r1, r2, r3, r4) := h
 clear h
 have H' := a_ H
 clear H
 go_enter Try.func25, Try.ntmps25
 go_wp2
 (try simp only [Act.put, List.setIfInBounds_toArray, List.set_cons_zero, List.set_cons_succ])
 go_loopg [2] k (fun kq v2 w' => ∃ (x2_1 : Int), v2 = .int .i64 x2_1 ∧ Aside0 (pAn.l0 kq l0 l1 x2_1 a3 a4 a5 a6 a7 a8 a9 a10 = some (r1, r2, r3, r4)) ∧ Aside0 (kq ≤ k) ∧ Aside0 (Kd.R (Kd.int .u8) 5 w' w0.heap.size (fun k_ => (P0_ k_ ∨ w.heap.size ≤ k_)) u9000_ l0) ∧ Aside0 (Kept w w' (fun k_ => P0_ k_)) ∧ Aside0 (Below w0.heap.size w0 w'))
 case atStart => exact ⟨(a2), rl_, H', ⟨Nat.le_refl _⟩, ⟨rp_ HO0⟩, ⟨kp_ HK⟩, ⟨bl_ HB⟩⟩
 case round =>
  clear H'
  (try clear c1); (try clear c2); (try clear p2)
  obtain ⟨x2_1, rfl, HA, HK1, HO_0, HK, HB⟩ := hrel
  cases gk with
  | zero => exact absurd HA.out (by simp [pAn.l0])
  | succ k1 =>
   have H := HA.out
   clear HA
   simp only [pAn.l0] at H
   by_cases c12 : x2_1 < (l1.length : Int)
   rotate_left
   ·
    rw [if_neg c12] at H
    exact absurd H (by simp)
   rw [if_pos c12] at H
   have c12b0 : decide (x2_1 < (l1.length : Int)) = true := decide_eq_true c12
   clear c12
   by_cases c13 : 0 ≤ x2_1
   rotate_left
   ·
    rw [if_neg c13] at H
    exact absurd H (by simp)
   rw [if_pos c13] at H
   have c13b0 : decide (0 ≤ x2_1) = true := decide_eq_true c13
   clear c13
   by_cases c14 : (rd l1 x2_1) ≤ 32
   ·
    rw [if_pos c14] at H
    have c14b0 : decide ((rd l1 x2_1) ≤ 32) = true := decide_eq_true c14
    clear c14
    have H' := a_ H
    clear H
    have p603 : 0 ≤ (x2_1 : Int) := of_decide_eq_true as_
    have q603 : x2_1 < (l1.length : Int) := of_decide_eq_true as_
    obtain ⟨ad603, e603, hx603_0⟩ := Kd.at_int (Kd.C_kept_now HR1.out HK.out) x2_1 p603 q603
    cases e603
    replace p603 := eq_true p603
    replace q603 := eq_true q603
    go_wp2
    go_roundg k1
    case measure => have := HK1.out; omega
    case rel => exact ⟨(wrap64 (x2_1 + 1)), rl_, H', ⟨by have := HK1.out; omega⟩, ⟨rp_ HO_0⟩, ⟨kp_ HK⟩, ⟨bl_ HB⟩⟩
   rw [if_neg c14] at H
   have c14b0 : decide ((rd l1 x2_1) ≤ 32) = false := decide_eq_false c14
   clear c14
   by_cases c15 : (rd l1 x2_1) = 34
   ·
    rw [if_pos c15] at H
    have c15b0 : ((rd l1 x2_1) == 34) = true := beq_iff_eq.mpr c15
    have c15b1 : ((rd l1 x2_1) != 34) = false := bne_eq_false_iff_eq.mpr c15
    clear c15
    replace H := Option.bind_eq_some_iff.mp H
    obtain ⟨⟨t605, t608, t609, t610⟩, A160, H⟩ := H
    replace H : (some (t605, t608, t609, t610)) = some (r1, r2, r3, r4) := H
    have A16 := a_ A160
    clear A160
    simp only [Option.some.injEq, Prod.mk.injEq] at H
    obtain ⟨rfl, rfl, rfl, rfl⟩ := H
    have p603 : 0 ≤ (x2_1 : Int) := of_decide_eq_true as_
    have q603 : x2_1 < (l1.length : Int) := of_decide_eq_true as_
    obtain ⟨ad603, e603, hx603_0⟩ := Kd.at_int (Kd.C_kept_now HR1.out HK.out) x2_1 p603 q603
    cases e603
    replace p603 := eq_true p603
    replace q603 := eq_true q603
    have p604 : 0 ≤ (x2_1 : Int) := of_decide_eq_true as_
    have q604 : x2_1 < (l1.length : Int) := of_decide_eq_true as_
    obtain ⟨ad604, e604, hx604_0⟩ := Kd.at_int (Kd.C_kept_now HR1.out HK.out) x2_1 p604 q604
    obtain rfl : ad603 = ad604 := (by injection e604)
    replace p604 := eq_true p604
    replace q604 := eq_true q604
    obtain ⟨Ao17, co17, eo17⟩ := Kd.R_slice HO_0.out
    subst eo17
    go_wp2_with (first | ((with_reducible refine gate_callee (f := 33) rfl ?_); refine goesL_ (some 46) rfl rfl Try.func33 (by kernel_rfl) rfl #[.slice Ao17 l0.length co17, .slice (some ad603) l1.length c1, .int .i64 x2_1, .int .i64 a9] rfl ar_ ?_; (with_reducible refine (pSt.calls k1 (fun k_ => some k_ = (.slice Ao17 l0.length co17 : Value).ownBlock) (.slice Ao17 l0.length co17) l0 _ _ l1 x2_1 a9 t605 t608 t609 t610 w0 _ ?side1 ?side2 ?side3 ?side4 A16.out).mono ?_); (case side1 => exact bl_ HB); (case side2 => exact Kd.R_tight rfl HO_0.out); (case side3 => exact Kd.C_kept_call HR1.out (kp_ HK) (fun k_ hs_ => (fun e_ => (HO_0.out.1 k_ e_.symm)) hs_)); (case side4 => exact HC1.out); rintro e w18 ⟨v606, rfl, ho0, hb, hkp⟩; refine ⟨_, rfl, ?_⟩; have HO607 := a_ (Kd.R_mono (ok' := fun k_ => (P0_ k_ ∨ w.heap.size ≤ k_)) ho0 (fun k_ hk_ => Or.elim hk_ (fun hs_ => (HO_0.out.1 k_ (hs_).symm)) (fun hn_ => (.inr (Nat.le_trans (kz_ HK) hn_))))); replace HK := a_ (Kept.then_ (S := (fun k_ => P0_ k_)) (kp_ HK) hkp (fun k_ hs_ => (fun e_ => (HO_0.out.1 k_ e_.symm)) hs_)); replace HB := a_ hb; clear HO_0; (try clear hb); (try clear hkp); (try clear ho0)))
    refine bodyPost_ret (results_list (rs := [.tmp 22, .tmp 23, .tmp 24, .tmp 25]) rfl (by simp) (.tmp (.tmp (.tmp (.tmp .nil))))) rfl ?_
    exact ⟨_, by first | rfl | (simp [errW_none, errW_some] <;> rfl) | (simp [*, errW_none, errW_some] <;> rfl), rp_ HO607, bl_ HB, kp_ HK⟩
   rw [if_neg c15] at H
   have c15b0 : ((rd l1 x2_1) == 34) = false := beq_eq_false_iff_ne.mpr c15
   have c15b1 : ((rd l1 x2_1) != 34) = true := bne_iff_ne.mpr c15
   have HC19 := a_ H
   clear H
   have p603 : 0 ≤ (x2_1 : Int) := of_decide_eq_true as_
   have q603 : x2_1 < (l1.length : Int) := of_decide_eq_true as_
   obtain ⟨ad603, e603, hx603_0⟩ := Kd.at_int (Kd.C_kept_now HR1.out HK.out) x2_1 p603 q603
   cases e603
   replace p603 := eq_true p603
   replace q603 := eq_true q603
   have p604 : 0 ≤ (x2_1 : Int) := of_decide_eq_true as_
   have q604 : x2_1 < (l1.length : Int) := of_decide_eq_true as_
   obtain ⟨ad604, e604, hx604_0⟩ := Kd.at_int (Kd.C_kept_now HR1.out HK.out) x2_1 p604 q604
   obtain rfl : ad603 = ad604 := (by injection e604)
   replace p604 := eq_true p604
   replace q604 := eq_true q604
   go_upto_region 6 with (fail)
   go_cut [75] (fun v75 wc => ∃ (kq : Nat) (x75_18 : Bool), v75 = .bool x75_18 ∧ Aside0 (pAn.j1 kq l0 l1 x2_1 a3 a4 a5 a6 a7 a8 a9 a10 x75_18 = some (r1, r2, r3, r4)) ∧ Aside0 (kq ≤ k1) ∧ Aside0 (Kd.R (Kd.int .u8) 5 wc w0.heap.size (fun k_ => (P0_ k_ ∨ w.heap.size ≤ k_)) u9000_ l0) ∧ Aside0 (Kept w wc (fun k_ => P0_ k_)) ∧ Aside0 (Below w0.heap.size w0 wc))
   case first =>
    have H := HC19.out
    clear HC19
    by_cases c20 : (rd l1 x2_1) ≥ 48
    rotate_left
    ·
     rw [if_neg c20] at H
     have c20b0 : decide (48 ≤ (rd l1 x2_1)) = false := decide_eq_false c20
     clear c20
     (first | rw [c20b0] | (simp only [i64_w, i32_w]; rw [c20b0]) | skip)
     by_cases c27 : (rd l1 x2_1) = 45
     ·
      rw [if_pos c27] at H
      have c27b0 : ((rd l1 x2_1) == 45) = true := beq_iff_eq.mpr c27
      have c27b1 : ((rd l1 x2_1) != 45) = false := bne_eq_false_iff_eq.mpr c27
      clear c27
      have H' := a_ H
      clear H
      have p611 : 0 ≤ (x2_1 : Int) := of_decide_eq_true as_
      have q611 : x2_1 < (l1.length : Int) := of_decide_eq_true as_
      obtain ⟨ad611, e611, hx611_0⟩ := Kd.at_int (Kd.C_kept_now HR1.out HK.out) x2_1 p611 q611
      obtain rfl : ad603 = ad611 := (by injection e611)
      replace p611 := eq_true p611
      replace q611 := eq_true q611
      have p619 : 0 ≤ (x2_1 : Int) := of_decide_eq_true as_
      have q619 : x2_1 < (l1.length : Int) := of_decide_eq_true as_
      obtain ⟨ad619, e619, hx619_0⟩ := Kd.at_int (Kd.C_kept_now HR1.out HK.out) x2_1 p619 q619
      obtain rfl : ad603 = ad619 := (by injection e619)
      replace p619 := eq_true p619
      replace q619 := eq_true q619
      go_wp2
      go_meet
      case rel => exact ⟨_, (true), rl_, H', ⟨by have := HK1.out; first | omega | exact Nat.le_refl _⟩, ⟨rp_ HO_0⟩, ⟨kp_ HK⟩, ⟨bl_ HB⟩⟩
     rw [if_neg c27] at H
     have c27b0 : ((rd l1 x2_1) == 45) = false := beq_eq_false_iff_ne.mpr c27
     have c27b1 : ((rd l1 x2_1) != 45) = true := bne_iff_ne.mpr c27
     have c28b0 := eq_true (of_decide_eq_true as_ : 0 ≤ x2_1)
     by_cases c29 : x2_1 ≤ (l1.length : Int)
     rotate_left
     ·
      rw [if_neg c29] at H
      exact absurd H (by simp)
     rw [if_pos c29] at H
     have c29b0 := eq_true c29
     have c29b1 : decide (x2_1 ≤ (l1.length : Int)) = true := decide_eq_true c29
     clear c29
     obtain ⟨y620, hy620⟩ : ∃ y_ : List Int, y_ = (l1.drop (x2_1 : Int).toNat) := ⟨_, rfl⟩
     replace H : ((pNan.f y620).bind fun t624 => (pAn.j1 k1 l0 l1 x2_1 a3 a4 a5 a6 a7 a8 a9 a10 t624)) = some (r1, r2, r3, r4) := by first | exact lt_ H hy620 | (rw [hy620]; exact H) | exact H
     have Ny620 := a_ hy620
     clear hy620
     replace H := Option.bind_eq_some_iff.mp H
     obtain ⟨t624, A300, H⟩ := H
     replace H : (pAn.j1 k1 l0 l1 x2_1 a3 a4 a5 a6 a7 a8 a9 a10 t624) = some (r1, r2, r3, r4) := H
     have A30 := a_ A300
     clear A300
     have H' := a_ H
     clear H
     have p611 : 0 ≤ (x2_1 : Int) := of_decide_eq_true as_
     have q611 : x2_1 < (l1.length : Int) := of_decide_eq_true as_
     obtain ⟨ad611, e611, hx611_0⟩ := Kd.at_int (Kd.C_kept_now HR1.out HK.out) x2_1 p611 q611
     obtain rfl : ad603 = ad611 := (by injection e611)
     replace p611 := eq_true p611
     replace q611 := eq_true q611
     have p619 : 0 ≤ (x2_1 : Int) := of_decide_eq_true as_
     have q619 : x2_1 < (l1.length : Int) := of_decide_eq_true as_
     obtain ⟨ad619, e619, hx619_0⟩ := Kd.at_int (Kd.C_kept_now HR1.out HK.out) x2_1 p619 q619
     obtain rfl : ad603 = ad619 := (by injection e619)
     replace p619 := eq_true p619
     replace q619 := eq_true q619
     have q31 : (x2_1 : Int) ≤ ((l1.length : Int) : Int) := of_decide_eq_true as_
     obtain ⟨i031, hi031, _, hsz31, _⟩ := info_parts info5
     have hroom31 : l1.length ≤ c1 := HC1.out
     have hC31 : Kd.C (Kd.int .u8) _ (some ad603) l1.length l1 := (Kd.C_kept_now HR1.out HK.out)
     have q031 : (0 : Int) ≤ (x2_1 : Int) := of_decide_eq_true as_
     have hcut31 := cut_from (P := Try.prog) 40 5 .i64 Try.underlying40 hi031 1 hsz31 (some ad603) l1.length c1 x2_1 q031 q31
     have hr31 := Kd.C_drop (m := (x2_1 : Int).toNat) (c := c1) hC31 (by omega) hroom31
     obtain ⟨A31, hA31⟩ : ∃ A1_, A1_ = (if c1 = (x2_1 : Int).toNat then (some ad603) else ((some ad603) : Option Addr).map (·.add ((x2_1 : Int).toNat * 1))) := ⟨_, rfl⟩
     obtain ⟨c31, hc31⟩ : ∃ c1_, c1_ = c1 - (x2_1 : Int).toNat := ⟨_, rfl⟩
     have hy31 : y620.length = l1.length - (x2_1 : Int).toNat := (by rw [Ny620.out, List.length_drop] <;> omega)
     rw [show (l1).drop (x2_1 : Int).toNat = y620 from Ny620.out.symm] at hr31
     replace hr31 : Kd.C (Kd.int .u8) _ A31 y620.length y620 := (by rw [hA31]; exact hr31)
     rw [← hy31, ← hA31, ← hc31] at hcut31
     have HR623 := a_ hr31
     have HC623 := a_ (show y620.length ≤ c31 from by rw [hy31, hc31]; exact Nat.sub_le_sub_right hroom31 _)
     clear hr31 hC31 hroom31 hi031 hsz31 hc31
     have KY31 := a_ hy31
     have KA31 := a_ hA31
     clear hy31 hA31
     have KL31 := a_ (show (x2_1 : Int).toNat ≤ l1.length from by omega)
     replace q31 := eq_true q31
     go_wp2_with (first | (go_at_call 34; (with_reducible refine (pNan.calls _ _ y620 t624 _ ?side1 ?side2 A30.out).mono ?_); (case side1 => repeat (first | exact (by repeat (first | (with_reducible exact HR623.out) | (with_reducible refine Kd.C_alloc ?_ _) | (with_reducible refine Kd.C_drewN ?_ _) | (with_reducible refine Kd.C_drew ?_) | exact HR623.out)) | (with_reducible refine Kd.C_alloc ?_ _) | (with_reducible refine Kd.C_drewN ?_ _) | (with_reducible refine Kd.C_drew ?_))); (case side2 => exact HC623.out); rintro e w' ⟨rfl, ⟨nd, rfl⟩⟩))
     go_meet
     case rel => exact ⟨_, (t624), rl_, H', ⟨by have := HK1.out; first | omega | exact Nat.le_refl _⟩, ⟨rp_ HO_0⟩, ⟨kp_ HK⟩, ⟨bl_ HB⟩⟩
    rw [if_pos c20] at H
    have c20b0 : decide (48 ≤ (rd l1 x2_1)) = true := decide_eq_true c20
    clear c20
    (first | rw [c20b0] | (simp only [i64_w, i32_w]; rw [c20b0]) | skip)
    by_cases c21 : (rd l1 x2_1) ≤ 57
    ·
     rw [if_pos c21] at H
     have c21b0 : decide ((rd l1 x2_1) ≤ 57) = true := decide_eq_true c21
     clear c21
     have H' := a_ H
     clear H
     have p611 : 0 ≤ (x2_1 : Int) := of_decide_eq_true as_
     have q611 : x2_1 < (l1.length : Int) := of_decide_eq_true as_
     obtain ⟨ad611, e611, hx611_0⟩ := Kd.at_int (Kd.C_kept_now HR1.out HK.out) x2_1 p611 q611
     obtain rfl : ad603 = ad611 := (by injection e611)
     replace p611 := eq_true p611
     replace q611 := eq_true q611
     have p612 : 0 ≤ (x2_1 : Int) := of_decide_eq_true as_
     have q612 : x2_1 < (l1.length : Int) := of_decide_eq_true as_
     obtain ⟨ad612, e612, hx612_0⟩ := Kd.at_int (Kd.C_kept_now HR1.out HK.out) x2_1 p612 q612
     obtain rfl : ad603 = ad612 := (by injection e612)
     replace p612 := eq_true p612
     replace q612 := eq_true q612
     go_wp2
     go_meet
     case rel => exact ⟨_, (true), rl_, H', ⟨by have := HK1.out; first | omega | exact Nat.le_refl _⟩, ⟨rp_ HO_0⟩, ⟨kp_ HK⟩, ⟨bl_ HB⟩⟩
    rw [if_neg c21] at H
    have c21b0 : decide ((rd l1 x2_1) ≤ 57) = false := decide_eq_false c21
    clear c21
    by_cases c22 : (rd l1 x2_1) = 45
    ·
     rw [if_pos c22] at H
     have c22b0 : ((rd l1 x2_1) == 45) = true := beq_iff_eq.mpr c22
     have c22b1 : ((rd l1 x2_1) != 45) = false := bne_eq_false_iff_eq.mpr c22
     clear c22
     have H' := a_ H
     clear H
     have p611 : 0 ≤ (x2_1 : Int) := of_decide_eq_true as_
     have q611 : x2_1 < (l1.length : Int) := of_decide_eq_true as_
     obtain ⟨ad611, e611, hx611_0⟩ := Kd.at_int (Kd.C_kept_now HR1.out HK.out) x2_1 p611 q611
     obtain rfl : ad603 = ad611 := (by injection e611)
     replace p611 := eq_true p611
     replace q611 := eq_true q611
     have p612 : 0 ≤ (x2_1 : Int) := of_decide_eq_true as_
     have q612 : x2_1 < (l1.length : Int) := of_decide_eq_true as_
     obtain ⟨ad612, e612, hx612_0⟩ := Kd.at_int (Kd.C_kept_now HR1.out HK.out) x2_1 p612 q612
     obtain rfl : ad603 = ad612 := (by injection e612)
     replace p612 := eq_true p612
     replace q612 := eq_true q612
     have p613 : 0 ≤ (x2_1 : Int) := of_decide_eq_true as_
     have q613 : x2_1 < (l1.length : Int) := of_decide_eq_true as_
     obtain ⟨ad613, e613, hx613_0⟩ := Kd.at_int (Kd.C_kept_now HR1.out HK.out) x2_1 p613 q613
     obtain rfl : ad603 = ad613 := (by injection e613)
     replace p613 := eq_true p613
     replace q613 := eq_true q613
     go_wp2
     go_meet
     case rel => exact ⟨_, (true), rl_, H', ⟨by have := HK1.out; first | omega | exact Nat.le_refl _⟩, ⟨rp_ HO_0⟩, ⟨kp_ HK⟩, ⟨bl_ HB⟩⟩
    rw [if_neg c22] at H
    have c22b0 : ((rd l1 x2_1) == 45) = false := beq_eq_false_iff_ne.mpr c22
    have c22b1 : ((rd l1 x2_1) != 45) = true := bne_iff_ne.mpr c22
    have c23b0 := eq_true (of_decide_eq_true as_ : 0 ≤ x2_1)
    by_cases c24 : x2_1 ≤ (l1.length : Int)
    rotate_left
    ·
     rw [if_neg c24] at H
     exact absurd H (by simp)
    rw [if_pos c24] at H
    have c24b0 := eq_true c24
    have c24b1 : decide (x2_1 ≤ (l1.length : Int)) = true := decide_eq_true c24
    clear c24
    obtain ⟨y614, hy614⟩ : ∃ y_ : List Int, y_ = (l1.drop (x2_1 : Int).toNat) := ⟨_, rfl⟩
    replace H : ((pNan.f y614).bind fun t618 => (pAn.j1 k1 l0 l1 x2_1 a3 a4 a5 a6 a7 a8 a9 a10 t618)) = some (r1, r2, r3, r4) := by first | exact lt_ H hy614 | (rw [hy614]; exact H) | exact H
    have Ny614 := a_ hy614
    clear hy614
    replace H := Option.bind_eq_some_iff.mp H
    obtain ⟨t618, A250, H⟩ := H
    replace H : (pAn.j1 k1 l0 l1 x2_1 a3 a4 a5 a6 a7 a8 a9 a10 t618) = some (r1, r2, r3, r4) := H
    have A25 := a_ A250
    clear A250
    have H' := a_ H
    clear H
    have p611 : 0 ≤ (x2_1 : Int) := of_decide_eq_true as_
    have q611 : x2_1 < (l1.length : Int) := of_decide_eq_true as_
    obtain ⟨ad611, e611, hx611_0⟩ := Kd.at_int (Kd.C_kept_now HR1.out HK.out) x2_1 p611 q611
    obtain rfl : ad603 = ad611 := (by injection e611)
    replace p611 := eq_true p611
    replace q611 := eq_true q611
    have p612 : 0 ≤ (x2_1 : Int) := of_decide_eq_true as_
    have q612 : x2_1 < (l1.length : Int) := of_decide_eq_true as_
    obtain ⟨ad612, e612, hx612_0⟩ := Kd.at_int (Kd.C_kept_now HR1.out HK.out) x2_1 p612 q612
    obtain rfl : ad603 = ad612 := (by injection e612)
    replace p612 := eq_true p612
    replace q612 := eq_true q612
    have p613 : 0 ≤ (x2_1 : Int) := of_decide_eq_true as_
    have q613 : x2_1 < (l1.length : Int) := of_decide_eq_true as_
    obtain ⟨ad613, e613, hx613_0⟩ := Kd.at_int (Kd.C_kept_now HR1.out HK.out) x2_1 p613 q613
    obtain rfl : ad603 = ad613 := (by injection e613)
    replace p613 := eq_true p613
    replace q613 := eq_true q613
    have q26 : (x2_1 : Int) ≤ ((l1.length : Int) : Int) := of_decide_eq_true as_
    obtain ⟨i026, hi026, _, hsz26, _⟩ := info_parts info5
    have hroom26 : l1.length ≤ c1 := HC1.out
    have hC26 : Kd.C (Kd.int .u8) _ (some ad603) l1.length l1 := (Kd.C_kept_now HR1.out HK.out)
    have q026 : (0 : Int) ≤ (x2_1 : Int) := of_decide_eq_true as_
    have hcut26 := cut_from (P := Try.prog) 40 5 .i64 Try.underlying40 hi026 1 hsz26 (some ad603) l1.length c1 x2_1 q026 q26
    have hr26 := Kd.C_drop (m := (x2_1 : Int).toNat) (c := c1) hC26 (by omega) hroom26
    obtain ⟨A26, hA26⟩ : ∃ A1_, A1_ = (if c1 = (x2_1 : Int).toNat then (some ad603) else ((some ad603) : Option Addr).map (·.add ((x2_1 : Int).toNat * 1))) := ⟨_, rfl⟩
    obtain ⟨c26, hc26⟩ : ∃ c1_, c1_ = c1 - (x2_1 : Int).toNat := ⟨_, rfl⟩
    have hy26 : y614.length = l1.length - (x2_1 : Int).toNat := (by rw [Ny614.out, List.length_drop] <;> omega)
    rw [show (l1).drop (x2_1 : Int).toNat = y614 from Ny614.out.symm] at hr26
    replace hr26 : Kd.C (Kd.int .u8) _ A26 y614.length y614 := (by rw [hA26]; exact hr26)
    rw [← hy26, ← hA26, ← hc26] at hcut26
    have HR617 := a_ hr26
    have HC617 := a_ (show y614.length ≤ c26 from by rw [hy26, hc26]; exact Nat.sub_le_sub_right hroom26 _)
    clear hr26 hC26 hroom26 hi026 hsz26 hc26
    have KY26 := a_ hy26
    have KA26 := a_ hA26
    clear hy26 hA26
    have KL26 := a_ (show (x2_1 : Int).toNat ≤ l1.length from by omega)
    replace q26 := eq_true q26
    go_wp2_with (first | (go_at_call 34; (with_reducible refine (pNan.calls _ _ y614 t618 _ ?side1 ?side2 A25.out).mono ?_); (case side1 => repeat (first | exact (by repeat (first | (with_reducible exact HR617.out) | (with_reducible refine Kd.C_alloc ?_ _) | (with_reducible refine Kd.C_drewN ?_ _) | (with_reducible refine Kd.C_drew ?_) | exact HR617.out)) | (with_reducible refine Kd.C_alloc ?_ _) | (with_reducible refine Kd.C_drewN ?_ _) | (with_reducible refine Kd.C_drew ?_))); (case side2 => exact HC617.out); rintro e w' ⟨rfl, ⟨nd, rfl⟩⟩))
    go_meet
    case rel => exact ⟨_, (t618), rl_, H', ⟨by have := HK1.out; first | omega | exact Nat.le_refl _⟩, ⟨rp_ HO_0⟩, ⟨kp_ HK⟩, ⟨bl_ HB⟩⟩
   clear HC19
   (try clear c1); (try clear c2); (try clear p2); (try clear q2); (try clear c3); (try clear q3); (try clear p6); (try clear q6); (try clear hx6); (try clear c12); (try clear c12b0); (try clear c13); (try clear c13b0); (try clear c14); (try clear c14b0); (try clear c15); (try clear c15b0); (try clear c15b1); (try clear c20); (try clear c20b0); (try clear c21); (try clear c21b0); (try clear c22); (try clear c22b0); (try clear c22b1); (try clear c23); (try clear c23b0); (try clear c24); (try clear c24b0); (try clear c24b1); (try clear c25); (try clear c26); (try clear q26); (try clear c27); (try clear c27b0); (try clear c27b1); (try clear c28); (try clear c28b0); (try clear c29); (try clear c29b0); (try clear c29b1); (try clear c31); (try clear q31); (try clear hx603_0); (try clear hx604_0); (try clear hx611_0); (try clear hx612_0); (try clear hx613_0); (try clear hx619_0); (try clear p2); (try clear p603); (try clear p604); (try clear p611); (try clear p612); (try clear p613); (try clear p619); (try clear q026); (try clear q031); (try clear q26); (try clear q31); (try clear q603); (try clear q604); (try clear q611); (try clear q612); (try clear q613); (try clear q619)
   obtain ⟨kq, x75_18, rfl, HA, HJ18, HO_0, HK, HB⟩ := hcut
   cases kq with
   | zero => exact absurd HA.out (by simp [pAn.j1])
   | succ kj18 =>
    have H := HA.out
    clear HA
    simp only [pAn.j1] at H
    by_cases c32 : x75_18 = true
    ·
     subst c32
     rw [if_pos (by trivial)] at H
     replace H := Option.bind_eq_some_iff.mp H
     obtain ⟨⟨t625, t628, t629, t630⟩, A330, H⟩ := H
     replace H : (some (t625, t628, t629, t630)) = some (r1, r2, r3, r4) := H
     have A33 := a_ A330
     clear A330
     simp only [Option.some.injEq, Prod.mk.injEq] at H
     obtain ⟨rfl, rfl, rfl, rfl⟩ := H
     obtain ⟨Ao34, co34, eo34⟩ := Kd.R_slice HO_0.out
     subst eo34
     go_wp2_with (first | ((with_reducible refine gate_callee (f := 35) rfl ?_); refine goesL_ (some 80) rfl rfl Try.func35 (by kernel_rfl) rfl #[.slice Ao34 l0.length co34, .slice (some ad603) l1.length c1, .int .i64 x2_1, .int .i64 a9] rfl ar_ ?_; (with_reducible refine (pNu.calls kj18 (fun k_ => some k_ = (.slice Ao34 l0.length co34 : Value).ownBlock) (.slice Ao34 l0.length co34) l0 _ _ l1 x2_1 a9 t625 t628 t629 t630 w0 _ ?side1 ?side2 ?side3 ?side4 A33.out).mono ?_); (case side1 => exact bl_ HB); (case side2 => exact Kd.R_tight rfl HO_0.out); (case side3 => exact Kd.C_kept_call HR1.out (kp_ HK) (fun k_ hs_ => (fun e_ => (HO_0.out.1 k_ e_.symm)) hs_)); (case side4 => exact HC1.out); rintro e w35 ⟨v626, rfl, ho0, hb, hkp⟩; refine ⟨_, rfl, ?_⟩; have HO627 := a_ (Kd.R_mono (ok' := fun k_ => (P0_ k_ ∨ w.heap.size ≤ k_)) ho0 (fun k_ hk_ => Or.elim hk_ (fun hs_ => (HO_0.out.1 k_ (hs_).symm)) (fun hn_ => (.inr (Nat.le_trans (kz_ HK) hn_))))); replace HK := a_ (Kept.then_ (S := (fun k_ => P0_ k_)) (kp_ HK) hkp (fun k_ hs_ => (fun e_ => (HO_0.out.1 k_ e_.symm)) hs_)); replace HB := a_ hb; clear HO_0; (try clear hb); (try clear hkp); (try clear ho0)))
     refine bodyPost_ret (results_list (rs := [.tmp 22, .tmp 23, .tmp 24, .tmp 25]) rfl (by simp) (.tmp (.tmp (.tmp (.tmp .nil))))) rfl ?_
     exact ⟨_, by first | rfl | (simp [errW_none, errW_some] <;> rfl) | (simp [*, errW_none, errW_some] <;> rfl), rp_ HO627, bl_ HB, kp_ HK⟩
    replace c32 := Bool.eq_false_iff.mpr c32
    subst c32
    rw [if_neg (show ¬ (false = true) by decide)] at H
    by_cases c36 : 0 ≤ x2_1
    rotate_left
    ·
     rw [if_neg c36] at H
     exact absurd H (by simp)
    rw [if_pos c36] at H
    have c36b0 : decide (0 ≤ x2_1) = true := decide_eq_true c36
    clear c36
    by_cases c37 : x2_1 < (l1.length : Int)
    rotate_left
    ·
     rw [if_neg c37] at H
     exact absurd H (by simp)
    rw [if_pos c37] at H
    have c37b0 : decide (x2_1 < (l1.length : Int)) = true := decide_eq_true c37
    clear c37
    by_cases c38 : (rd l1 x2_1) = 123
    ·
     rw [if_pos c38] at H
     have c38b0 : ((rd l1 x2_1) == 123) = true := beq_iff_eq.mpr c38
     have c38b1 : ((rd l1 x2_1) != 123) = false := bne_eq_false_iff_eq.mpr c38
     clear c38
     replace H := Option.bind_eq_some_iff.mp H
     obtain ⟨⟨t632, t635, t636, t637⟩, A390, H⟩ := H
     replace H : (some (t632, t635, t636, t637)) = some (r1, r2, r3, r4) := H
     have A39 := a_ A390
     clear A390
     simp only [Option.some.injEq, Prod.mk.injEq] at H
     obtain ⟨rfl, rfl, rfl, rfl⟩ := H
     have p631 : 0 ≤ (x2_1 : Int) := of_decide_eq_true as_
     have q631 : x2_1 < (l1.length : Int) := of_decide_eq_true as_
     obtain ⟨ad631, e631, hx631_0⟩ := Kd.at_int (Kd.C_kept_now HR1.out HK.out) x2_1 p631 q631
     obtain rfl : ad603 = ad631 := (by injection e631)
     replace p631 := eq_true p631
     replace q631 := eq_true q631
     obtain ⟨Ao40, co40, eo40⟩ := Kd.R_slice HO_0.out
     subst eo40
     go_wp2_with (first | ((with_reducible refine gate_callee (f := 36) rfl ?_); refine goesL_ (some 101) rfl rfl Try.func36 (by kernel_rfl) rfl #[.slice Ao40 l0.length co40, .slice (some ad603) l1.length c1, .int .i64 x2_1, .int .u8 123, .int .u8 125, .bool a3, .int .i64 a4, .string a5, .string a6, .bool a7, .int .i64 a8, .int .i64 a9, .int .i64 a10] rfl ar_ ?_; (with_reducible refine (ih36 kj18 (by have := HK1.out; have := HJ18.out; omega) (fun k_ => some k_ = (.slice Ao40 l0.length co40 : Value).ownBlock) (.slice Ao40 l0.length co40) l0 _ _ l1 x2_1 123 125 a3 a4 a5 a6 a7 a8 a9 a10 t632 t635 t636 t637 w0 _ ?side1 ?side2 ?side3 ?side4 A39.out).mono ?_); (case side1 => exact bl_ HB); (case side2 => exact Kd.R_tight rfl HO_0.out); (case side3 => exact Kd.C_kept_call HR1.out (kp_ HK) (fun k_ hs_ => (fun e_ => (HO_0.out.1 k_ e_.symm)) hs_)); (case side4 => exact HC1.out); rintro e w41 ⟨v633, rfl, ho0, hb, hkp⟩; refine ⟨_, rfl, ?_⟩; have HO634 := a_ (Kd.R_mono (ok' := fun k_ => (P0_ k_ ∨ w.heap.size ≤ k_)) ho0 (fun k_ hk_ => Or.elim hk_ (fun hs_ => (HO_0.out.1 k_ (hs_).symm)) (fun hn_ => (.inr (Nat.le_trans (kz_ HK) hn_))))); replace HK := a_ (Kept.then_ (S := (fun k_ => P0_ k_)) (kp_ HK) hkp (fun k_ hs_ => (fun e_ => (HO_0.out.1 k_ e_.symm)) hs_)); replace HB := a_ hb; clear HO_0; (try clear hb); (try clear hkp); (try clear ho0)))
     refine bodyPost_ret (results_list (rs := [.tmp 22, .tmp 23, .tmp 24, .tmp 25]) rfl (by simp) (.tmp (.tmp (.tmp (.tmp .nil))))) rfl ?_
     exact ⟨_, by first | rfl | (simp [errW_none, errW_some] <;> rfl) | (simp [*, errW_none, errW_some] <;> rfl), rp_ HO634, bl_ HB, kp_ HK⟩
    rw [if_neg c38] at H
    have c38b0 : ((rd l1 x2_1) == 123) = false := beq_eq_false_iff_ne.mpr c38
    have c38b1 : ((rd l1 x2_1) != 123) = true := bne_iff_ne.mpr c38
    by_cases c42 : (rd l1 x2_1) = 91
    ·
     rw [if_pos c42] at H
     have c42b0 : ((rd l1 x2_1) == 91) = true := beq_iff_eq.mpr c42
     have c42b1 : ((rd l1 x2_1) != 91) = false := bne_eq_false_iff_eq.mpr c42
     clear c42
     replace H := Option.bind_eq_some_iff.mp H
     obtain ⟨⟨t639, t642, t643, t644⟩, A430, H⟩ := H
     replace H : (some (t639, t642, t643, t644)) = some (r1, r2, r3, r4) := H
     have A43 := a_ A430
     clear A430
     simp only [Option.some.injEq, Prod.mk.injEq] at H
     obtain ⟨rfl, rfl, rfl, rfl⟩ := H
     have p631 : 0 ≤ (x2_1 : Int) := of_decide_eq_true as_
     have q631 : x2_1 < (l1.length : Int) := of_decide_eq_true as_
     obtain ⟨ad631, e631, hx631_0⟩ := Kd.at_int (Kd.C_kept_now HR1.out HK.out) x2_1 p631 q631
     obtain rfl : ad603 = ad631 := (by injection e631)
     replace p631 := eq_true p631
     replace q631 := eq_true q631
     have p638 : 0 ≤ (x2_1 : Int) := of_decide_eq_true as_
     have q638 : x2_1 < (l1.length : Int) := of_decide_eq_true as_
     obtain ⟨ad638, e638, hx638_0⟩ := Kd.at_int (Kd.C_kept_now HR1.out HK.out) x2_1 p638 q638
     obtain rfl : ad603 = ad638 := (by injection e638)
     replace p638 := eq_true p638
     replace q638 := eq_true q638
     obtain ⟨Ao44, co44, eo44⟩ := Kd.R_slice HO_0.out
     subst eo44
     go_wp2_with (first | ((with_reducible refine gate_callee (f := 36) rfl ?_); refine goesL_ (some 122) rfl rfl Try.func36 (by kernel_rfl) rfl #[.slice Ao44 l0.length co44, .slice (some ad603) l1.length c1, .int .i64 x2_1, .int .u8 91, .int .u8 93, .bool a3, .int .i64 a4, .string a5, .string a6, .bool a7, .int .i64 a8, .int .i64 a9, .int .i64 a10] rfl ar_ ?_; (with_reducible refine (ih36 kj18 (by have := HK1.out; have := HJ18.out; omega) (fun k_ => some k_ = (.slice Ao44 l0.length co44 : Value).ownBlock) (.slice Ao44 l0.length co44) l0 _ _ l1 x2_1 91 93 a3 a4 a5 a6 a7 a8 a9 a10 t639 t642 t643 t644 w0 _ ?side1 ?side2 ?side3 ?side4 A43.out).mono ?_); (case side1 => exact bl_ HB); (case side2 => exact Kd.R_tight rfl HO_0.out); (case side3 => exact Kd.C_kept_call HR1.out (kp_ HK) (fun k_ hs_ => (fun e_ => (HO_0.out.1 k_ e_.symm)) hs_)); (case side4 => exact HC1.out); rintro e w45 ⟨v640, rfl, ho0, hb, hkp⟩; refine ⟨_, rfl, ?_⟩; have HO641 := a_ (Kd.R_mono (ok' := fun k_ => (P0_ k_ ∨ w.heap.size ≤ k_)) ho0 (fun k_ hk_ => Or.elim hk_ (fun hs_ => (HO_0.out.1 k_ (hs_).symm)) (fun hn_ => (.inr (Nat.le_trans (kz_ HK) hn_))))); replace HK := a_ (Kept.then_ (S := (fun k_ => P0_ k_)) (kp_ HK) hkp (fun k_ hs_ => (fun e_ => (HO_0.out.1 k_ e_.symm)) hs_)); replace HB := a_ hb; clear HO_0; (try clear hb); (try clear hkp); (try clear ho0)))
     refine bodyPost_ret (results_list (rs := [.tmp 22, .tmp 23, .tmp 24, .tmp 25]) rfl (by simp) (.tmp (.tmp (.tmp (.tmp .nil))))) rfl ?_
     exact ⟨_, by first | rfl | (simp [errW_none, errW_some] <;> rfl) | (simp [*, errW_none, errW_some] <;> rfl), rp_ HO641, bl_ HB, kp_ HK⟩
    rw [if_neg c42] at H
    have c42b0 : ((rd l1 x2_1) == 91) = false := beq_eq_false_iff_ne.mpr c42
    have c42b1 : ((rd l1 x2_1) != 91) = true := bne_iff_ne.mpr c42
    by_cases c46 : (rd l1 x2_1) = 116
    ·
     rw [if_pos c46] at H
     have c46b0 : ((rd l1 x2_1) == 116) = true := beq_iff_eq.mpr c46
     have c46b1 : ((rd l1 x2_1) != 116) = false := bne_eq_false_iff_eq.mpr c46
     clear c46
     obtain ⟨y646, hy646⟩ : ∃ y_ : List Int, y_ = (([116, 114, 117, 101] : List Int)) := ⟨_, rfl⟩
     replace H := lt_ H hy646
     have Ny646 := a_ hy646
     clear hy646
     by_cases c47 : l0.length + y646.length < 140737488355328
     rotate_left
     ·
      rw [if_neg c47] at H
      exact absurd H (by simp)
     rw [if_pos c47] at H
     have LMc47 := a_ c47
     clear c47
     obtain ⟨y649, hy649⟩ : ∃ y_ : List Int, y_ = (l0 ++ y646) := ⟨_, rfl⟩
     replace H : (some (y649, wrap64 (x2_1 + 4), a9, true)) = some (r1, r2, r3, r4) := by first | exact lt_ H hy649 | (rw [hy649]; exact H) | exact H
     have Ny649 := a_ hy649
     clear hy649
     simp only [Option.some.injEq, Prod.mk.injEq] at H
     obtain ⟨rfl, rfl, rfl, rfl⟩ := H
     have p631 : 0 ≤ (x2_1 : Int) := of_decide_eq_true as_
     have q631 : x2_1 < (l1.length : Int) := of_decide_eq_true as_
     obtain ⟨ad631, e631, hx631_0⟩ := Kd.at_int (Kd.C_kept_now HR1.out HK.out) x2_1 p631 q631
     obtain rfl : ad603 = ad631 := (by injection e631)
     replace p631 := eq_true p631
     replace q631 := eq_true q631
     have p638 : 0 ≤ (x2_1 : Int) := of_decide_eq_true as_
     have q638 : x2_1 < (l1.length : Int) := of_decide_eq_true as_
     obtain ⟨ad638, e638, hx638_0⟩ := Kd.at_int (Kd.C_kept_now HR1.out HK.out) x2_1 p638 q638
     obtain rfl : ad603 = ad638 := (by injection e638)
     replace p638 := eq_true p638
     replace q638 := eq_true q638
     have p645 : 0 ≤ (x2_1 : Int) := of_decide_eq_true as_
     have q645 : x2_1 < (l1.length : Int) := of_decide_eq_true as_
     obtain ⟨ad645, e645, hx645_0⟩ := Kd.at_int (Kd.C_kept_now HR1.out HK.out) x2_1 p645 q645
     obtain rfl : ad603 = ad645 := (by injection e645)
     replace p645 := eq_true p645
     replace q645 := eq_true q645
     go_wp2_with (first | ((with_reducible refine gate_dst (N := 134) rfl ?_); refine Kd.R_lit (Kd.int .u8) _ 5 ?hg (N := 134) ?hd (xs := ([116, 114, 117, 101] : List Int)) (inner := [.int .u8 116, .int .u8 114, .int .u8 117, .int .u8 101]) (ok := fun _ => True) (okp := fun _ => True) ?hr ?hp (fun _ hk => hk) trivial (Below.refl _ _) (Nat.le_refl _) (by simp) ?_; (case hd => rfl); (case hg => rfl); (case hr => first | (go_simp; done) | (go_simp; rfl)); (case hp => exact (Reps.one (show Kd.M (Kd.int .u8) _ _ _ 116 [.int .u8 116] from rfl) (Reps.one (show Kd.M (Kd.int .u8) _ _ _ 114 [.int .u8 114] from rfl) (Reps.one (show Kd.M (Kd.int .u8) _ _ _ 117 [.int .u8 117] from rfl) (Reps.one (show Kd.M (Kd.int .u8) _ _ _ 101 [.int .u8 101] from rfl) (Reps.none _ _)))))); intro v647 w48 ho49 hb hg_ hnew_; clear hg_ hnew_; (first | rw [← Ny646.out] at ho49 | (simp only [Int.reduceToNat] at ho49; rw [← Ny646.out] at ho49)); have HO648 := a_ (Kd.R_lower (Kd.R_new' (Kd.R_newM (M := fun k_ => (P0_ k_ ∨ w.heap.size ≤ k_)) ho49 (kz_ HK) (fun k_ h_ => .inr h_)) (Kd.R_lt (rp_ HO_0))) (below_size (bl_ HB))); replace HO_0 := a_ (Kd.R_elder' (rp_ HO_0) (Kd.R_base ho49) hb); replace HK := a_ (Kept.below (S := (fun k_ => P0_ k_)) (kp_ HK) hb); replace HB := a_ (below_step (bl_ HB) hb); clear hb ho49; obtain ⟨Ao51, co51, eo51⟩ := Kd.R_slice HO648.out; subst eo51) | ((with_reducible refine gate_builtin (b := .append) (xs := #[.tmp 133, .tmp 134]) rfl ?_); at_builtin; refine Kd.R_append_rows (Kd.int .u8) (w0 := w0) w0.heap.size rfl (.tmp 133) (.tmp 134) 40 5 (.int .u8 0) 1 rfl Try.underlying40 info5 rfl (by decide) (by omega) u9000_ l0 y646 _ _ _ (fun k_ => (P0_ k_ ∨ w.heap.size ≤ k_) ∧ some k_ ≠ (.slice Ao51 y646.length co51 : Value).ownBlock) (fun _ => False) rfl rfl ?aO ?aR (fun _ _ h => h) (fun _ h => h.elim) ?aF ?aB ?aS ?aL ?_; (case aR => repeat (first | exact (Kd.R_reads' HO648.out).2.2 | (with_reducible refine Kd.C_alloc ?_ _) | (with_reducible refine Kd.C_drewN ?_ _) | (with_reducible refine Kd.C_drew ?_))); (case aB => exact (bl_ HB)); (case aF => exact (fun k_ hk => ⟨(.inr (Nat.le_trans (kz_ HK) hk)), Kd.fresh' (Kd.R_lt (rp_ HO648)) k_ hk⟩)); (case aO => exact (rp_ HO_0)); (case aS => exact (below_size (bl_ HB))); (case aL => have := LMc47.out; omega); intro v650 w50 ho hb hg hat; rw [← Ny649.out] at ho; replace HO648 := a_ (Kd.R_after (ok := (fun k_ => (P0_ k_ ∨ w.heap.size ≤ k_))) (by (with_reducible repeat (first | apply Kd.R_alloc | apply Kd.R_drewN | apply Kd.R_drew)); exact Kd.R_mono HO648.out (fun _ hk => ⟨hk.1.1, hk.2⟩)) hg hat); replace HB := a_ hb; replace HK := a_ (Kept.of_grown (S := (fun k_ => P0_ k_)) hg (kp_ HK) (fun k_ e_ => (HO_0.out.1 k_ e_).1)); have HO651 := a_ ho; clear HO_0; clear ho hb hg hat))
     refine bodyPost_ret (results_list (rs := [.tmp 22, .tmp 23, .tmp 24, .tmp 25]) rfl (by simp) (.tmp (.tmp (.tmp (.tmp .nil))))) rfl ?_
     exact ⟨_, by first | rfl | (simp [errW_none, errW_some] <;> rfl) | (simp [*, errW_none, errW_some] <;> rfl), by (with_reducible repeat (first | apply Kd.R_alloc | apply Kd.R_drewN | apply Kd.R_drew)); exact Kd.R_mono HO651.out (fun _ hk => hk.1), bl_ HB, kp_ HK⟩
    rw [if_neg c46] at H
    have c46b0 : ((rd l1 x2_1) == 116) = false := beq_eq_false_iff_ne.mpr c46
    have c46b1 : ((rd l1 x2_1) != 116) = true := bne_iff_ne.mpr c46
    by_cases c52 : (rd l1 x2_1) = 102
    ·
     rw [if_pos c52] at H
     have c52b0 : ((rd l1 x2_1) == 102) = true := beq_iff_eq.mpr c52
     have c52b1 : ((rd l1 x2_1) != 102) = false := bne_eq_false_iff_eq.mpr c52
     clear c52
     obtain ⟨y652, hy652⟩ : ∃ y_ : List Int, y_ = (([102, 97, 108, 115, 101] : List Int)) := ⟨_, rfl⟩
     replace H := lt_ H hy652
     have Ny652 := a_ hy652
     clear hy652
     by_cases c53 : l0.length + y652.length < 140737488355328
     rotate_left
     ·
      rw [if_neg c53] at H
      exact absurd H (by simp)
     rw [if_pos c53] at H
     have LMc53 := a_ c53
     clear c53
     obtain ⟨y655, hy655⟩ : ∃ y_ : List Int, y_ = (l0 ++ y652) := ⟨_, rfl⟩
     replace H : (some (y655, wrap64 (x2_1 + 5), a9, true)) = some (r1, r2, r3, r4) := by first | exact lt_ H hy655 | (rw [hy655]; exact H) | exact H
     have Ny655 := a_ hy655
     clear hy655
     simp only [Option.some.injEq, Prod.mk.injEq] at H
     obtain ⟨rfl, rfl, rfl, rfl⟩ := H
     have p631 : 0 ≤ (x2_1 : Int) := of_decide_eq_true as_
     have q631 : x2_1 < (l1.length : Int) := of_decide_eq_true as_
     obtain ⟨ad631, e631, hx631_0⟩ := Kd.at_int (Kd.C_kept_now HR1.out HK.out) x2_1 p631 q631
     obtain rfl : ad603 = ad631 := (by injection e631)
     replace p631 := eq_true p631
     replace q631 := eq_true q631
     have p638 : 0 ≤ (x2_1 : Int) := of_decide_eq_true as_
     have q638 : x2_1 < (l1.length : Int) := of_decide_eq_true as_
     obtain ⟨ad638, e638, hx638_0⟩ := Kd.at_int (Kd.C_kept_now HR1.out HK.out) x2_1 p638 q638
     obtain rfl : ad603 = ad638 := (by injection e638)
     replace p638 := eq_true p638
     replace q638 := eq_true q638
     have p645 : 0 ≤ (x2_1 : Int) := of_decide_eq_true as_
     have q645 : x2_1 < (l1.length : Int) := of_decide_eq_true as_
     obtain ⟨ad645, e645, hx645_0⟩ := Kd.at_int (Kd.C_kept_now HR1.out HK.out) x2_1 p645 q645
     obtain rfl : ad603 = ad645 := (by injection e645)
     replace p645 := eq_true p645
     replace q645 := eq_true q645
     go_wp2_with (first | ((with_reducible refine gate_dst (N := 142) rfl ?_); refine Kd.R_lit (Kd.int .u8) _ 5 ?hg (N := 142) ?hd (xs := ([102, 97, 108, 115, 101] : List Int)) (inner := [.int .u8 102, .int .u8 97, .int .u8 108, .int .u8 115, .int .u8 101]) (ok := fun _ => True) (okp := fun _ => True) ?hr ?hp (fun _ hk => hk) trivial (Below.refl _ _) (Nat.le_refl _) (by simp) ?_; (case hd => rfl); (case hg => rfl); (case hr => first | (go_simp; done) | (go_simp; rfl)); (case hp => exact (Reps.one (show Kd.M (Kd.int .u8) _ _ _ 102 [.int .u8 102] from rfl) (Reps.one (show Kd.M (Kd.int .u8) _ _ _ 97 [.int .u8 97] from rfl) (Reps.one (show Kd.M (Kd.int .u8) _ _ _ 108 [.int .u8 108] from rfl) (Reps.one (show Kd.M (Kd.int .u8) _ _ _ 115 [.int .u8 115] from rfl) (Reps.one (show Kd.M (Kd.int .u8) _ _ _ 101 [.int .u8 101] from rfl) (Reps.none _ _))))))); intro v653 w54 ho55 hb hg_ hnew_; clear hg_ hnew_; (first | rw [← Ny652.out] at ho55 | (simp only [Int.reduceToNat] at ho55; rw [← Ny652.out] at ho55)); have HO654 := a_ (Kd.R_lower (Kd.R_new' (Kd.R_newM (M := fun k_ => (P0_ k_ ∨ w.heap.size ≤ k_)) ho55 (kz_ HK) (fun k_ h_ => .inr h_)) (Kd.R_lt (rp_ HO_0))) (below_size (bl_ HB))); replace HO_0 := a_ (Kd.R_elder' (rp_ HO_0) (Kd.R_base ho55) hb); replace HK := a_ (Kept.below (S := (fun k_ => P0_ k_)) (kp_ HK) hb); replace HB := a_ (below_step (bl_ HB) hb); clear hb ho55; obtain ⟨Ao57, co57, eo57⟩ := Kd.R_slice HO654.out; subst eo57) | ((with_reducible refine gate_builtin (b := .append) (xs := #[.tmp 141, .tmp 142]) rfl ?_); at_builtin; refine Kd.R_append_rows (Kd.int .u8) (w0 := w0) w0.heap.size rfl (.tmp 141) (.tmp 142) 40 5 (.int .u8 0) 1 rfl Try.underlying40 info5 rfl (by decide) (by omega) u9000_ l0 y652 _ _ _ (fun k_ => (P0_ k_ ∨ w.heap.size ≤ k_) ∧ some k_ ≠ (.slice Ao57 y652.length co57 : Value).ownBlock) (fun _ => False) rfl rfl ?aO ?aR (fun _ _ h => h) (fun _ h => h.elim) ?aF ?aB ?aS ?aL ?_; (case aR => repeat (first | exact (Kd.R_reads' HO654.out).2.2 | (with_reducible refine Kd.C_alloc ?_ _) | (with_reducible refine Kd.C_drewN ?_ _) | (with_reducible refine Kd.C_drew ?_))); (case aB => exact (bl_ HB)); (case aF => exact (fun k_ hk => ⟨(.inr (Nat.le_trans (kz_ HK) hk)), Kd.fresh' (Kd.R_lt (rp_ HO654)) k_ hk⟩)); (case aO => exact (rp_ HO_0)); (case aS => exact (below_size (bl_ HB))); (case aL => have := LMc53.out; omega); intro v656 w56 ho hb hg hat; rw [← Ny655.out] at ho; replace HO654 := a_ (Kd.R_after (ok := (fun k_ => (P0_ k_ ∨ w.heap.size ≤ k_))) (by (with_reducible repeat (first | apply Kd.R_alloc | apply Kd.R_drewN | apply Kd.R_drew)); exact Kd.R_mono HO654.out (fun _ hk => ⟨hk.1.1, hk.2⟩)) hg hat); replace HB := a_ hb; replace HK := a_ (Kept.of_grown (S := (fun k_ => P0_ k_)) hg (kp_ HK) (fun k_ e_ => (HO_0.out.1 k_ e_).1)); have HO657 := a_ ho; clear HO_0; clear ho hb hg hat))
     refine bodyPost_ret (results_list (rs := [.tmp 22, .tmp 23, .tmp 24, .tmp 25]) rfl (by simp) (.tmp (.tmp (.tmp (.tmp .nil))))) rfl ?_
     exact ⟨_, by first | rfl | (simp [errW_none, errW_some] <;> rfl) | (simp [*, errW_none, errW_some] <;> rfl), by (with_reducible repeat (first | apply Kd.R_alloc | apply Kd.R_drewN | apply Kd.R_drew)); exact Kd.R_mono HO657.out (fun _ hk => hk.1), bl_ HB, kp_ HK⟩
    rw [if_neg c52] at H
    have c52b0 : ((rd l1 x2_1) == 102) = false := beq_eq_false_iff_ne.mpr c52
    have c52b1 : ((rd l1 x2_1) != 102) = true := bne_iff_ne.mpr c52
    by_cases c58 : (rd l1 x2_1) = 110
    rotate_left
    ·
     rw [if_neg c58] at H
     have c58b0 : ((rd l1 x2_1) == 110) = false := beq_eq_false_iff_ne.mpr c58
     have c58b1 : ((rd l1 x2_1) != 110) = true := bne_iff_ne.mpr c58
     have H' := a_ H
     clear H
     have p631 : 0 ≤ (x2_1 : Int) := of_decide_eq_true as_
     have q631 : x2_1 < (l1.length : Int) := of_decide_eq_true as_
     obtain ⟨ad631, e631, hx631_0⟩ := Kd.at_int (Kd.C_kept_now HR1.out HK.out) x2_1 p631 q631
     obtain rfl : ad603 = ad631 := (by injection e631)
     replace p631 := eq_true p631
     replace q631 := eq_true q631
     have p638 : 0 ≤ (x2_1 : Int) := of_decide_eq_true as_
     have q638 : x2_1 < (l1.length : Int) := of_decide_eq_true as_
     obtain ⟨ad638, e638, hx638_0⟩ := Kd.at_int (Kd.C_kept_now HR1.out HK.out) x2_1 p638 q638
     obtain rfl : ad603 = ad638 := (by injection e638)
     replace p638 := eq_true p638
     replace q638 := eq_true q638
     have p645 : 0 ≤ (x2_1 : Int) := of_decide_eq_true as_
     have q645 : x2_1 < (l1.length : Int) := of_decide_eq_true as_
     obtain ⟨ad645, e645, hx645_0⟩ := Kd.at_int (Kd.C_kept_now HR1.out HK.out) x2_1 p645 q645
     obtain rfl : ad603 = ad645 := (by injection e645)
     replace p645 := eq_true p645
     replace q645 := eq_true q645
     go_wp2
     go_roundg kj18
     case measure => have := HK1.out; have := HJ18.out; omega
     case rel => exact ⟨(wrap64 (x2_1 + 1)), rl_, H', ⟨by have := HK1.out; have := HJ18.out; omega⟩, ⟨rp_ HO_0⟩, ⟨kp_ HK⟩, ⟨bl_ HB⟩⟩
    rw [if_pos c58] at H
    have c58b0 : ((rd l1 x2_1) == 110) = true := beq_iff_eq.mpr c58
    have c58b1 : ((rd l1 x2_1) != 110) = false := bne_eq_false_iff_eq.mpr c58
    clear c58
    obtain ⟨y658, hy658⟩ : ∃ y_ : List Int, y_ = (([110, 117, 108, 108] : List Int)) := ⟨_, rfl⟩
    replace H := lt_ H hy658
    have Ny658 := a_ hy658
    clear hy658
    by_cases c59 : l0.length + y658.length < 140737488355328
    rotate_left
    ·
     rw [if_neg c59] at H
     exact absurd H (by simp)
    rw [if_pos c59] at H
    have LMc59 := a_ c59
    clear c59
    obtain ⟨y661, hy661⟩ : ∃ y_ : List Int, y_ = (l0 ++ y658) := ⟨_, rfl⟩
    replace H : (some (y661, wrap64 (x2_1 + 4), a9, true)) = some (r1, r2, r3, r4) := by first | exact lt_ H hy661 | (rw [hy661]; exact H) | exact H
    have Ny661 := a_ hy661
    clear hy661
    simp only [Option.some.injEq, Prod.mk.injEq] at H
    obtain ⟨rfl, rfl, rfl, rfl⟩ := H
    have p631 : 0 ≤ (x2_1 : Int) := of_decide_eq_true as_
    have q631 : x2_1 < (l1.length : Int) := of_decide_eq_true as_
    obtain ⟨ad631, e631, hx631_0⟩ := Kd.at_int (Kd.C_kept_now HR1.out HK.out) x2_1 p631 q631
    obtain rfl : ad603 = ad631 := (by injection e631)
    replace p631 := eq_true p631
    replace q631 := eq_true q631
    have p638 : 0 ≤ (x2_1 : Int) := of_decide_eq_true as_
    have q638 : x2_1 < (l1.length : Int) := of_decide_eq_true as_
    obtain ⟨ad638, e638, hx638_0⟩ := Kd.at_int (Kd.C_kept_now HR1.out HK.out) x2_1 p638 q638
    obtain rfl : ad603 = ad638 := (by injection e638)
    replace p638 := eq_true p638
    replace q638 := eq_true q638
    have p645 : 0 ≤ (x2_1 : Int) := of_decide_eq_true as_
    have q645 : x2_1 < (l1.length : Int) := of_decide_eq_true as_
    obtain ⟨ad645, e645, hx645_0⟩ := Kd.at_int (Kd.C_kept_now HR1.out HK.out) x2_1 p645 q645
    obtain rfl : ad603 = ad645 := (by injection e645)
    replace p645 := eq_true p645
    replace q645 := eq_true q645
    go_wp2_with (first | ((with_reducible refine gate_dst (N := 150) rfl ?_); refine Kd.R_lit (Kd.int .u8) _ 5 ?hg (N := 150) ?hd (xs := ([110, 117, 108, 108] : List Int)) (inner := [.int .u8 110, .int .u8 117, .int .u8 108, .int .u8 108]) (ok := fun _ => True) (okp := fun _ => True) ?hr ?hp (fun _ hk => hk) trivial (Below.refl _ _) (Nat.le_refl _) (by simp) ?_; (case hd => rfl); (case hg => rfl); (case hr => first | (go_simp; done) | (go_simp; rfl)); (case hp => exact (Reps.one (show Kd.M (Kd.int .u8) _ _ _ 110 [.int .u8 110] from rfl) (Reps.one (show Kd.M (Kd.int .u8) _ _ _ 117 [.int .u8 117] from rfl) (Reps.one (show Kd.M (Kd.int .u8) _ _ _ 108 [.int .u8 108] from rfl) (Reps.one (show Kd.M (Kd.int .u8) _ _ _ 108 [.int .u8 108] from rfl) (Reps.none _ _)))))); intro v659 w60 ho61 hb hg_ hnew_; clear hg_ hnew_; (first | rw [← Ny658.out] at ho61 | (simp only [Int.reduceToNat] at ho61; rw [← Ny658.out] at ho61)); have HO660 := a_ (Kd.R_lower (Kd.R_new' (Kd.R_newM (M := fun k_ => (P0_ k_ ∨ w.heap.size ≤ k_)) ho61 (kz_ HK) (fun k_ h_ => .inr h_)) (Kd.R_lt (rp_ HO_0))) (below_size (bl_ HB))); replace HO_0 := a_ (Kd.R_elder' (rp_ HO_0) (Kd.R_base ho61) hb); replace HK := a_ (Kept.below (S := (fun k_ => P0_ k_)) (kp_ HK) hb); replace HB := a_ (below_step (bl_ HB) hb); clear hb ho61; obtain ⟨Ao63, co63, eo63⟩ := Kd.R_slice HO660.out; subst eo63) | ((with_reducible refine gate_builtin (b := .append) (xs := #[.tmp 149, .tmp 150]) rfl ?_); at_builtin; refine Kd.R_append_rows (Kd.int .u8) (w0 := w0) w0.heap.size rfl (.tmp 149) (.tmp 150) 40 5 (.int .u8 0) 1 rfl Try.underlying40 info5 rfl (by decide) (by omega) u9000_ l0 y658 _ _ _ (fun k_ => (P0_ k_ ∨ w.heap.size ≤ k_) ∧ some k_ ≠ (.slice Ao63 y658.length co63 : Value).ownBlock) (fun _ => False) rfl rfl ?aO ?aR (fun _ _ h => h) (fun _ h => h.elim) ?aF ?aB ?aS ?aL ?_; (case aR => repeat (first | exact (Kd.R_reads' HO660.out).2.2 | (with_reducible refine Kd.C_alloc ?_ _) | (with_reducible refine Kd.C_drewN ?_ _) | (with_reducible refine Kd.C_drew ?_))); (case aB => exact (bl_ HB)); (case aF => exact (fun k_ hk => ⟨(.inr (Nat.le_trans (kz_ HK) hk)), Kd.fresh' (Kd.R_lt (rp_ HO660)) k_ hk⟩)); (case aO => exact (rp_ HO_0)); (case aS => exact (below_size (bl_ HB))); (case aL => have := LMc59.out; omega); intro v662 w62 ho hb hg hat; rw [← Ny661.out] at ho; replace HO660 := a_ (Kd.R_after (ok := (fun k_ => (P0_ k_ ∨ w.heap.size ≤ k_))) (by (with_reducible repeat (first | apply Kd.R_alloc | apply Kd.R_drewN | apply Kd.R_drew)); exact Kd.R_mono HO660.out (fun _ hk => ⟨hk.1.1, hk.2⟩)) hg hat); replace HB := a_ hb; replace HK := a_ (Kept.of_grown (S := (fun k_ => P0_ k_)) hg (kp_ HK) (fun k_ e_ => (HO_0.out.1 k_ e_).1)); have HO663 := a_ ho; clear HO_0; clear ho hb hg hat))
    refine bodyPost_ret (results_list (rs := [.tmp 22, .tmp 23, .tmp 24, .tmp 25]) rfl (by simp) (.tmp (.tmp (.tmp (.tmp .nil))))) rfl ?_
    exact ⟨_, by first | rfl | (simp [errW_none, errW_some] <;> rfl) | (simp [*, errW_none, errW_some] <;> rfl), by (with_reducible repeat (first | apply Kd.R_alloc | apply Kd.R_drewN | apply Kd.R_drew)); exact Kd.R_mono HO663.out (fun _ hk => hk.1), bl_ HB, kp_ HK⟩
theorem pOb.callsH (k : Nat) (ih : ∀ m_, m_ < k → pOb.CT m_) (ih25 : ∀ m_, m_ < k → pAn.CT m_) : pOb.CT k := by
  intro P0_ u9000_ l0 A1 c1 l1 a2 a3 a4 a5 a6 a7 a8 a9 a10 a11 a12 r1 r2 r3 r4 w0 w hB ho0 hr1 hc1 h
  cases k with
  | zero => exact absurd h (by simp [pOb.f])
  | succ k =>
    simp only [pOb.f] at h
    by_cases c_ : a3 = 123
    · rw [if_pos c_] at h
      exact pObA.callsH k (fun m_ hm_ => ih m_ (by omega)) (fun m_ hm_ => ih25 m_ (by omega)) P0_ u9000_ l0 A1 c1 l1 a2 a3 a4 a5 a6 a7 a8 a9 a10 a11 a12 r1 r2 r3 r4 w0 w hB ho0 hr1 hc1 h
    · rw [if_neg c_] at h
      by_cases c_ : a5 = true
      · rw [if_pos c_] at h
        exact pObB.callsH k (fun m_ hm_ => ih m_ (by omega)) (fun m_ hm_ => ih25 m_ (by omega)) P0_ u9000_ l0 A1 c1 l1 a2 a3 a4 a5 a6 a7 a8 a9 a10 a11 a12 r1 r2 r3 r4 w0 w hB ho0 hr1 hc1 h
      · rw [if_neg c_] at h
        exact pObC.callsH k (fun m_ hm_ => ih m_ (by omega)) (fun m_ hm_ => ih25 m_ (by omega)) P0_ u9000_ l0 A1 c1 l1 a2 a3 a4 a5 a6 a7 a8 a9 a10 a11 a12 r1 r2 r3 r4 w0 w hB ho0 hr1 hc1 h
theorem pOb.scc.all (k : Nat) : pOb.CT k ∧ pAn.CT k := by
  induction k using Nat.strongRecOn with
  | _ k ih_ =>
  exact ⟨pOb.callsH k (fun m_ hm_ => (ih_ m_ hm_).1) (fun m_ hm_ => (ih_ m_ hm_).2), pAn.callsH k (fun m_ hm_ => (ih_ m_ hm_).1) (fun m_ hm_ => (ih_ m_ hm_).2)⟩
theorem pOb.calls (k : Nat) : pOb.CT k := (pOb.scc.all k).1
theorem pAn.calls (k : Nat) : pAn.CT k := (pOb.scc.all k).2
end Go.Proofs.Ytnilbkfhfnofgaa.PFnPrWidthMember
