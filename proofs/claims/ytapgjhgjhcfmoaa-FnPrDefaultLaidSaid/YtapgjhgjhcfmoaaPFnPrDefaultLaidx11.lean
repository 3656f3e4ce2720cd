/- Contracts of Go functions of this seat: for each a Lean function over numbers and lists and a proof that the Go function, called in any memory, returns what it gives. Made by program. -/
import Derived.Test.YtapgjhgjhcfmoaaPFnPrDefaultLaidx0
import Derived.Test.YtapgjhgjhcfmoaaPFnPrDefaultLaidx10
import Derived.Test.YtapgjhgjhcfmoaaPFnPrDefaultLaidx5
import Derived.Test.YtapgjhgjhcfmoaaPFnPrDefaultLaidx6
import Derived.Test.YtapgjhgjhcfmoaaPFnPrDefaultLaidx7
import Derived.Test.YtapgjhgjhcfmoaaPFnPrDefaultLaidx8
import Derived.Test.YtapgjhgjhcfmoaaPFnPrDefaultLaidx9
namespace Go.Proofs.Ytapgjhgjhcfmoaa.PFnPrDefaultLaid
open Go.RowKit Go.Proofs.YtapgjhgjhcfmoaaW.PrintWords Go.Proofs.YtapgjhgjhcfmoaaW.PrintLast Go.Proofs.YtapgjhgjhcfmoaaW.PrintMore
attribute [local go_sem] max2_int min2_int max_two min_two max_three min_three max_four min_four   -- for this text's walks alone
set_option linter.unusedVariables false
set_option linter.unusedSimpArgs false
/-! ### pretty_appendPrettyAny: function 24 -/
set_option maxHeartbeats 8000000 in
set_option maxRecDepth 100000 in
theorem pretty_appendPrettyAny.callsH (k : Nat) (ih31 : ∀ m_, m_ < k → pretty_appendPrettyObject.CT m_) (ih : ∀ m_, m_ < k → pretty_appendPrettyAny.CT m_) : pretty_appendPrettyAny.CT k := by
 intro P0_ u9000_ l0 P1_ A1 c1 l1 a2 a3 a4 a5 a6 a7 a8 a9 a10 r1 r2 r3 r4 w0 w hB ho0 hs1 h
 cases k with
 | zero => exact absurd h (by simp [pretty_appendPrettyAny.f])
 | succ k =>
 simp only [pretty_appendPrettyAny.f] at h
 have HO0 := a_ (show Kd.R (Kd.int .u8) 5 w w0.heap.size (fun k_ => (P0_ k_ ∨ w.heap.size ≤ k_)) u9000_ l0 from Kd.R_mono ho0 (fun k_ hk => (.inl hk)))
 have HO1 := a_ (show Kd.V (Kd.int .u8) 5 w w0.heap.size (fun k_ => ((P0_ k_ ∨ P1_ k_) ∨ w.heap.size ≤ k_) ∧ some k_ ≠ (u9000_ : Value).ownBlock) (.slice A1 l1.length c1) l1 from Kd.V_mono hs1 (fun k_ hk => ⟨.inl (.inr hk.1), hk.2⟩))
 have HK := a_ (Kept.refl w (fun k_ => P0_ k_))
 have HW0 := a_ hB.size
 have HB := a_ hB
 clear hB
 have H : (pretty_appendPrettyAny.l0 k l0 l1 a2 a3 a4 a5 a6 a7 a8 a9 a10) = some (r1, r2, r3, r4) := h
 clear h
 have H' := a_ H
 clear H
 go_enter Try.func24, Try.ntmps24
 go_wp2
 (try simp only [Act.put, List.setIfInBounds_toArray, List.set_cons_zero, List.set_cons_succ])
 go_loopg [2] k (fun kq v2 w' => ∃ (x2_1 : Int), v2 = .int .i64 x2_1 ∧ Aside0 (pretty_appendPrettyAny.l0 kq l0 l1 x2_1 a3 a4 a5 a6 a7 a8 a9 a10 = some (r1, r2, r3, r4)) ∧ Aside0 (kq ≤ k) ∧ Aside0 (Kd.R (Kd.int .u8) 5 w' w0.heap.size (fun k_ => (P0_ k_ ∨ w.heap.size ≤ k_)) u9000_ l0) ∧ Aside0 (Kd.V (Kd.int .u8) 5 w' w0.heap.size (fun k_ => ((P0_ k_ ∨ P1_ k_) ∨ w.heap.size ≤ k_) ∧ some k_ ≠ (u9000_ : Value).ownBlock) (.slice A1 l1.length c1) l1) ∧ Aside0 (Kept w w' (fun k_ => P0_ k_)) ∧ Aside0 (Below w0.heap.size w0 w'))
 case atStart => exact ⟨(a2), rl_, H', ⟨Nat.le_refl _⟩, ⟨rp_ HO0⟩, ⟨vp_ HO1⟩, ⟨kp_ HK⟩, ⟨bl_ HB⟩⟩
 case round =>
  clear H'
  (try clear c1); (try clear c2); (try clear p2)
  obtain ⟨x2_1, rfl, HA, HK1, HO_0, HO_1, HK, HB⟩ := hrel
  cases gk with
  | zero => exact absurd HA.out (by simp [pretty_appendPrettyAny.l0])
  | succ k1 =>
   have H := HA.out
   clear HA
   simp only [pretty_appendPrettyAny.l0] at H
   by_cases c12 : x2_1 < (l1.length : Int)
   rotate_left
   ·
    rw [if_neg c12] at H
    have c12b0 : decide (x2_1 < (l1.length : Int)) = false := decide_eq_false c12
    clear c12
    simp only [Option.some.injEq, Prod.mk.injEq] at H
    obtain ⟨rfl, rfl, rfl, rfl⟩ := H
    go_wp2
    refine bodyPost_ret (results_list (rs := [.tmp 22, .tmp 23, .tmp 24, .tmp 25]) rfl (by simp) (.tmp (.tmp (.tmp (.tmp .nil))))) rfl ?_
    exact ⟨_, by first | rfl | (simp [errW_none, errW_some] <;> rfl) | (simp [*, errW_none, errW_some] <;> rfl), rp_ HO_0, bl_ HB, kp_ HK⟩
   rw [if_pos c12] at H
   have c12b0 : decide (x2_1 < (l1.length : Int)) = true := decide_eq_true c12
   clear c12
   by_cases c13 : 0 ≤ x2_1
   rotate_left
   ·
    rw [if_neg c13] at H
    exact absurd H (by simp)
   rw [if_pos c13] at H
   have c13b0 : decide (0 ≤ x2_1) = true := decide_eq_true c13
   clear c13
   by_cases c14 : (rd l1 x2_1) ≤ 32
   ·
    rw [if_pos c14] at H
    have c14b0 : decide ((rd l1 x2_1) ≤ 32) = true := decide_eq_true c14
    clear c14
    have H' := a_ H
    clear H
    have p499 : 0 ≤ (x2_1 : Int) := of_decide_eq_true as_
    have q499 : x2_1 < (l1.length : Int) := of_decide_eq_true as_
    obtain ⟨ad499, e499, hx499_0⟩ := Kd.at_int (Kd.V_reads' HO_1.out).2.2 x2_1 p499 q499
    cases e499
    replace p499 := eq_true p499
    replace q499 := eq_true q499
    go_wp2
    go_roundg k1
    case measure => have := HK1.out; omega
    case rel => exact ⟨(wrap64 (x2_1 + 1)), rl_, H', ⟨by have := HK1.out; omega⟩, ⟨rp_ HO_0⟩, ⟨vp_ HO_1⟩, ⟨kp_ HK⟩, ⟨bl_ HB⟩⟩
   rw [if_neg c14] at H
   have c14b0 : decide ((rd l1 x2_1) ≤ 32) = false := decide_eq_false c14
   clear c14
   by_cases c15 : (rd l1 x2_1) = 34
   ·
    rw [if_pos c15] at H
    have c15b0 : ((rd l1 x2_1) == 34) = true := beq_iff_eq.mpr c15
    have c15b1 : ((rd l1 x2_1) != 34) = false := bne_eq_false_iff_eq.mpr c15
    clear c15
    replace H := Option.bind_eq_some_iff.mp H
    obtain ⟨⟨t501, t504, t505, t506⟩, A160, H⟩ := H
    replace H : (some (t501, t504, t505, t506)) = some (r1, r2, r3, r4) := H
    have A16 := a_ A160
    clear A160
    simp only [Option.some.injEq, Prod.mk.injEq] at H
    obtain ⟨rfl, rfl, rfl, rfl⟩ := H
    have p499 : 0 ≤ (x2_1 : Int) := of_decide_eq_true as_
    have q499 : x2_1 < (l1.length : Int) := of_decide_eq_true as_
    obtain ⟨ad499, e499, hx499_0⟩ := Kd.at_int (Kd.V_reads' HO_1.out).2.2 x2_1 p499 q499
    cases e499
    replace p499 := eq_true p499
    replace q499 := eq_true q499
    have p500 : 0 ≤ (x2_1 : Int) := of_decide_eq_true as_
    have q500 : x2_1 < (l1.length : Int) := of_decide_eq_true as_
    obtain ⟨ad500, e500, hx500_0⟩ := Kd.at_int (Kd.V_reads' HO_1.out).2.2 x2_1 p500 q500
    obtain rfl : ad499 = ad500 := (by injection e500)
    replace p500 := eq_true p500
    replace q500 := eq_true q500
    obtain ⟨Ao17, co17, eo17⟩ := Kd.R_slice HO_0.out
    subst eo17
    go_wp2_with (first | ((with_reducible refine gate_callee (f := 28) rfl ?_); refine goesL_ (some 46) rfl rfl Try.func28 (by kernel_rfl) rfl #[.slice Ao17 l0.length co17, .slice (some ad499) l1.length c1, .int .i64 x2_1, .int .i64 a9] rfl ar_ ?_; (with_reducible refine (pretty_appendPrettyString.calls k1 (fun k_ => some k_ = (.slice Ao17 l0.length co17 : Value).ownBlock) (.slice Ao17 l0.length co17) l0 _ _ l1 x2_1 a9 t501 t504 t505 t506 w0 _ ?side1 ?side2 ?side3 ?side4 A16.out).mono ?_); (case side1 => exact bl_ HB); (case side2 => exact Kd.R_tight rfl HO_0.out); (case side3 => exact Kd.C_kept_ownV (HO_1.out) (fun k_ hk_ hs_ => (hk_.2) hs_)); (case side4 => exact (Kd.V_reads' HO_1.out).2.1); rintro e w18 ⟨v502, rfl, ho0, hb, hkp⟩; refine ⟨_, rfl, ?_⟩; have n0_ := a_ (Kd.V_mono (ok' := fun k_ => ((P0_ k_ ∨ P1_ k_) ∨ w.heap.size ≤ k_) ∧ some k_ ≠ (v502 : Value).ownBlock) (Kd.V_keptB (HO_1.out) hkp (fun k_ hk_ hs_ => (hk_.2) hs_)) (fun k_ hk_ => ⟨hk_.1.1, fun e_ => Or.elim (ho0.1 k_ e_.symm) (fun hs_ => hk_.2.1 hs_) (fun hn_ => Nat.not_le.2 hk_.2.2 hn_)⟩)); have n1_ := a_ (Kd.R_mono (ok' := fun k_ => (P0_ k_ ∨ w.heap.size ≤ k_)) ho0 (fun k_ hk_ => Or.elim hk_ (fun hs_ => (HO_0.out.1 k_ (hs_).symm)) (fun hn_ => (.inr (Nat.le_trans (kz_ HK) hn_))))); have n2_ := a_ (Kept.then_ (S := (fun k_ => P0_ k_)) (kp_ HK) hkp (fun k_ hs_ => (fun e_ => (HO_0.out.1 k_ e_.symm)) hs_)); have n3_ := a_ (hb); clear HO_1 HK HB HO_0; have HO_1 := n0_; have HO503 := n1_; have HK := n2_; have HB := n3_; clear n0_ n1_ n2_ n3_; (try clear hb); (try clear hkp); (try clear ho0)))
    refine bodyPost_ret (results_list (rs := [.tmp 22, .tmp 23, .tmp 24, .tmp 25]) rfl (by simp) (.tmp (.tmp (.tmp (.tmp .nil))))) rfl ?_
    exact ⟨_, by first | rfl | (simp [errW_none, errW_some] <;> rfl) | (simp [*, errW_none, errW_some] <;> rfl), rp_ HO503, bl_ HB, kp_ HK⟩
   rw [if_neg c15] at H
   have c15b0 : ((rd l1 x2_1) == 34) = false := beq_eq_false_iff_ne.mpr c15
   have c15b1 : ((rd l1 x2_1) != 34) = true := bne_iff_ne.mpr c15
   have HC19 := a_ H
   clear H
   have p499 : 0 ≤ (x2_1 : Int) := of_decide_eq_true as_
   have q499 : x2_1 < (l1.length : Int) := of_decide_eq_true as_
   obtain ⟨ad499, e499, hx499_0⟩ := Kd.at_int (Kd.V_reads' HO_1.out).2.2 x2_1 p499 q499
   cases e499
   replace p499 := eq_true p499
   replace q499 := eq_true q499
   have p500 : 0 ≤ (x2_1 : Int) := of_decide_eq_true as_
   have q500 : x2_1 < (l1.length : Int) := of_decide_eq_true as_
   obtain ⟨ad500, e500, hx500_0⟩ := Kd.at_int (Kd.V_reads' HO_1.out).2.2 x2_1 p500 q500
   obtain rfl : ad499 = ad500 := (by injection e500)
   replace p500 := eq_true p500
   replace q500 := eq_true q500
   go_upto_region 6 with (fail)
   go_cut [75] (fun v75 wc => ∃ (kq : Nat) (x75_18 : Bool), v75 = .bool x75_18 ∧ Aside0 (pretty_appendPrettyAny.j1 kq l0 l1 x2_1 a3 a4 a5 a6 a7 a8 a9 a10 x75_18 = some (r1, r2, r3, r4)) ∧ Aside0 (kq ≤ k1) ∧ Aside0 (Kd.R (Kd.int .u8) 5 wc w0.heap.size (fun k_ => (P0_ k_ ∨ w.heap.size ≤ k_)) u9000_ l0) ∧ Aside0 (Kd.V (Kd.int .u8) 5 wc w0.heap.size (fun k_ => ((P0_ k_ ∨ P1_ k_) ∨ w.heap.size ≤ k_) ∧ some k_ ≠ (u9000_ : Value).ownBlock) (.slice (some ad499) l1.length c1) l1) ∧ Aside0 (Kept w wc (fun k_ => P0_ k_)) ∧ Aside0 (Below w0.heap.size w0 wc))
   case first =>
    have H := HC19.out
    clear HC19
    by_cases c20 : (rd l1 x2_1) ≥ 48
    rotate_left
    ·
     rw [if_neg c20] at H
     have c20b0 : decide (48 ≤ (rd l1 x2_1)) = false := decide_eq_false c20
     clear c20
     (first | rw [c20b0] | (simp only [i64_w, i32_w]; rw [c20b0]) | skip)
     by_cases c27 : (rd l1 x2_1) = 45
     ·
      rw [if_pos c27] at H
      have c27b0 : ((rd l1 x2_1) == 45) = true := beq_iff_eq.mpr c27
      have c27b1 : ((rd l1 x2_1) != 45) = false := bne_eq_false_iff_eq.mpr c27
      clear c27
      have H' := a_ H
      clear H
      have p507 : 0 ≤ (x2_1 : Int) := of_decide_eq_true as_
      have q507 : x2_1 < (l1.length : Int) := of_decide_eq_true as_
      obtain ⟨ad507, e507, hx507_0⟩ := Kd.at_int (Kd.V_reads' HO_1.out).2.2 x2_1 p507 q507
      obtain rfl : ad499 = ad507 := (by injection e507)
      replace p507 := eq_true p507
      replace q507 := eq_true q507
      have p516 : 0 ≤ (x2_1 : Int) := of_decide_eq_true as_
      have q516 : x2_1 < (l1.length : Int) := of_decide_eq_true as_
      obtain ⟨ad516, e516, hx516_0⟩ := Kd.at_int (Kd.V_reads' HO_1.out).2.2 x2_1 p516 q516
      obtain rfl : ad499 = ad516 := (by injection e516)
      replace p516 := eq_true p516
      replace q516 := eq_true q516
      go_wp2
      go_meet
      case rel => exact ⟨_, (true), rl_, H', ⟨by have := HK1.out; first | omega | exact Nat.le_refl _⟩, ⟨rp_ HO_0⟩, ⟨vp_ HO_1⟩, ⟨kp_ HK⟩, ⟨bl_ HB⟩⟩
     rw [if_neg c27] at H
     have c27b0 : ((rd l1 x2_1) == 45) = false := beq_eq_false_iff_ne.mpr c27
     have c27b1 : ((rd l1 x2_1) != 45) = true := bne_iff_ne.mpr c27
     have c28b0 := eq_true (of_decide_eq_true as_ : 0 ≤ x2_1)
     by_cases c29 : x2_1 ≤ (l1.length : Int)
     rotate_left
     ·
      rw [if_neg c29] at H
      exact absurd H (by simp)
     rw [if_pos c29] at H
     have c29b0 := eq_true c29
     have c29b1 : decide (x2_1 ≤ (l1.length : Int)) = true := decide_eq_true c29
     clear c29
     obtain ⟨y517, hy517⟩ : ∃ y_ : List Int, y_ = (l1.drop (x2_1 : Int).toNat) := ⟨_, rfl⟩
     replace H : ((pretty_isNaNOrInf.f y517).bind fun t522 => (pretty_appendPrettyAny.j1 k1 l0 l1 x2_1 a3 a4 a5 a6 a7 a8 a9 a10 t522)) = some (r1, r2, r3, r4) := by first | exact lt_ H hy517 | (rw [hy517]; exact H) | exact H
     have Ny517 := a_ hy517
     clear hy517
     replace H := Option.bind_eq_some_iff.mp H
     obtain ⟨t522, A300, H⟩ := H
     replace H : (pretty_appendPrettyAny.j1 k1 l0 l1 x2_1 a3 a4 a5 a6 a7 a8 a9 a10 t522) = some (r1, r2, r3, r4) := H
     have A30 := a_ A300
     clear A300
     have H' := a_ H
     clear H
     have p507 : 0 ≤ (x2_1 : Int) := of_decide_eq_true as_
     have q507 : x2_1 < (l1.length : Int) := of_decide_eq_true as_
     obtain ⟨ad507, e507, hx507_0⟩ := Kd.at_int (Kd.V_reads' HO_1.out).2.2 x2_1 p507 q507
     obtain rfl : ad499 = ad507 := (by injection e507)
     replace p507 := eq_true p507
     replace q507 := eq_true q507
     have p516 : 0 ≤ (x2_1 : Int) := of_decide_eq_true as_
     have q516 : x2_1 < (l1.length : Int) := of_decide_eq_true as_
     obtain ⟨ad516, e516, hx516_0⟩ := Kd.at_int (Kd.V_reads' HO_1.out).2.2 x2_1 p516 q516
     obtain rfl : ad499 = ad516 := (by injection e516)
     replace p516 := eq_true p516
     replace q516 := eq_true q516
     have q31 : (x2_1 : Int) ≤ ((l1.length : Int) : Int) := of_decide_eq_true as_
     obtain ⟨i031, hi031, _, hsz31, _⟩ := info_parts info5
     have hroom31 : l1.length ≤ c1 := (Kd.V_reads' HO_1.out).2.1
     have hC31 : Kd.F (Kd.int .u8) _ _ (some ad499) l1.length l1 := (Kd.V_at (base := w0.heap.size) HO_1.out).2.2
     have q031 : (0 : Int) ≤ (x2_1 : Int) := of_decide_eq_true as_
     have hcut31 := cut_from (P := Try.prog) 32 5 .i64 Try.underlying32 hi031 1 hsz31 (some ad499) l1.length c1 x2_1 q031 q31
     have hr31 := Kd.F_cut (m := (x2_1 : Int).toNat) (c := c1) hC31 (by omega) hroom31
     obtain ⟨A31, hA31⟩ : ∃ A1_, A1_ = (if c1 = (x2_1 : Int).toNat then (some ad499) else ((some ad499) : Option Addr).map (·.add ((x2_1 : Int).toNat * 1))) := ⟨_, rfl⟩
     obtain ⟨c31, hc31⟩ : ∃ c1_, c1_ = c1 - (x2_1 : Int).toNat := ⟨_, rfl⟩
     have hy31 : y517.length = l1.length - (x2_1 : Int).toNat := (by rw [Ny517.out, List.length_drop] <;> omega)
     rw [show (l1).drop (x2_1 : Int).toNat = y517 from Ny517.out.symm] at hr31
     replace hr31 : Kd.F (Kd.int .u8) _ _ A31 y517.length y517 := (by rw [hA31]; exact hr31)
     rw [← hy31, ← hA31, ← hc31] at hcut31
     have HO521 := a_ (show Kd.V (Kd.int .u8) 5 _ w0.heap.size _ (.slice A31 y517.length c31) y517 from Kd.V_mk (by rw [hy31, hc31]; exact Nat.sub_le_sub_right hroom31 _) hr31)
     have HC521 := a_ (show y517.length ≤ c31 from by rw [hy31, hc31]; exact Nat.sub_le_sub_right hroom31 _)
     clear hr31 hC31 hroom31 hi031 hsz31 hc31
     have KY31 := a_ hy31
     have KA31 := a_ hA31
     clear hy31 hA31
     replace q31 := eq_true q31
     go_wp2_with (first | (go_at_call 29; (with_reducible refine (pretty_isNaNOrInf.calls _ _ y517 t522 _ ?side1 ?side2 A30.out).mono ?_); (case side1 => repeat (first | exact (Kd.V_reads' HO521.out).2.2 | (with_reducible refine Kd.C_alloc ?_ _) | (with_reducible refine Kd.C_drewN ?_ _) | (with_reducible refine Kd.C_drew ?_))); (case side2 => exact (Kd.V_reads' HO521.out).2.1); rintro e w' ⟨rfl, ⟨nd, rfl⟩⟩))
     go_meet
     case rel => exact ⟨_, (t522), rl_, H', ⟨by have := HK1.out; first | omega | exact Nat.le_refl _⟩, ⟨rp_ HO_0⟩, ⟨vp_ HO_1⟩, ⟨kp_ HK⟩, ⟨bl_ HB⟩⟩
    rw [if_pos c20] at H
    have c20b0 : decide (48 ≤ (rd l1 x2_1)) = true := decide_eq_true c20
    clear c20
    (first | rw [c20b0] | (simp only [i64_w, i32_w]; rw [c20b0]) | skip)
    by_cases c21 : (rd l1 x2_1) ≤ 57
    ·
     rw [if_pos c21] at H
     have c21b0 : decide ((rd l1 x2_1) ≤ 57) = true := decide_eq_true c21
     clear c21
     have H' := a_ H
     clear H
     have p507 : 0 ≤ (x2_1 : Int) := of_decide_eq_true as_
     have q507 : x2_1 < (l1.length : Int) := of_decide_eq_true as_
     obtain ⟨ad507, e507, hx507_0⟩ := Kd.at_int (Kd.V_reads' HO_1.out).2.2 x2_1 p507 q507
     obtain rfl : ad499 = ad507 := (by injection e507)
     replace p507 := eq_true p507
     replace q507 := eq_true q507
     have p508 : 0 ≤ (x2_1 : Int) := of_decide_eq_true as_
     have q508 : x2_1 < (l1.length : Int) := of_decide_eq_true as_
     obtain ⟨ad508, e508, hx508_0⟩ := Kd.at_int (Kd.V_reads' HO_1.out).2.2 x2_1 p508 q508
     obtain rfl : ad499 = ad508 := (by injection e508)
     replace p508 := eq_true p508
     replace q508 := eq_true q508
     go_wp2
     go_meet
     case rel => exact ⟨_, (true), rl_, H', ⟨by have := HK1.out; first | omega | exact Nat.le_refl _⟩, ⟨rp_ HO_0⟩, ⟨vp_ HO_1⟩, ⟨kp_ HK⟩, ⟨bl_ HB⟩⟩
    rw [if_neg c21] at H
    have c21b0 : decide ((rd l1 x2_1) ≤ 57) = false := decide_eq_false c21
    clear c21
    by_cases c22 : (rd l1 x2_1) = 45
    ·
     rw [if_pos c22] at H
     have c22b0 : ((rd l1 x2_1) == 45) = true := beq_iff_eq.mpr c22
     have c22b1 : ((rd l1 x2_1) != 45) = false := bne_eq_false_iff_eq.mpr c22
     clear c22
     have H' := a_ H
     clear H
     have p507 : 0 ≤ (x2_1 : Int) := of_decide_eq_true as_
     have q507 : x2_1 < (l1.length : Int) := of_decide_eq_true as_
     obtain ⟨ad507, e507, hx507_0⟩ := Kd.at_int (Kd.V_reads' HO_1.out).2.2 x2_1 p507 q507
     obtain rfl : ad499 = ad507 := (by injection e507)
     replace p507 := eq_true p507
     replace q507 := eq_true q507
     have p508 : 0 ≤ (x2_1 : Int) := of_decide_eq_true as_
     have q508 : x2_1 < (l1.length : Int) := of_decide_eq_true as_
     obtain ⟨ad508, e508, hx508_0⟩ := Kd.at_int (Kd.V_reads' HO_1.out).2.2 x2_1 p508 q508
     obtain rfl : ad499 = ad508 := (by injection e508)
     replace p508 := eq_true p508
     replace q508 := eq_true q508
     have p509 : 0 ≤ (x2_1 : Int) := of_decide_eq_true as_
     have q509 : x2_1 < (l1.length : Int) := of_decide_eq_true as_
     obtain ⟨ad509, e509, hx509_0⟩ := Kd.at_int (Kd.V_reads' HO_1.out).2.2 x2_1 p509 q509
     obtain rfl : ad499 = ad509 := (by injection e509)
     replace p509 := eq_true p509
     replace q509 := eq_true q509
     go_wp2
     go_meet
     case rel => exact ⟨_, (true), rl_, H', ⟨by have := HK1.out; first | omega | exact Nat.le_refl _⟩, ⟨rp_ HO_0⟩, ⟨vp_ HO_1⟩, ⟨kp_ HK⟩, ⟨bl_ HB⟩⟩
    rw [if_neg c22] at H
    have c22b0 : ((rd l1 x2_1) == 45) = false := beq_eq_false_iff_ne.mpr c22
    have c22b1 : ((rd l1 x2_1) != 45) = true := bne_iff_ne.mpr c22
    have c23b0 := eq_true (of_decide_eq_true as_ : 0 ≤ x2_1)
    by_cases c24 : x2_1 ≤ (l1.length : Int)
    rotate_left
    ·
     rw [if_neg c24] at H
     exact absurd H (by simp)
    rw [if_pos c24] at H
    have c24b0 := eq_true c24
    have c24b1 : decide (x2_1 ≤ (l1.length : Int)) = true := decide_eq_true c24
    clear c24
    obtain ⟨y510, hy510⟩ : ∃ y_ : List Int, y_ = (l1.drop (x2_1 : Int).toNat) := ⟨_, rfl⟩
    replace H : ((pretty_isNaNOrInf.f y510).bind fun t515 => (pretty_appendPrettyAny.j1 k1 l0 l1 x2_1 a3 a4 a5 a6 a7 a8 a9 a10 t515)) = some (r1, r2, r3, r4) := by first | exact lt_ H hy510 | (rw [hy510]; exact H) | exact H
    have Ny510 := a_ hy510
    clear hy510
    replace H := Option.bind_eq_some_iff.mp H
    obtain ⟨t515, A250, H⟩ := H
    replace H : (pretty_appendPrettyAny.j1 k1 l0 l1 x2_1 a3 a4 a5 a6 a7 a8 a9 a10 t515) = some (r1, r2, r3, r4) := H
    have A25 := a_ A250
    clear A250
    have H' := a_ H
    clear H
    have p507 : 0 ≤ (x2_1 : Int) := of_decide_eq_true as_
    have q507 : x2_1 < (l1.length : Int) := of_decide_eq_true as_
    obtain ⟨ad507, e507, hx507_0⟩ := Kd.at_int (Kd.V_reads' HO_1.out).2.2 x2_1 p507 q507
    obtain rfl : ad499 = ad507 := (by injection e507)
    replace p507 := eq_true p507
    replace q507 := eq_true q507
    have p508 : 0 ≤ (x2_1 : Int) := of_decide_eq_true as_
    have q508 : x2_1 < (l1.length : Int) := of_decide_eq_true as_
    obtain ⟨ad508, e508, hx508_0⟩ := Kd.at_int (Kd.V_reads' HO_1.out).2.2 x2_1 p508 q508
    obtain rfl : ad499 = ad508 := (by injection e508)
    replace p508 := eq_true p508
    replace q508 := eq_true q508
    have p509 : 0 ≤ (x2_1 : Int) := of_decide_eq_true as_
    have q509 : x2_1 < (l1.length : Int) := of_decide_eq_true as_
    obtain ⟨ad509, e509, hx509_0⟩ := Kd.at_int (Kd.V_reads' HO_1.out).2.2 x2_1 p509 q509
    obtain rfl : ad499 = ad509 := (by injection e509)
    replace p509 := eq_true p509
    replace q509 := eq_true q509
    have q26 : (x2_1 : Int) ≤ ((l1.length : Int) : Int) := of_decide_eq_true as_
    obtain ⟨i026, hi026, _, hsz26, _⟩ := info_parts info5
    have hroom26 : l1.length ≤ c1 := (Kd.V_reads' HO_1.out).2.1
    have hC26 : Kd.F (Kd.int .u8) _ _ (some ad499) l1.length l1 := (Kd.V_at (base := w0.heap.size) HO_1.out).2.2
    have q026 : (0 : Int) ≤ (x2_1 : Int) := of_decide_eq_true as_
    have hcut26 := cut_from (P := Try.prog) 32 5 .i64 Try.underlying32 hi026 1 hsz26 (some ad499) l1.length c1 x2_1 q026 q26
    have hr26 := Kd.F_cut (m := (x2_1 : Int).toNat) (c := c1) hC26 (by omega) hroom26
    obtain ⟨A26, hA26⟩ : ∃ A1_, A1_ = (if c1 = (x2_1 : Int).toNat then (some ad499) else ((some ad499) : Option Addr).map (·.add ((x2_1 : Int).toNat * 1))) := ⟨_, rfl⟩
    obtain ⟨c26, hc26⟩ : ∃ c1_, c1_ = c1 - (x2_1 : Int).toNat := ⟨_, rfl⟩
    have hy26 : y510.length = l1.length - (x2_1 : Int).toNat := (by rw [Ny510.out, List.length_drop] <;> omega)
    rw [show (l1).drop (x2_1 : Int).toNat = y510 from Ny510.out.symm] at hr26
    replace hr26 : Kd.F (Kd.int .u8) _ _ A26 y510.length y510 := (by rw [hA26]; exact hr26)
    rw [← hy26, ← hA26, ← hc26] at hcut26
    have HO514 := a_ (show Kd.V (Kd.int .u8) 5 _ w0.heap.size _ (.slice A26 y510.length c26) y510 from Kd.V_mk (by rw [hy26, hc26]; exact Nat.sub_le_sub_right hroom26 _) hr26)
    have HC514 := a_ (show y510.length ≤ c26 from by rw [hy26, hc26]; exact Nat.sub_le_sub_right hroom26 _)
    clear hr26 hC26 hroom26 hi026 hsz26 hc26
    have KY26 := a_ hy26
    have KA26 := a_ hA26
    clear hy26 hA26
    replace q26 := eq_true q26
    go_wp2_with (first | (go_at_call 29; (with_reducible refine (pretty_isNaNOrInf.calls _ _ y510 t515 _ ?side1 ?side2 A25.out).mono ?_); (case side1 => repeat (first | exact (Kd.V_reads' HO514.out).2.2 | (with_reducible refine Kd.C_alloc ?_ _) | (with_reducible refine Kd.C_drewN ?_ _) | (with_reducible refine Kd.C_drew ?_))); (case side2 => exact (Kd.V_reads' HO514.out).2.1); rintro e w' ⟨rfl, ⟨nd, rfl⟩⟩))
    go_meet
    case rel => exact ⟨_, (t515), rl_, H', ⟨by have := HK1.out; first | omega | exact Nat.le_refl _⟩, ⟨rp_ HO_0⟩, ⟨vp_ HO_1⟩, ⟨kp_ HK⟩, ⟨bl_ HB⟩⟩
   clear HC19
   (try clear c1); (try clear c2); (try clear p2); (try clear q2); (try clear c3); (try clear q3); (try clear p4); (try clear q4); (try clear hx4); (try clear p5); (try clear q5); (try clear hx5); (try clear p6); (try clear c12); (try clear c12b0); (try clear c13); (try clear c13b0); (try clear c14); (try clear c14b0); (try clear c15); (try clear c15b0); (try clear c15b1); (try clear c20); (try clear c20b0); (try clear c21); (try clear c21b0); (try clear c22); (try clear c22b0); (try clear c22b1); (try clear c23); (try clear c23b0); (try clear c24); (try clear c24b0); (try clear c24b1); (try clear c26); (try clear q26); (try clear c27); (try clear c27b0); (try clear c27b1); (try clear c28); (try clear c28b0); (try clear c29); (try clear c29b0); (try clear c29b1); (try clear c31); (try clear q31); (try clear hx499_0); (try clear hx500_0); (try clear hx507_0); (try clear hx508_0); (try clear hx509_0); (try clear hx516_0); (try clear p2); (try clear p499); (try clear p500); (try clear p507); (try clear p508); (try clear p509); (try clear p516); (try clear q026); (try clear q031); (try clear q26); (try clear q31); (try clear q499); (try clear q500); (try clear q507); (try clear q508); (try clear q509); (try clear q516)
   obtain ⟨kq, x75_18, rfl, HA, HJ18, HO_0, HO_1, HK, HB⟩ := hcut
   cases kq with
   | zero => exact absurd HA.out (by simp [pretty_appendPrettyAny.j1])
   | succ kj18 =>
    have H := HA.out
    clear HA
    simp only [pretty_appendPrettyAny.j1] at H
    by_cases c32 : x75_18 = true
    ·
     subst c32
     have H1 : ((pretty_appendPrettyNumber.f kj18 l0 l1 x2_1 a9).bind fun bt523 => (some (bt523.1, bt523.2.1, bt523.2.2.1, bt523.2.2.2))) = some (r1, r2, r3, r4) := by rw [if_pos rfl] at H; exact H
     clear H
     have H := H1
     clear H1
     replace H := Option.bind_eq_some_iff.mp H
     obtain ⟨⟨t523, t526, t527, t528⟩, A330, H⟩ := H
     replace H : (some (t523, t526, t527, t528)) = some (r1, r2, r3, r4) := H
     have A33 := a_ A330
     clear A330
     simp only [Option.some.injEq, Prod.mk.injEq] at H
     obtain ⟨rfl, rfl, rfl, rfl⟩ := H
     obtain ⟨Ao34, co34, eo34⟩ := Kd.R_slice HO_0.out
     subst eo34
     go_wp2_with (first | ((with_reducible refine gate_callee (f := 30) rfl ?_); refine goesL_ (some 80) rfl rfl Try.func30 (by kernel_rfl) rfl #[.slice Ao34 l0.length co34, .slice (some ad499) l1.length c1, .int .i64 x2_1, .int .i64 a9] rfl ar_ ?_; (with_reducible refine (pretty_appendPrettyNumber.calls kj18 (fun k_ => some k_ = (.slice Ao34 l0.length co34 : Value).ownBlock) (.slice Ao34 l0.length co34) l0 _ _ l1 x2_1 a9 t523 t526 t527 t528 w0 _ ?side1 ?side2 ?side3 ?side4 A33.out).mono ?_); (case side1 => exact bl_ HB); (case side2 => exact Kd.R_tight rfl HO_0.out); (case side3 => exact Kd.C_kept_ownV (HO_1.out) (fun k_ hk_ hs_ => (hk_.2) hs_)); (case side4 => exact (Kd.V_reads' HO_1.out).2.1); rintro e w35 ⟨v524, rfl, ho0, hb, hkp⟩; refine ⟨_, rfl, ?_⟩; have n0_ := a_ (Kd.V_mono (ok' := fun k_ => ((P0_ k_ ∨ P1_ k_) ∨ w.heap.size ≤ k_) ∧ some k_ ≠ (v524 : Value).ownBlock) (Kd.V_keptB (HO_1.out) hkp (fun k_ hk_ hs_ => (hk_.2) hs_)) (fun k_ hk_ => ⟨hk_.1.1, fun e_ => Or.elim (ho0.1 k_ e_.symm) (fun hs_ => hk_.2.1 hs_) (fun hn_ => Nat.not_le.2 hk_.2.2 hn_)⟩)); have n1_ := a_ (Kd.R_mono (ok' := fun k_ => (P0_ k_ ∨ w.heap.size ≤ k_)) ho0 (fun k_ hk_ => Or.elim hk_ (fun hs_ => (HO_0.out.1 k_ (hs_).symm)) (fun hn_ => (.inr (Nat.le_trans (kz_ HK) hn_))))); have n2_ := a_ (Kept.then_ (S := (fun k_ => P0_ k_)) (kp_ HK) hkp (fun k_ hs_ => (fun e_ => (HO_0.out.1 k_ e_.symm)) hs_)); have n3_ := a_ (hb); clear HO_1 HK HB HO_0; have HO_1 := n0_; have HO525 := n1_; have HK := n2_; have HB := n3_; clear n0_ n1_ n2_ n3_; (try clear hb); (try clear hkp); (try clear ho0)))
     refine bodyPost_ret (results_list (rs := [.tmp 22, .tmp 23, .tmp 24, .tmp 25]) rfl (by simp) (.tmp (.tmp (.tmp (.tmp .nil))))) rfl ?_
     exact ⟨_, by first | rfl | (simp [errW_none, errW_some] <;> rfl) | (simp [*, errW_none, errW_some] <;> rfl), rp_ HO525, bl_ HB, kp_ HK⟩
    replace c32 := Bool.eq_false_iff.mpr c32
    subst c32
    have H1 : (if 0 ≤ x2_1 then (if x2_1 < (l1.length : Int) then (if (rd l1 x2_1) = 123 then ((pretty_appendPrettyObject.f kj18 l0 l1 x2_1 123 125 a3 a4 a5 a6 a7 a8 a9 a10).bind fun bt530 => (some (bt530.1, bt530.2.1, bt530.2.2.1, bt530.2.2.2))) else (if (rd l1 x2_1) = 91 then ((pretty_appendPrettyObject.f kj18 l0 l1 x2_1 91 93 a3 a4 a5 a6 a7 a8 a9 a10).bind fun bt537 => (some (bt537.1, bt537.2.1, bt537.2.2.1, bt537.2.2.2))) else (if (rd l1 x2_1) = 116 then ((some (([116, 114, 117, 101] : List Int) : List Int)).bind fun y544 => (if l0.length + y544.length < 140737488355328 then (some ((l0 ++ y544), wrap64 (x2_1 + 4), a9, true)) else (none))) else (if (rd l1 x2_1) = 102 then ((some (([102, 97, 108, 115, 101] : List Int) : List Int)).bind fun y550 => (if l0.length + y550.length < 140737488355328 then (some ((l0 ++ y550), wrap64 (x2_1 + 5), a9, true)) else (none))) else (if (rd l1 x2_1) = 110 then ((some (([110, 117, 108, 108] : List Int) : List Int)).bind fun y556 => (if l0.length + y556.length < 140737488355328 then (some ((l0 ++ y556), wrap64 (x2_1 + 4), a9, true)) else (none))) else (pretty_appendPrettyAny.l0 kj18 l0 l1 (wrap64 (x2_1 + 1)) a3 a4 a5 a6 a7 a8 a9 a10)))))) else (none)) else (none)) = some (r1, r2, r3, r4) := by rw [if_neg (show ¬ (false = true) by decide)] at H; exact H
    clear H
    have H := H1
    clear H1
    by_cases c36 : 0 ≤ x2_1
    rotate_left
    ·
     rw [if_neg c36] at H
     exact absurd H (by simp)
    rw [if_pos c36] at H
    have c36b0 : decide (0 ≤ x2_1) = true := decide_eq_true c36
    clear c36
    by_cases c37 : x2_1 < (l1.length : Int)
    rotate_left
    ·
     rw [if_neg c37] at H
     exact absurd H (by simp)
    rw [if_pos c37] at H
    have c37b0 : decide (x2_1 < (l1.length : Int)) = true := decide_eq_true c37
    clear c37
    by_cases c38 : (rd l1 x2_1) = 123
    ·
     rw [if_pos c38] at H
     have c38b0 : ((rd l1 x2_1) == 123) = true := beq_iff_eq.mpr c38
     have c38b1 : ((rd l1 x2_1) != 123) = false := bne_eq_false_iff_eq.mpr c38
     clear c38
     replace H := Option.bind_eq_some_iff.mp H
     obtain ⟨⟨t530, t533, t534, t535⟩, A390, H⟩ := H
     replace H : (some (t530, t533, t534, t535)) = some (r1, r2, r3, r4) := H
     have A39 := a_ A390
     clear A390
     simp only [Option.some.injEq, Prod.mk.injEq] at H
     obtain ⟨rfl, rfl, rfl, rfl⟩ := H
     have p529 : 0 ≤ (x2_1 : Int) := of_decide_eq_true as_
     have q529 : x2_1 < (l1.length : Int) := of_decide_eq_true as_
     obtain ⟨ad529, e529, hx529_0⟩ := Kd.at_int (Kd.V_reads' HO_1.out).2.2 x2_1 p529 q529
     obtain rfl : ad499 = ad529 := (by injection e529)
     replace p529 := eq_true p529
     replace q529 := eq_true q529
     obtain ⟨Ao40, co40, eo40⟩ := Kd.R_slice HO_0.out
     subst eo40
     go_wp2_with (first | ((with_reducible refine gate_callee (f := 31) rfl ?_); refine goesL_ (some 101) rfl rfl Try.func31 (by kernel_rfl) rfl #[.slice Ao40 l0.length co40, .slice (some ad499) l1.length c1, .int .i64 x2_1, .int .u8 123, .int .u8 125, .bool a3, .int .i64 a4, .string a5, .string a6, .bool a7, .int .i64 a8, .int .i64 a9, .int .i64 a10] rfl ar_ ?_; (with_reducible refine (ih31 kj18 (by have := HK1.out; have := HJ18.out; omega) (fun k_ => some k_ = (.slice Ao40 l0.length co40 : Value).ownBlock) (.slice Ao40 l0.length co40) l0 (fun k_ => (((P0_ k_ ∨ P1_ k_) ∨ w.heap.size ≤ k_) ∧ some k_ ≠ (.slice Ao40 l0.length co40 : Value).ownBlock)) _ _ l1 x2_1 123 125 a3 a4 a5 a6 a7 a8 a9 a10 t530 t533 t534 t535 w0 _ ?side1 ?side2 ?side3 A39.out).mono ?_); (case side1 => exact bl_ HB); (case side2 => exact Kd.R_tight rfl HO_0.out); (case side3 => exact Kd.V_mono (HO_1.out) (fun k_ hk_ => ⟨hk_, hk_.2⟩)); rintro e w41 ⟨v531, rfl, ho0, hb, hkp⟩; refine ⟨_, rfl, ?_⟩; have n0_ := a_ (Kd.V_mono (ok' := fun k_ => ((P0_ k_ ∨ P1_ k_) ∨ w.heap.size ≤ k_) ∧ some k_ ≠ (v531 : Value).ownBlock) (Kd.V_keptB (HO_1.out) hkp (fun k_ hk_ hs_ => (hk_.2) hs_)) (fun k_ hk_ => ⟨hk_.1.1, fun e_ => Or.elim (ho0.1 k_ e_.symm) (fun hs_ => hk_.2.1 hs_) (fun hn_ => Nat.not_le.2 hk_.2.2 hn_)⟩)); have n1_ := a_ (Kd.R_mono (ok' := fun k_ => (P0_ k_ ∨ w.heap.size ≤ k_)) ho0 (fun k_ hk_ => Or.elim hk_ (fun hs_ => (HO_0.out.1 k_ (hs_).symm)) (fun hn_ => (.inr (Nat.le_trans (kz_ HK) hn_))))); have n2_ := a_ (Kept.then_ (S := (fun k_ => P0_ k_)) (kp_ HK) hkp (fun k_ hs_ => (fun e_ => (HO_0.out.1 k_ e_.symm)) hs_)); have n3_ := a_ (hb); clear HO_1 HK HB HO_0; have HO_1 := n0_; have HO532 := n1_; have HK := n2_; have HB := n3_; clear n0_ n1_ n2_ n3_; (try clear hb); (try clear hkp); (try clear ho0)))
     refine bodyPost_ret (results_list (rs := [.tmp 22, .tmp 23, .tmp 24, .tmp 25]) rfl (by simp) (.tmp (.tmp (.tmp (.tmp .nil))))) rfl ?_
     exact ⟨_, by first | rfl | (simp [errW_none, errW_some] <;> rfl) | (simp [*, errW_none, errW_some] <;> rfl), rp_ HO532, bl_ HB, kp_ HK⟩
    rw [if_neg c38] at H
    have c38b0 : ((rd l1 x2_1) == 123) = false := beq_eq_false_iff_ne.mpr c38
    have c38b1 : ((rd l1 x2_1) != 123) = true := bne_iff_ne.mpr c38
    by_cases c42 : (rd l1 x2_1) = 91
    ·
     rw [if_pos c42] at H
     have c42b0 : ((rd l1 x2_1) == 91) = true := beq_iff_eq.mpr c42
     have c42b1 : ((rd l1 x2_1) != 91) = false := bne_eq_false_iff_eq.mpr c42
     clear c42
     replace H := Option.bind_eq_some_iff.mp H
     obtain ⟨⟨t537, t540, t541, t542⟩, A430, H⟩ := H
     replace H : (some (t537, t540, t541, t542)) = some (r1, r2, r3, r4) := H
     have A43 := a_ A430
     clear A430
     simp only [Option.some.injEq, Prod.mk.injEq] at H
     obtain ⟨rfl, rfl, rfl, rfl⟩ := H
     have p529 : 0 ≤ (x2_1 : Int) := of_decide_eq_true as_
     have q529 : x2_1 < (l1.length : Int) := of_decide_eq_true as_
     obtain ⟨ad529, e529, hx529_0⟩ := Kd.at_int (Kd.V_reads' HO_1.out).2.2 x2_1 p529 q529
     obtain rfl : ad499 = ad529 := (by injection e529)
     replace p529 := eq_true p529
     replace q529 := eq_true q529
     have p536 : 0 ≤ (x2_1 : Int) := of_decide_eq_true as_
     have q536 : x2_1 < (l1.length : Int) := of_decide_eq_true as_
     obtain ⟨ad536, e536, hx536_0⟩ := Kd.at_int (Kd.V_reads' HO_1.out).2.2 x2_1 p536 q536
     obtain rfl : ad499 = ad536 := (by injection e536)
     replace p536 := eq_true p536
     replace q536 := eq_true q536
     obtain ⟨Ao44, co44, eo44⟩ := Kd.R_slice HO_0.out
     subst eo44
     go_wp2_with (first | ((with_reducible refine gate_callee (f := 31) rfl ?_); refine goesL_ (some 122) rfl rfl Try.func31 (by kernel_rfl) rfl #[.slice Ao44 l0.length co44, .slice (some ad499) l1.length c1, .int .i64 x2_1, .int .u8 91, .int .u8 93, .bool a3, .int .i64 a4, .string a5, .string a6, .bool a7, .int .i64 a8, .int .i64 a9, .int .i64 a10] rfl ar_ ?_; (with_reducible refine (ih31 kj18 (by have := HK1.out; have := HJ18.out; omega) (fun k_ => some k_ = (.slice Ao44 l0.length co44 : Value).ownBlock) (.slice Ao44 l0.length co44) l0 (fun k_ => (((P0_ k_ ∨ P1_ k_) ∨ w.heap.size ≤ k_) ∧ some k_ ≠ (.slice Ao44 l0.length co44 : Value).ownBlock)) _ _ l1 x2_1 91 93 a3 a4 a5 a6 a7 a8 a9 a10 t537 t540 t541 t542 w0 _ ?side1 ?side2 ?side3 A43.out).mono ?_); (case side1 => exact bl_ HB); (case side2 => exact Kd.R_tight rfl HO_0.out); (case side3 => exact Kd.V_mono (HO_1.out) (fun k_ hk_ => ⟨hk_, hk_.2⟩)); rintro e w45 ⟨v538, rfl, ho0, hb, hkp⟩; refine ⟨_, rfl, ?_⟩; have n0_ := a_ (Kd.V_mono (ok' := fun k_ => ((P0_ k_ ∨ P1_ k_) ∨ w.heap.size ≤ k_) ∧ some k_ ≠ (v538 : Value).ownBlock) (Kd.V_keptB (HO_1.out) hkp (fun k_ hk_ hs_ => (hk_.2) hs_)) (fun k_ hk_ => ⟨hk_.1.1, fun e_ => Or.elim (ho0.1 k_ e_.symm) (fun hs_ => hk_.2.1 hs_) (fun hn_ => Nat.not_le.2 hk_.2.2 hn_)⟩)); have n1_ := a_ (Kd.R_mono (ok' := fun k_ => (P0_ k_ ∨ w.heap.size ≤ k_)) ho0 (fun k_ hk_ => Or.elim hk_ (fun hs_ => (HO_0.out.1 k_ (hs_).symm)) (fun hn_ => (.inr (Nat.le_trans (kz_ HK) hn_))))); have n2_ := a_ (Kept.then_ (S := (fun k_ => P0_ k_)) (kp_ HK) hkp (fun k_ hs_ => (fun e_ => (HO_0.out.1 k_ e_.symm)) hs_)); have n3_ := a_ (hb); clear HO_1 HK HB HO_0; have HO_1 := n0_; have HO539 := n1_; have HK := n2_; have HB := n3_; clear n0_ n1_ n2_ n3_; (try clear hb); (try clear hkp); (try clear ho0)))
     refine bodyPost_ret (results_list (rs := [.tmp 22, .tmp 23, .tmp 24, .tmp 25]) rfl (by simp) (.tmp (.tmp (.tmp (.tmp .nil))))) rfl ?_
     exact ⟨_, by first | rfl | (simp [errW_none, errW_some] <;> rfl) | (simp [*, errW_none, errW_some] <;> rfl), rp_ HO539, bl_ HB, kp_ HK⟩
    rw [if_neg c42] at H
    have c42b0 : ((rd l1 x2_1) == 91) = false := beq_eq_false_iff_ne.mpr c42
    have c42b1 : ((rd l1 x2_1) != 91) = true := bne_iff_ne.mpr c42
    by_cases c46 : (rd l1 x2_1) = 116
    ·
     rw [if_pos c46] at H
     have c46b0 : ((rd l1 x2_1) == 116) = true := beq_iff_eq.mpr c46
     have c46b1 : ((rd l1 x2_1) != 116) = false := bne_eq_false_iff_eq.mpr c46
     clear c46
     obtain ⟨y544, hy544⟩ : ∃ y_ : List Int, y_ = (([116, 114, 117, 101] : List Int)) := ⟨_, rfl⟩
     replace H := lt_ H hy544
     have Ny544 := a_ hy544
     clear hy544
     by_cases c47 : l0.length + y544.length < 140737488355328
     rotate_left
     ·
      rw [if_neg c47] at H
      exact absurd H (by simp)
     rw [if_pos c47] at H
     have LMc47 := a_ c47
     clear c47
     obtain ⟨y547, hy547⟩ : ∃ y_ : List Int, y_ = (l0 ++ y544) := ⟨_, rfl⟩
     replace H : (some (y547, wrap64 (x2_1 + 4), a9, true)) = some (r1, r2, r3, r4) := by first | exact lt_ H hy547 | (rw [hy547]; exact H) | exact H
     have Ny547 := a_ hy547
     clear hy547
     simp only [Option.some.injEq, Prod.mk.injEq] at H
     obtain ⟨rfl, rfl, rfl, rfl⟩ := H
     have p529 : 0 ≤ (x2_1 : Int) := of_decide_eq_true as_
     have q529 : x2_1 < (l1.length : Int) := of_decide_eq_true as_
     obtain ⟨ad529, e529, hx529_0⟩ := Kd.at_int (Kd.V_reads' HO_1.out).2.2 x2_1 p529 q529
     obtain rfl : ad499 = ad529 := (by injection e529)
     replace p529 := eq_true p529
     replace q529 := eq_true q529
     have p536 : 0 ≤ (x2_1 : Int) := of_decide_eq_true as_
     have q536 : x2_1 < (l1.length : Int) := of_decide_eq_true as_
     obtain ⟨ad536, e536, hx536_0⟩ := Kd.at_int (Kd.V_reads' HO_1.out).2.2 x2_1 p536 q536
     obtain rfl : ad499 = ad536 := (by injection e536)
     replace p536 := eq_true p536
     replace q536 := eq_true q536
     have p543 : 0 ≤ (x2_1 : Int) := of_decide_eq_true as_
     have q543 : x2_1 < (l1.length : Int) := of_decide_eq_true as_
     obtain ⟨ad543, e543, hx543_0⟩ := Kd.at_int (Kd.V_reads' HO_1.out).2.2 x2_1 p543 q543
     obtain rfl : ad499 = ad543 := (by injection e543)
     replace p543 := eq_true p543
     replace q543 := eq_true q543
     go_wp2_with (first | ((with_reducible refine gate_dst (N := 134) rfl ?_); refine Kd.R_lit (Kd.int .u8) _ 5 ?hg (N := 134) ?hd (xs := ([116, 114, 117, 101] : List Int)) (inner := [.int .u8 116, .int .u8 114, .int .u8 117, .int .u8 101]) (ok := fun _ => True) (okp := fun _ => True) ?hr ?hp (fun _ hk => hk) trivial (Below.refl _ _) (Nat.le_refl _) (by simp) ?_; (case hd => rfl); (case hg => rfl); (case hr => first | (go_simp; done) | (go_simp; rfl)); (case hp => exact (Reps.one (show Kd.M (Kd.int .u8) _ _ _ 116 [.int .u8 116] from rfl) (Reps.one (show Kd.M (Kd.int .u8) _ _ _ 114 [.int .u8 114] from rfl) (Reps.one (show Kd.M (Kd.int .u8) _ _ _ 117 [.int .u8 117] from rfl) (Reps.one (show Kd.M (Kd.int .u8) _ _ _ 101 [.int .u8 101] from rfl) (Reps.none _ _)))))); intro v545 w48 ho49 hb hg_ hnew_; clear hg_ hnew_; (first | rw [← Ny544.out] at ho49 | (simp only [Int.reduceToNat] at ho49; rw [← Ny544.out] at ho49)); have n0_ := a_ (Kd.R_elder' (rp_ HO_0) (Kd.R_base ho49) hb); have n1_ := a_ (Kd.V_elder' (vp_ HO_1) (Kd.R_base ho49) hb); have n2_ := a_ (Kd.R_lower (Kd.R_new' (Kd.R_newM (M := fun k_ => (P0_ k_ ∨ w.heap.size ≤ k_)) ho49 (kz_ HK) (fun k_ h_ => .inr h_)) (Kd.R_lt (rp_ HO_0))) (below_size (bl_ HB))); have n3_ := a_ (Kept.below (S := (fun k_ => P0_ k_)) (kp_ HK) hb); have n4_ := a_ (below_step (bl_ HB) hb); clear HO_0 HO_1 HK HB; have HO_0 := n0_; have HO_1 := n1_; have HO546 := n2_; have HK := n3_; have HB := n4_; clear n0_ n1_ n2_ n3_ n4_; clear hb ho49; obtain ⟨Ao51, co51, eo51⟩ := Kd.R_slice HO546.out; subst eo51) | ((with_reducible refine gate_builtin (b := .append) (xs := #[.tmp 133, .tmp 134]) rfl ?_); at_builtin; refine Kd.R_append_rows (Kd.int .u8) (w0 := w0) w0.heap.size rfl (.tmp 133) (.tmp 134) 32 5 (.int .u8 0) 1 rfl Try.underlying32 info5 rfl (by decide) (by omega) u9000_ l0 y544 _ _ _ (fun k_ => (P0_ k_ ∨ w.heap.size ≤ k_) ∧ some k_ ≠ (.slice Ao51 y544.length co51 : Value).ownBlock) (fun _ => False) rfl rfl ?aO ?aR (fun _ _ h => h) (fun _ h => h.elim) ?aF ?aB ?aS ?aL ?_; (case aR => repeat (first | exact (Kd.R_reads' HO546.out).2.2 | (with_reducible refine Kd.C_alloc ?_ _) | (with_reducible refine Kd.C_drewN ?_ _) | (with_reducible refine Kd.C_drew ?_))); (case aB => exact (bl_ HB)); (case aF => exact (fun k_ hk => ⟨(.inr (Nat.le_trans (kz_ HK) hk)), Kd.fresh' (Kd.R_lt (rp_ HO546)) k_ hk⟩)); (case aO => exact (rp_ HO_0)); (case aS => exact (below_size (bl_ HB))); (case aL => have := LMc47.out; omega); intro v548 w50 ho hb hg hat; rw [← Ny547.out] at ho; have n0_ := a_ (Kd.V_afterv (ok := (fun k_ => ((P0_ k_ ∨ P1_ k_) ∨ w.heap.size ≤ k_) ∧ some k_ ≠ (.slice Ao51 y544.length co51 : Value).ownBlock)) (by (with_reducible repeat (first | apply Kd.V_alloc | apply Kd.V_drewN | apply Kd.V_drew)); exact Kd.V_mono HO_1.out (fun _ hk => ⟨⟨hk.1.1, hk.2⟩, hk.1.2⟩)) hg hat); have n1_ := a_ (Kd.R_after (ok := (fun k_ => (P0_ k_ ∨ w.heap.size ≤ k_))) (by (with_reducible repeat (first | apply Kd.R_alloc | apply Kd.R_drewN | apply Kd.R_drew)); exact Kd.R_mono HO546.out (fun _ hk => ⟨hk.1.1, hk.2⟩)) hg hat); have n2_ := a_ (hb); have n3_ := a_ (Kept.of_grown (S := (fun k_ => P0_ k_)) hg (kp_ HK) (fun k_ e_ => (HO_0.out.1 k_ e_).1)); have n4_ := a_ (ho); clear HO_1 HO546 HB HK HO_0; have HO_1 := n0_; have HO546 := n1_; have HB := n2_; have HK := n3_; have HO549 := n4_; clear n0_ n1_ n2_ n3_ n4_; clear ho hb hg hat))
     refine bodyPost_ret (results_list (rs := [.tmp 22, .tmp 23, .tmp 24, .tmp 25]) rfl (by simp) (.tmp (.tmp (.tmp (.tmp .nil))))) rfl ?_
     exact ⟨_, by first | rfl | (simp [errW_none, errW_some] <;> rfl) | (simp [*, errW_none, errW_some] <;> rfl), by (with_reducible repeat (first | apply Kd.R_alloc | apply Kd.R_drewN | apply Kd.R_drew)); exact Kd.R_mono HO549.out (fun _ hk => hk.1), bl_ HB, kp_ HK⟩
    rw [if_neg c46] at H
    have c46b0 : ((rd l1 x2_1) == 116) = false := beq_eq_false_iff_ne.mpr c46
    have c46b1 : ((rd l1 x2_1) != 116) = true := bne_iff_ne.mpr c46
    by_cases c52 : (rd l1 x2_1) = 102
    ·
     rw [if_pos c52] at H
     have c52b0 : ((rd l1 x2_1) == 102) = true := beq_iff_eq.mpr c52
     have c52b1 : ((rd l1 x2_1) != 102) = false := bne_eq_false_iff_eq.mpr c52
     clear c52
     obtain ⟨y550, hy550⟩ : ∃ y_ : List Int, y_ = (([102, 97, 108, 115, 101] : List Int)) := ⟨_, rfl⟩
     replace H := lt_ H hy550
     have Ny550 := a_ hy550
     clear hy550
     by_cases c53 : l0.length + y550.length < 140737488355328
     rotate_left
     ·
      rw [if_neg c53] at H
      exact absurd H (by simp)
     rw [if_pos c53] at H
     have LMc53 := a_ c53
     clear c53
     obtain ⟨y553, hy553⟩ : ∃ y_ : List Int, y_ = (l0 ++ y550) := ⟨_, rfl⟩
     replace H : (some (y553, wrap64 (x2_1 + 5), a9, true)) = some (r1, r2, r3, r4) := by first | exact lt_ H hy553 | (rw [hy553]; exact H) | exact H
     have Ny553 := a_ hy553
     clear hy553
     simp only [Option.some.injEq, Prod.mk.injEq] at H
     obtain ⟨rfl, rfl, rfl, rfl⟩ := H
     have p529 : 0 ≤ (x2_1 : Int) := of_decide_eq_true as_
     have q529 : x2_1 < (l1.length : Int) := of_decide_eq_true as_
     obtain ⟨ad529, e529, hx529_0⟩ := Kd.at_int (Kd.V_reads' HO_1.out).2.2 x2_1 p529 q529
     obtain rfl : ad499 = ad529 := (by injection e529)
     replace p529 := eq_true p529
     replace q529 := eq_true q529
     have p536 : 0 ≤ (x2_1 : Int) := of_decide_eq_true as_
     have q536 : x2_1 < (l1.length : Int) := of_decide_eq_true as_
     obtain ⟨ad536, e536, hx536_0⟩ := Kd.at_int (Kd.V_reads' HO_1.out).2.2 x2_1 p536 q536
     obtain rfl : ad499 = ad536 := (by injection e536)
     replace p536 := eq_true p536
     replace q536 := eq_true q536
     have p543 : 0 ≤ (x2_1 : Int) := of_decide_eq_true as_
     have q543 : x2_1 < (l1.length : Int) := of_decide_eq_true as_
     obtain ⟨ad543, e543, hx543_0⟩ := Kd.at_int (Kd.V_reads' HO_1.out).2.2 x2_1 p543 q543
     obtain rfl : ad499 = ad543 := (by injection e543)
     replace p543 := eq_true p543
     replace q543 := eq_true q543
     go_wp2_with (first | ((with_reducible refine gate_dst (N := 142) rfl ?_); refine Kd.R_lit (Kd.int .u8) _ 5 ?hg (N := 142) ?hd (xs := ([102, 97, 108, 115, 101] : List Int)) (inner := [.int .u8 102, .int .u8 97, .int .u8 108, .int .u8 115, .int .u8 101]) (ok := fun _ => True) (okp := fun _ => True) ?hr ?hp (fun _ hk => hk) trivial (Below.refl _ _) (Nat.le_refl _) (by simp) ?_; (case hd => rfl); (case hg => rfl); (case hr => first | (go_simp; done) | (go_simp; rfl)); (case hp => exact (Reps.one (show Kd.M (Kd.int .u8) _ _ _ 102 [.int .u8 102] from rfl) (Reps.one (show Kd.M (Kd.int .u8) _ _ _ 97 [.int .u8 97] from rfl) (Reps.one (show Kd.M (Kd.int .u8) _ _ _ 108 [.int .u8 108] from rfl) (Reps.one (show Kd.M (Kd.int .u8) _ _ _ 115 [.int .u8 115] from rfl) (Reps.one (show Kd.M (Kd.int .u8) _ _ _ 101 [.int .u8 101] from rfl) (Reps.none _ _))))))); intro v551 w54 ho55 hb hg_ hnew_; clear hg_ hnew_; (first | rw [← Ny550.out] at ho55 | (simp only [Int.reduceToNat] at ho55; rw [← Ny550.out] at ho55)); have n0_ := a_ (Kd.R_elder' (rp_ HO_0) (Kd.R_base ho55) hb); have n1_ := a_ (Kd.V_elder' (vp_ HO_1) (Kd.R_base ho55) hb); have n2_ := a_ (Kd.R_lower (Kd.R_new' (Kd.R_newM (M := fun k_ => (P0_ k_ ∨ w.heap.size ≤ k_)) ho55 (kz_ HK) (fun k_ h_ => .inr h_)) (Kd.R_lt (rp_ HO_0))) (below_size (bl_ HB))); have n3_ := a_ (Kept.below (S := (fun k_ => P0_ k_)) (kp_ HK) hb); have n4_ := a_ (below_step (bl_ HB) hb); clear HO_0 HO_1 HK HB; have HO_0 := n0_; have HO_1 := n1_; have HO552 := n2_; have HK := n3_; have HB := n4_; clear n0_ n1_ n2_ n3_ n4_; clear hb ho55; obtain ⟨Ao57, co57, eo57⟩ := Kd.R_slice HO552.out; subst eo57) | ((with_reducible refine gate_builtin (b := .append) (xs := #[.tmp 141, .tmp 142]) rfl ?_); at_builtin; refine Kd.R_append_rows (Kd.int .u8) (w0 := w0) w0.heap.size rfl (.tmp 141) (.tmp 142) 32 5 (.int .u8 0) 1 rfl Try.underlying32 info5 rfl (by decide) (by omega) u9000_ l0 y550 _ _ _ (fun k_ => (P0_ k_ ∨ w.heap.size ≤ k_) ∧ some k_ ≠ (.slice Ao57 y550.length co57 : Value).ownBlock) (fun _ => False) rfl rfl ?aO ?aR (fun _ _ h => h) (fun _ h => h.elim) ?aF ?aB ?aS ?aL ?_; (case aR => repeat (first | exact (Kd.R_reads' HO552.out).2.2 | (with_reducible refine Kd.C_alloc ?_ _) | (with_reducible refine Kd.C_drewN ?_ _) | (with_reducible refine Kd.C_drew ?_))); (case aB => exact (bl_ HB)); (case aF => exact (fun k_ hk => ⟨(.inr (Nat.le_trans (kz_ HK) hk)), Kd.fresh' (Kd.R_lt (rp_ HO552)) k_ hk⟩)); (case aO => exact (rp_ HO_0)); (case aS => exact (below_size (bl_ HB))); (case aL => have := LMc53.out; omega); intro v554 w56 ho hb hg hat; rw [← Ny553.out] at ho; have n0_ := a_ (Kd.V_afterv (ok := (fun k_ => ((P0_ k_ ∨ P1_ k_) ∨ w.heap.size ≤ k_) ∧ some k_ ≠ (.slice Ao57 y550.length co57 : Value).ownBlock)) (by (with_reducible repeat (first | apply Kd.V_alloc | apply Kd.V_drewN | apply Kd.V_drew)); exact Kd.V_mono HO_1.out (fun _ hk => ⟨⟨hk.1.1, hk.2⟩, hk.1.2⟩)) hg hat); have n1_ := a_ (Kd.R_after (ok := (fun k_ => (P0_ k_ ∨ w.heap.size ≤ k_))) (by (with_reducible repeat (first | apply Kd.R_alloc | apply Kd.R_drewN | apply Kd.R_drew)); exact Kd.R_mono HO552.out (fun _ hk => ⟨hk.1.1, hk.2⟩)) hg hat); have n2_ := a_ (hb); have n3_ := a_ (Kept.of_grown (S := (fun k_ => P0_ k_)) hg (kp_ HK) (fun k_ e_ => (HO_0.out.1 k_ e_).1)); have n4_ := a_ (ho); clear HO_1 HO552 HB HK HO_0; have HO_1 := n0_; have HO552 := n1_; have HB := n2_; have HK := n3_; have HO555 := n4_; clear n0_ n1_ n2_ n3_ n4_; clear ho hb hg hat))
     refine bodyPost_ret (results_list (rs := [.tmp 22, .tmp 23, .tmp 24, .tmp 25]) rfl (by simp) (.tmp (.tmp (.tmp (.tmp .nil))))) rfl ?_
     exact ⟨_, by first | rfl | (simp [errW_none, errW_some] <;> rfl) | (simp [*, errW_none, errW_some] <;> rfl), by (with_reducible repeat (first | apply Kd.R_alloc | apply Kd.R_drewN | apply Kd.R_drew)); exact Kd.R_mono HO555.out (fun _ hk => hk.1), bl_ HB, kp_ HK⟩
    rw [if_neg c52] at H
    have c52b0 : ((rd l1 x2_1) == 102) = false := beq_eq_false_iff_ne.mpr c52
    have c52b1 : ((rd l1 x2_1) != 102) = true := bne_iff_ne.mpr c52
    by_cases c58 : (rd l1 x2_1) = 110
    rotate_left
    ·
     rw [if_neg c58] at H
     have c58b0 : ((rd l1 x2_1) == 110) = false := beq_eq_false_iff_ne.mpr c58
     have c58b1 : ((rd l1 x2_1) != 110) = true := bne_iff_ne.mpr c58
     have H' := a_ H
     clear H
     have p529 : 0 ≤ (x2_1 : Int) := of_decide_eq_true as_
     have q529 : x2_1 < (l1.length : Int) := of_decide_eq_true as_
     obtain ⟨ad529, e529, hx529_0⟩ := Kd.at_int (Kd.V_reads' HO_1.out).2.2 x2_1 p529 q529
     obtain rfl : ad499 = ad529 := (by injection e529)
     replace p529 := eq_true p529
     replace q529 := eq_true q529
     have p536 : 0 ≤ (x2_1 : Int) := of_decide_eq_true as_
     have q536 : x2_1 < (l1.length : Int) := of_decide_eq_true as_
     obtain ⟨ad536, e536, hx536_0⟩ := Kd.at_int (Kd.V_reads' HO_1.out).2.2 x2_1 p536 q536
     obtain rfl : ad499 = ad536 := (by injection e536)
     replace p536 := eq_true p536
     replace q536 := eq_true q536
     have p543 : 0 ≤ (x2_1 : Int) := of_decide_eq_true as_
     have q543 : x2_1 < (l1.length : Int) := of_decide_eq_true as_
     obtain ⟨ad543, e543, hx543_0⟩ := Kd.at_int (Kd.V_reads' HO_1.out).2.2 x2_1 p543 q543
     obtain rfl : ad499 = ad543 := (by injection e543)
     replace p543 := eq_true p543
     replace q543 := eq_true q543
     go_wp2
     go_roundg kj18
     case measure => have := HK1.out; have := HJ18.out; omega
     case rel => exact ⟨(wrap64 (x2_1 + 1)), rl_, H', ⟨by have := HK1.out; have := HJ18.out; omega⟩, ⟨rp_ HO_0⟩, ⟨vp_ HO_1⟩, ⟨kp_ HK⟩, ⟨bl_ HB⟩⟩
    rw [if_pos c58] at H
    have c58b0 : ((rd l1 x2_1) == 110) = true := beq_iff_eq.mpr c58
    have c58b1 : ((rd l1 x2_1) != 110) = false := bne_eq_false_iff_eq.mpr c58
    clear c58
    obtain ⟨y556, hy556⟩ : ∃ y_ : List Int, y_ = (([110, 117, 108, 108] : List Int)) := ⟨_, rfl⟩
    replace H := lt_ H hy556
    have Ny556 := a_ hy556
    clear hy556
    by_cases c59 : l0.length + y556.length < 140737488355328
    rotate_left
    ·
     rw [if_neg c59] at H
     exact absurd H (by simp)
    rw [if_pos c59] at H
    have LMc59 := a_ c59
    clear c59
    obtain ⟨y559, hy559⟩ : ∃ y_ : List Int, y_ = (l0 ++ y556) := ⟨_, rfl⟩
    replace H : (some (y559, wrap64 (x2_1 + 4), a9, true)) = some (r1, r2, r3, r4) := by first | exact lt_ H hy559 | (rw [hy559]; exact H) | exact H
    have Ny559 := a_ hy559
    clear hy559
    simp only [Option.some.injEq, Prod.mk.injEq] at H
    obtain ⟨rfl, rfl, rfl, rfl⟩ := H
    have p529 : 0 ≤ (x2_1 : Int) := of_decide_eq_true as_
    have q529 : x2_1 < (l1.length : Int) := of_decide_eq_true as_
    obtain ⟨ad529, e529, hx529_0⟩ := Kd.at_int (Kd.V_reads' HO_1.out).2.2 x2_1 p529 q529
    obtain rfl : ad499 = ad529 := (by injection e529)
    replace p529 := eq_true p529
    replace q529 := eq_true q529
    have p536 : 0 ≤ (x2_1 : Int) := of_decide_eq_true as_
    have q536 : x2_1 < (l1.length : Int) := of_decide_eq_true as_
    obtain ⟨ad536, e536, hx536_0⟩ := Kd.at_int (Kd.V_reads' HO_1.out).2.2 x2_1 p536 q536
    obtain rfl : ad499 = ad536 := (by injection e536)
    replace p536 := eq_true p536
    replace q536 := eq_true q536
    have p543 : 0 ≤ (x2_1 : Int) := of_decide_eq_true as_
    have q543 : x2_1 < (l1.length : Int) := of_decide_eq_true as_
    obtain ⟨ad543, e543, hx543_0⟩ := Kd.at_int (Kd.V_reads' HO_1.out).2.2 x2_1 p543 q543
    obtain rfl : ad499 = ad543 := (by injection e543)
    replace p543 := eq_true p543
    replace q543 := eq_true q543
    go_wp2_with (first | ((with_reducible refine gate_dst (N := 150) rfl ?_); refine Kd.R_lit (Kd.int .u8) _ 5 ?hg (N := 150) ?hd (xs := ([110, 117, 108, 108] : List Int)) (inner := [.int .u8 110, .int .u8 117, .int .u8 108, .int .u8 108]) (ok := fun _ => True) (okp := fun _ => True) ?hr ?hp (fun _ hk => hk) trivial (Below.refl _ _) (Nat.le_refl _) (by simp) ?_; (case hd => rfl); (case hg => rfl); (case hr => first | (go_simp; done) | (go_simp; rfl)); (case hp => exact (Reps.one (show Kd.M (Kd.int .u8) _ _ _ 110 [.int .u8 110] from rfl) (Reps.one (show Kd.M (Kd.int .u8) _ _ _ 117 [.int .u8 117] from rfl) (Reps.one (show Kd.M (Kd.int .u8) _ _ _ 108 [.int .u8 108] from rfl) (Reps.one (show Kd.M (Kd.int .u8) _ _ _ 108 [.int .u8 108] from rfl) (Reps.none _ _)))))); intro v557 w60 ho61 hb hg_ hnew_; clear hg_ hnew_; (first | rw [← Ny556.out] at ho61 | (simp only [Int.reduceToNat] at ho61; rw [← Ny556.out] at ho61)); have n0_ := a_ (Kd.R_elder' (rp_ HO_0) (Kd.R_base ho61) hb); have n1_ := a_ (Kd.V_elder' (vp_ HO_1) (Kd.R_base ho61) hb); have n2_ := a_ (Kd.R_lower (Kd.R_new' (Kd.R_newM (M := fun k_ => (P0_ k_ ∨ w.heap.size ≤ k_)) ho61 (kz_ HK) (fun k_ h_ => .inr h_)) (Kd.R_lt (rp_ HO_0))) (below_size (bl_ HB))); have n3_ := a_ (Kept.below (S := (fun k_ => P0_ k_)) (kp_ HK) hb); have n4_ := a_ (below_step (bl_ HB) hb); clear HO_0 HO_1 HK HB; have HO_0 := n0_; have HO_1 := n1_; have HO558 := n2_; have HK := n3_; have HB := n4_; clear n0_ n1_ n2_ n3_ n4_; clear hb ho61; obtain ⟨Ao63, co63, eo63⟩ := Kd.R_slice HO558.out; subst eo63) | ((with_reducible refine gate_builtin (b := .append) (xs := #[.tmp 149, .tmp 150]) rfl ?_); at_builtin; refine Kd.R_append_rows (Kd.int .u8) (w0 := w0) w0.heap.size rfl (.tmp 149) (.tmp 150) 32 5 (.int .u8 0) 1 rfl Try.underlying32 info5 rfl (by decide) (by omega) u9000_ l0 y556 _ _ _ (fun k_ => (P0_ k_ ∨ w.heap.size ≤ k_) ∧ some k_ ≠ (.slice Ao63 y556.length co63 : Value).ownBlock) (fun _ => False) rfl rfl ?aO ?aR (fun _ _ h => h) (fun _ h => h.elim) ?aF ?aB ?aS ?aL ?_; (case aR => repeat (first | exact (Kd.R_reads' HO558.out).2.2 | (with_reducible refine Kd.C_alloc ?_ _) | (with_reducible refine Kd.C_drewN ?_ _) | (with_reducible refine Kd.C_drew ?_))); (case aB => exact (bl_ HB)); (case aF => exact (fun k_ hk => ⟨(.inr (Nat.le_trans (kz_ HK) hk)), Kd.fresh' (Kd.R_lt (rp_ HO558)) k_ hk⟩)); (case aO => exact (rp_ HO_0)); (case aS => exact (below_size (bl_ HB))); (case aL => have := LMc59.out; omega); intro v560 w62 ho hb hg hat; rw [← Ny559.out] at ho; have n0_ := a_ (Kd.V_afterv (ok := (fun k_ => ((P0_ k_ ∨ P1_ k_) ∨ w.heap.size ≤ k_) ∧ some k_ ≠ (.slice Ao63 y556.length co63 : Value).ownBlock)) (by (with_reducible repeat (first | apply Kd.V_alloc | apply Kd.V_drewN | apply Kd.V_drew)); exact Kd.V_mono HO_1.out (fun _ hk => ⟨⟨hk.1.1, hk.2⟩, hk.1.2⟩)) hg hat); have n1_ := a_ (Kd.R_after (ok := (fun k_ => (P0_ k_ ∨ w.heap.size ≤ k_))) (by (with_reducible repeat (first | apply Kd.R_alloc | apply Kd.R_drewN | apply Kd.R_drew)); exact Kd.R_mono HO558.out (fun _ hk => ⟨hk.1.1, hk.2⟩)) hg hat); have n2_ := a_ (hb); have n3_ := a_ (Kept.of_grown (S := (fun k_ => P0_ k_)) hg (kp_ HK) (fun k_ e_ => (HO_0.out.1 k_ e_).1)); have n4_ := a_ (ho); clear HO_1 HO558 HB HK HO_0; have HO_1 := n0_; have HO558 := n1_; have HB := n2_; have HK := n3_; have HO561 := n4_; clear n0_ n1_ n2_ n3_ n4_; clear ho hb hg hat))
    refine bodyPost_ret (results_list (rs := [.tmp 22, .tmp 23, .tmp 24, .tmp 25]) rfl (by simp) (.tmp (.tmp (.tmp (.tmp .nil))))) rfl ?_
    exact ⟨_, by first | rfl | (simp [errW_none, errW_some] <;> rfl) | (simp [*, errW_none, errW_some] <;> rfl), by (with_reducible repeat (first | apply Kd.R_alloc | apply Kd.R_drewN | apply Kd.R_drew)); exact Kd.R_mono HO561.out (fun _ hk => hk.1), bl_ HB, kp_ HK⟩
theorem pretty_appendPrettyObject.callsH (k : Nat) (ih : ∀ m_, m_ < k → pretty_appendPrettyObject.CT m_) (ih24 : ∀ m_, m_ < k → pretty_appendPrettyAny.CT m_) : pretty_appendPrettyObject.CT k := by
  intro P0_ u9000_ l0 P1_ A1 c1 l1 a2 a3 a4 a5 a6 a7 a8 a9 a10 a11 a12 r1 r2 r3 r4 w0 w hB ho0 hs1 h
  cases k with
  | zero => exact absurd h (by simp [pretty_appendPrettyObject.f])
  | succ k =>
    simp only [pretty_appendPrettyObject.f] at h
    by_cases c_ : a3 = 123
    · rw [if_pos c_] at h
      exact pretty_appendPrettyObjectA.callsH k (fun m_ hm_ => ih m_ (by omega)) (fun m_ hm_ => ih24 m_ (by omega)) P0_ u9000_ l0 P1_ A1 c1 l1 a2 a3 a4 a5 a6 a7 a8 a9 a10 a11 a12 r1 r2 r3 r4 w0 w hB ho0 hs1 h
    · rw [if_neg c_] at h
      exact pretty_appendPrettyObjectB.callsH k (fun m_ hm_ => ih m_ (by omega)) (fun m_ hm_ => ih24 m_ (by omega)) P0_ u9000_ l0 P1_ A1 c1 l1 a2 a3 a4 a5 a6 a7 a8 a9 a10 a11 a12 r1 r2 r3 r4 w0 w hB ho0 hs1 h
theorem pretty_appendPrettyObject.scc.all (k : Nat) : pretty_appendPrettyObject.CT k ∧ pretty_appendPrettyAny.CT k := by
  induction k using Nat.strongRecOn with
  | _ k ih_ =>
  exact ⟨pretty_appendPrettyObject.callsH k (fun m_ hm_ => (ih_ m_ hm_).1) (fun m_ hm_ => (ih_ m_ hm_).2), pretty_appendPrettyAny.callsH k (fun m_ hm_ => (ih_ m_ hm_).1) (fun m_ hm_ => (ih_ m_ hm_).2)⟩
theorem pretty_appendPrettyObject.calls (k : Nat) : pretty_appendPrettyObject.CT k := (pretty_appendPrettyObject.scc.all k).1
theorem pretty_appendPrettyAny.calls (k : Nat) : pretty_appendPrettyAny.CT k := (pretty_appendPrettyObject.scc.all k).2
-- NOT PRINTED: function 13 (pretty_PrettyOptions)
-- NOT PRINTED: function 9 (pretty_Pretty)
end Go.Proofs.Ytapgjhgjhcfmoaa.PFnPrDefaultLaid
