/- Contracts of Go functions of this seat: for each a Lean function over numbers and lists and a proof that the Go function, called in any memory, returns what it gives. Made by program. -/
import Derived.Test.YtapgjhgjhcfmoaaPFnPrDefaultLaidx0
import Derived.Test.YtapgjhgjhcfmoaaPFnPrDefaultLaidx8
namespace Go.Proofs.Ytapgjhgjhcfmoaa.PFnPrDefaultLaid
open Go.RowKit Go.Proofs.YtapgjhgjhcfmoaaW.PrintWords Go.Proofs.YtapgjhgjhcfmoaaW.PrintLast Go.Proofs.YtapgjhgjhcfmoaaW.PrintMore
attribute [local go_sem] max2_int min2_int max_two min_two max_three min_three max_four min_four   -- for this text's walks alone
set_option linter.unusedVariables false
set_option linter.unusedSimpArgs false
/-! ### pretty_appendPrettyObjectB: function 31 -/
set_option maxHeartbeats 8000000 in
set_option maxRecDepth 100000 in
theorem pretty_appendPrettyObjectB.callsH (k : Nat) (ih : ∀ m_, m_ < k → pretty_appendPrettyObject.CT m_) (ih24 : ∀ m_, m_ < k → pretty_appendPrettyAny.CT m_) : pretty_appendPrettyObjectB.CT k := by
 intro P0_ u9000_ l0 P1_ A1 c1 l1 a2 a3 a4 a5 a6 a7 a8 a9 a10 a11 a12 r1 r2 r3 r4 w0 w hB ho0 hs1 h
 cases k with
 | zero => exact absurd h (by simp [pretty_appendPrettyObjectB.f])
 | succ k =>
 simp only [pretty_appendPrettyObjectB.f] at h
 have hu64 := Try.underlying64
 have HO0 := a_ (show Kd.R (Kd.int .u8) 5 w w0.heap.size (fun k_ => (P0_ k_ ∨ w.heap.size ≤ k_)) u9000_ l0 from Kd.R_mono ho0 (fun k_ hk => (.inl hk)))
 have HO1 := a_ (show Kd.V (Kd.int .u8) 5 w w0.heap.size (fun k_ => ((P0_ k_ ∨ P1_ k_) ∨ w.heap.size ≤ k_) ∧ some k_ ≠ (u9000_ : Value).ownBlock) (.slice A1 l1.length c1) l1 from Kd.V_mono hs1 (fun k_ hk => ⟨.inl (.inr hk.1), hk.2⟩))
 have HK := a_ (Kept.refl w (fun k_ => P0_ k_))
 have HW0 := a_ hB.size
 have HB := a_ hB
 clear hB
 have H : (if a9 = true then (none) else (if a3 = 91 then (if a6 > 0 then (if a5 = true then (pretty_appendPrettyObjectB.j0 k l0 l1 a2 a3 a4 a5 a6 a7 a8 a9 a10 a11 a12 (a12 == (-1))) else (pretty_appendPrettyObjectB.j0 k l0 l1 a2 a3 a4 a5 a6 a7 a8 a9 a10 a11 a12 false)) else (pretty_appendPrettyObjectB.j1 k l0 l1 a2 a3 a4 a5 a7 a8 a9 a10 a11)) else (none))) = some (r1, r2, r3, r4) := h
 clear h
 by_cases c14 : a9 = true
 ·
  subst c14
  have H1 : (none) = some (r1, r2, r3, r4) := by rw [if_pos rfl] at H; exact H
  clear H
  have H := H1
  clear H1
  exact absurd H (by simp)
 replace c14 := Bool.eq_false_iff.mpr c14
 subst c14
 have H1 : (if a3 = 91 then (if a6 > 0 then (if a5 = true then (pretty_appendPrettyObjectB.j0 k l0 l1 a2 a3 a4 a5 a6 a7 a8 false a10 a11 a12 (a12 == (-1))) else (pretty_appendPrettyObjectB.j0 k l0 l1 a2 a3 a4 a5 a6 a7 a8 false a10 a11 a12 false)) else (pretty_appendPrettyObjectB.j1 k l0 l1 a2 a3 a4 a5 a7 a8 false a10 a11)) else (none)) = some (r1, r2, r3, r4) := by rw [if_neg (show ¬ (false = true) by decide)] at H; exact H
 clear H
 have H := H1
 clear H1
 by_cases c15 : a3 = 91
 rotate_left
 ·
  rw [if_neg c15] at H
  exact absurd H (by simp)
 rw [if_pos c15] at H
 have c15b0 : (a3 == 91) = true := beq_iff_eq.mpr c15
 have c15b1 : (a3 != 91) = false := bne_eq_false_iff_eq.mpr c15
 clear c15
 have HC16 := a_ H
 clear H
 go_enter Try.func31, Try.ntmps31
 go_upto_if 38 with (fail)
 go_cut [0, 2] (fun v0 v2 wc => ∃ (kq : Nat) (x0_15 : List Int) (x2_15 : Int), v2 = .int .i64 x2_15 ∧ Aside0 (pretty_appendPrettyObjectB.j1 kq x0_15 l1 x2_15 a3 a4 a5 a7 a8 false a10 a11 = some (r1, r2, r3, r4)) ∧ Aside0 (kq ≤ k) ∧ Aside0 (Kd.R (Kd.int .u8) 5 wc w0.heap.size (fun k_ => (P0_ k_ ∨ w.heap.size ≤ k_)) v0 x0_15) ∧ Aside0 (Kd.V (Kd.int .u8) 5 wc w0.heap.size (fun k_ => ((P0_ k_ ∨ P1_ k_) ∨ w.heap.size ≤ k_) ∧ some k_ ≠ (v0 : Value).ownBlock) (.slice A1 l1.length c1) l1) ∧ Aside0 (Kept w wc (fun k_ => P0_ k_)) ∧ Aside0 (Below w0.heap.size w0 wc))
 case first =>
  have H := HC16.out
  clear HC16
  by_cases c17 : a6 > 0
  rotate_left
  ·
   rw [if_neg c17] at H
   have c17b0 : decide (0 < a6) = false := decide_eq_false c17
   clear c17
   (first | rw [c17b0] | (simp only [i64_w, i32_w]; rw [c17b0]) | skip)
   have H' := a_ H
   clear H
   go_wp2
   go_meet
   case rel => exact ⟨_, (l0), (a2), rl_, H', ⟨by first | omega | exact Nat.le_refl _⟩, ⟨rp_ HO0⟩, ⟨vp_ HO1⟩, ⟨kp_ HK⟩, ⟨bl_ HB⟩⟩
  rw [if_pos c17] at H
  have c17b0 : decide (0 < a6) = true := decide_eq_true c17
  clear c17
  (first | rw [c17b0] | (simp only [i64_w, i32_w]; rw [c17b0]) | skip)
  have HC18 := a_ H
  clear H
  go_upto_region 3 with (fail)
  go_cut [47] (fun v47 wc => ∃ (kq : Nat) (x47_17 : Bool), v47 = .bool x47_17 ∧ Aside0 (pretty_appendPrettyObjectB.j0 kq l0 l1 a2 a3 a4 a5 a6 a7 a8 false a10 a11 a12 x47_17 = some (r1, r2, r3, r4)) ∧ Aside0 (kq ≤ k) ∧ Aside0 (Kd.R (Kd.int .u8) 5 wc w0.heap.size (fun k_ => (P0_ k_ ∨ w.heap.size ≤ k_)) u9000_ l0) ∧ Aside0 (Kd.V (Kd.int .u8) 5 wc w0.heap.size (fun k_ => ((P0_ k_ ∨ P1_ k_) ∨ w.heap.size ≤ k_) ∧ some k_ ≠ (u9000_ : Value).ownBlock) (.slice A1 l1.length c1) l1) ∧ Aside0 (Kept w wc (fun k_ => P0_ k_)) ∧ Aside0 (Below w0.heap.size w0 wc))
  case first =>
   have H := HC18.out
   clear HC18
   by_cases c19 : a5 = true
   ·
    subst c19
    have H1 : (pretty_appendPrettyObjectB.j0 k l0 l1 a2 a3 a4 true a6 a7 a8 false a10 a11 a12 (a12 == (-1))) = some (r1, r2, r3, r4) := by rw [if_pos rfl] at H; exact H
    clear H
    have H := H1
    clear H1
    have H' := a_ H
    clear H
    go_wp2
    go_meet
    case rel => exact ⟨_, ((a12 == (-1))), rl_, H', ⟨by first | omega | exact Nat.le_refl _⟩, ⟨rp_ HO0⟩, ⟨vp_ HO1⟩, ⟨kp_ HK⟩, ⟨bl_ HB⟩⟩
   replace c19 := Bool.eq_false_iff.mpr c19
   subst c19
   have H1 : (pretty_appendPrettyObjectB.j0 k l0 l1 a2 a3 a4 false a6 a7 a8 false a10 a11 a12 false) = some (r1, r2, r3, r4) := by rw [if_neg (show ¬ (false = true) by decide)] at H; exact H
   clear H
   have H := H1
   clear H1
   have H' := a_ H
   clear H
   go_wp2
   go_meet
   case rel => exact ⟨_, (false), rl_, H', ⟨by first | omega | exact Nat.le_refl _⟩, ⟨rp_ HO0⟩, ⟨vp_ HO1⟩, ⟨kp_ HK⟩, ⟨bl_ HB⟩⟩
  clear HC18
  (try clear c1); (try clear p2); (try clear c3); (try clear c14); (try clear c15); (try clear c15b0); (try clear c15b1); (try clear c17); (try clear c17b0); (try clear c19)
  as_aux_lemma =>
   obtain ⟨kq, x47_17, rfl, HA, HJ17, HO_0, HO_1, HK, HB⟩ := hcut
   cases kq with
   | zero => exact absurd HA.out (by simp [pretty_appendPrettyObjectB.j0])
   | succ kj17 =>
    have H := HA.out
    clear HA
    simp only [pretty_appendPrettyObjectB.j0] at H
    have c20 : ¬ (false = true) := Bool.false_ne_true
    have H1 : (if a3 = 91 then (if x47_17 = true then (if (wrap64 (a6 - (wrap64 ((l0.length : Int) - a11)))) > 3 then ((pretty_appendPrettyObject.f kj17 l0 l1 a2 91 93 false a6 a7 (⟨#[]⟩ : ByteArray) false 0 0 (wrap64 (a6 - (wrap64 ((l0.length : Int) - a11))))).bind fun bt444 => (if bt444.2.2.2 = true then (if (wrap64 ((bt444.1.length : Int) - (l0.length : Int))) ≤ (wrap64 (a6 - (wrap64 ((l0.length : Int) - a11)))) then (some (bt444.1, bt444.2.1, a11, true)) else (if 0 ≤ (l0.length : Int) then (if (l0.length : Int) ≤ (bt444.1.length : Int) then (pretty_appendPrettyObjectB.j1 kj17 (bt444.1.take ((l0.length : Int) : Int).toNat) l1 a2 a3 a4 a5 a7 a8 false a10 a11) else (none)) else (none))) else (if 0 ≤ (l0.length : Int) then (if (l0.length : Int) ≤ (bt444.1.length : Int) then (pretty_appendPrettyObjectB.j1 kj17 (bt444.1.take ((l0.length : Int) : Int).toNat) l1 a2 a3 a4 a5 a7 a8 false a10 a11) else (none)) else (none)))) else (pretty_appendPrettyObjectB.j1 kj17 l0 l1 a2 a3 a4 a5 a7 a8 false a10 a11)) else (if a12 = (-1) then (pretty_appendPrettyObjectB.j1 kj17 l0 l1 a2 a3 a4 a5 a7 a8 false a10 a11) else (if a3 = 123 then (none) else (pretty_appendPrettyObjectB.j1 kj17 l0 l1 a2 a3 a4 a5 a7 a8 false a10 a11)))) else (none)) = some (r1, r2, r3, r4) := by rw [if_neg (show ¬ (false = true) by decide)] at H; exact H
    clear H
    have H := H1
    clear H1
    by_cases c21 : a3 = 91
    rotate_left
    ·
     rw [if_neg c21] at H
     exact absurd H (by simp)
    rw [if_pos c21] at H
    have c21b0 : (a3 == 91) = true := beq_iff_eq.mpr c21
    have c21b1 : (a3 != 91) = false := bne_eq_false_iff_eq.mpr c21
    clear c21
    by_cases c22 : x47_17 = true
    rotate_left
    ·
     replace c22 := Bool.eq_false_iff.mpr c22
     subst c22
     have H1 : (if a12 = (-1) then (pretty_appendPrettyObjectB.j1 kj17 l0 l1 a2 a3 a4 a5 a7 a8 false a10 a11) else (if a3 = 123 then (none) else (pretty_appendPrettyObjectB.j1 kj17 l0 l1 a2 a3 a4 a5 a7 a8 false a10 a11))) = some (r1, r2, r3, r4) := by rw [if_neg (show ¬ (false = true) by decide)] at H; exact H
     clear H
     have H := H1
     clear H1
     by_cases c43 : a12 = (-1)
     ·
      rw [if_pos c43] at H
      have c43b0 : (a12 == (-1)) = true := beq_iff_eq.mpr c43
      have c43b1 : (a12 != (-1)) = false := bne_eq_false_iff_eq.mpr c43
      clear c43
      have H' := a_ H
      clear H
      go_wp2
      go_meet
      case rel => exact ⟨_, (l0), (a2), rl_, H', ⟨by have := HJ17.out; first | omega | exact Nat.le_refl _⟩, ⟨rp_ HO_0⟩, ⟨vp_ HO_1⟩, ⟨kp_ HK⟩, ⟨bl_ HB⟩⟩
     rw [if_neg c43] at H
     have c43b0 : (a12 == (-1)) = false := beq_eq_false_iff_ne.mpr c43
     have c43b1 : (a12 != (-1)) = true := bne_iff_ne.mpr c43
     by_cases c44 : a3 = 123
     ·
      rw [if_pos c44] at H
      exact absurd H (by simp)
     rw [if_neg c44] at H
     have c44b0 : (a3 == 123) = false := beq_eq_false_iff_ne.mpr c44
     have c44b1 : (a3 != 123) = true := bne_iff_ne.mpr c44
     have H' := a_ H
     clear H
     go_wp2
     go_meet
     case rel => exact ⟨_, (l0), (a2), rl_, H', ⟨by have := HJ17.out; first | omega | exact Nat.le_refl _⟩, ⟨rp_ HO_0⟩, ⟨vp_ HO_1⟩, ⟨kp_ HK⟩, ⟨bl_ HB⟩⟩
    subst c22
    have H1 : (if (wrap64 (a6 - (wrap64 ((l0.length : Int) - a11)))) > 3 then ((pretty_appendPrettyObject.f kj17 l0 l1 a2 91 93 false a6 a7 (⟨#[]⟩ : ByteArray) false 0 0 (wrap64 (a6 - (wrap64 ((l0.length : Int) - a11))))).bind fun bt444 => (if bt444.2.2.2 = true then (if (wrap64 ((bt444.1.length : Int) - (l0.length : Int))) ≤ (wrap64 (a6 - (wrap64 ((l0.length : Int) - a11)))) then (some (bt444.1, bt444.2.1, a11, true)) else (if 0 ≤ (l0.length : Int) then (if (l0.length : Int) ≤ (bt444.1.length : Int) then (pretty_appendPrettyObjectB.j1 kj17 (bt444.1.take ((l0.length : Int) : Int).toNat) l1 a2 a3 a4 a5 a7 a8 false a10 a11) else (none)) else (none))) else (if 0 ≤ (l0.length : Int) then (if (l0.length : Int) ≤ (bt444.1.length : Int) then (pretty_appendPrettyObjectB.j1 kj17 (bt444.1.take ((l0.length : Int) : Int).toNat) l1 a2 a3 a4 a5 a7 a8 false a10 a11) else (none)) else (none)))) else (pretty_appendPrettyObjectB.j1 kj17 l0 l1 a2 a3 a4 a5 a7 a8 false a10 a11)) = some (r1, r2, r3, r4) := by rw [if_pos rfl] at H; exact H
    clear H
    have H := H1
    clear H1
    by_cases c23 : (wrap64 (a6 - (wrap64 ((l0.length : Int) - a11)))) > 3
    rotate_left
    ·
     rw [if_neg c23] at H
     have c23b0 : decide (3 < (wrap64 (a6 - (wrap64 ((l0.length : Int) - a11))))) = false := decide_eq_false c23
     clear c23
     have H' := a_ H
     clear H
     obtain ⟨Ao42, co42, eo42⟩ := Kd.R_slice HO_0.out
     subst eo42
     go_wp2
     go_meet
     case rel => exact ⟨_, (l0), (a2), rl_, H', ⟨by have := HJ17.out; first | omega | exact Nat.le_refl _⟩, ⟨rp_ HO_0⟩, ⟨vp_ HO_1⟩, ⟨kp_ HK⟩, ⟨bl_ HB⟩⟩
    rw [if_pos c23] at H
    have c23b0 : decide (3 < (wrap64 (a6 - (wrap64 ((l0.length : Int) - a11))))) = true := decide_eq_true c23
    clear c23
    replace H := Option.bind_eq_some_iff.mp H
    obtain ⟨⟨t444, t447, t448, t449⟩, A240, H⟩ := H
    replace H : (if t449 = true then (if (wrap64 ((t444.length : Int) - (l0.length : Int))) ≤ (wrap64 (a6 - (wrap64 ((l0.length : Int) - a11)))) then (some (t444, t447, a11, true)) else (if 0 ≤ (l0.length : Int) then (if (l0.length : Int) ≤ (t444.length : Int) then (pretty_appendPrettyObjectB.j1 kj17 (t444.take ((l0.length : Int) : Int).toNat) l1 a2 a3 a4 a5 a7 a8 false a10 a11) else (none)) else (none))) else (if 0 ≤ (l0.length : Int) then (if (l0.length : Int) ≤ (t444.length : Int) then (pretty_appendPrettyObjectB.j1 kj17 (t444.take ((l0.length : Int) : Int).toNat) l1 a2 a3 a4 a5 a7 a8 false a10 a11) else (none)) else (none))) = some (r1, r2, r3, r4) := H
    have A24 := a_ A240
    clear A240
    by_cases c25 : t449 = true
    rotate_left
    ·
     replace c25 := Bool.eq_false_iff.mpr c25
     subst c25
     have H1 : (if 0 ≤ (l0.length : Int) then (if (l0.length : Int) ≤ (t444.length : Int) then (pretty_appendPrettyObjectB.j1 kj17 (t444.take ((l0.length : Int) : Int).toNat) l1 a2 a3 a4 a5 a7 a8 false a10 a11) else (none)) else (none)) = some (r1, r2, r3, r4) := by rw [if_neg (show ¬ (false = true) by decide)] at H; exact H
     clear H
     have H := H1
     clear H1
     by_cases c36 : 0 ≤ (l0.length : Int)
     rotate_left
     ·
      rw [if_neg c36] at H
      exact absurd H (by simp)
     rw [if_pos c36] at H
     have c36b0 := eq_true c36
     have c36b1 : decide (0 ≤ (l0.length : Int)) = true := decide_eq_true c36
     clear c36
     by_cases c37 : (l0.length : Int) ≤ (t444.length : Int)
     rotate_left
     ·
      rw [if_neg c37] at H
      exact absurd H (by simp)
     rw [if_pos c37] at H
     have c37b0 := eq_true c37
     have c37b1 : decide ((l0.length : Int) ≤ (t444.length : Int)) = true := decide_eq_true c37
     clear c37
     obtain ⟨y453, hy453⟩ : ∃ y_ : List Int, y_ = (t444.take ((l0.length : Int) : Int).toNat) := ⟨_, rfl⟩
     replace H : (pretty_appendPrettyObjectB.j1 kj17 y453 l1 a2 a3 a4 a5 a7 a8 false a10 a11) = some (r1, r2, r3, r4) := by first | exact lt_ H hy453 | (rw [hy453]; exact H) | exact H
     have Ny453 := a_ hy453
     clear hy453
     have H' := a_ H
     clear H
     obtain ⟨Ao38, co38, eo38⟩ := Kd.R_slice HO_0.out
     subst eo38
     go_wp2_with (first | ((with_reducible refine gate_callee (f := 31) rfl ?_); refine goesL_ (some 67) rfl rfl Try.func31 (by kernel_rfl) rfl #[.slice Ao38 l0.length co38, .slice A1 l1.length c1, .int .i64 a2, .int .u8 91, .int .u8 93, .bool false, .int .i64 a6, .string a7, .string (⟨#[]⟩ : ByteArray), .bool false, .int .i64 0, .int .i64 0, .int .i64 (wrap64 (a6 - (wrap64 ((l0.length : Int) - a11))))] rfl ar_ ?_; (with_reducible refine (ih kj17 (by have := HJ17.out; omega) (fun k_ => some k_ = (.slice Ao38 l0.length co38 : Value).ownBlock) (.slice Ao38 l0.length co38) l0 (fun k_ => (((P0_ k_ ∨ P1_ k_) ∨ w.heap.size ≤ k_) ∧ some k_ ≠ (.slice Ao38 l0.length co38 : Value).ownBlock)) _ _ l1 a2 91 93 false a6 a7 (⟨#[]⟩ : ByteArray) false 0 0 (wrap64 (a6 - (wrap64 ((l0.length : Int) - a11)))) t444 t447 t448 false w0 _ ?side1 ?side2 ?side3 A24.out).mono ?_); (case side1 => exact bl_ HB); (case side2 => exact Kd.R_tight rfl HO_0.out); (case side3 => exact Kd.V_mono (HO_1.out) (fun k_ hk_ => ⟨hk_, hk_.2⟩)); rintro e w39 ⟨v445, rfl, ho0, hb, hkp⟩; refine ⟨_, rfl, ?_⟩; have n0_ := a_ (Kd.V_mono (ok' := fun k_ => ((P0_ k_ ∨ P1_ k_) ∨ w.heap.size ≤ k_) ∧ some k_ ≠ (v445 : Value).ownBlock) (Kd.V_keptB (HO_1.out) hkp (fun k_ hk_ hs_ => (hk_.2) hs_)) (fun k_ hk_ => ⟨hk_.1.1, fun e_ => Or.elim (ho0.1 k_ e_.symm) (fun hs_ => hk_.2.1 hs_) (fun hn_ => Nat.not_le.2 hk_.2.2 hn_)⟩)); have n1_ := a_ (Kd.R_mono (ok' := fun k_ => (P0_ k_ ∨ w.heap.size ≤ k_)) ho0 (fun k_ hk_ => Or.elim hk_ (fun hs_ => (HO_0.out.1 k_ (hs_).symm)) (fun hn_ => (.inr (Nat.le_trans (kz_ HK) hn_))))); have n2_ := a_ (Kept.then_ (S := (fun k_ => P0_ k_)) (kp_ HK) hkp (fun k_ hs_ => (fun e_ => (HO_0.out.1 k_ e_.symm)) hs_)); have n3_ := a_ (hb); clear HO_1 HK HB HO_0; have HO_1 := n0_; have HO446 := n1_; have HK := n2_; have HB := n3_; clear n0_ n1_ n2_ n3_; (try clear hb); (try clear hkp); (try clear ho0); obtain ⟨Ao40, co40, eo40⟩ := Kd.R_slice HO446.out; subst eo40; have q41 : ((l0.length : Int) : Int) ≤ ((t444.length : Int) : Int) := of_decide_eq_true as_; obtain ⟨i041, hi041, _, hsz41, _⟩ := info_parts info5; have hcut41 := cut_to (P := Try.prog) 32 5 .i64 Try.underlying32 hi041 Ao40 t444.length co40 (l0.length : Int) (of_decide_eq_true as_) q41 (Kd.R_reads' HO446.out).2.1; have hr41 := Kd.R_take (m := ((l0.length : Int) : Int).toNat) HO446.out (by omega); have hy41 : y453.length = ((l0.length : Int) : Int).toNat := (by rw [Ny453.out, List.length_take]; omega); rw [← Ny453.out] at hr41; rw [← hy41] at hr41 hcut41; clear hy41 hi041 hsz41 HO446; have HO455 := a_ hr41; clear hr41; replace q41 := eq_true q41))
     go_meet
     case rel => exact ⟨_, (y453), (a2), rl_, H', ⟨by have := HJ17.out; first | omega | exact Nat.le_refl _⟩, ⟨rp_ HO455⟩, ⟨vp_ HO_1⟩, ⟨kp_ HK⟩, ⟨bl_ HB⟩⟩
    subst c25
    have H1 : (if (wrap64 ((t444.length : Int) - (l0.length : Int))) ≤ (wrap64 (a6 - (wrap64 ((l0.length : Int) - a11)))) then (some (t444, t447, a11, true)) else (if 0 ≤ (l0.length : Int) then (if (l0.length : Int) ≤ (t444.length : Int) then (pretty_appendPrettyObjectB.j1 kj17 (t444.take ((l0.length : Int) : Int).toNat) l1 a2 a3 a4 a5 a7 a8 false a10 a11) else (none)) else (none))) = some (r1, r2, r3, r4) := by rw [if_pos rfl] at H; exact H
    clear H
    have H := H1
    clear H1
    by_cases c26 : (wrap64 ((t444.length : Int) - (l0.length : Int))) ≤ (wrap64 (a6 - (wrap64 ((l0.length : Int) - a11))))
    ·
     rw [if_pos c26] at H
     have c26b0 : decide ((wrap64 ((t444.length : Int) - (l0.length : Int))) ≤ (wrap64 (a6 - (wrap64 ((l0.length : Int) - a11))))) = true := decide_eq_true c26
     clear c26
     simp only [Option.some.injEq, Prod.mk.injEq] at H
     obtain ⟨rfl, rfl, rfl, rfl⟩ := H
     obtain ⟨Ao27, co27, eo27⟩ := Kd.R_slice HO_0.out
     subst eo27
     go_wp2_with (first | ((with_reducible refine gate_callee (f := 31) rfl ?_); refine goesL_ (some 67) rfl rfl Try.func31 (by kernel_rfl) rfl #[.slice Ao27 l0.length co27, .slice A1 l1.length c1, .int .i64 a2, .int .u8 91, .int .u8 93, .bool false, .int .i64 a6, .string a7, .string (⟨#[]⟩ : ByteArray), .bool false, .int .i64 0, .int .i64 0, .int .i64 (wrap64 (a6 - (wrap64 ((l0.length : Int) - a11))))] rfl ar_ ?_; (with_reducible refine (ih kj17 (by have := HJ17.out; omega) (fun k_ => some k_ = (.slice Ao27 l0.length co27 : Value).ownBlock) (.slice Ao27 l0.length co27) l0 (fun k_ => (((P0_ k_ ∨ P1_ k_) ∨ w.heap.size ≤ k_) ∧ some k_ ≠ (.slice Ao27 l0.length co27 : Value).ownBlock)) _ _ l1 a2 91 93 false a6 a7 (⟨#[]⟩ : ByteArray) false 0 0 (wrap64 (a6 - (wrap64 ((l0.length : Int) - a11)))) t444 t447 t448 true w0 _ ?side1 ?side2 ?side3 A24.out).mono ?_); (case side1 => exact bl_ HB); (case side2 => exact Kd.R_tight rfl HO_0.out); (case side3 => exact Kd.V_mono (HO_1.out) (fun k_ hk_ => ⟨hk_, hk_.2⟩)); rintro e w28 ⟨v445, rfl, ho0, hb, hkp⟩; refine ⟨_, rfl, ?_⟩; have n0_ := a_ (Kd.V_mono (ok' := fun k_ => ((P0_ k_ ∨ P1_ k_) ∨ w.heap.size ≤ k_) ∧ some k_ ≠ (v445 : Value).ownBlock) (Kd.V_keptB (HO_1.out) hkp (fun k_ hk_ hs_ => (hk_.2) hs_)) (fun k_ hk_ => ⟨hk_.1.1, fun e_ => Or.elim (ho0.1 k_ e_.symm) (fun hs_ => hk_.2.1 hs_) (fun hn_ => Nat.not_le.2 hk_.2.2 hn_)⟩)); have n1_ := a_ (Kd.R_mono (ok' := fun k_ => (P0_ k_ ∨ w.heap.size ≤ k_)) ho0 (fun k_ hk_ => Or.elim hk_ (fun hs_ => (HO_0.out.1 k_ (hs_).symm)) (fun hn_ => (.inr (Nat.le_trans (kz_ HK) hn_))))); have n2_ := a_ (Kept.then_ (S := (fun k_ => P0_ k_)) (kp_ HK) hkp (fun k_ hs_ => (fun e_ => (HO_0.out.1 k_ e_.symm)) hs_)); have n3_ := a_ (hb); clear HO_1 HK HB HO_0; have HO_1 := n0_; have HO446 := n1_; have HK := n2_; have HB := n3_; clear n0_ n1_ n2_ n3_; (try clear hb); (try clear hkp); (try clear ho0); obtain ⟨Ao29, co29, eo29⟩ := Kd.R_slice HO446.out; subst eo29))
     refine bodyPost_ret (results_list (rs := [.tmp 26, .tmp 27, .tmp 28, .tmp 29]) rfl (by simp) (.tmp (.tmp (.tmp (.tmp .nil))))) rfl ?_
     exact ⟨_, by first | rfl | (simp [errW_none, errW_some] <;> rfl) | (simp [*, errW_none, errW_some] <;> rfl), rp_ HO446, bl_ HB, kp_ HK⟩
    rw [if_neg c26] at H
    have c26b0 : decide ((wrap64 ((t444.length : Int) - (l0.length : Int))) ≤ (wrap64 (a6 - (wrap64 ((l0.length : Int) - a11))))) = false := decide_eq_false c26
    clear c26
    by_cases c30 : 0 ≤ (l0.length : Int)
    rotate_left
    ·
     rw [if_neg c30] at H
     exact absurd H (by simp)
    rw [if_pos c30] at H
    have c30b0 := eq_true c30
    have c30b1 : decide (0 ≤ (l0.length : Int)) = true := decide_eq_true c30
    clear c30
    by_cases c31 : (l0.length : Int) ≤ (t444.length : Int)
    rotate_left
    ·
     rw [if_neg c31] at H
     exact absurd H (by simp)
    rw [if_pos c31] at H
    have c31b0 := eq_true c31
    have c31b1 : decide ((l0.length : Int) ≤ (t444.length : Int)) = true := decide_eq_true c31
    clear c31
    obtain ⟨y450, hy450⟩ : ∃ y_ : List Int, y_ = (t444.take ((l0.length : Int) : Int).toNat) := ⟨_, rfl⟩
    replace H : (pretty_appendPrettyObjectB.j1 kj17 y450 l1 a2 a3 a4 a5 a7 a8 false a10 a11) = some (r1, r2, r3, r4) := by first | exact lt_ H hy450 | (rw [hy450]; exact H) | exact H
    have Ny450 := a_ hy450
    clear hy450
    have H' := a_ H
    clear H
    obtain ⟨Ao32, co32, eo32⟩ := Kd.R_slice HO_0.out
    subst eo32
    go_wp2_with (first | ((with_reducible refine gate_callee (f := 31) rfl ?_); refine goesL_ (some 67) rfl rfl Try.func31 (by kernel_rfl) rfl #[.slice Ao32 l0.length co32, .slice A1 l1.length c1, .int .i64 a2, .int .u8 91, .int .u8 93, .bool false, .int .i64 a6, .string a7, .string (⟨#[]⟩ : ByteArray), .bool false, .int .i64 0, .int .i64 0, .int .i64 (wrap64 (a6 - (wrap64 ((l0.length : Int) - a11))))] rfl ar_ ?_; (with_reducible refine (ih kj17 (by have := HJ17.out; omega) (fun k_ => some k_ = (.slice Ao32 l0.length co32 : Value).ownBlock) (.slice Ao32 l0.length co32) l0 (fun k_ => (((P0_ k_ ∨ P1_ k_) ∨ w.heap.size ≤ k_) ∧ some k_ ≠ (.slice Ao32 l0.length co32 : Value).ownBlock)) _ _ l1 a2 91 93 false a6 a7 (⟨#[]⟩ : ByteArray) false 0 0 (wrap64 (a6 - (wrap64 ((l0.length : Int) - a11)))) t444 t447 t448 true w0 _ ?side1 ?side2 ?side3 A24.out).mono ?_); (case side1 => exact bl_ HB); (case side2 => exact Kd.R_tight rfl HO_0.out); (case side3 => exact Kd.V_mono (HO_1.out) (fun k_ hk_ => ⟨hk_, hk_.2⟩)); rintro e w33 ⟨v445, rfl, ho0, hb, hkp⟩; refine ⟨_, rfl, ?_⟩; have n0_ := a_ (Kd.V_mono (ok' := fun k_ => ((P0_ k_ ∨ P1_ k_) ∨ w.heap.size ≤ k_) ∧ some k_ ≠ (v445 : Value).ownBlock) (Kd.V_keptB (HO_1.out) hkp (fun k_ hk_ hs_ => (hk_.2) hs_)) (fun k_ hk_ => ⟨hk_.1.1, fun e_ => Or.elim (ho0.1 k_ e_.symm) (fun hs_ => hk_.2.1 hs_) (fun hn_ => Nat.not_le.2 hk_.2.2 hn_)⟩)); have n1_ := a_ (Kd.R_mono (ok' := fun k_ => (P0_ k_ ∨ w.heap.size ≤ k_)) ho0 (fun k_ hk_ => Or.elim hk_ (fun hs_ => (HO_0.out.1 k_ (hs_).symm)) (fun hn_ => (.inr (Nat.le_trans (kz_ HK) hn_))))); have n2_ := a_ (Kept.then_ (S := (fun k_ => P0_ k_)) (kp_ HK) hkp (fun k_ hs_ => (fun e_ => (HO_0.out.1 k_ e_.symm)) hs_)); have n3_ := a_ (hb); clear HO_1 HK HB HO_0; have HO_1 := n0_; have HO446 := n1_; have HK := n2_; have HB := n3_; clear n0_ n1_ n2_ n3_; (try clear hb); (try clear hkp); (try clear ho0); obtain ⟨Ao34, co34, eo34⟩ := Kd.R_slice HO446.out; subst eo34; have q35 : ((l0.length : Int) : Int) ≤ ((t444.length : Int) : Int) := of_decide_eq_true as_; obtain ⟨i035, hi035, _, hsz35, _⟩ := info_parts info5; have hcut35 := cut_to (P := Try.prog) 32 5 .i64 Try.underlying32 hi035 Ao34 t444.length co34 (l0.length : Int) (of_decide_eq_true as_) q35 (Kd.R_reads' HO446.out).2.1; have hr35 := Kd.R_take (m := ((l0.length : Int) : Int).toNat) HO446.out (by omega); have hy35 : y450.length = ((l0.length : Int) : Int).toNat := (by rw [Ny450.out, List.length_take]; omega); rw [← Ny450.out] at hr35; rw [← hy35] at hr35 hcut35; clear hy35 hi035 hsz35 HO446; have HO452 := a_ hr35; clear hr35; replace q35 := eq_true q35))
    go_meet
    case rel => exact ⟨_, (y450), (a2), rl_, H', ⟨by have := HJ17.out; first | omega | exact Nat.le_refl _⟩, ⟨rp_ HO452⟩, ⟨vp_ HO_1⟩, ⟨kp_ HK⟩, ⟨bl_ HB⟩⟩
 clear HC16
 (try clear c1); (try clear c2); (try clear p2); (try clear c3); (try clear q3); (try clear c4); (try clear q4); (try clear p6); (try clear c14); (try clear c15); (try clear c15b0); (try clear c15b1); (try clear c17); (try clear c17b0); (try clear c19); (try clear c20); (try clear c21); (try clear c21b0); (try clear c21b1); (try clear c22); (try clear c23); (try clear c23b0); (try clear c25); (try clear c26); (try clear c26b0); (try clear c30); (try clear c30b0); (try clear c30b1); (try clear c31); (try clear c31b0); (try clear c31b1); (try clear q35); (try clear c36); (try clear c36b0); (try clear c36b1); (try clear c37); (try clear c37b0); (try clear c37b1); (try clear q41); (try clear c43); (try clear c43b0); (try clear c43b1); (try clear c44); (try clear c44b0); (try clear c44b1); (try clear p2); (try clear q35); (try clear q41)
 as_aux_lemma =>
  obtain ⟨kq, x0_15, x2_15, rfl, HA, HJ15, HO_0, HO_1, HK, HB⟩ := hcut
  cases kq with
  | zero => exact absurd HA.out (by simp [pretty_appendPrettyObjectB.j1])
  | succ kj15 =>
   have H := HA.out
   clear HA
   simp only [pretty_appendPrettyObjectB.j1] at H
   have c45 : ¬ (false = true) := Bool.false_ne_true
   have H1 : (if a3 = 91 then (if x0_15.length < 140737488355328 then (if a3 = 123 then (none) else (pretty_appendPrettyObjectB.l0 kj15 (x0_15 ++ [a3]) l1 (wrap64 (x2_15 + 1)) a3 a4 a5 a7 a8 false a10 a11 0)) else (none)) else (none)) = some (r1, r2, r3, r4) := by rw [if_neg (show ¬ (false = true) by decide)] at H; exact H
   clear H
   have H := H1
   clear H1
   by_cases c46 : a3 = 91
   rotate_left
   ·
    rw [if_neg c46] at H
    exact absurd H (by simp)
   rw [if_pos c46] at H
   have c46b0 : (a3 == 91) = true := beq_iff_eq.mpr c46
   have c46b1 : (a3 != 91) = false := bne_eq_false_iff_eq.mpr c46
   clear c46
   by_cases c47 : x0_15.length < 140737488355328
   rotate_left
   ·
    rw [if_neg c47] at H
    exact absurd H (by simp)
   rw [if_pos c47] at H
   have LMc47 := a_ c47
   clear c47
   obtain ⟨y456, hy456⟩ : ∃ y_ : List Int, y_ = (x0_15 ++ [a3]) := ⟨_, rfl⟩
   replace H : (if a3 = 123 then (none) else (pretty_appendPrettyObjectB.l0 kj15 y456 l1 (wrap64 (x2_15 + 1)) a3 a4 a5 a7 a8 false a10 a11 0)) = some (r1, r2, r3, r4) := by first | exact lt_ H hy456 | (rw [hy456]; exact H) | exact H
   have Ny456 := a_ hy456
   clear hy456
   by_cases c48 : a3 = 123
   ·
    rw [if_pos c48] at H
    exact absurd H (by simp)
   rw [if_neg c48] at H
   have c48b0 : (a3 == 123) = false := beq_eq_false_iff_ne.mpr c48
   have c48b1 : (a3 != 123) = true := bne_iff_ne.mpr c48
   have H' := a_ H
   clear H
   go_wp2_with (first | ((with_reducible refine gate_builtin (b := .append) (xs := #[.tmp 97, .tmp 99]) rfl ?_); (try (refine gate_guard (by rfl) ?_; dsimp only)); at_builtin; refine Kd.R_append (Kd.int .u8) (w0 := w0) w0.heap.size rfl (.tmp 97) (.tmp 99) 32 5 (.int .u8 0) 1 rfl Try.underlying32 info5 rfl (by decide) (by omega) u0 x0_15 a3 [.int .u8 a3] (fun k_ => (P0_ k_ ∨ w.heap.size ≤ k_)) (fun _ => False) rfl rfl ?aP (fun _ hk => hk.elim) ?aF ?aO ?aB ?aS ?aL ?_; (case aP => exact rfl); (case aB => exact (bl_ HB)); (case aF => exact (fun k_ hk => (.inr (Nat.le_trans (kz_ HK) hk)))); (case aO => exact (rp_ HO_0)); (case aS => exact (below_size (bl_ HB))); (case aL => have := LMc47.out; omega); intro v457 w49 ho hb hg hat; rw [← Ny456.out] at ho; have n0_ := a_ (Kd.V_afterv (ok := (fun k_ => ((P0_ k_ ∨ P1_ k_) ∨ w.heap.size ≤ k_))) (vp_ HO_1) hg hat); have n1_ := a_ (hb); have n2_ := a_ (Kept.of_grown (S := (fun k_ => P0_ k_)) hg (kp_ HK) (fun k_ e_ => (HO_0.out.1 k_ e_))); have n3_ := a_ (ho); clear HO_1 HB HK HO_0; have HO_1 := n0_; have HB := n1_; have HK := n2_; have HO458 := n3_; clear n0_ n1_ n2_ n3_; clear ho hb hg hat))
   (try simp only [Act.put, List.setIfInBounds_toArray, List.set_cons_zero, List.set_cons_succ])
   go_loopg [0, 2, 9, 11, 35] kj15 (fun kq v0 v2 v9 v11 v35 w' => ∃ (x0_2 : List Int) (x1_2 : List Int) (x2_2 : Int) (x9_2 : Bool) (x11_2 : Int) (x35_2 : Int), v2 = .int .i64 x2_2 ∧ v9 = .bool x9_2 ∧ v11 = .int .i64 x11_2 ∧ v35 = .int .i64 x35_2 ∧ Aside0 (pretty_appendPrettyObjectB.l0 kq x0_2 x1_2 x2_2 a3 a4 a5 a7 a8 x9_2 a10 x11_2 x35_2 = some (r1, r2, r3, r4)) ∧ Aside0 (kq ≤ kj15) ∧ Aside0 (Kd.R (Kd.int .u8) 5 w' w0.heap.size (fun k_ => (P0_ k_ ∨ w.heap.size ≤ k_)) v0 x0_2) ∧ Aside0 (Kd.V (Kd.int .u8) 5 w' w0.heap.size (fun k_ => ((P0_ k_ ∨ P1_ k_) ∨ w.heap.size ≤ k_) ∧ some k_ ≠ (v0 : Value).ownBlock) (.slice A1 l1.length c1) x1_2) ∧ Aside0 (Kept w w' (fun k_ => P0_ k_)) ∧ Aside0 (Below w0.heap.size w0 w'))
   case atStart => exact ⟨(y456), (l1), (wrap64 (x2_15 + 1)), (false), (a11), (0), rl_, rl_, rl_, rl_, H', ⟨Nat.le_refl _⟩, ⟨rp_ HO458⟩, ⟨vp_ HO_1⟩, ⟨kp_ HK⟩, ⟨bl_ HB⟩⟩
   case round =>
    clear H'
    (try clear c1); (try clear c2); (try clear p2); (try clear c3); (try clear q3); (try clear c4); (try clear q4); (try clear p6); (try clear c14); (try clear c15); (try clear c15b0); (try clear c15b1); (try clear c17); (try clear c17b0); (try clear c19); (try clear c20); (try clear c21); (try clear c21b0); (try clear c21b1); (try clear c22); (try clear c23); (try clear c23b0); (try clear c25); (try clear c26); (try clear c26b0); (try clear c30); (try clear c30b0); (try clear c30b1); (try clear c31); (try clear c31b0); (try clear c31b1); (try clear q35); (try clear c36); (try clear c36b0); (try clear c36b1); (try clear c37); (try clear c37b0); (try clear c37b1); (try clear q41); (try clear c43); (try clear c43b0); (try clear c43b1); (try clear c44); (try clear c44b0); (try clear c44b1); (try clear c45); (try clear c46); (try clear c46b0); (try clear c46b1); (try clear c47); (try clear c48); (try clear c48b0); (try clear c48b1); (try clear p2); (try clear p6); (try clear q3); (try clear q35); (try clear q4); (try clear q41)
    as_aux_lemma =>
     obtain ⟨x0_2, x1_2, x2_2, x9_2, x11_2, x35_2, rfl, rfl, rfl, rfl, HA, HK2, HO_0, HO_1, HK, HB⟩ := hrel
     have hl1_2 := (Kd.V_reads' HO_1.out).1
     rw [hl1_2] at HO_1
     (try simp only [hl1_2])
     (try simp only [hl1_2] at HO_0)
     cases gk with
     | zero => exact absurd HA.out (by simp [pretty_appendPrettyObjectB.l0])
     | succ k2 =>
      have H := HA.out
      clear HA
      simp only [pretty_appendPrettyObjectB.l0] at H
      by_cases c50 : x9_2 = true
      ·
       subst c50
       have H1 : (none) = some (r1, r2, r3, r4) := by rw [if_pos rfl] at H; exact H
       clear H
       have H := H1
       clear H1
       exact absurd H (by simp)
      replace c50 := Bool.eq_false_iff.mpr c50
      subst c50
      have H1 : (if a3 = 91 then (if x2_2 < (x1_2.length : Int) then (if 0 ≤ x2_2 then (if (rd x1_2 x2_2) ≤ 32 then (pretty_appendPrettyObjectB.l0 k2 x0_2 x1_2 (wrap64 (x2_2 + 1)) a3 a4 a5 a7 a8 false a10 x11_2 x35_2) else (if (rd x1_2 x2_2) = a4 then (if a5 = true then (if a3 = 123 then (none) else (if x35_2 > 0 then (if 0 ≤ (wrap64 ((x0_2.length : Int) - 1)) then (if (wrap64 ((x0_2.length : Int) - 1)) < (x0_2.length : Int) then (if (rd x0_2 (wrap64 ((x0_2.length : Int) - 1))) = 32 then ((some (x0_2.set ((wrap64 ((x0_2.length : Int) - 1)) : Int).toNat 10 : List Int)).bind fun y462 => (if (rd y462 (wrap64 ((x0_2.length : Int) - 1))) = a3 then (if y462.length < 140737488355328 then (some ((y462 ++ [a4]), wrap64 (x2_2 + 1), (x0_2.length : Int), (a3 != 123))) else (none)) else ((pretty_appendTabs.f k2 y462 a7 a8 a10).bind fun t467 => (if t467.length < 140737488355328 then (some ((t467 ++ [a4]), wrap64 (x2_2 + 1), (x0_2.length : Int), (a3 != 123))) else (none))))) else (if x0_2.length < 140737488355328 then ((some (x0_2 ++ [10] : List Int)).bind fun y473 => (if 0 ≤ (wrap64 ((y473.length : Int) - 1)) then (if (wrap64 ((y473.length : Int) - 1)) < (y473.length : Int) then (if (rd y473 (wrap64 ((y473.length : Int) - 1))) = a3 then (if y473.length < 140737488355328 then (some ((y473 ++ [a4]), wrap64 (x2_2 + 1), (x0_2.length : Int), (a3 != 123))) else (none)) else ((pretty_appendTabs.f k2 y473 a7 a8 a10).bind fun t480 => (if t480.length < 140737488355328 then (some ((t480 ++ [a4]), wrap64 (x2_2 + 1), (x0_2.length : Int), (a3 != 123))) else (none)))) else (none)) else (none))) else (none))) else (none)) else (none)) else (if 0 ≤ (wrap64 ((x0_2.length : Int) - 1)) then (if (wrap64 ((x0_2.length : Int) - 1)) < (x0_2.length : Int) then (if (rd x0_2 (wrap64 ((x0_2.length : Int) - 1))) = a3 then (if x0_2.length < 140737488355328 then (some ((x0_2 ++ [a4]), wrap64 (x2_2 + 1), x11_2, (a3 != 123))) else (none)) else ((pretty_appendTabs.f k2 x0_2 a7 a8 a10).bind fun t490 => (if t490.length < 140737488355328 then (some ((t490 ++ [a4]), wrap64 (x2_2 + 1), x11_2, (a3 != 123))) else (none)))) else (none)) else (none)))) else (if x0_2.length < 140737488355328 then (some ((x0_2 ++ [a4]), wrap64 (x2_2 + 1), x11_2, (a3 != 123))) else (none))) else (none))) else (none)) else (some (x0_2, x2_2, x11_2, (a3 != 123)))) else (none)) = some (r1, r2, r3, r4) := by rw [if_neg (show ¬ (false = true) by decide)] at H; exact H
      clear H
      have H := H1
      clear H1
      by_cases c51 : a3 = 91
      rotate_left
      ·
       rw [if_neg c51] at H
       exact absurd H (by simp)
      rw [if_pos c51] at H
      have c51b0 : (a3 == 91) = true := beq_iff_eq.mpr c51
      have c51b1 : (a3 != 91) = false := bne_eq_false_iff_eq.mpr c51
      clear c51
      by_cases c52 : x2_2 < (x1_2.length : Int)
      rotate_left
      ·
       rw [if_neg c52] at H
       have c52b0 : decide (x2_2 < (x1_2.length : Int)) = false := decide_eq_false c52
       clear c52
       simp only [Option.some.injEq, Prod.mk.injEq] at H
       obtain ⟨rfl, rfl, rfl, rfl⟩ := H
       go_wp2
       refine bodyPost_ret (results_list (rs := [.tmp 26, .tmp 27, .tmp 28, .tmp 29]) rfl (by simp) (.tmp (.tmp (.tmp (.tmp .nil))))) rfl ?_
       exact ⟨_, by first | rfl | (simp [errW_none, errW_some] <;> rfl) | (simp [*, errW_none, errW_some] <;> rfl), rp_ HO_0, bl_ HB, kp_ HK⟩
      rw [if_pos c52] at H
      have c52b0 : decide (x2_2 < (x1_2.length : Int)) = true := decide_eq_true c52
      clear c52
      by_cases c53 : 0 ≤ x2_2
      rotate_left
      ·
       rw [if_neg c53] at H
       exact absurd H (by simp)
      rw [if_pos c53] at H
      have c53b0 : decide (0 ≤ x2_2) = true := decide_eq_true c53
      clear c53
      by_cases c54 : (rd x1_2 x2_2) ≤ 32
      ·
       rw [if_pos c54] at H
       have c54b0 : decide ((rd x1_2 x2_2) ≤ 32) = true := decide_eq_true c54
       clear c54
       have H' := a_ H
       clear H
       have p459 : 0 ≤ (x2_2 : Int) := of_decide_eq_true as_
       have q459 : x2_2 < (x1_2.length : Int) := of_decide_eq_true as_
       obtain ⟨ad459, e459, hx459_0⟩ := Kd.at_int (Kd.V_reads' HO_1.out).2.2 x2_2 p459 q459
       cases e459
       replace p459 := eq_true p459
       replace q459 := eq_true q459
       go_wp2
       (try simp only [← hl1_2])
       go_roundg k2
       case measure => have := HJ15.out; have := HK2.out; omega
       case rel => exact ⟨(x0_2), (x1_2), (wrap64 (x2_2 + 1)), (false), (x11_2), (x35_2), rl_, rl_, rl_, rl_, H', ⟨by have := HJ15.out; have := HK2.out; omega⟩, ⟨by (try simp only [hl1_2]); (with_reducible repeat (first | apply Kd.R_alloc | apply Kd.R_drewN | apply Kd.R_drew)); exact HO_0.out⟩, ⟨by (try simp only [hl1_2]); (with_reducible repeat (first | apply Kd.V_alloc | apply Kd.V_drewN | apply Kd.V_drew)); first | exact HO_1.out | exact Kd.V_len HO_1.out⟩, ⟨kp_ HK⟩, ⟨bl_ HB⟩⟩
      rw [if_neg c54] at H
      have c54b0 : decide ((rd x1_2 x2_2) ≤ 32) = false := decide_eq_false c54
      clear c54
      by_cases c55 : (rd x1_2 x2_2) = a4
      rotate_left
      ·
       rw [if_neg c55] at H
       exact absurd H (by simp)
      rw [if_pos c55] at H
      have c55b0 : ((rd x1_2 x2_2) == a4) = true := beq_iff_eq.mpr c55
      have c55b1 : ((rd x1_2 x2_2) != a4) = false := bne_eq_false_iff_eq.mpr c55
      clear c55
      by_cases c56 : a5 = true
      rotate_left
      ·
       replace c56 := Bool.eq_false_iff.mpr c56
       subst c56
       have H1 : (if x0_2.length < 140737488355328 then (some ((x0_2 ++ [a4]), wrap64 (x2_2 + 1), x11_2, (a3 != 123))) else (none)) = some (r1, r2, r3, r4) := by rw [if_neg (show ¬ (false = true) by decide)] at H; exact H
       clear H
       have H := H1
       clear H1
       by_cases c106 : x0_2.length < 140737488355328
       rotate_left
       ·
        rw [if_neg c106] at H
        exact absurd H (by simp)
       rw [if_pos c106] at H
       have LMc106 := a_ c106
       clear c106
       obtain ⟨y496, hy496⟩ : ∃ y_ : List Int, y_ = (x0_2 ++ [a4]) := ⟨_, rfl⟩
       replace H : (some (y496, wrap64 (x2_2 + 1), x11_2, (a3 != 123))) = some (r1, r2, r3, r4) := by first | exact lt_ H hy496 | (rw [hy496]; exact H) | exact H
       have Ny496 := a_ hy496
       clear hy496
       simp only [Option.some.injEq, Prod.mk.injEq] at H
       obtain ⟨rfl, rfl, rfl, rfl⟩ := H
       have p459 : 0 ≤ (x2_2 : Int) := of_decide_eq_true as_
       have q459 : x2_2 < (x1_2.length : Int) := of_decide_eq_true as_
       obtain ⟨ad459, e459, hx459_0⟩ := Kd.at_int (Kd.V_reads' HO_1.out).2.2 x2_2 p459 q459
       cases e459
       replace p459 := eq_true p459
       replace q459 := eq_true q459
       have p460 : 0 ≤ (x2_2 : Int) := of_decide_eq_true as_
       have q460 : x2_2 < (x1_2.length : Int) := of_decide_eq_true as_
       obtain ⟨ad460, e460, hx460_0⟩ := Kd.at_int (Kd.V_reads' HO_1.out).2.2 x2_2 p460 q460
       obtain rfl : ad459 = ad460 := (by injection e460)
       replace p460 := eq_true p460
       replace q460 := eq_true q460
       go_wp2_with (first | ((with_reducible refine gate_builtin (b := .append) (xs := #[.tmp 166, .tmp 168]) rfl ?_); (try (refine gate_guard (by rfl) ?_; dsimp only)); at_builtin; refine Kd.R_append (Kd.int .u8) (w0 := w0) w0.heap.size rfl (.tmp 166) (.tmp 168) 32 5 (.int .u8 0) 1 rfl Try.underlying32 info5 rfl (by decide) (by omega) u0 x0_2 a4 [.int .u8 a4] (fun k_ => (P0_ k_ ∨ w.heap.size ≤ k_)) (fun _ => False) rfl rfl ?aP (fun _ hk => hk.elim) ?aF ?aO ?aB ?aS ?aL ?_; (case aP => exact rfl); (case aB => exact (bl_ HB)); (case aF => exact (fun k_ hk => (.inr (Nat.le_trans (kz_ HK) hk)))); (case aO => exact (rp_ HO_0)); (case aS => exact (below_size (bl_ HB))); (case aL => have := LMc106.out; omega); intro v497 w107 ho hb hg hat; rw [← Ny496.out] at ho; have n0_ := a_ (Kd.V_afterv (ok := (fun k_ => ((P0_ k_ ∨ P1_ k_) ∨ w.heap.size ≤ k_))) (vp_ HO_1) hg hat); have n1_ := a_ (hb); have n2_ := a_ (Kept.of_grown (S := (fun k_ => P0_ k_)) hg (kp_ HK) (fun k_ e_ => (HO_0.out.1 k_ e_))); have n3_ := a_ (ho); clear HO_1 HB HK HO_0; have HO_1 := n0_; have HB := n1_; have HK := n2_; have HO498 := n3_; clear n0_ n1_ n2_ n3_; clear ho hb hg hat))
       refine bodyPost_ret (results_list (rs := [.tmp 26, .tmp 27, .tmp 28, .tmp 29]) rfl (by simp) (.tmp (.tmp (.tmp (.tmp .nil))))) rfl ?_
       exact ⟨_, by first | rfl | (simp [errW_none, errW_some] <;> rfl) | (simp [*, errW_none, errW_some] <;> rfl), rp_ HO498, bl_ HB, kp_ HK⟩
      subst c56
      have H1 : (if a3 = 123 then (none) else (if x35_2 > 0 then (if 0 ≤ (wrap64 ((x0_2.length : Int) - 1)) then (if (wrap64 ((x0_2.length : Int) - 1)) < (x0_2.length : Int) then (if (rd x0_2 (wrap64 ((x0_2.length : Int) - 1))) = 32 then ((some (x0_2.set ((wrap64 ((x0_2.length : Int) - 1)) : Int).toNat 10 : List Int)).bind fun y462 => (if (rd y462 (wrap64 ((x0_2.length : Int) - 1))) = a3 then (if y462.length < 140737488355328 then (some ((y462 ++ [a4]), wrap64 (x2_2 + 1), (x0_2.length : Int), (a3 != 123))) else (none)) else ((pretty_appendTabs.f k2 y462 a7 a8 a10).bind fun t467 => (if t467.length < 140737488355328 then (some ((t467 ++ [a4]), wrap64 (x2_2 + 1), (x0_2.length : Int), (a3 != 123))) else (none))))) else (if x0_2.length < 140737488355328 then ((some (x0_2 ++ [10] : List Int)).bind fun y473 => (if 0 ≤ (wrap64 ((y473.length : Int) - 1)) then (if (wrap64 ((y473.length : Int) - 1)) < (y473.length : Int) then (if (rd y473 (wrap64 ((y473.length : Int) - 1))) = a3 then (if y473.length < 140737488355328 then (some ((y473 ++ [a4]), wrap64 (x2_2 + 1), (x0_2.length : Int), (a3 != 123))) else (none)) else ((pretty_appendTabs.f k2 y473 a7 a8 a10).bind fun t480 => (if t480.length < 140737488355328 then (some ((t480 ++ [a4]), wrap64 (x2_2 + 1), (x0_2.length : Int), (a3 != 123))) else (none)))) else (none)) else (none))) else (none))) else (none)) else (none)) else (if 0 ≤ (wrap64 ((x0_2.length : Int) - 1)) then (if (wrap64 ((x0_2.length : Int) - 1)) < (x0_2.length : Int) then (if (rd x0_2 (wrap64 ((x0_2.length : Int) - 1))) = a3 then (if x0_2.length < 140737488355328 then (some ((x0_2 ++ [a4]), wrap64 (x2_2 + 1), x11_2, (a3 != 123))) else (none)) else ((pretty_appendTabs.f k2 x0_2 a7 a8 a10).bind fun t490 => (if t490.length < 140737488355328 then (some ((t490 ++ [a4]), wrap64 (x2_2 + 1), x11_2, (a3 != 123))) else (none)))) else (none)) else (none)))) = some (r1, r2, r3, r4) := by rw [if_pos rfl] at H; exact H
      clear H
      have H := H1
      clear H1
      by_cases c57 : a3 = 123
      ·
       rw [if_pos c57] at H
       exact absurd H (by simp)
      rw [if_neg c57] at H
      have c57b0 : (a3 == 123) = false := beq_eq_false_iff_ne.mpr c57
      have c57b1 : (a3 != 123) = true := bne_iff_ne.mpr c57
      by_cases c58 : x35_2 > 0
      rotate_left
      ·
       rw [if_neg c58] at H
       have c58b0 : decide (0 < x35_2) = false := decide_eq_false c58
       clear c58
       obtain ⟨ji94, hji94⟩ : ∃ j_ : Int, (wrap64 ((x0_2.length : Int) - 1)) = j_ := ⟨_, rfl⟩
       replace H : (if 0 ≤ (ji94) then (if (ji94) < (x0_2.length : Int) then (if (rd x0_2 (ji94)) = a3 then (if x0_2.length < 140737488355328 then (some ((x0_2 ++ [a4]), wrap64 (x2_2 + 1), x11_2, (a3 != 123))) else (none)) else ((pretty_appendTabs.f k2 x0_2 a7 a8 a10).bind fun t490 => (if t490.length < 140737488355328 then (some ((t490 ++ [a4]), wrap64 (x2_2 + 1), x11_2, (a3 != 123))) else (none)))) else (none)) else (none)) = some (r1, r2, r3, r4) := by first | (rw [hji94] at H; exact H) | (simp only [hji94] at H ⊢; exact H)
       have hji94w : (IntKind.i64.wrap ((x0_2.length : Int) - 1)) = ji94 := (i64_w _).trans hji94
       by_cases c95 : 0 ≤ (ji94)
       rotate_left
       ·
        rw [if_neg c95] at H
        exact absurd H (by simp)
       rw [if_pos c95] at H
       have c95b0 : decide (0 ≤ (ji94)) = true := decide_eq_true c95
       clear c95
       by_cases c96 : (ji94) < (x0_2.length : Int)
       rotate_left
       ·
        rw [if_neg c96] at H
        exact absurd H (by simp)
       rw [if_pos c96] at H
       have c96b0 : decide ((ji94) < (x0_2.length : Int)) = true := decide_eq_true c96
       clear c96
       by_cases c97 : (rd x0_2 (ji94)) = a3
       ·
        rw [if_pos c97] at H
        have c97b0 : ((rd x0_2 (ji94)) == a3) = true := beq_iff_eq.mpr c97
        have c97b1 : ((rd x0_2 (ji94)) != a3) = false := bne_eq_false_iff_eq.mpr c97
        clear c97
        by_cases c98 : x0_2.length < 140737488355328
        rotate_left
        ·
         rw [if_neg c98] at H
         exact absurd H (by simp)
        rw [if_pos c98] at H
        have LMc98 := a_ c98
        clear c98
        obtain ⟨y487, hy487⟩ : ∃ y_ : List Int, y_ = (x0_2 ++ [a4]) := ⟨_, rfl⟩
        replace H : (some (y487, wrap64 (x2_2 + 1), x11_2, (a3 != 123))) = some (r1, r2, r3, r4) := by first | exact lt_ H hy487 | (rw [hy487]; exact H) | exact H
        have Ny487 := a_ hy487
        clear hy487
        simp only [Option.some.injEq, Prod.mk.injEq] at H
        obtain ⟨rfl, rfl, rfl, rfl⟩ := H
        have p459 : 0 ≤ (x2_2 : Int) := of_decide_eq_true as_
        have q459 : x2_2 < (x1_2.length : Int) := of_decide_eq_true as_
        obtain ⟨ad459, e459, hx459_0⟩ := Kd.at_int (Kd.V_reads' HO_1.out).2.2 x2_2 p459 q459
        cases e459
        replace p459 := eq_true p459
        replace q459 := eq_true q459
        have p460 : 0 ≤ (x2_2 : Int) := of_decide_eq_true as_
        have q460 : x2_2 < (x1_2.length : Int) := of_decide_eq_true as_
        obtain ⟨ad460, e460, hx460_0⟩ := Kd.at_int (Kd.V_reads' HO_1.out).2.2 x2_2 p460 q460
        obtain rfl : ad459 = ad460 := (by injection e460)
        replace p460 := eq_true p460
        replace q460 := eq_true q460
        obtain ⟨Ao99, co99, eo99⟩ := Kd.R_slice HO_0.out
        subst eo99
        have p486 : 0 ≤ ((ji94) : Int) := of_decide_eq_true as_
        have q486 : (ji94) < (x0_2.length : Int) := of_decide_eq_true as_
        obtain ⟨ad486, e486, hx486_0⟩ := Kd.at_int (Kd.R_reads' HO_0.out).2.2 (ji94) p486 q486
        cases e486
        replace p486 := eq_true p486
        replace q486 := eq_true q486
        go_wp2_with (first | ((with_reducible refine gate_builtin (b := .append) (xs := #[.tmp 166, .tmp 168]) rfl ?_); (try (refine gate_guard (by rfl) ?_; dsimp only)); at_builtin; refine Kd.R_append (Kd.int .u8) (w0 := w0) w0.heap.size rfl (.tmp 166) (.tmp 168) 32 5 (.int .u8 0) 1 rfl Try.underlying32 info5 rfl (by decide) (by omega) (.slice (some ad486) x0_2.length co99) x0_2 a4 [.int .u8 a4] (fun k_ => (P0_ k_ ∨ w.heap.size ≤ k_)) (fun _ => False) rfl rfl ?aP (fun _ hk => hk.elim) ?aF ?aO ?aB ?aS ?aL ?_; (case aP => exact rfl); (case aB => exact (bl_ HB)); (case aF => exact (fun k_ hk => (.inr (Nat.le_trans (kz_ HK) hk)))); (case aO => exact (rp_ HO_0)); (case aS => exact (below_size (bl_ HB))); (case aL => have := LMc98.out; omega); intro v488 w100 ho hb hg hat; rw [← Ny487.out] at ho; have n0_ := a_ (Kd.V_afterv (ok := (fun k_ => ((P0_ k_ ∨ P1_ k_) ∨ w.heap.size ≤ k_))) (vp_ HO_1) hg hat); have n1_ := a_ (hb); have n2_ := a_ (Kept.of_grown (S := (fun k_ => P0_ k_)) hg (kp_ HK) (fun k_ e_ => (HO_0.out.1 k_ e_))); have n3_ := a_ (ho); clear HO_1 HB HK HO_0; have HO_1 := n0_; have HB := n1_; have HK := n2_; have HO489 := n3_; clear n0_ n1_ n2_ n3_; clear ho hb hg hat))
        refine bodyPost_ret (results_list (rs := [.tmp 26, .tmp 27, .tmp 28, .tmp 29]) rfl (by simp) (.tmp (.tmp (.tmp (.tmp .nil))))) rfl ?_
        exact ⟨_, by first | rfl | (simp [errW_none, errW_some] <;> rfl) | (simp only [← hji94]; first | rfl | (simp [errW_none, errW_some] <;> rfl)) | (simp [*, errW_none, errW_some] <;> rfl), rp_ HO489, bl_ HB, kp_ HK⟩
       rw [if_neg c97] at H
       have c97b0 : ((rd x0_2 (ji94)) == a3) = false := beq_eq_false_iff_ne.mpr c97
       have c97b1 : ((rd x0_2 (ji94)) != a3) = true := bne_iff_ne.mpr c97
       replace H := Option.bind_eq_some_iff.mp H
       obtain ⟨t490, A1010, H⟩ := H
       replace H : (if t490.length < 140737488355328 then (some ((t490 ++ [a4]), wrap64 (x2_2 + 1), x11_2, (a3 != 123))) else (none)) = some (r1, r2, r3, r4) := H
       have A101 := a_ A1010
       clear A1010
       by_cases c102 : t490.length < 140737488355328
       rotate_left
       ·
        rw [if_neg c102] at H
        exact absurd H (by simp)
       rw [if_pos c102] at H
       have LMc102 := a_ c102
       clear c102
       obtain ⟨y493, hy493⟩ : ∃ y_ : List Int, y_ = (t490 ++ [a4]) := ⟨_, rfl⟩
       replace H : (some (y493, wrap64 (x2_2 + 1), x11_2, (a3 != 123))) = some (r1, r2, r3, r4) := by first | exact lt_ H hy493 | (rw [hy493]; exact H) | exact H
       have Ny493 := a_ hy493
       clear hy493
       simp only [Option.some.injEq, Prod.mk.injEq] at H
       obtain ⟨rfl, rfl, rfl, rfl⟩ := H
       have p459 : 0 ≤ (x2_2 : Int) := of_decide_eq_true as_
       have q459 : x2_2 < (x1_2.length : Int) := of_decide_eq_true as_
       obtain ⟨ad459, e459, hx459_0⟩ := Kd.at_int (Kd.V_reads' HO_1.out).2.2 x2_2 p459 q459
       cases e459
       replace p459 := eq_true p459
       replace q459 := eq_true q459
       have p460 : 0 ≤ (x2_2 : Int) := of_decide_eq_true as_
       have q460 : x2_2 < (x1_2.length : Int) := of_decide_eq_true as_
       obtain ⟨ad460, e460, hx460_0⟩ := Kd.at_int (Kd.V_reads' HO_1.out).2.2 x2_2 p460 q460
       obtain rfl : ad459 = ad460 := (by injection e460)
       replace p460 := eq_true p460
       replace q460 := eq_true q460
       obtain ⟨Ao103, co103, eo103⟩ := Kd.R_slice HO_0.out
       subst eo103
       have p486 : 0 ≤ ((ji94) : Int) := of_decide_eq_true as_
       have q486 : (ji94) < (x0_2.length : Int) := of_decide_eq_true as_
       obtain ⟨ad486, e486, hx486_0⟩ := Kd.at_int (Kd.R_reads' HO_0.out).2.2 (ji94) p486 q486
       cases e486
       replace p486 := eq_true p486
       replace q486 := eq_true q486
       go_wp2_with (first | ((with_reducible refine gate_callee (f := 34) rfl ?_); refine goesL_ (some 165) rfl rfl Try.func34 (by kernel_rfl) rfl #[.slice (some ad486) x0_2.length co103, .string a7, .string a8, .int .i64 a10] rfl ar_ ?_; (with_reducible refine (pretty_appendTabs.calls k2 (fun k_ => some k_ = (.slice (some ad486) x0_2.length co103 : Value).ownBlock) (.slice (some ad486) x0_2.length co103) x0_2 a7 a8 a10 t490 w0 _ ?side1 ?side2 A101.out).mono ?_); (case side1 => exact bl_ HB); (case side2 => exact Kd.R_tight rfl HO_0.out); rintro e w104 ⟨v491, rfl, ho0, hb, hkp⟩; refine ⟨_, rfl, ?_⟩; have n0_ := a_ (Kd.V_mono (ok' := fun k_ => ((P0_ k_ ∨ P1_ k_) ∨ w.heap.size ≤ k_) ∧ some k_ ≠ (v491 : Value).ownBlock) (Kd.V_keptB (HO_1.out) hkp (fun k_ hk_ hs_ => (hk_.2) hs_)) (fun k_ hk_ => ⟨hk_.1.1, fun e_ => Or.elim (ho0.1 k_ e_.symm) (fun hs_ => hk_.2.1 hs_) (fun hn_ => Nat.not_le.2 hk_.2.2 hn_)⟩)); have n1_ := a_ (Kd.R_mono (ok' := fun k_ => (P0_ k_ ∨ w.heap.size ≤ k_)) ho0 (fun k_ hk_ => Or.elim hk_ (fun hs_ => (HO_0.out.1 k_ (hs_).symm)) (fun hn_ => (.inr (Nat.le_trans (kz_ HK) hn_))))); have n2_ := a_ (Kept.then_ (S := (fun k_ => P0_ k_)) (kp_ HK) hkp (fun k_ hs_ => (fun e_ => (HO_0.out.1 k_ e_.symm)) hs_)); have n3_ := a_ (hb); clear HO_1 HK HB HO_0; have HO_1 := n0_; have HO492 := n1_; have HK := n2_; have HB := n3_; clear n0_ n1_ n2_ n3_; (try clear hb); (try clear hkp); (try clear ho0)) | ((with_reducible refine gate_builtin (b := .append) (xs := #[.tmp 166, .tmp 168]) rfl ?_); (try (refine gate_guard (by rfl) ?_; dsimp only)); at_builtin; refine Kd.R_append (Kd.int .u8) (w0 := w0) w0.heap.size rfl (.tmp 166) (.tmp 168) 32 5 (.int .u8 0) 1 rfl Try.underlying32 info5 rfl (by decide) (by omega) v491 t490 a4 [.int .u8 a4] (fun k_ => (P0_ k_ ∨ w.heap.size ≤ k_)) (fun _ => False) rfl rfl ?aP (fun _ hk => hk.elim) ?aF ?aO ?aB ?aS ?aL ?_; (case aP => exact rfl); (case aB => exact (bl_ HB)); (case aF => exact (fun k_ hk => (.inr (Nat.le_trans (kz_ HK) hk)))); (case aO => exact (rp_ HO492)); (case aS => exact (below_size (bl_ HB))); (case aL => have := LMc102.out; omega); intro v494 w105 ho hb hg hat; rw [← Ny493.out] at ho; have n0_ := a_ (Kd.V_afterv (ok := (fun k_ => ((P0_ k_ ∨ P1_ k_) ∨ w.heap.size ≤ k_))) (vp_ HO_1) hg hat); have n1_ := a_ (hb); have n2_ := a_ (Kept.of_grown (S := (fun k_ => P0_ k_)) hg (kp_ HK) (fun k_ e_ => (HO492.out.1 k_ e_))); have n3_ := a_ (ho); clear HO_1 HB HK HO492; have HO_1 := n0_; have HB := n1_; have HK := n2_; have HO495 := n3_; clear n0_ n1_ n2_ n3_; clear ho hb hg hat))
       refine bodyPost_ret (results_list (rs := [.tmp 26, .tmp 27, .tmp 28, .tmp 29]) rfl (by simp) (.tmp (.tmp (.tmp (.tmp .nil))))) rfl ?_
       exact ⟨_, by first | rfl | (simp [errW_none, errW_some] <;> rfl) | (simp only [← hji94]; first | rfl | (simp [errW_none, errW_some] <;> rfl)) | (simp [*, errW_none, errW_some] <;> rfl), rp_ HO495, bl_ HB, kp_ HK⟩
      rw [if_pos c58] at H
      have c58b0 : decide (0 < x35_2) = true := decide_eq_true c58
      clear c58
      obtain ⟨ji59, hji59⟩ : ∃ j_ : Int, (wrap64 ((x0_2.length : Int) - 1)) = j_ := ⟨_, rfl⟩
      replace H : (if 0 ≤ (ji59) then (if (ji59) < (x0_2.length : Int) then (if (rd x0_2 (ji59)) = 32 then ((some (x0_2.set ((ji59) : Int).toNat 10 : List Int)).bind fun y462 => (if (rd y462 (ji59)) = a3 then (if y462.length < 140737488355328 then (some ((y462 ++ [a4]), wrap64 (x2_2 + 1), (x0_2.length : Int), (a3 != 123))) else (none)) else ((pretty_appendTabs.f k2 y462 a7 a8 a10).bind fun t467 => (if t467.length < 140737488355328 then (some ((t467 ++ [a4]), wrap64 (x2_2 + 1), (x0_2.length : Int), (a3 != 123))) else (none))))) else (if x0_2.length < 140737488355328 then ((some (x0_2 ++ [10] : List Int)).bind fun y473 => (if 0 ≤ (wrap64 ((y473.length : Int) - 1)) then (if (wrap64 ((y473.length : Int) - 1)) < (y473.length : Int) then (if (rd y473 (wrap64 ((y473.length : Int) - 1))) = a3 then (if y473.length < 140737488355328 then (some ((y473 ++ [a4]), wrap64 (x2_2 + 1), (x0_2.length : Int), (a3 != 123))) else (none)) else ((pretty_appendTabs.f k2 y473 a7 a8 a10).bind fun t480 => (if t480.length < 140737488355328 then (some ((t480 ++ [a4]), wrap64 (x2_2 + 1), (x0_2.length : Int), (a3 != 123))) else (none)))) else (none)) else (none))) else (none))) else (none)) else (none)) = some (r1, r2, r3, r4) := by first | (rw [hji59] at H; exact H) | (simp only [hji59] at H ⊢; exact H)
      have hji59w : (IntKind.i64.wrap ((x0_2.length : Int) - 1)) = ji59 := (i64_w _).trans hji59
      by_cases c60 : 0 ≤ (ji59)
      rotate_left
      ·
       rw [if_neg c60] at H
       exact absurd H (by simp)
      rw [if_pos c60] at H
      have c60b0 : decide (0 ≤ (ji59)) = true := decide_eq_true c60
      clear c60
      by_cases c61 : (ji59) < (x0_2.length : Int)
      rotate_left
      ·
       rw [if_neg c61] at H
       exact absurd H (by simp)
      rw [if_pos c61] at H
      have c61b0 : decide ((ji59) < (x0_2.length : Int)) = true := decide_eq_true c61
      clear c61
      by_cases c62 : (rd x0_2 (ji59)) = 32
      rotate_left
      ·
       rw [if_neg c62] at H
       have c62b0 : ((rd x0_2 (ji59)) == 32) = false := beq_eq_false_iff_ne.mpr c62
       have c62b1 : ((rd x0_2 (ji59)) != 32) = true := bne_iff_ne.mpr c62
       by_cases c77 : x0_2.length < 140737488355328
       rotate_left
       ·
        rw [if_neg c77] at H
        exact absurd H (by simp)
       rw [if_pos c77] at H
       have LMc77 := a_ c77
       clear c77
       obtain ⟨y473, hy473⟩ : ∃ y_ : List Int, y_ = (x0_2 ++ [10]) := ⟨_, rfl⟩
       replace H := lt_ H hy473
       have Ny473 := a_ hy473
       clear hy473
       obtain ⟨ji78, hji78⟩ : ∃ j_ : Int, (wrap64 ((y473.length : Int) - 1)) = j_ := ⟨_, rfl⟩
       replace H : (if 0 ≤ (ji78) then (if (ji78) < (y473.length : Int) then (if (rd y473 (ji78)) = a3 then (if y473.length < 140737488355328 then (some ((y473 ++ [a4]), wrap64 (x2_2 + 1), (x0_2.length : Int), (a3 != 123))) else (none)) else ((pretty_appendTabs.f k2 y473 a7 a8 a10).bind fun t480 => (if t480.length < 140737488355328 then (some ((t480 ++ [a4]), wrap64 (x2_2 + 1), (x0_2.length : Int), (a3 != 123))) else (none)))) else (none)) else (none)) = some (r1, r2, r3, r4) := by first | (rw [hji78] at H; exact H) | (simp only [hji78] at H ⊢; exact H)
       have hji78w : (IntKind.i64.wrap ((y473.length : Int) - 1)) = ji78 := (i64_w _).trans hji78
       by_cases c79 : 0 ≤ (ji78)
       rotate_left
       ·
        rw [if_neg c79] at H
        exact absurd H (by simp)
       rw [if_pos c79] at H
       have c79b0 : decide (0 ≤ (ji78)) = true := decide_eq_true c79
       clear c79
       by_cases c80 : (ji78) < (y473.length : Int)
       rotate_left
       ·
        rw [if_neg c80] at H
        exact absurd H (by simp)
       rw [if_pos c80] at H
       have c80b0 : decide ((ji78) < (y473.length : Int)) = true := decide_eq_true c80
       clear c80
       by_cases c81 : (rd y473 (ji78)) = a3
       ·
        rw [if_pos c81] at H
        have c81b0 : ((rd y473 (ji78)) == a3) = true := beq_iff_eq.mpr c81
        have c81b1 : ((rd y473 (ji78)) != a3) = false := bne_eq_false_iff_eq.mpr c81
        clear c81
        by_cases c82 : y473.length < 140737488355328
        rotate_left
        ·
         rw [if_neg c82] at H
         exact absurd H (by simp)
        rw [if_pos c82] at H
        have LMc82 := a_ c82
        clear c82
        obtain ⟨y477, hy477⟩ : ∃ y_ : List Int, y_ = (y473 ++ [a4]) := ⟨_, rfl⟩
        replace H : (some (y477, wrap64 (x2_2 + 1), (x0_2.length : Int), (a3 != 123))) = some (r1, r2, r3, r4) := by first | exact lt_ H hy477 | (rw [hy477]; exact H) | exact H
        have Ny477 := a_ hy477
        clear hy477
        simp only [Option.some.injEq, Prod.mk.injEq] at H
        obtain ⟨rfl, rfl, rfl, rfl⟩ := H
        have p459 : 0 ≤ (x2_2 : Int) := of_decide_eq_true as_
        have q459 : x2_2 < (x1_2.length : Int) := of_decide_eq_true as_
        obtain ⟨ad459, e459, hx459_0⟩ := Kd.at_int (Kd.V_reads' HO_1.out).2.2 x2_2 p459 q459
        cases e459
        replace p459 := eq_true p459
        replace q459 := eq_true q459
        have p460 : 0 ≤ (x2_2 : Int) := of_decide_eq_true as_
        have q460 : x2_2 < (x1_2.length : Int) := of_decide_eq_true as_
        obtain ⟨ad460, e460, hx460_0⟩ := Kd.at_int (Kd.V_reads' HO_1.out).2.2 x2_2 p460 q460
        obtain rfl : ad459 = ad460 := (by injection e460)
        replace p460 := eq_true p460
        replace q460 := eq_true q460
        obtain ⟨Ao83, co83, eo83⟩ := Kd.R_slice HO_0.out
        subst eo83
        have p461 : 0 ≤ ((ji59) : Int) := of_decide_eq_true as_
        have q461 : (ji59) < (x0_2.length : Int) := of_decide_eq_true as_
        obtain ⟨ad461, e461, hx461_0⟩ := Kd.at_int (Kd.R_reads' HO_0.out).2.2 (ji59) p461 q461
        cases e461
        replace p461 := eq_true p461
        replace q461 := eq_true q461
        go_wp2_with (first | ((with_reducible refine gate_builtin (b := .append) (xs := #[.tmp 150, .tmp 151]) rfl ?_); (try (refine gate_guard (by rfl) ?_; dsimp only)); at_builtin; refine Kd.R_append (Kd.int .u8) (w0 := w0) w0.heap.size rfl (.tmp 150) (.tmp 151) 32 5 (.int .u8 0) 1 rfl Try.underlying32 info5 rfl (by decide) (by omega) (.slice (some ad461) x0_2.length co83) x0_2 10 [.int .u8 10] (fun k_ => (P0_ k_ ∨ w.heap.size ≤ k_)) (fun _ => False) rfl rfl ?aP (fun _ hk => hk.elim) ?aF ?aO ?aB ?aS ?aL ?_; (case aP => exact rfl); (case aB => exact (bl_ HB)); (case aF => exact (fun k_ hk => (.inr (Nat.le_trans (kz_ HK) hk)))); (case aO => exact (rp_ HO_0)); (case aS => exact (below_size (bl_ HB))); (case aL => have := LMc77.out; omega); intro v474 w84 ho hb hg hat; rw [← Ny473.out] at ho; have n0_ := a_ (Kd.V_afterv (ok := (fun k_ => ((P0_ k_ ∨ P1_ k_) ∨ w.heap.size ≤ k_))) (vp_ HO_1) hg hat); have n1_ := a_ (hb); have n2_ := a_ (Kept.of_grown (S := (fun k_ => P0_ k_)) hg (kp_ HK) (fun k_ e_ => (HO_0.out.1 k_ e_))); have n3_ := a_ (ho); clear HO_1 HB HK HO_0; have HO_1 := n0_; have HB := n1_; have HK := n2_; have HO475 := n3_; clear n0_ n1_ n2_ n3_; clear ho hb hg hat; obtain ⟨Ao85, co85, eo85⟩ := Kd.R_slice HO475.out; subst eo85; have p476 : 0 ≤ ((ji78) : Int) := of_decide_eq_true as_; have q476 : (ji78) < (y473.length : Int) := of_decide_eq_true as_; obtain ⟨ad476, e476, hx476_0⟩ := Kd.at_int (Kd.R_reads' HO475.out).2.2 (ji78) p476 q476; cases e476; replace p476 := eq_true p476; replace q476 := eq_true q476) | ((with_reducible refine gate_builtin (b := .append) (xs := #[.tmp 166, .tmp 168]) rfl ?_); (try (refine gate_guard (by rfl) ?_; dsimp only)); at_builtin; refine Kd.R_append (Kd.int .u8) (w0 := w0) w0.heap.size rfl (.tmp 166) (.tmp 168) 32 5 (.int .u8 0) 1 rfl Try.underlying32 info5 rfl (by decide) (by omega) (.slice (some ad476) y473.length co85) y473 a4 [.int .u8 a4] (fun k_ => (P0_ k_ ∨ w.heap.size ≤ k_)) (fun _ => False) rfl rfl ?aP (fun _ hk => hk.elim) ?aF ?aO ?aB ?aS ?aL ?_; (case aP => exact rfl); (case aB => exact (bl_ HB)); (case aF => exact (fun k_ hk => (.inr (Nat.le_trans (kz_ HK) hk)))); (case aO => exact (rp_ HO475)); (case aS => exact (below_size (bl_ HB))); (case aL => have := LMc82.out; omega); intro v478 w86 ho hb hg hat; rw [← Ny477.out] at ho; have n0_ := a_ (Kd.V_afterv (ok := (fun k_ => ((P0_ k_ ∨ P1_ k_) ∨ w.heap.size ≤ k_))) (vp_ HO_1) hg hat); have n1_ := a_ (hb); have n2_ := a_ (Kept.of_grown (S := (fun k_ => P0_ k_)) hg (kp_ HK) (fun k_ e_ => (HO475.out.1 k_ e_))); have n3_ := a_ (ho); clear HO_1 HB HK HO475; have HO_1 := n0_; have HB := n1_; have HK := n2_; have HO479 := n3_; clear n0_ n1_ n2_ n3_; clear ho hb hg hat))
        refine bodyPost_ret (results_list (rs := [.tmp 26, .tmp 27, .tmp 28, .tmp 29]) rfl (by simp) (.tmp (.tmp (.tmp (.tmp .nil))))) rfl ?_
        exact ⟨_, by first | rfl | (simp [errW_none, errW_some] <;> rfl) | (simp only [← hji59, ← hji78]; first | rfl | (simp [errW_none, errW_some] <;> rfl)) | (simp [*, errW_none, errW_some] <;> rfl), rp_ HO479, bl_ HB, kp_ HK⟩
       rw [if_neg c81] at H
       have c81b0 : ((rd y473 (ji78)) == a3) = false := beq_eq_false_iff_ne.mpr c81
       have c81b1 : ((rd y473 (ji78)) != a3) = true := bne_iff_ne.mpr c81
       replace H := Option.bind_eq_some_iff.mp H
       obtain ⟨t480, A870, H⟩ := H
       replace H : (if t480.length < 140737488355328 then (some ((t480 ++ [a4]), wrap64 (x2_2 + 1), (x0_2.length : Int), (a3 != 123))) else (none)) = some (r1, r2, r3, r4) := H
       have A87 := a_ A870
       clear A870
       by_cases c88 : t480.length < 140737488355328
       rotate_left
       ·
        rw [if_neg c88] at H
        exact absurd H (by simp)
       rw [if_pos c88] at H
       have LMc88 := a_ c88
       clear c88
       obtain ⟨y483, hy483⟩ : ∃ y_ : List Int, y_ = (t480 ++ [a4]) := ⟨_, rfl⟩
       replace H : (some (y483, wrap64 (x2_2 + 1), (x0_2.length : Int), (a3 != 123))) = some (r1, r2, r3, r4) := by first | exact lt_ H hy483 | (rw [hy483]; exact H) | exact H
       have Ny483 := a_ hy483
       clear hy483
       simp only [Option.some.injEq, Prod.mk.injEq] at H
       obtain ⟨rfl, rfl, rfl, rfl⟩ := H
       have p459 : 0 ≤ (x2_2 : Int) := of_decide_eq_true as_
       have q459 : x2_2 < (x1_2.length : Int) := of_decide_eq_true as_
       obtain ⟨ad459, e459, hx459_0⟩ := Kd.at_int (Kd.V_reads' HO_1.out).2.2 x2_2 p459 q459
       cases e459
       replace p459 := eq_true p459
       replace q459 := eq_true q459
       have p460 : 0 ≤ (x2_2 : Int) := of_decide_eq_true as_
       have q460 : x2_2 < (x1_2.length : Int) := of_decide_eq_true as_
       obtain ⟨ad460, e460, hx460_0⟩ := Kd.at_int (Kd.V_reads' HO_1.out).2.2 x2_2 p460 q460
       obtain rfl : ad459 = ad460 := (by injection e460)
       replace p460 := eq_true p460
       replace q460 := eq_true q460
       obtain ⟨Ao89, co89, eo89⟩ := Kd.R_slice HO_0.out
       subst eo89
       have p461 : 0 ≤ ((ji59) : Int) := of_decide_eq_true as_
       have q461 : (ji59) < (x0_2.length : Int) := of_decide_eq_true as_
       obtain ⟨ad461, e461, hx461_0⟩ := Kd.at_int (Kd.R_reads' HO_0.out).2.2 (ji59) p461 q461
       cases e461
       replace p461 := eq_true p461
       replace q461 := eq_true q461
       go_wp2_with (first | ((with_reducible refine gate_builtin (b := .append) (xs := #[.tmp 150, .tmp 151]) rfl ?_); (try (refine gate_guard (by rfl) ?_; dsimp only)); at_builtin; refine Kd.R_append (Kd.int .u8) (w0 := w0) w0.heap.size rfl (.tmp 150) (.tmp 151) 32 5 (.int .u8 0) 1 rfl Try.underlying32 info5 rfl (by decide) (by omega) (.slice (some ad461) x0_2.length co89) x0_2 10 [.int .u8 10] (fun k_ => (P0_ k_ ∨ w.heap.size ≤ k_)) (fun _ => False) rfl rfl ?aP (fun _ hk => hk.elim) ?aF ?aO ?aB ?aS ?aL ?_; (case aP => exact rfl); (case aB => exact (bl_ HB)); (case aF => exact (fun k_ hk => (.inr (Nat.le_trans (kz_ HK) hk)))); (case aO => exact (rp_ HO_0)); (case aS => exact (below_size (bl_ HB))); (case aL => have := LMc77.out; omega); intro v474 w90 ho hb hg hat; rw [← Ny473.out] at ho; have n0_ := a_ (Kd.V_afterv (ok := (fun k_ => ((P0_ k_ ∨ P1_ k_) ∨ w.heap.size ≤ k_))) (vp_ HO_1) hg hat); have n1_ := a_ (hb); have n2_ := a_ (Kept.of_grown (S := (fun k_ => P0_ k_)) hg (kp_ HK) (fun k_ e_ => (HO_0.out.1 k_ e_))); have n3_ := a_ (ho); clear HO_1 HB HK HO_0; have HO_1 := n0_; have HB := n1_; have HK := n2_; have HO475 := n3_; clear n0_ n1_ n2_ n3_; clear ho hb hg hat; obtain ⟨Ao91, co91, eo91⟩ := Kd.R_slice HO475.out; subst eo91; have p476 : 0 ≤ ((ji78) : Int) := of_decide_eq_true as_; have q476 : (ji78) < (y473.length : Int) := of_decide_eq_true as_; obtain ⟨ad476, e476, hx476_0⟩ := Kd.at_int (Kd.R_reads' HO475.out).2.2 (ji78) p476 q476; cases e476; replace p476 := eq_true p476; replace q476 := eq_true q476) | ((with_reducible refine gate_callee (f := 34) rfl ?_); refine goesL_ (some 165) rfl rfl Try.func34 (by kernel_rfl) rfl #[.slice (some ad476) y473.length co91, .string a7, .string a8, .int .i64 a10] rfl ar_ ?_; (with_reducible refine (pretty_appendTabs.calls k2 (fun k_ => some k_ = (.slice (some ad476) y473.length co91 : Value).ownBlock) (.slice (some ad476) y473.length co91) y473 a7 a8 a10 t480 w0 _ ?side1 ?side2 A87.out).mono ?_); (case side1 => exact bl_ HB); (case side2 => exact Kd.R_tight rfl HO475.out); rintro e w92 ⟨v481, rfl, ho0, hb, hkp⟩; refine ⟨_, rfl, ?_⟩; have n0_ := a_ (Kd.V_mono (ok' := fun k_ => ((P0_ k_ ∨ P1_ k_) ∨ w.heap.size ≤ k_) ∧ some k_ ≠ (v481 : Value).ownBlock) (Kd.V_keptB (HO_1.out) hkp (fun k_ hk_ hs_ => (hk_.2) hs_)) (fun k_ hk_ => ⟨hk_.1.1, fun e_ => Or.elim (ho0.1 k_ e_.symm) (fun hs_ => hk_.2.1 hs_) (fun hn_ => Nat.not_le.2 hk_.2.2 hn_)⟩)); have n1_ := a_ (Kd.R_mono (ok' := fun k_ => (P0_ k_ ∨ w.heap.size ≤ k_)) ho0 (fun k_ hk_ => Or.elim hk_ (fun hs_ => (HO475.out.1 k_ (hs_).symm)) (fun hn_ => (.inr (Nat.le_trans (kz_ HK) hn_))))); have n2_ := a_ (Kept.then_ (S := (fun k_ => P0_ k_)) (kp_ HK) hkp (fun k_ hs_ => (fun e_ => (HO475.out.1 k_ e_.symm)) hs_)); have n3_ := a_ (hb); clear HO_1 HK HB HO475; have HO_1 := n0_; have HO482 := n1_; have HK := n2_; have HB := n3_; clear n0_ n1_ n2_ n3_; (try clear hb); (try clear hkp); (try clear ho0)) | ((with_reducible refine gate_builtin (b := .append) (xs := #[.tmp 166, .tmp 168]) rfl ?_); (try (refine gate_guard (by rfl) ?_; dsimp only)); at_builtin; refine Kd.R_append (Kd.int .u8) (w0 := w0) w0.heap.size rfl (.tmp 166) (.tmp 168) 32 5 (.int .u8 0) 1 rfl Try.underlying32 info5 rfl (by decide) (by omega) v481 t480 a4 [.int .u8 a4] (fun k_ => (P0_ k_ ∨ w.heap.size ≤ k_)) (fun _ => False) rfl rfl ?aP (fun _ hk => hk.elim) ?aF ?aO ?aB ?aS ?aL ?_; (case aP => exact rfl); (case aB => exact (bl_ HB)); (case aF => exact (fun k_ hk => (.inr (Nat.le_trans (kz_ HK) hk)))); (case aO => exact (rp_ HO482)); (case aS => exact (below_size (bl_ HB))); (case aL => have := LMc88.out; omega); intro v484 w93 ho hb hg hat; rw [← Ny483.out] at ho; have n0_ := a_ (Kd.V_afterv (ok := (fun k_ => ((P0_ k_ ∨ P1_ k_) ∨ w.heap.size ≤ k_))) (vp_ HO_1) hg hat); have n1_ := a_ (hb); have n2_ := a_ (Kept.of_grown (S := (fun k_ => P0_ k_)) hg (kp_ HK) (fun k_ e_ => (HO482.out.1 k_ e_))); have n3_ := a_ (ho); clear HO_1 HB HK HO482; have HO_1 := n0_; have HB := n1_; have HK := n2_; have HO485 := n3_; clear n0_ n1_ n2_ n3_; clear ho hb hg hat))
       refine bodyPost_ret (results_list (rs := [.tmp 26, .tmp 27, .tmp 28, .tmp 29]) rfl (by simp) (.tmp (.tmp (.tmp (.tmp .nil))))) rfl ?_
       exact ⟨_, by first | rfl | (simp [errW_none, errW_some] <;> rfl) | (simp only [← hji59, ← hji78]; first | rfl | (simp [errW_none, errW_some] <;> rfl)) | (simp [*, errW_none, errW_some] <;> rfl), rp_ HO485, bl_ HB, kp_ HK⟩
      rw [if_pos c62] at H
      have c62b0 : ((rd x0_2 (ji59)) == 32) = true := beq_iff_eq.mpr c62
      have c62b1 : ((rd x0_2 (ji59)) != 32) = false := bne_eq_false_iff_eq.mpr c62
      clear c62
      obtain ⟨y462, hy462⟩ : ∃ y_ : List Int, y_ = (x0_2.set ((ji59) : Int).toNat 10) := ⟨_, rfl⟩
      replace H := lt_ H hy462
      have Ny462 := a_ hy462
      clear hy462
      by_cases c64 : (rd y462 (ji59)) = a3
      ·
       rw [if_pos c64] at H
       have c64b0 : ((rd y462 (ji59)) == a3) = true := beq_iff_eq.mpr c64
       have c64b1 : ((rd y462 (ji59)) != a3) = false := bne_eq_false_iff_eq.mpr c64
       clear c64
       by_cases c65 : y462.length < 140737488355328
       rotate_left
       ·
        rw [if_neg c65] at H
        exact absurd H (by simp)
       rw [if_pos c65] at H
       have LMc65 := a_ c65
       clear c65
       obtain ⟨y464, hy464⟩ : ∃ y_ : List Int, y_ = (y462 ++ [a4]) := ⟨_, rfl⟩
       replace H : (some (y464, wrap64 (x2_2 + 1), (x0_2.length : Int), (a3 != 123))) = some (r1, r2, r3, r4) := by first | exact lt_ H hy464 | (rw [hy464]; exact H) | exact H
       have Ny464 := a_ hy464
       clear hy464
       simp only [Option.some.injEq, Prod.mk.injEq] at H
       obtain ⟨rfl, rfl, rfl, rfl⟩ := H
       have p459 : 0 ≤ (x2_2 : Int) := of_decide_eq_true as_
       have q459 : x2_2 < (x1_2.length : Int) := of_decide_eq_true as_
       obtain ⟨ad459, e459, hx459_0⟩ := Kd.at_int (Kd.V_reads' HO_1.out).2.2 x2_2 p459 q459
       cases e459
       replace p459 := eq_true p459
       replace q459 := eq_true q459
       have p460 : 0 ≤ (x2_2 : Int) := of_decide_eq_true as_
       have q460 : x2_2 < (x1_2.length : Int) := of_decide_eq_true as_
       obtain ⟨ad460, e460, hx460_0⟩ := Kd.at_int (Kd.V_reads' HO_1.out).2.2 x2_2 p460 q460
       obtain rfl : ad459 = ad460 := (by injection e460)
       replace p460 := eq_true p460
       replace q460 := eq_true q460
       obtain ⟨Ao66, co66, eo66⟩ := Kd.R_slice HO_0.out
       subst eo66
       have p461 : 0 ≤ ((ji59) : Int) := of_decide_eq_true as_
       have q461 : (ji59) < (x0_2.length : Int) := of_decide_eq_true as_
       obtain ⟨ad461, e461, hx461_0⟩ := Kd.at_int (Kd.R_reads' HO_0.out).2.2 (ji59) p461 q461
       cases e461
       replace p461 := eq_true p461
       replace q461 := eq_true q461
       have p63 : 0 ≤ ((ji59) : Int) := of_decide_eq_true as_
       have q63 : ((ji59) : Int) < ((x0_2.length : Int) : Int) := of_decide_eq_true as_
       obtain ⟨go63, co63, eo63, gb63, gl63, cl63, HG63⟩ := Kd.R_form HO_0.out (by omega)
       (first | cases eo63 | (injection eo63 with ea_ en_ ec_; (first | subst ea_ | (injection ea_ with ea_; subst ea_)); subst ec_; clear en_))
       have GB63 := a_ gb63
       have GG63 := a_ HG63
       clear gb63 gl63 HG63
       have HMgo63 := a_ (show (P0_ go63 ∨ w.heap.size ≤ go63) from (HO_0.out.1 _ rfl))
       (first | simp only [add_plain] at hx461_0 | skip)
       obtain ⟨hx63_0, hf63_0⟩ := Kd.R_celln 0 HO_0.out ((ji59) : Int) p63 q63
       replace p63 := eq_true p63
       replace q63 := eq_true q63
       have HP67 := Kd.R_putg HO_0.out ((ji59) : Int) 10
       go_wp2_with (first | ((with_reducible refine gate_store (t := 5) (p := 149) rfl ?_); refine store_event (t := 5) (p := 149) (v := ?vo_w68) (w1 := (wr.setCell ⟨go63, ((ji59) : Int).toNat, none⟩ (.int .u8 10))) ?hg ?ho ?hn ?hr ?_; (case ho => rfl); (case hg => rfl); (case hn => rfl); (case hr => first | (go_simp; done) | (go_simp; rfl)); intro w68 hw; have hg : wr.grownBy w68 (some go63) := (by rw [hw]; exact HP67.2); have hp_ : Kd.R (Kd.int .u8) 5 w68 w0.heap.size (fun k_ => (P0_ k_ ∨ w.heap.size ≤ k_)) (.slice (some ⟨go63, 0, none⟩) x0_2.length co66) y462 := (by rw [hw, Ny462.out]; exact HP67.1); clear HP67; have n0_ := a_ (hp_); have n1_ := a_ (Kd.V_afterv (v := (.slice (some ⟨go63, 0, none⟩) x0_2.length co66)) (v1 := (.slice (some ⟨go63, 0, none⟩) x0_2.length co66)) (ok := (fun k_ => ((P0_ k_ ∨ P1_ k_) ∨ w.heap.size ≤ k_))) (vp_ HO_1) hg (.inl rfl)); have n2_ := a_ ((by rw [hw]; exact below_set (HB.out) GB63.out : Below w0.heap.size w0 w68)); have n3_ := a_ (Kept.of_grown (S := (fun k_ => P0_ k_)) hg (kp_ HK) (fun k_ e_ => (HO_0.out.1 k_ e_))); clear HO_0 HO_1 HB HK; have HO_0 := n0_; have HO_1 := n1_; have HB := n2_; have HK := n3_; clear n0_ n1_ n2_ n3_; clear hg hw hp_; have p463 : 0 ≤ ((ji59) : Int) := of_decide_eq_true as_; have q463 : (ji59) < (y462.length : Int) := (by have h_ : ((ji59) : Int) < ((x0_2.length : Int) : Int) := of_decide_eq_true as_; first | (have e_ := (Kd.R_reads' HO_0.out).1; omega) | simpa only [Ny462.out, List.length_set] using h_); have ql463 : (((ji59) : Int) < ((x0_2.length : Int) : Int)) = True := eq_true (of_decide_eq_true as_); obtain ⟨ad463, e463, hx463_0⟩ := Kd.at_int (Kd.R_reads' HO_0.out).2.2 (ji59) p463 q463; obtain rfl : (⟨go63, 0, none⟩ : Addr) = ad463 := (by injection e463); (first | simp only [add_plain] at hx463_0 | simp only [add_at] at hx463_0 | simp only [Addr.add, Nat.zero_add] at hx463_0 | skip); replace p463 := eq_true p463; replace q463 := eq_true q463) | ((with_reducible refine gate_builtin (b := .append) (xs := #[.tmp 166, .tmp 168]) rfl ?_); (try (refine gate_guard (by rfl) ?_; dsimp only)); at_builtin; refine Kd.R_append (Kd.int .u8) (w0 := w0) w0.heap.size rfl (.tmp 166) (.tmp 168) 32 5 (.int .u8 0) 1 rfl Try.underlying32 info5 rfl (by decide) (by omega) (.slice (some ⟨go63, 0, none⟩) x0_2.length co66) y462 a4 [.int .u8 a4] (fun k_ => (P0_ k_ ∨ w.heap.size ≤ k_)) (fun _ => False) rfl rfl ?aP (fun _ hk => hk.elim) ?aF ?aO ?aB ?aS ?aL ?_; (case aP => exact rfl); (case aB => exact (bl_ HB)); (case aF => exact (fun k_ hk => (.inr (Nat.le_trans (kz_ HK) hk)))); (case aO => exact (rp_ HO_0)); (case aS => exact (below_size (bl_ HB))); (case aL => have := LMc65.out; omega); intro v465 w69 ho hb hg hat; rw [← Ny464.out] at ho; have n0_ := a_ (Kd.V_afterv (ok := (fun k_ => ((P0_ k_ ∨ P1_ k_) ∨ w.heap.size ≤ k_))) (vp_ HO_1) hg hat); have n1_ := a_ (hb); have n2_ := a_ (Kept.of_grown (S := (fun k_ => P0_ k_)) hg (kp_ HK) (fun k_ e_ => (HO_0.out.1 k_ e_))); have n3_ := a_ (ho); clear HO_1 HB HK HO_0; have HO_1 := n0_; have HB := n1_; have HK := n2_; have HO466 := n3_; clear n0_ n1_ n2_ n3_; clear ho hb hg hat))
       refine bodyPost_ret (results_list (rs := [.tmp 26, .tmp 27, .tmp 28, .tmp 29]) rfl (by simp) (.tmp (.tmp (.tmp (.tmp .nil))))) rfl ?_
       exact ⟨_, by first | rfl | (simp [errW_none, errW_some] <;> rfl) | (simp only [← hji59]; first | rfl | (simp [errW_none, errW_some] <;> rfl)) | (simp [*, errW_none, errW_some] <;> rfl), rp_ HO466, bl_ HB, kp_ HK⟩
      rw [if_neg c64] at H
      have c64b0 : ((rd y462 (ji59)) == a3) = false := beq_eq_false_iff_ne.mpr c64
      have c64b1 : ((rd y462 (ji59)) != a3) = true := bne_iff_ne.mpr c64
      replace H := Option.bind_eq_some_iff.mp H
      obtain ⟨t467, A700, H⟩ := H
      replace H : (if t467.length < 140737488355328 then (some ((t467 ++ [a4]), wrap64 (x2_2 + 1), (x0_2.length : Int), (a3 != 123))) else (none)) = some (r1, r2, r3, r4) := H
      have A70 := a_ A700
      clear A700
      by_cases c71 : t467.length < 140737488355328
      rotate_left
      ·
       rw [if_neg c71] at H
       exact absurd H (by simp)
      rw [if_pos c71] at H
      have LMc71 := a_ c71
      clear c71
      obtain ⟨y470, hy470⟩ : ∃ y_ : List Int, y_ = (t467 ++ [a4]) := ⟨_, rfl⟩
      replace H : (some (y470, wrap64 (x2_2 + 1), (x0_2.length : Int), (a3 != 123))) = some (r1, r2, r3, r4) := by first | exact lt_ H hy470 | (rw [hy470]; exact H) | exact H
      have Ny470 := a_ hy470
      clear hy470
      simp only [Option.some.injEq, Prod.mk.injEq] at H
      obtain ⟨rfl, rfl, rfl, rfl⟩ := H
      have p459 : 0 ≤ (x2_2 : Int) := of_decide_eq_true as_
      have q459 : x2_2 < (x1_2.length : Int) := of_decide_eq_true as_
      obtain ⟨ad459, e459, hx459_0⟩ := Kd.at_int (Kd.V_reads' HO_1.out).2.2 x2_2 p459 q459
      cases e459
      replace p459 := eq_true p459
      replace q459 := eq_true q459
      have p460 : 0 ≤ (x2_2 : Int) := of_decide_eq_true as_
      have q460 : x2_2 < (x1_2.length : Int) := of_decide_eq_true as_
      obtain ⟨ad460, e460, hx460_0⟩ := Kd.at_int (Kd.V_reads' HO_1.out).2.2 x2_2 p460 q460
      obtain rfl : ad459 = ad460 := (by injection e460)
      replace p460 := eq_true p460
      replace q460 := eq_true q460
      obtain ⟨Ao72, co72, eo72⟩ := Kd.R_slice HO_0.out
      subst eo72
      have p461 : 0 ≤ ((ji59) : Int) := of_decide_eq_true as_
      have q461 : (ji59) < (x0_2.length : Int) := of_decide_eq_true as_
      obtain ⟨ad461, e461, hx461_0⟩ := Kd.at_int (Kd.R_reads' HO_0.out).2.2 (ji59) p461 q461
      cases e461
      replace p461 := eq_true p461
      replace q461 := eq_true q461
      have p63 : 0 ≤ ((ji59) : Int) := of_decide_eq_true as_
      have q63 : ((ji59) : Int) < ((x0_2.length : Int) : Int) := of_decide_eq_true as_
      obtain ⟨go63, co63, eo63, gb63, gl63, cl63, HG63⟩ := Kd.R_form HO_0.out (by omega)
      (first | cases eo63 | (injection eo63 with ea_ en_ ec_; (first | subst ea_ | (injection ea_ with ea_; subst ea_)); subst ec_; clear en_))
      have GB63 := a_ gb63
      have GG63 := a_ HG63
      clear gb63 gl63 HG63
      have HMgo63 := a_ (show (P0_ go63 ∨ w.heap.size ≤ go63) from (HO_0.out.1 _ rfl))
      (first | simp only [add_plain] at hx461_0 | skip)
      obtain ⟨hx63_0, hf63_0⟩ := Kd.R_celln 0 HO_0.out ((ji59) : Int) p63 q63
      replace p63 := eq_true p63
      replace q63 := eq_true q63
      have HP73 := Kd.R_putg HO_0.out ((ji59) : Int) 10
      go_wp2_with (first | ((with_reducible refine gate_store (t := 5) (p := 149) rfl ?_); refine store_event (t := 5) (p := 149) (v := ?vo_w74) (w1 := (wr.setCell ⟨go63, ((ji59) : Int).toNat, none⟩ (.int .u8 10))) ?hg ?ho ?hn ?hr ?_; (case ho => rfl); (case hg => rfl); (case hn => rfl); (case hr => first | (go_simp; done) | (go_simp; rfl)); intro w74 hw; have hg : wr.grownBy w74 (some go63) := (by rw [hw]; exact HP73.2); have hp_ : Kd.R (Kd.int .u8) 5 w74 w0.heap.size (fun k_ => (P0_ k_ ∨ w.heap.size ≤ k_)) (.slice (some ⟨go63, 0, none⟩) x0_2.length co72) y462 := (by rw [hw, Ny462.out]; exact HP73.1); clear HP73; have n0_ := a_ (hp_); have n1_ := a_ (Kd.V_afterv (v := (.slice (some ⟨go63, 0, none⟩) x0_2.length co72)) (v1 := (.slice (some ⟨go63, 0, none⟩) x0_2.length co72)) (ok := (fun k_ => ((P0_ k_ ∨ P1_ k_) ∨ w.heap.size ≤ k_))) (vp_ HO_1) hg (.inl rfl)); have n2_ := a_ ((by rw [hw]; exact below_set (HB.out) GB63.out : Below w0.heap.size w0 w74)); have n3_ := a_ (Kept.of_grown (S := (fun k_ => P0_ k_)) hg (kp_ HK) (fun k_ e_ => (HO_0.out.1 k_ e_))); clear HO_0 HO_1 HB HK; have HO_0 := n0_; have HO_1 := n1_; have HB := n2_; have HK := n3_; clear n0_ n1_ n2_ n3_; clear hg hw hp_; have p463 : 0 ≤ ((ji59) : Int) := of_decide_eq_true as_; have q463 : (ji59) < (y462.length : Int) := (by have h_ : ((ji59) : Int) < ((x0_2.length : Int) : Int) := of_decide_eq_true as_; first | (have e_ := (Kd.R_reads' HO_0.out).1; omega) | simpa only [Ny462.out, List.length_set] using h_); have ql463 : (((ji59) : Int) < ((x0_2.length : Int) : Int)) = True := eq_true (of_decide_eq_true as_); obtain ⟨ad463, e463, hx463_0⟩ := Kd.at_int (Kd.R_reads' HO_0.out).2.2 (ji59) p463 q463; obtain rfl : (⟨go63, 0, none⟩ : Addr) = ad463 := (by injection e463); (first | simp only [add_plain] at hx463_0 | simp only [add_at] at hx463_0 | simp only [Addr.add, Nat.zero_add] at hx463_0 | skip); replace p463 := eq_true p463; replace q463 := eq_true q463) | ((with_reducible refine gate_callee (f := 34) rfl ?_); refine goesL_ (some 165) rfl rfl Try.func34 (by kernel_rfl) rfl #[.slice (some ⟨go63, 0, none⟩) x0_2.length co72, .string a7, .string a8, .int .i64 a10] rfl ar_ ?_; (with_reducible refine (pretty_appendTabs.calls k2 (fun k_ => some k_ = (.slice (some ⟨go63, 0, none⟩) x0_2.length co72 : Value).ownBlock) (.slice (some ⟨go63, 0, none⟩) x0_2.length co72) y462 a7 a8 a10 t467 w0 _ ?side1 ?side2 A70.out).mono ?_); (case side1 => exact bl_ HB); (case side2 => exact Kd.R_tight rfl HO_0.out); rintro e w75 ⟨v468, rfl, ho0, hb, hkp⟩; refine ⟨_, rfl, ?_⟩; have n0_ := a_ (Kd.V_mono (ok' := fun k_ => ((P0_ k_ ∨ P1_ k_) ∨ w.heap.size ≤ k_) ∧ some k_ ≠ (v468 : Value).ownBlock) (Kd.V_keptB (HO_1.out) hkp (fun k_ hk_ hs_ => (hk_.2) hs_)) (fun k_ hk_ => ⟨hk_.1.1, fun e_ => Or.elim (ho0.1 k_ e_.symm) (fun hs_ => hk_.2.1 hs_) (fun hn_ => Nat.not_le.2 hk_.2.2 hn_)⟩)); have n1_ := a_ (Kd.R_mono (ok' := fun k_ => (P0_ k_ ∨ w.heap.size ≤ k_)) ho0 (fun k_ hk_ => Or.elim hk_ (fun hs_ => (HO_0.out.1 k_ (hs_).symm)) (fun hn_ => (.inr (Nat.le_trans (kz_ HK) hn_))))); have n2_ := a_ (Kept.then_ (S := (fun k_ => P0_ k_)) (kp_ HK) hkp (fun k_ hs_ => (fun e_ => (HO_0.out.1 k_ e_.symm)) hs_)); have n3_ := a_ (hb); clear HO_1 HK HB HO_0; have HO_1 := n0_; have HO469 := n1_; have HK := n2_; have HB := n3_; clear n0_ n1_ n2_ n3_; (try clear hb); (try clear hkp); (try clear ho0)) | ((with_reducible refine gate_builtin (b := .append) (xs := #[.tmp 166, .tmp 168]) rfl ?_); (try (refine gate_guard (by rfl) ?_; dsimp only)); at_builtin; refine Kd.R_append (Kd.int .u8) (w0 := w0) w0.heap.size rfl (.tmp 166) (.tmp 168) 32 5 (.int .u8 0) 1 rfl Try.underlying32 info5 rfl (by decide) (by omega) v468 t467 a4 [.int .u8 a4] (fun k_ => (P0_ k_ ∨ w.heap.size ≤ k_)) (fun _ => False) rfl rfl ?aP (fun _ hk => hk.elim) ?aF ?aO ?aB ?aS ?aL ?_; (case aP => exact rfl); (case aB => exact (bl_ HB)); (case aF => exact (fun k_ hk => (.inr (Nat.le_trans (kz_ HK) hk)))); (case aO => exact (rp_ HO469)); (case aS => exact (below_size (bl_ HB))); (case aL => have := LMc71.out; omega); intro v471 w76 ho hb hg hat; rw [← Ny470.out] at ho; have n0_ := a_ (Kd.V_afterv (ok := (fun k_ => ((P0_ k_ ∨ P1_ k_) ∨ w.heap.size ≤ k_))) (vp_ HO_1) hg hat); have n1_ := a_ (hb); have n2_ := a_ (Kept.of_grown (S := (fun k_ => P0_ k_)) hg (kp_ HK) (fun k_ e_ => (HO469.out.1 k_ e_))); have n3_ := a_ (ho); clear HO_1 HB HK HO469; have HO_1 := n0_; have HB := n1_; have HK := n2_; have HO472 := n3_; clear n0_ n1_ n2_ n3_; clear ho hb hg hat))
      refine bodyPost_ret (results_list (rs := [.tmp 26, .tmp 27, .tmp 28, .tmp 29]) rfl (by simp) (.tmp (.tmp (.tmp (.tmp .nil))))) rfl ?_
      exact ⟨_, by first | rfl | (simp [errW_none, errW_some] <;> rfl) | (simp only [← hji59]; first | rfl | (simp [errW_none, errW_some] <;> rfl)) | (simp [*, errW_none, errW_some] <;> rfl), rp_ HO472, bl_ HB, kp_ HK⟩
end Go.Proofs.Ytapgjhgjhcfmoaa.PFnPrDefaultLaid
