/- Contracts of Go functions of this seat: for each a Lean function over numbers and lists and a proof that the Go function, called in any memory, returns what it gives. Made by program. -/
import Derived.Test.YtapgjhgjhcfmoaaPFnPrDefaultLaidx0
namespace Go.Proofs.Ytapgjhgjhcfmoaa.PFnPrDefaultLaid
open Go.RowKit Go.Proofs.YtapgjhgjhcfmoaaW.PrintWords Go.Proofs.YtapgjhgjhcfmoaaW.PrintLast Go.Proofs.YtapgjhgjhcfmoaaW.PrintMore
attribute [local go_sem] max2_int min2_int max_two min_two max_three min_three max_four min_four   -- for this text's walks alone
set_option linter.unusedVariables false
set_option linter.unusedSimpArgs false
/-! ### pretty_isNaNOrInf: function 29 -/
def pretty_isNaNOrInf.f (l0 : List Int) : Option (Bool) := if 0 < (l0.length : Int) then (if (rd l0 0) = 105 then (some true) else (if (rd l0 0) = 73 then (some true) else (if (rd l0 0) = 43 then (some true) else (if (rd l0 0) = 78 then (some true) else (if (rd l0 0) = 110 then (if (l0.length : Int) > 1 then (if 1 < (l0.length : Int) then (some ((rd l0 1) != 117)) else (none)) else (some false)) else (some false)))))) else (none)
set_option maxHeartbeats 8000000 in
set_option maxRecDepth 100000 in
theorem pretty_isNaNOrInf.calls (A0 : Option Addr) (c0 : Nat) (l0 : List Int) (r : Bool) (w : World) (hr0 : Kd.C (Kd.int .u8) w A0 l0.length l0) (hc0 : l0.length ≤ c0) (h : pretty_isNaNOrInf.f l0 = some r) :
  Calls Try.prog 29 #[.slice A0 l0.length c0] w fun e w' => e = .returned (.bool r) ∧ Drawn0 w w' := by
 have HR0 := a_ hr0
 have HC0 := a_ hc0
 clear hr0 hc0
 have H : (if 0 < (l0.length : Int) then (if (rd l0 0) = 105 then (some true) else (if (rd l0 0) = 73 then (some true) else (if (rd l0 0) = 43 then (some true) else (if (rd l0 0) = 78 then (some true) else (if (rd l0 0) = 110 then (if (l0.length : Int) > 1 then (if 1 < (l0.length : Int) then (some ((rd l0 1) != 117)) else (none)) else (some false)) else (some false)))))) else (none)) = some r := h
 clear h
 by_cases c2 : 0 < (l0.length : Int)
 rotate_left
 ·
  rw [if_neg c2] at H
  exact absurd H (by simp)
 rw [if_pos c2] at H
 have c2b0 : decide (0 < (l0.length : Int)) = true := decide_eq_true c2
 have c2b1 : decide (0 < l0.length) = true := decide_eq_true (by omega)
 clear c2
 by_cases c3 : (rd l0 0) = 105
 ·
  rw [if_pos c3] at H
  have c3b0 : ((rd l0 0) == 105) = true := beq_iff_eq.mpr c3
  have c3b1 : ((rd l0 0) != 105) = false := bne_eq_false_iff_eq.mpr c3
  clear c3
  obtain rfl := Option.some.inj H
  have p302 : 0 ≤ (0 : Int) := (by omega)
  have q302 : 0 < (l0.length : Int) := of_decide_eq_true as_
  obtain ⟨ad302, e302, hx302_0⟩ := Kd.at_int HR0.out 0 p302 q302
  cases e302
  have qi302 : (0 < l0.length) = True := eq_true (by omega)
  (try rw [show ((0 : Int)).toNat = 0 from rfl] at hx302_0)
  (try rw [Addr.add_zero'] at hx302_0)
  replace p302 := eq_true p302
  replace q302 := eq_true q302
  go_enter Try.func29, Try.ntmps29
  go_wp2
  go_ret
  exact ⟨by first | rfl | (simp; done) | (simp [*]; done), by repeat (first | exact Drawn0.refl _ | apply Drawn0.step)⟩
 rw [if_neg c3] at H
 have c3b0 : ((rd l0 0) == 105) = false := beq_eq_false_iff_ne.mpr c3
 have c3b1 : ((rd l0 0) != 105) = true := bne_iff_ne.mpr c3
 by_cases c4 : (rd l0 0) = 73
 ·
  rw [if_pos c4] at H
  have c4b0 : ((rd l0 0) == 73) = true := beq_iff_eq.mpr c4
  have c4b1 : ((rd l0 0) != 73) = false := bne_eq_false_iff_eq.mpr c4
  clear c4
  obtain rfl := Option.some.inj H
  have p302 : 0 ≤ (0 : Int) := (by omega)
  have q302 : 0 < (l0.length : Int) := of_decide_eq_true as_
  obtain ⟨ad302, e302, hx302_0⟩ := Kd.at_int HR0.out 0 p302 q302
  cases e302
  have qi302 : (0 < l0.length) = True := eq_true (by omega)
  (try rw [show ((0 : Int)).toNat = 0 from rfl] at hx302_0)
  (try rw [Addr.add_zero'] at hx302_0)
  replace p302 := eq_true p302
  replace q302 := eq_true q302
  have p303 : 0 ≤ (0 : Int) := (by omega)
  have q303 : 0 < (l0.length : Int) := of_decide_eq_true as_
  obtain ⟨ad303, e303, hx303_0⟩ := Kd.at_int HR0.out 0 p303 q303
  obtain rfl : ad302 = ad303 := (by injection e303)
  have qi303 : (0 < l0.length) = True := eq_true (by omega)
  (try rw [show ((0 : Int)).toNat = 0 from rfl] at hx303_0)
  (try rw [Addr.add_zero'] at hx303_0)
  replace p303 := eq_true p303
  replace q303 := eq_true q303
  go_enter Try.func29, Try.ntmps29
  go_wp2
  go_ret
  exact ⟨by first | rfl | (simp; done) | (simp [*]; done), by repeat (first | exact Drawn0.refl _ | apply Drawn0.step)⟩
 rw [if_neg c4] at H
 have c4b0 : ((rd l0 0) == 73) = false := beq_eq_false_iff_ne.mpr c4
 have c4b1 : ((rd l0 0) != 73) = true := bne_iff_ne.mpr c4
 by_cases c5 : (rd l0 0) = 43
 ·
  rw [if_pos c5] at H
  have c5b0 : ((rd l0 0) == 43) = true := beq_iff_eq.mpr c5
  have c5b1 : ((rd l0 0) != 43) = false := bne_eq_false_iff_eq.mpr c5
  clear c5
  obtain rfl := Option.some.inj H
  have p302 : 0 ≤ (0 : Int) := (by omega)
  have q302 : 0 < (l0.length : Int) := of_decide_eq_true as_
  obtain ⟨ad302, e302, hx302_0⟩ := Kd.at_int HR0.out 0 p302 q302
  cases e302
  have qi302 : (0 < l0.length) = True := eq_true (by omega)
  (try rw [show ((0 : Int)).toNat = 0 from rfl] at hx302_0)
  (try rw [Addr.add_zero'] at hx302_0)
  replace p302 := eq_true p302
  replace q302 := eq_true q302
  have p303 : 0 ≤ (0 : Int) := (by omega)
  have q303 : 0 < (l0.length : Int) := of_decide_eq_true as_
  obtain ⟨ad303, e303, hx303_0⟩ := Kd.at_int HR0.out 0 p303 q303
  obtain rfl : ad302 = ad303 := (by injection e303)
  have qi303 : (0 < l0.length) = True := eq_true (by omega)
  (try rw [show ((0 : Int)).toNat = 0 from rfl] at hx303_0)
  (try rw [Addr.add_zero'] at hx303_0)
  replace p303 := eq_true p303
  replace q303 := eq_true q303
  have p304 : 0 ≤ (0 : Int) := (by omega)
  have q304 : 0 < (l0.length : Int) := of_decide_eq_true as_
  obtain ⟨ad304, e304, hx304_0⟩ := Kd.at_int HR0.out 0 p304 q304
  obtain rfl : ad302 = ad304 := (by injection e304)
  have qi304 : (0 < l0.length) = True := eq_true (by omega)
  (try rw [show ((0 : Int)).toNat = 0 from rfl] at hx304_0)
  (try rw [Addr.add_zero'] at hx304_0)
  replace p304 := eq_true p304
  replace q304 := eq_true q304
  go_enter Try.func29, Try.ntmps29
  go_wp2
  go_ret
  exact ⟨by first | rfl | (simp; done) | (simp [*]; done), by repeat (first | exact Drawn0.refl _ | apply Drawn0.step)⟩
 rw [if_neg c5] at H
 have c5b0 : ((rd l0 0) == 43) = false := beq_eq_false_iff_ne.mpr c5
 have c5b1 : ((rd l0 0) != 43) = true := bne_iff_ne.mpr c5
 by_cases c6 : (rd l0 0) = 78
 ·
  rw [if_pos c6] at H
  have c6b0 : ((rd l0 0) == 78) = true := beq_iff_eq.mpr c6
  have c6b1 : ((rd l0 0) != 78) = false := bne_eq_false_iff_eq.mpr c6
  clear c6
  obtain rfl := Option.some.inj H
  have p302 : 0 ≤ (0 : Int) := (by omega)
  have q302 : 0 < (l0.length : Int) := of_decide_eq_true as_
  obtain ⟨ad302, e302, hx302_0⟩ := Kd.at_int HR0.out 0 p302 q302
  cases e302
  have qi302 : (0 < l0.length) = True := eq_true (by omega)
  (try rw [show ((0 : Int)).toNat = 0 from rfl] at hx302_0)
  (try rw [Addr.add_zero'] at hx302_0)
  replace p302 := eq_true p302
  replace q302 := eq_true q302
  have p303 : 0 ≤ (0 : Int) := (by omega)
  have q303 : 0 < (l0.length : Int) := of_decide_eq_true as_
  obtain ⟨ad303, e303, hx303_0⟩ := Kd.at_int HR0.out 0 p303 q303
  obtain rfl : ad302 = ad303 := (by injection e303)
  have qi303 : (0 < l0.length) = True := eq_true (by omega)
  (try rw [show ((0 : Int)).toNat = 0 from rfl] at hx303_0)
  (try rw [Addr.add_zero'] at hx303_0)
  replace p303 := eq_true p303
  replace q303 := eq_true q303
  have p304 : 0 ≤ (0 : Int) := (by omega)
  have q304 : 0 < (l0.length : Int) := of_decide_eq_true as_
  obtain ⟨ad304, e304, hx304_0⟩ := Kd.at_int HR0.out 0 p304 q304
  obtain rfl : ad302 = ad304 := (by injection e304)
  have qi304 : (0 < l0.length) = True := eq_true (by omega)
  (try rw [show ((0 : Int)).toNat = 0 from rfl] at hx304_0)
  (try rw [Addr.add_zero'] at hx304_0)
  replace p304 := eq_true p304
  replace q304 := eq_true q304
  have p305 : 0 ≤ (0 : Int) := (by omega)
  have q305 : 0 < (l0.length : Int) := of_decide_eq_true as_
  obtain ⟨ad305, e305, hx305_0⟩ := Kd.at_int HR0.out 0 p305 q305
  obtain rfl : ad302 = ad305 := (by injection e305)
  have qi305 : (0 < l0.length) = True := eq_true (by omega)
  (try rw [show ((0 : Int)).toNat = 0 from rfl] at hx305_0)
  (try rw [Addr.add_zero'] at hx305_0)
  replace p305 := eq_true p305
  replace q305 := eq_true q305
  go_enter Try.func29, Try.ntmps29
  go_wp2
  go_ret
  exact ⟨by first | rfl | (simp; done) | (simp [*]; done), by repeat (first | exact Drawn0.refl _ | apply Drawn0.step)⟩
 rw [if_neg c6] at H
 have c6b0 : ((rd l0 0) == 78) = false := beq_eq_false_iff_ne.mpr c6
 have c6b1 : ((rd l0 0) != 78) = true := bne_iff_ne.mpr c6
 by_cases c7 : (rd l0 0) = 110
 rotate_left
 ·
  rw [if_neg c7] at H
  have c7b0 : ((rd l0 0) == 110) = false := beq_eq_false_iff_ne.mpr c7
  have c7b1 : ((rd l0 0) != 110) = true := bne_iff_ne.mpr c7
  obtain rfl := Option.some.inj H
  have p302 : 0 ≤ (0 : Int) := (by omega)
  have q302 : 0 < (l0.length : Int) := of_decide_eq_true as_
  obtain ⟨ad302, e302, hx302_0⟩ := Kd.at_int HR0.out 0 p302 q302
  cases e302
  have qi302 : (0 < l0.length) = True := eq_true (by omega)
  (try rw [show ((0 : Int)).toNat = 0 from rfl] at hx302_0)
  (try rw [Addr.add_zero'] at hx302_0)
  replace p302 := eq_true p302
  replace q302 := eq_true q302
  have p303 : 0 ≤ (0 : Int) := (by omega)
  have q303 : 0 < (l0.length : Int) := of_decide_eq_true as_
  obtain ⟨ad303, e303, hx303_0⟩ := Kd.at_int HR0.out 0 p303 q303
  obtain rfl : ad302 = ad303 := (by injection e303)
  have qi303 : (0 < l0.length) = True := eq_true (by omega)
  (try rw [show ((0 : Int)).toNat = 0 from rfl] at hx303_0)
  (try rw [Addr.add_zero'] at hx303_0)
  replace p303 := eq_true p303
  replace q303 := eq_true q303
  have p304 : 0 ≤ (0 : Int) := (by omega)
  have q304 : 0 < (l0.length : Int) := of_decide_eq_true as_
  obtain ⟨ad304, e304, hx304_0⟩ := Kd.at_int HR0.out 0 p304 q304
  obtain rfl : ad302 = ad304 := (by injection e304)
  have qi304 : (0 < l0.length) = True := eq_true (by omega)
  (try rw [show ((0 : Int)).toNat = 0 from rfl] at hx304_0)
  (try rw [Addr.add_zero'] at hx304_0)
  replace p304 := eq_true p304
  replace q304 := eq_true q304
  have p305 : 0 ≤ (0 : Int) := (by omega)
  have q305 : 0 < (l0.length : Int) := of_decide_eq_true as_
  obtain ⟨ad305, e305, hx305_0⟩ := Kd.at_int HR0.out 0 p305 q305
  obtain rfl : ad302 = ad305 := (by injection e305)
  have qi305 : (0 < l0.length) = True := eq_true (by omega)
  (try rw [show ((0 : Int)).toNat = 0 from rfl] at hx305_0)
  (try rw [Addr.add_zero'] at hx305_0)
  replace p305 := eq_true p305
  replace q305 := eq_true q305
  have p306 : 0 ≤ (0 : Int) := (by omega)
  have q306 : 0 < (l0.length : Int) := of_decide_eq_true as_
  obtain ⟨ad306, e306, hx306_0⟩ := Kd.at_int HR0.out 0 p306 q306
  obtain rfl : ad302 = ad306 := (by injection e306)
  have qi306 : (0 < l0.length) = True := eq_true (by omega)
  (try rw [show ((0 : Int)).toNat = 0 from rfl] at hx306_0)
  (try rw [Addr.add_zero'] at hx306_0)
  replace p306 := eq_true p306
  replace q306 := eq_true q306
  go_enter Try.func29, Try.ntmps29
  go_wp2
  go_ret
  exact ⟨by first | rfl | (simp; done) | (simp [*]; done), by repeat (first | exact Drawn0.refl _ | apply Drawn0.step)⟩
 rw [if_pos c7] at H
 have c7b0 : ((rd l0 0) == 110) = true := beq_iff_eq.mpr c7
 have c7b1 : ((rd l0 0) != 110) = false := bne_eq_false_iff_eq.mpr c7
 clear c7
 by_cases c8 : (l0.length : Int) > 1
 rotate_left
 ·
  rw [if_neg c8] at H
  have c8b0 : decide (1 < (l0.length : Int)) = false := decide_eq_false c8
  have c8b1 : decide (1 < l0.length) = false := decide_eq_false (by omega)
  clear c8
  obtain rfl := Option.some.inj H
  have p302 : 0 ≤ (0 : Int) := (by omega)
  have q302 : 0 < (l0.length : Int) := of_decide_eq_true as_
  obtain ⟨ad302, e302, hx302_0⟩ := Kd.at_int HR0.out 0 p302 q302
  cases e302
  have qi302 : (0 < l0.length) = True := eq_true (by omega)
  (try rw [show ((0 : Int)).toNat = 0 from rfl] at hx302_0)
  (try rw [Addr.add_zero'] at hx302_0)
  replace p302 := eq_true p302
  replace q302 := eq_true q302
  have p303 : 0 ≤ (0 : Int) := (by omega)
  have q303 : 0 < (l0.length : Int) := of_decide_eq_true as_
  obtain ⟨ad303, e303, hx303_0⟩ := Kd.at_int HR0.out 0 p303 q303
  obtain rfl : ad302 = ad303 := (by injection e303)
  have qi303 : (0 < l0.length) = True := eq_true (by omega)
  (try rw [show ((0 : Int)).toNat = 0 from rfl] at hx303_0)
  (try rw [Addr.add_zero'] at hx303_0)
  replace p303 := eq_true p303
  replace q303 := eq_true q303
  have p304 : 0 ≤ (0 : Int) := (by omega)
  have q304 : 0 < (l0.length : Int) := of_decide_eq_true as_
  obtain ⟨ad304, e304, hx304_0⟩ := Kd.at_int HR0.out 0 p304 q304
  obtain rfl : ad302 = ad304 := (by injection e304)
  have qi304 : (0 < l0.length) = True := eq_true (by omega)
  (try rw [show ((0 : Int)).toNat = 0 from rfl] at hx304_0)
  (try rw [Addr.add_zero'] at hx304_0)
  replace p304 := eq_true p304
  replace q304 := eq_true q304
  have p305 : 0 ≤ (0 : Int) := (by omega)
  have q305 : 0 < (l0.length : Int) := of_decide_eq_true as_
  obtain ⟨ad305, e305, hx305_0⟩ := Kd.at_int HR0.out 0 p305 q305
  obtain rfl : ad302 = ad305 := (by injection e305)
  have qi305 : (0 < l0.length) = True := eq_true (by omega)
  (try rw [show ((0 : Int)).toNat = 0 from rfl] at hx305_0)
  (try rw [Addr.add_zero'] at hx305_0)
  replace p305 := eq_true p305
  replace q305 := eq_true q305
  have p306 : 0 ≤ (0 : Int) := (by omega)
  have q306 : 0 < (l0.length : Int) := of_decide_eq_true as_
  obtain ⟨ad306, e306, hx306_0⟩ := Kd.at_int HR0.out 0 p306 q306
  obtain rfl : ad302 = ad306 := (by injection e306)
  have qi306 : (0 < l0.length) = True := eq_true (by omega)
  (try rw [show ((0 : Int)).toNat = 0 from rfl] at hx306_0)
  (try rw [Addr.add_zero'] at hx306_0)
  replace p306 := eq_true p306
  replace q306 := eq_true q306
  go_enter Try.func29, Try.ntmps29
  go_wp2
  go_ret
  exact ⟨by first | rfl | (simp; done) | (simp [*]; done), by repeat (first | exact Drawn0.refl _ | apply Drawn0.step)⟩
 rw [if_pos c8] at H
 have c8b0 : decide (1 < (l0.length : Int)) = true := decide_eq_true c8
 have c8b1 : decide (1 < l0.length) = true := decide_eq_true (by omega)
 clear c8
 by_cases c9 : 1 < (l0.length : Int)
 rotate_left
 ·
  rw [if_neg c9] at H
  exact absurd H (by simp)
 rw [if_pos c9] at H
 have c9b0 : decide (1 < (l0.length : Int)) = true := decide_eq_true c9
 have c9b1 : decide (1 < l0.length) = true := decide_eq_true (by omega)
 clear c9
 obtain rfl := Option.some.inj H
 have p302 : 0 ≤ (0 : Int) := (by omega)
 have q302 : 0 < (l0.length : Int) := of_decide_eq_true as_
 obtain ⟨ad302, e302, hx302_0⟩ := Kd.at_int HR0.out 0 p302 q302
 cases e302
 have qi302 : (0 < l0.length) = True := eq_true (by omega)
 (try rw [show ((0 : Int)).toNat = 0 from rfl] at hx302_0)
 (try rw [Addr.add_zero'] at hx302_0)
 replace p302 := eq_true p302
 replace q302 := eq_true q302
 have p303 : 0 ≤ (0 : Int) := (by omega)
 have q303 : 0 < (l0.length : Int) := of_decide_eq_true as_
 obtain ⟨ad303, e303, hx303_0⟩ := Kd.at_int HR0.out 0 p303 q303
 obtain rfl : ad302 = ad303 := (by injection e303)
 have qi303 : (0 < l0.length) = True := eq_true (by omega)
 (try rw [show ((0 : Int)).toNat = 0 from rfl] at hx303_0)
 (try rw [Addr.add_zero'] at hx303_0)
 replace p303 := eq_true p303
 replace q303 := eq_true q303
 have p304 : 0 ≤ (0 : Int) := (by omega)
 have q304 : 0 < (l0.length : Int) := of_decide_eq_true as_
 obtain ⟨ad304, e304, hx304_0⟩ := Kd.at_int HR0.out 0 p304 q304
 obtain rfl : ad302 = ad304 := (by injection e304)
 have qi304 : (0 < l0.length) = True := eq_true (by omega)
 (try rw [show ((0 : Int)).toNat = 0 from rfl] at hx304_0)
 (try rw [Addr.add_zero'] at hx304_0)
 replace p304 := eq_true p304
 replace q304 := eq_true q304
 have p305 : 0 ≤ (0 : Int) := (by omega)
 have q305 : 0 < (l0.length : Int) := of_decide_eq_true as_
 obtain ⟨ad305, e305, hx305_0⟩ := Kd.at_int HR0.out 0 p305 q305
 obtain rfl : ad302 = ad305 := (by injection e305)
 have qi305 : (0 < l0.length) = True := eq_true (by omega)
 (try rw [show ((0 : Int)).toNat = 0 from rfl] at hx305_0)
 (try rw [Addr.add_zero'] at hx305_0)
 replace p305 := eq_true p305
 replace q305 := eq_true q305
 have p306 : 0 ≤ (0 : Int) := (by omega)
 have q306 : 0 < (l0.length : Int) := of_decide_eq_true as_
 obtain ⟨ad306, e306, hx306_0⟩ := Kd.at_int HR0.out 0 p306 q306
 obtain rfl : ad302 = ad306 := (by injection e306)
 have qi306 : (0 < l0.length) = True := eq_true (by omega)
 (try rw [show ((0 : Int)).toNat = 0 from rfl] at hx306_0)
 (try rw [Addr.add_zero'] at hx306_0)
 replace p306 := eq_true p306
 replace q306 := eq_true q306
 have p307 : 0 ≤ (1 : Int) := (by omega)
 have q307 : 1 < (l0.length : Int) := of_decide_eq_true as_
 obtain ⟨ad307, e307, hx307_0⟩ := Kd.at_int HR0.out 1 p307 q307
 obtain rfl : ad302 = ad307 := (by injection e307)
 (try simp only [show (1 : Int).toNat = 1 from rfl, Nat.reduceMul, Nat.reduceEqDiff, Go.Addr.add, ↓reduceIte] at hx307_0)
 have qi307 : (1 < l0.length) = True := eq_true (by omega)
 (try rw [show ((1 : Int)).toNat = 1 from rfl] at hx307_0)
 replace p307 := eq_true p307
 replace q307 := eq_true q307
 go_enter Try.func29, Try.ntmps29
 go_wp2
 go_ret
 exact ⟨by first | rfl | (simp; done) | (simp [*]; done), by repeat (first | exact Drawn0.refl _ | apply Drawn0.step)⟩
end Go.Proofs.Ytapgjhgjhcfmoaa.PFnPrDefaultLaid
