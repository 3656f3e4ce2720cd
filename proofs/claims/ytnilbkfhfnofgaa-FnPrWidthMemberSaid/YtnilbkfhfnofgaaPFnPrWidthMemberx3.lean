/- Contracts of Go functions of this seat: a Lean function over numbers and lists for each, and a proof that the Go function returns what it gives. Made by program. -/
import Derived.Test.YtnilbkfhfnofgaaPFnPrWidthMemberx0
import Derived.Test.YtnilbkfhfnofgaaPFnPrWidthMemberx1
import Derived.Test.YtnilbkfhfnofgaaPFnPrWidthMemberx2
namespace Go.Proofs.Ytnilbkfhfnofgaa.PFnPrWidthMember
open Go.RowKit Go.Proofs.YtnilbkfhfnofgaaW.PrintWords Go.Proofs.YtnilbkfhfnofgaaW.PrintLast Go.Proofs.YtnilbkfhfnofgaaW.PrintMore
attribute [local go_sem] max2_int min2_int max_two min_two max_three min_three max_four min_four   -- for this text's walks alone
set_option linter.unusedVariables false
set_option linter.unusedSimpArgs false
/-! ### sr_number: function 31 -/
mutual
def sr_number.j0 : Nat → Bool → ByteArray → Int → Option (Bool × ByteArray × Int)
  | 0, _, _, _ => none
  | k + 1, x12, x1000, x1001 => if x12 = true then (some (false, x1000, x1001)) else ((sr_take.f x1000 x1001 46).bind fun bt129 => (if bt129.1 = true then ((sr_digits.f k bt129.2.1 bt129.2.2).bind fun bt132 => (sr_number.j1 k (!bt132.1) bt132.2.1 bt132.2.2)) else (sr_number.j1 k false bt129.2.1 bt129.2.2)))
def sr_number.j1 : Nat → Bool → ByteArray → Int → Option (Bool × ByteArray × Int)
  | 0, _, _, _ => none
  | k + 1, x19, x1000, x1001 => if x19 = true then (some (false, x1000, x1001)) else ((sr_take.f x1000 x1001 101).bind fun bt135 => (if bt135.1 = true then (sr_number.j2 k true bt135.2.1 bt135.2.2) else ((sr_take.f bt135.2.1 bt135.2.2 69).bind fun bt138 => (sr_number.j2 k bt138.1 bt138.2.1 bt138.2.2))))
def sr_number.j2 : Nat → Bool → ByteArray → Int → Option (Bool × ByteArray × Int)
  | 0, _, _, _ => none
  | k + 1, x25, x1000, x1001 => if x25 = true then ((sr_take.f x1000 x1001 43).bind fun bt141 => (if bt141.1 = true then ((sr_digits.f k bt141.2.1 bt141.2.2).bind fun bt144 => (some (bt144.1, bt144.2.1, bt144.2.2))) else ((sr_take.f bt141.2.1 bt141.2.2 45).bind fun bt147 => ((sr_digits.f k bt147.2.1 bt147.2.2).bind fun bt150 => (some (bt150.1, bt150.2.1, bt150.2.2)))))) else (some (true, x1000, x1001))
end
def sr_number.f (k : Nat) (s0_0 : ByteArray) (s0_1 : Int) : Option (Bool × ByteArray × Int) := (sr_take.f s0_0 s0_1 45).bind fun bt120 => ((sr_take.f bt120.2.1 bt120.2.2 48).bind fun bt123 => (if bt123.1 = true then (sr_number.j0 k false bt123.2.1 bt123.2.2) else ((sr_digits.f k bt123.2.1 bt123.2.2).bind fun bt126 => (sr_number.j0 k (!bt126.1) bt126.2.1 bt126.2.2))))
theorem sr_number.mono_l : ∀ k, (∀ y0 y1 y2, LeO (sr_number.j0 k y0 y1 y2) (sr_number.j0 (k + 1) y0 y1 y2)) ∧ (∀ y0 y1 y2, LeO (sr_number.j1 k y0 y1 y2) (sr_number.j1 (k + 1) y0 y1 y2)) ∧ (∀ y0 y1 y2, LeO (sr_number.j2 k y0 y1 y2) (sr_number.j2 (k + 1) y0 y1 y2))
 | 0 => ⟨fun _ _ _ r h => by simp [sr_number.j0] at h, fun _ _ _ r h => by simp [sr_number.j1] at h, fun _ _ _ r h => by simp [sr_number.j2] at h⟩
 | k + 1 => by
  obtain ⟨ih0, ih1, ih2⟩ := sr_number.mono_l k
  refine ⟨?_, ?_, ?_⟩
  all_goals intros
  all_goals (first | unfold sr_number.j0 | unfold sr_number.j1 | unfold sr_number.j2)
  all_goals repeat' first | (with_reducible first | apply ih0 | apply ih1 | apply ih2 | apply sr_digits.mono | apply LeO.refl | apply LeO.none | refine LeO.ite ?_ ?_ | refine LeO.bind ?_ (fun _ => ?_)) | apply ih0 | apply ih1 | apply ih2 | apply sr_digits.mono | apply LeO.none | refine LeO.ite ?_ ?_ | refine LeO.bind ?_ (fun _ => ?_)
theorem sr_number.mono : ∀ a0 a1 k, LeO (sr_number.f k a0 a1) (sr_number.f (k + 1) a0 a1) := by
 intro a0 a1 k
 obtain ⟨ih0, ih1, ih2⟩ := sr_number.mono_l k
 unfold sr_number.f
 repeat' first | (with_reducible first | apply ih0 | apply ih1 | apply ih2 | apply sr_digits.mono | apply LeO.refl | apply LeO.none | refine LeO.ite ?_ ?_ | refine LeO.bind ?_ (fun _ => ?_)) | apply ih0 | apply ih1 | apply ih2 | apply sr_digits.mono | apply LeO.none | refine LeO.ite ?_ ?_ | refine LeO.bind ?_ (fun _ => ?_)
set_option maxHeartbeats 8000000 in
set_option maxRecDepth 100000 in
theorem sr_number.calls (k : Nat) (g : Nat) (s0_0 : ByteArray) (s0_1 : Int) (r1 : Bool) (r2 : ByteArray) (r3 : Int) (w0 w : World) (hI : IsS49 w0 w g s0_0 s0_1) (hB : Below w0.heap.size w0 w) (h : sr_number.f k s0_0 s0_1 = some (r1, r2, r3)) :
  Calls Try.prog 31 #[.pointer (some ⟨g, 0, none⟩)] w fun e w' => e = .returned (.bool r1) ∧ IsS49 w0 w' g r2 r3 ∧ Below w0.heap.size w0 w' ∧ KeepBut w w' g none := by
 have HI0 := a_ hI
 have HK := a_ (KeepBut.refl w g none)
 have HL := a_ hB.size
 clear hI
 have HW0 := a_ hB.size
 have HB := a_ hB
 clear hB
 have H : ((sr_take.f s0_0 s0_1 45).bind fun bt120 => ((sr_take.f bt120.2.1 bt120.2.2 48).bind fun bt123 => (if bt123.1 = true then (sr_number.j0 k false bt123.2.1 bt123.2.2) else ((sr_digits.f k bt123.2.1 bt123.2.2).bind fun bt126 => (sr_number.j0 k (!bt126.1) bt126.2.1 bt126.2.2))))) = some (r1, r2, r3) := h
 clear h
 replace H := Option.bind_eq_some_iff.mp H
 obtain ⟨⟨t120, t121, t122⟩, A20, H⟩ := H
 replace H : ((sr_take.f t121 t122 48).bind fun bt123 => (if bt123.1 = true then (sr_number.j0 k false bt123.2.1 bt123.2.2) else ((sr_digits.f k bt123.2.1 bt123.2.2).bind fun bt126 => (sr_number.j0 k (!bt126.1) bt126.2.1 bt126.2.2)))) = some (r1, r2, r3) := H
 have A2 := a_ A20
 clear A20
 have HC3 := a_ H
 clear H
 go_enter Try.func31, Try.ntmps31
 go_upto_region 2 with (first | ((with_reducible refine gate_callee (f := 37) rfl ?_); refine goesL_ (some 4) rfl rfl Try.func37 (by kernel_rfl) rfl #[.pointer (some ⟨g, 0, none⟩), .int .u8 45] rfl ar_ ?_; (with_reducible refine (sr_take.calls g s0_0 s0_1 45 t120 t121 t122 w0 _ ?side1 ?side2 A2.out).mono ?_); (case side1 => exact is49_ HI0); (case side2 => exact bs49_ HB); rintro e w4 ⟨rfl, hi, hb, hk⟩; refine ⟨_, rfl, ?_⟩; replace HK := a_ (kt_ (kb_ HK) hk); replace HB := a_ hb; replace HI0 := a_ hi; (try clear hb); (try clear hb2); (try clear hk); (try clear hi)))
 (try simp only [Act.put, List.setIfInBounds_toArray, List.set_cons_zero, List.set_cons_succ])
 go_cut [12] (fun v12 wc => ∃ (kq : Nat) (x12_2 : Bool) (x1000_2 : ByteArray) (x1001_2 : Int), v12 = .bool x12_2 ∧ Aside0 (sr_number.j0 kq x12_2 x1000_2 x1001_2 = some (r1, r2, r3)) ∧ Aside0 (kq ≤ k) ∧ Aside0 (IsS49 w0 wc g x1000_2 x1001_2) ∧ Aside0 (KeepBut w wc g none) ∧ Aside0 (Below w0.heap.size w0 wc))
 case first =>
  have H := HC3.out
  clear HC3
  replace H := Option.bind_eq_some_iff.mp H
  obtain ⟨⟨t123, t124, t125⟩, A50, H⟩ := H
  replace H : (if t123 = true then (sr_number.j0 k false t124 t125) else ((sr_digits.f k t124 t125).bind fun bt126 => (sr_number.j0 k (!bt126.1) bt126.2.1 bt126.2.2))) = some (r1, r2, r3) := H
  have A5 := a_ A50
  clear A50
  by_cases c6 : t123 = true
  ·
   subst c6
   rw [if_pos rfl] at H
   have H' := a_ H
   clear H
   go_wp2_with (first | ((with_reducible refine gate_callee (f := 37) rfl ?_); refine goesL_ (some 6) rfl rfl Try.func37 (by kernel_rfl) rfl #[.pointer (some ⟨g, 0, none⟩), .int .u8 48] rfl ar_ ?_; (with_reducible refine (sr_take.calls g t121 t122 48 true t124 t125 w0 _ ?side1 ?side2 A5.out).mono ?_); (case side1 => exact is49_ HI0); (case side2 => exact bs49_ HB); rintro e w7 ⟨rfl, hi, hb, hk⟩; refine ⟨_, rfl, ?_⟩; replace HK := a_ (kt_ (kb_ HK) hk); replace HB := a_ hb; replace HI0 := a_ hi; (try clear hb); (try clear hb2); (try clear hk); (try clear hi)))
   go_meet
   case rel => exact ⟨_, (false), (t124), (t125), rl_, H', ⟨by first | omega | exact Nat.le_refl _⟩, ⟨is49_ HI0⟩, ⟨kb_ HK⟩, ⟨bs49_ HB⟩⟩
  replace c6 := Bool.eq_false_iff.mpr c6
  subst c6
  rw [if_neg (show ¬ (false = true) by decide)] at H
  replace H := Option.bind_eq_some_iff.mp H
  obtain ⟨⟨t126, t127, t128⟩, A80, H⟩ := H
  replace H : (sr_number.j0 k (!t126) t127 t128) = some (r1, r2, r3) := H
  have A8 := a_ A80
  clear A80
  have H' := a_ H
  clear H
  go_wp2_with (first | ((with_reducible refine gate_callee (f := 37) rfl ?_); refine goesL_ (some 6) rfl rfl Try.func37 (by kernel_rfl) rfl #[.pointer (some ⟨g, 0, none⟩), .int .u8 48] rfl ar_ ?_; (with_reducible refine (sr_take.calls g t121 t122 48 false t124 t125 w0 _ ?side1 ?side2 A5.out).mono ?_); (case side1 => exact is49_ HI0); (case side2 => exact bs49_ HB); rintro e w9 ⟨rfl, hi, hb, hk⟩; refine ⟨_, rfl, ?_⟩; replace HK := a_ (kt_ (kb_ HK) hk); replace HB := a_ hb; replace HI0 := a_ hi; (try clear hb); (try clear hb2); (try clear hk); (try clear hi)) | (go_at_call 39; (with_reducible refine (sr_digits.calls k g t124 t125 t126 t127 t128 w0 _ ?side1 ?side2 A8.out).mono ?_); (case side1 => exact is49_ HI0); (case side2 => exact bs49_ HB); rintro e w10 ⟨rfl, hi, hb, hk⟩; replace HK := a_ (kt_ (kb_ HK) hk); replace HB := a_ hb; replace HI0 := a_ hi; (try clear hb); (try clear hb2); (try clear hk); (try clear hi)))
  go_meet
  case rel => exact ⟨_, (!t126), (t127), (t128), rl_, H', ⟨by first | omega | exact Nat.le_refl _⟩, ⟨is49_ HI0⟩, ⟨kb_ HK⟩, ⟨bs49_ HB⟩⟩
 clear HC3
 (try clear p2); (try clear c3); (try clear c6)
 obtain ⟨kq, x12_2, x1000_2, x1001_2, rfl, HA, HJ2, HI0, HK, HB⟩ := hcut
 cases kq with
 | zero => exact absurd HA.out (by simp [sr_number.j0])
 | succ kj2 =>
  have H := HA.out
  clear HA
  simp only [sr_number.j0] at H
  by_cases c11 : x12_2 = true
  ·
   subst c11
   rw [if_pos rfl] at H
   simp only [Option.some.injEq, Prod.mk.injEq] at H
   obtain ⟨rfl, rfl, rfl⟩ := H
   go_wp2
   go_ret
   exact ⟨by first | rfl | (simp [errW_none, errW_some] <;> rfl) | (simp [*, errW_none, errW_some] <;> rfl), is49_ HI0, bs49_ HB, kb_ HK⟩
  replace c11 := Bool.eq_false_iff.mpr c11
  subst c11
  rw [if_neg (show ¬ (false = true) by decide)] at H
  have HC12 := a_ H
  clear H
  go_upto_region 4 with (fail)
  go_cut [19] (fun v19 wc => ∃ (kq : Nat) (x19_11 : Bool) (x1000_11 : ByteArray) (x1001_11 : Int), v19 = .bool x19_11 ∧ Aside0 (sr_number.j1 kq x19_11 x1000_11 x1001_11 = some (r1, r2, r3)) ∧ Aside0 (kq ≤ kj2) ∧ Aside0 (IsS49 w0 wc g x1000_11 x1001_11) ∧ Aside0 (KeepBut w wc g none) ∧ Aside0 (Below w0.heap.size w0 wc))
  case first =>
   have H := HC12.out
   clear HC12
   replace H := Option.bind_eq_some_iff.mp H
   obtain ⟨⟨t129, t130, t131⟩, A130, H⟩ := H
   replace H : (if t129 = true then ((sr_digits.f kj2 t130 t131).bind fun bt132 => (sr_number.j1 kj2 (!bt132.1) bt132.2.1 bt132.2.2)) else (sr_number.j1 kj2 false t130 t131)) = some (r1, r2, r3) := H
   have A13 := a_ A130
   clear A130
   by_cases c14 : t129 = true
   rotate_left
   ·
    replace c14 := Bool.eq_false_iff.mpr c14
    subst c14
    rw [if_neg (show ¬ (false = true) by decide)] at H
    have H' := a_ H
    clear H
    go_wp2_with (first | ((with_reducible refine gate_callee (f := 37) rfl ?_); refine goesL_ (some 14) rfl rfl Try.func37 (by kernel_rfl) rfl #[.pointer (some ⟨g, 0, none⟩), .int .u8 46] rfl ar_ ?_; (with_reducible refine (sr_take.calls g x1000_2 x1001_2 46 false t130 t131 w0 _ ?side1 ?side2 A13.out).mono ?_); (case side1 => exact is49_ HI0); (case side2 => exact bs49_ HB); rintro e w18 ⟨rfl, hi, hb, hk⟩; refine ⟨_, rfl, ?_⟩; replace HK := a_ (kt_ (kb_ HK) hk); replace HB := a_ hb; replace HI0 := a_ hi; (try clear hb); (try clear hb2); (try clear hk); (try clear hi)))
    go_meet
    case rel => exact ⟨_, (false), (t130), (t131), rl_, H', ⟨by have := HJ2.out; first | omega | exact Nat.le_refl _⟩, ⟨is49_ HI0⟩, ⟨kb_ HK⟩, ⟨bs49_ HB⟩⟩
   subst c14
   rw [if_pos rfl] at H
   replace H := Option.bind_eq_some_iff.mp H
   obtain ⟨⟨t132, t133, t134⟩, A150, H⟩ := H
   replace H : (sr_number.j1 kj2 (!t132) t133 t134) = some (r1, r2, r3) := H
   have A15 := a_ A150
   clear A150
   have H' := a_ H
   clear H
   go_wp2_with (first | ((with_reducible refine gate_callee (f := 37) rfl ?_); refine goesL_ (some 14) rfl rfl Try.func37 (by kernel_rfl) rfl #[.pointer (some ⟨g, 0, none⟩), .int .u8 46] rfl ar_ ?_; (with_reducible refine (sr_take.calls g x1000_2 x1001_2 46 true t130 t131 w0 _ ?side1 ?side2 A13.out).mono ?_); (case side1 => exact is49_ HI0); (case side2 => exact bs49_ HB); rintro e w16 ⟨rfl, hi, hb, hk⟩; refine ⟨_, rfl, ?_⟩; replace HK := a_ (kt_ (kb_ HK) hk); replace HB := a_ hb; replace HI0 := a_ hi; (try clear hb); (try clear hb2); (try clear hk); (try clear hi)) | (go_at_call 39; (with_reducible refine (sr_digits.calls kj2 g t130 t131 t132 t133 t134 w0 _ ?side1 ?side2 A15.out).mono ?_); (case side1 => exact is49_ HI0); (case side2 => exact bs49_ HB); rintro e w17 ⟨rfl, hi, hb, hk⟩; replace HK := a_ (kt_ (kb_ HK) hk); replace HB := a_ hb; replace HI0 := a_ hi; (try clear hb); (try clear hb2); (try clear hk); (try clear hi)))
   go_meet
   case rel => exact ⟨_, (!t132), (t133), (t134), rl_, H', ⟨by have := HJ2.out; first | omega | exact Nat.le_refl _⟩, ⟨is49_ HI0⟩, ⟨kb_ HK⟩, ⟨bs49_ HB⟩⟩
  clear HC12
  (try clear c1); (try clear p2); (try clear c3); (try clear c6); (try clear c11); (try clear c14); (try clear p2)
  obtain ⟨kq, x19_11, x1000_11, x1001_11, rfl, HA, HJ11, HI0, HK, HB⟩ := hcut
  cases kq with
  | zero => exact absurd HA.out (by simp [sr_number.j1])
  | succ kj11 =>
   have H := HA.out
   clear HA
   simp only [sr_number.j1] at H
   by_cases c19 : x19_11 = true
   ·
    subst c19
    rw [if_pos rfl] at H
    simp only [Option.some.injEq, Prod.mk.injEq] at H
    obtain ⟨rfl, rfl, rfl⟩ := H
    go_wp2
    go_ret
    exact ⟨by first | rfl | (simp [errW_none, errW_some] <;> rfl) | (simp [*, errW_none, errW_some] <;> rfl), is49_ HI0, bs49_ HB, kb_ HK⟩
   replace c19 := Bool.eq_false_iff.mpr c19
   subst c19
   rw [if_neg (show ¬ (false = true) by decide)] at H
   have HC20 := a_ H
   clear H
   go_upto_region 6 with (fail)
   go_cut [25] (fun v25 wc => ∃ (kq : Nat) (x25_19 : Bool) (x1000_19 : ByteArray) (x1001_19 : Int), v25 = .bool x25_19 ∧ Aside0 (sr_number.j2 kq x25_19 x1000_19 x1001_19 = some (r1, r2, r3)) ∧ Aside0 (kq ≤ kj11) ∧ Aside0 (IsS49 w0 wc g x1000_19 x1001_19) ∧ Aside0 (KeepBut w wc g none) ∧ Aside0 (Below w0.heap.size w0 wc))
   case first =>
    have H := HC20.out
    clear HC20
    replace H := Option.bind_eq_some_iff.mp H
    obtain ⟨⟨t135, t136, t137⟩, A210, H⟩ := H
    replace H : (if t135 = true then (sr_number.j2 kj11 true t136 t137) else ((sr_take.f t136 t137 69).bind fun bt138 => (sr_number.j2 kj11 bt138.1 bt138.2.1 bt138.2.2))) = some (r1, r2, r3) := H
    have A21 := a_ A210
    clear A210
    by_cases c22 : t135 = true
    ·
     subst c22
     rw [if_pos rfl] at H
     have H' := a_ H
     clear H
     go_wp2_with (first | ((with_reducible refine gate_callee (f := 37) rfl ?_); refine goesL_ (some 21) rfl rfl Try.func37 (by kernel_rfl) rfl #[.pointer (some ⟨g, 0, none⟩), .int .u8 101] rfl ar_ ?_; (with_reducible refine (sr_take.calls g x1000_11 x1001_11 101 true t136 t137 w0 _ ?side1 ?side2 A21.out).mono ?_); (case side1 => exact is49_ HI0); (case side2 => exact bs49_ HB); rintro e w23 ⟨rfl, hi, hb, hk⟩; refine ⟨_, rfl, ?_⟩; replace HK := a_ (kt_ (kb_ HK) hk); replace HB := a_ hb; replace HI0 := a_ hi; (try clear hb); (try clear hb2); (try clear hk); (try clear hi)))
     go_meet
     case rel => exact ⟨_, (true), (t136), (t137), rl_, H', ⟨by have := HJ2.out; have := HJ11.out; first | omega | exact Nat.le_refl _⟩, ⟨is49_ HI0⟩, ⟨kb_ HK⟩, ⟨bs49_ HB⟩⟩
    replace c22 := Bool.eq_false_iff.mpr c22
    subst c22
    rw [if_neg (show ¬ (false = true) by decide)] at H
    replace H := Option.bind_eq_some_iff.mp H
    obtain ⟨⟨t138, t139, t140⟩, A240, H⟩ := H
    replace H : (sr_number.j2 kj11 t138 t139 t140) = some (r1, r2, r3) := H
    have A24 := a_ A240
    clear A240
    have H' := a_ H
    clear H
    go_wp2_with (first | ((with_reducible refine gate_callee (f := 37) rfl ?_); refine goesL_ (some 21) rfl rfl Try.func37 (by kernel_rfl) rfl #[.pointer (some ⟨g, 0, none⟩), .int .u8 101] rfl ar_ ?_; (with_reducible refine (sr_take.calls g x1000_11 x1001_11 101 false t136 t137 w0 _ ?side1 ?side2 A21.out).mono ?_); (case side1 => exact is49_ HI0); (case side2 => exact bs49_ HB); rintro e w25 ⟨rfl, hi, hb, hk⟩; refine ⟨_, rfl, ?_⟩; replace HK := a_ (kt_ (kb_ HK) hk); replace HB := a_ hb; replace HI0 := a_ hi; (try clear hb); (try clear hb2); (try clear hk); (try clear hi)) | (go_at_call 37; (with_reducible refine (sr_take.calls g t136 t137 69 t138 t139 t140 w0 _ ?side1 ?side2 A24.out).mono ?_); (case side1 => exact is49_ HI0); (case side2 => exact bs49_ HB); rintro e w26 ⟨rfl, hi, hb, hk⟩; replace HK := a_ (kt_ (kb_ HK) hk); replace HB := a_ hb; replace HI0 := a_ hi; (try clear hb); (try clear hb2); (try clear hk); (try clear hi)))
    go_meet
    case rel => exact ⟨_, (t138), (t139), (t140), rl_, H', ⟨by have := HJ2.out; have := HJ11.out; first | omega | exact Nat.le_refl _⟩, ⟨is49_ HI0⟩, ⟨kb_ HK⟩, ⟨bs49_ HB⟩⟩
   clear HC20
   (try clear c1); (try clear c2); (try clear p2); (try clear c3); (try clear c6); (try clear c11); (try clear c14); (try clear c19); (try clear c22); (try clear p2)
   obtain ⟨kq, x25_19, x1000_19, x1001_19, rfl, HA, HJ19, HI0, HK, HB⟩ := hcut
   cases kq with
   | zero => exact absurd HA.out (by simp [sr_number.j2])
   | succ kj19 =>
    have H := HA.out
    clear HA
    simp only [sr_number.j2] at H
    by_cases c27 : x25_19 = true
    rotate_left
    ·
     replace c27 := Bool.eq_false_iff.mpr c27
     subst c27
     rw [if_neg (show ¬ (false = true) by decide)] at H
     simp only [Option.some.injEq, Prod.mk.injEq] at H
     obtain ⟨rfl, rfl, rfl⟩ := H
     go_wp2
     go_ret
     exact ⟨by first | rfl | (simp [errW_none, errW_some] <;> rfl) | (simp [*, errW_none, errW_some] <;> rfl), is49_ HI0, bs49_ HB, kb_ HK⟩
    subst c27
    rw [if_pos rfl] at H
    replace H := Option.bind_eq_some_iff.mp H
    obtain ⟨⟨t141, t142, t143⟩, A280, H⟩ := H
    replace H : (if t141 = true then ((sr_digits.f kj19 t142 t143).bind fun bt144 => (some (bt144.1, bt144.2.1, bt144.2.2))) else ((sr_take.f t142 t143 45).bind fun bt147 => ((sr_digits.f kj19 bt147.2.1 bt147.2.2).bind fun bt150 => (some (bt150.1, bt150.2.1, bt150.2.2))))) = some (r1, r2, r3) := H
    have A28 := a_ A280
    clear A280
    by_cases c29 : t141 = true
    ·
     subst c29
     rw [if_pos rfl] at H
     replace H := Option.bind_eq_some_iff.mp H
     obtain ⟨⟨t144, t145, t146⟩, A300, H⟩ := H
     replace H : (some (t144, t145, t146)) = some (r1, r2, r3) := H
     have A30 := a_ A300
     clear A300
     simp only [Option.some.injEq, Prod.mk.injEq] at H
     obtain ⟨rfl, rfl, rfl⟩ := H
     go_wp2_with (first | ((with_reducible refine gate_callee (f := 37) rfl ?_); refine goesL_ (some 27) rfl rfl Try.func37 (by kernel_rfl) rfl #[.pointer (some ⟨g, 0, none⟩), .int .u8 43] rfl ar_ ?_; (with_reducible refine (sr_take.calls g x1000_19 x1001_19 43 true t142 t143 w0 _ ?side1 ?side2 A28.out).mono ?_); (case side1 => exact is49_ HI0); (case side2 => exact bs49_ HB); rintro e w31 ⟨rfl, hi, hb, hk⟩; refine ⟨_, rfl, ?_⟩; replace HK := a_ (kt_ (kb_ HK) hk); replace HB := a_ hb; replace HI0 := a_ hi; (try clear hb); (try clear hb2); (try clear hk); (try clear hi)) | ((with_reducible refine gate_callee (f := 39) rfl ?_); refine goesL_ (some 32) rfl rfl Try.func39 (by kernel_rfl) rfl #[.pointer (some ⟨g, 0, none⟩)] rfl ar_ ?_; (with_reducible refine (sr_digits.calls kj19 g t142 t143 t144 t145 t146 w0 _ ?side1 ?side2 A30.out).mono ?_); (case side1 => exact is49_ HI0); (case side2 => exact bs49_ HB); rintro e w32 ⟨rfl, hi, hb, hk⟩; refine ⟨_, rfl, ?_⟩; replace HK := a_ (kt_ (kb_ HK) hk); replace HB := a_ hb; replace HI0 := a_ hi; (try clear hb); (try clear hb2); (try clear hk); (try clear hi)))
     go_ret
     exact ⟨by first | rfl | (simp [errW_none, errW_some] <;> rfl) | (simp [*, errW_none, errW_some] <;> rfl), is49_ HI0, bs49_ HB, kb_ HK⟩
    replace c29 := Bool.eq_false_iff.mpr c29
    subst c29
    rw [if_neg (show ¬ (false = true) by decide)] at H
    replace H := Option.bind_eq_some_iff.mp H
    obtain ⟨⟨t147, t148, t149⟩, A330, H⟩ := H
    replace H : ((sr_digits.f kj19 t148 t149).bind fun bt150 => (some (bt150.1, bt150.2.1, bt150.2.2))) = some (r1, r2, r3) := H
    have A33 := a_ A330
    clear A330
    replace H := Option.bind_eq_some_iff.mp H
    obtain ⟨⟨t150, t151, t152⟩, A340, H⟩ := H
    replace H : (some (t150, t151, t152)) = some (r1, r2, r3) := H
    have A34 := a_ A340
    clear A340
    simp only [Option.some.injEq, Prod.mk.injEq] at H
    obtain ⟨rfl, rfl, rfl⟩ := H
    go_wp2_with (first | ((with_reducible refine gate_callee (f := 37) rfl ?_); refine goesL_ (some 27) rfl rfl Try.func37 (by kernel_rfl) rfl #[.pointer (some ⟨g, 0, none⟩), .int .u8 43] rfl ar_ ?_; (with_reducible refine (sr_take.calls g x1000_19 x1001_19 43 false t142 t143 w0 _ ?side1 ?side2 A28.out).mono ?_); (case side1 => exact is49_ HI0); (case side2 => exact bs49_ HB); rintro e w35 ⟨rfl, hi, hb, hk⟩; refine ⟨_, rfl, ?_⟩; replace HK := a_ (kt_ (kb_ HK) hk); replace HB := a_ hb; replace HI0 := a_ hi; (try clear hb); (try clear hb2); (try clear hk); (try clear hi)) | ((with_reducible refine gate_callee (f := 37) rfl ?_); refine goesL_ (some 30) rfl rfl Try.func37 (by kernel_rfl) rfl #[.pointer (some ⟨g, 0, none⟩), .int .u8 45] rfl ar_ ?_; (with_reducible refine (sr_take.calls g t142 t143 45 t147 t148 t149 w0 _ ?side1 ?side2 A33.out).mono ?_); (case side1 => exact is49_ HI0); (case side2 => exact bs49_ HB); rintro e w36 ⟨rfl, hi, hb, hk⟩; refine ⟨_, rfl, ?_⟩; replace HK := a_ (kt_ (kb_ HK) hk); replace HB := a_ hb; replace HI0 := a_ hi; (try clear hb); (try clear hb2); (try clear hk); (try clear hi)) | ((with_reducible refine gate_callee (f := 39) rfl ?_); refine goesL_ (some 32) rfl rfl Try.func39 (by kernel_rfl) rfl #[.pointer (some ⟨g, 0, none⟩)] rfl ar_ ?_; (with_reducible refine (sr_digits.calls kj19 g t148 t149 t150 t151 t152 w0 _ ?side1 ?side2 A34.out).mono ?_); (case side1 => exact is49_ HI0); (case side2 => exact bs49_ HB); rintro e w37 ⟨rfl, hi, hb, hk⟩; refine ⟨_, rfl, ?_⟩; replace HK := a_ (kt_ (kb_ HK) hk); replace HB := a_ hb; replace HI0 := a_ hi; (try clear hb); (try clear hb2); (try clear hk); (try clear hi)))
    go_ret
    exact ⟨by first | rfl | (simp [errW_none, errW_some] <;> rfl) | (simp [*, errW_none, errW_some] <;> rfl), is49_ HI0, bs49_ HB, kb_ HK⟩
/-! ### sr_word: function 32 -/
def sr_word.f (s0_0 : ByteArray) (s0_1 : Int) (a1 : ByteArray) : Option (Bool × ByteArray × Int) := if (wrap64 ((s0_0.size : Int) - s0_1)) < (a1.size : Int) then (some (false, s0_0, s0_1)) else (if 0 ≤ s0_1 then (if s0_1 ≤ (wrap64 (s0_1 + (a1.size : Int))) then (if (wrap64 (s0_1 + (a1.size : Int))) ≤ (s0_0.size : Int) then (if (s0_0.extract (s0_1 : Int).toNat ((wrap64 (s0_1 + (a1.size : Int))) : Int).toNat).toList = a1.toList then (some (true, s0_0, wrap64 (s0_1 + (a1.size : Int)))) else (some (false, s0_0, s0_1))) else (none)) else (none)) else (none))
set_option maxHeartbeats 8000000 in
set_option maxRecDepth 100000 in
theorem sr_word.calls (g : Nat) (s0_0 : ByteArray) (s0_1 : Int) (a1 : ByteArray) (r1 : Bool) (r2 : ByteArray) (r3 : Int) (w0 w : World) (hI : IsS49 w0 w g s0_0 s0_1) (hB : Below w0.heap.size w0 w) (h : sr_word.f s0_0 s0_1 a1 = some (r1, r2, r3)) :
  Calls Try.prog 32 #[.pointer (some ⟨g, 0, none⟩), .string a1] w fun e w' => e = .returned (.bool r1) ∧ IsS49 w0 w' g r2 r3 ∧ Below w0.heap.size w0 w' ∧ KeepBut w w' g none := by
 have HI0 := a_ hI
 have HK := a_ (KeepBut.refl w g none)
 have HL := a_ hB.size
 clear hI
 have HW0 := a_ hB.size
 have HB := a_ hB
 clear hB
 have H : (if (wrap64 ((s0_0.size : Int) - s0_1)) < (a1.size : Int) then (some (false, s0_0, s0_1)) else (if 0 ≤ s0_1 then (if s0_1 ≤ (wrap64 (s0_1 + (a1.size : Int))) then (if (wrap64 (s0_1 + (a1.size : Int))) ≤ (s0_0.size : Int) then (if (s0_0.extract (s0_1 : Int).toNat ((wrap64 (s0_1 + (a1.size : Int))) : Int).toNat).toList = a1.toList then (some (true, s0_0, wrap64 (s0_1 + (a1.size : Int)))) else (some (false, s0_0, s0_1))) else (none)) else (none)) else (none))) = some (r1, r2, r3) := h
 clear h
 by_cases c3 : (wrap64 ((s0_0.size : Int) - s0_1)) < (a1.size : Int)
 ·
  rw [if_pos c3] at H
  have c3b0 : decide ((wrap64 ((s0_0.size : Int) - s0_1)) < (a1.size : Int)) = true := decide_eq_true c3
  clear c3
  simp only [Option.some.injEq, Prod.mk.injEq] at H
  obtain ⟨rfl, rfl, rfl⟩ := H
  obtain ⟨HGz4, hgz4⟩ := HI0.out
  have hcz4_0 := cellS49_0 HGz4
  have hcz4_1 := cellS49_1 HGz4
  have hfz4_0 := blk_frozen HGz4 0
  have hfz4_1 := blk_frozen HGz4 1
  clear HGz4 hgz4
  go_enter Try.func32, Try.ntmps32
  go_wp2
  repeat (go_quiet (fail); try go_wp2)
  go_ret
  exact ⟨by first | rfl | (simp [errW_none, errW_some] <;> rfl) | (simp [*, errW_none, errW_some] <;> rfl), is49_ HI0, bs49_ HB, kb_ HK⟩
 rw [if_neg c3] at H
 have c3b0 : decide ((wrap64 ((s0_0.size : Int) - s0_1)) < (a1.size : Int)) = false := decide_eq_false c3
 clear c3
 by_cases c5 : 0 ≤ s0_1
 rotate_left
 ·
  rw [if_neg c5] at H
  exact absurd H (by simp)
 rw [if_pos c5] at H
 have c5b0 := eq_true c5
 have c5b1 : decide (0 ≤ s0_1) = true := decide_eq_true c5
 clear c5
 by_cases c6 : s0_1 ≤ (wrap64 (s0_1 + (a1.size : Int)))
 rotate_left
 ·
  rw [if_neg c6] at H
  exact absurd H (by simp)
 rw [if_pos c6] at H
 have c6b0 := eq_true c6
 have c6b1 : decide (s0_1 ≤ (wrap64 (s0_1 + (a1.size : Int)))) = true := decide_eq_true c6
 by_cases c7 : (wrap64 (s0_1 + (a1.size : Int))) ≤ (s0_0.size : Int)
 rotate_left
 ·
  rw [if_neg c7] at H
  exact absurd H (by simp)
 rw [if_pos c7] at H
 have c7b0 := eq_true c7
 have c7b1 : decide ((wrap64 (s0_1 + (a1.size : Int))) ≤ (s0_0.size : Int)) = true := decide_eq_true c7
 by_cases c8 : (s0_0.extract (s0_1 : Int).toNat ((wrap64 (s0_1 + (a1.size : Int))) : Int).toNat).toList = a1.toList
 rotate_left
 ·
  rw [if_neg c8] at H
  have c8b0 : ((s0_0.extract (s0_1 : Int).toNat ((wrap64 (s0_1 + (a1.size : Int))) : Int).toNat).toList == a1.toList) = false := beq_eq_false_iff_ne.mpr c8
  have c8b1 : ((s0_0.extract (s0_1 : Int).toNat ((wrap64 (s0_1 + (a1.size : Int))) : Int).toNat).toList != a1.toList) = true := bne_iff_ne.mpr c8
  simp only [Option.some.injEq, Prod.mk.injEq] at H
  obtain ⟨rfl, rfl, rfl⟩ := H
  obtain ⟨HGz10, hgz10⟩ := HI0.out
  have hcz10_0 := cellS49_0 HGz10
  have hcz10_1 := cellS49_1 HGz10
  have hfz10_0 := blk_frozen HGz10 0
  have hfz10_1 := blk_frozen HGz10 1
  clear HGz10 hgz10
  go_enter Try.func32, Try.ntmps32
  go_wp2
  repeat (go_quiet (fail); try go_wp2)
  go_ret
  exact ⟨by first | rfl | (simp [errW_none, errW_some] <;> rfl) | (simp [*, errW_none, errW_some] <;> rfl), is49_ HI0, bs49_ HB, kb_ HK⟩
 rw [if_pos c8] at H
 have c8b0 : ((s0_0.extract (s0_1 : Int).toNat ((wrap64 (s0_1 + (a1.size : Int))) : Int).toNat).toList == a1.toList) = true := beq_iff_eq.mpr c8
 have c8b1 : ((s0_0.extract (s0_1 : Int).toNat ((wrap64 (s0_1 + (a1.size : Int))) : Int).toNat).toList != a1.toList) = false := bne_eq_false_iff_eq.mpr c8
 clear c8
 simp only [Option.some.injEq, Prod.mk.injEq] at H
 obtain ⟨rfl, rfl, rfl⟩ := H
 obtain ⟨HGz9, hgz9⟩ := HI0.out
 have hcz9_0 := cellS49_0 HGz9
 have hcz9_1 := cellS49_1 HGz9
 have hfz9_0 := blk_frozen HGz9 0
 have hfz9_1 := blk_frozen HGz9 1
 clear HGz9 hgz9
 go_enter Try.func32, Try.ntmps32
 go_wp2
 repeat (go_quiet (fail); try go_wp2)
 go_ret
 exact ⟨by first | rfl | (simp [errW_none, errW_some] <;> rfl) | (simp [*, errW_none, errW_some] <;> rfl), is49_ HI0, bs49_ HB, kb_ HK⟩
mutual
def sr_members.l0 : Nat → List (S54) → List (S28) → ByteArray → Int → Option ((List (S54)) × (List (S28)) × Bool × ByteArray × Int)
  | 0, _, _, _, _ => none
  | k + 1, x5, x6, x1000, x1001 => (sr_here.f x1000 x1001).bind fun bt158 => (if bt158.1 = 34 then ((sr_quoted.f k bt158.2.1 bt158.2.2).bind fun bt161 => (sr_members.j1 k x5 x6 x1001 (!bt161.1) bt161.2.1 bt161.2.2)) else (sr_members.j1 k x5 x6 x1001 true bt158.2.1 bt158.2.2))
def sr_members.j1 : Nat → List (S54) → List (S28) → Int → Bool → ByteArray → Int → Option ((List (S54)) × (List (S28)) × Bool × ByteArray × Int)
  | 0, _, _, _, _, _, _ => none
  | k + 1, x5, x6, x7, x32, x1000, x1001 => if x32 = true then (some (([] : List (S54)), ([] : List (S28)), false, x1000, x1001)) else (if x5.length < 8796093022208 then ((some (x5 ++ [(⟨x7, x1001⟩ : S54)] : List (S54))).bind fun y164 => ((sr_blanks.f k x1000 x1001).bind fun bt167 => ((sr_take.f bt167.1 bt167.2 58).bind fun bt169 => (if bt169.1 = true then ((sr_blanks.f k bt169.2.1 bt169.2.2).bind fun bt172 => ((sr_value.f k bt172.1 bt172.2).bind fun bt174 => (if bt174.2.2.2.2.2.1 = true then (if x6.length < 1954687338268 then ((some (x6 ++ [(⟨bt174.1, bt174.2.1, bt174.2.2.1, bt174.2.2.2.1, bt174.2.2.2.2.1⟩ : S28)] : List (S28))).bind fun y187 => ((sr_blanks.f k bt174.2.2.2.2.2.2.1 bt174.2.2.2.2.2.2.2).bind fun bt190 => ((sr_take.f bt190.1 bt190.2 125).bind fun bt192 => (if bt192.1 = true then (some (y164, y187, true, bt192.2.1, bt192.2.2)) else ((sr_take.f bt192.2.1 bt192.2.2 44).bind fun bt195 => (if bt195.1 = true then ((sr_blanks.f k bt195.2.1 bt195.2.2).bind fun bt198 => (sr_members.l0 k y164 y187 bt198.1 bt198.2)) else (some (([] : List (S54)), ([] : List (S28)), false, bt195.2.1, bt195.2.2)))))))) else (none)) else (some (([] : List (S54)), ([] : List (S28)), false, bt174.2.2.2.2.2.2.1, bt174.2.2.2.2.2.2.2))))) else (some (([] : List (S54)), ([] : List (S28)), false, bt169.2.1, bt169.2.2)))))) else (none))
def sr_members.f : Nat → ByteArray → Int → Option ((List (S54)) × (List (S28)) × Bool × ByteArray × Int)
  | 0, _, _ => none
  | k + 1, s0_0, s0_1 => (sr_blanks.f k s0_0 (wrap64 (s0_1 + 1))).bind fun bt153 => ((sr_take.f bt153.1 bt153.2 125).bind fun bt155 => (if bt155.1 = true then (some (([] : List (S54)), ([] : List (S28)), true, bt155.2.1, bt155.2.2)) else (sr_members.l0 k ([] : List (S54)) ([] : List (S28)) bt155.2.1 bt155.2.2)))
def sr_elements.l0 : Nat → List (S28) → ByteArray → Int → Option ((List (S28)) × Bool × ByteArray × Int)
  | 0, _, _, _ => none
  | k + 1, x4, x1000, x1001 => (sr_value.f k x1000 x1001).bind fun bt205 => (if bt205.2.2.2.2.2.1 = true then (if x4.length < 1954687338268 then ((some (x4 ++ [(⟨bt205.1, bt205.2.1, bt205.2.2.1, bt205.2.2.2.1, bt205.2.2.2.2.1⟩ : S28)] : List (S28))).bind fun y218 => ((sr_blanks.f k bt205.2.2.2.2.2.2.1 bt205.2.2.2.2.2.2.2).bind fun bt221 => ((sr_take.f bt221.1 bt221.2 93).bind fun bt223 => (if bt223.1 = true then (some (y218, true, bt223.2.1, bt223.2.2)) else ((sr_take.f bt223.2.1 bt223.2.2 44).bind fun bt226 => (if bt226.1 = true then ((sr_blanks.f k bt226.2.1 bt226.2.2).bind fun bt229 => (sr_elements.l0 k y218 bt229.1 bt229.2)) else (some (([] : List (S28)), false, bt226.2.1, bt226.2.2)))))))) else (none)) else (some (([] : List (S28)), false, bt205.2.2.2.2.2.2.1, bt205.2.2.2.2.2.2.2)))
def sr_elements.f : Nat → ByteArray → Int → Option ((List (S28)) × Bool × ByteArray × Int)
  | 0, _, _ => none
  | k + 1, s0_0, s0_1 => (sr_blanks.f k s0_0 (wrap64 (s0_1 + 1))).bind fun bt200 => ((sr_take.f bt200.1 bt200.2 93).bind fun bt202 => (if bt202.1 = true then (some (([] : List (S28)), true, bt202.2.1, bt202.2.2)) else (sr_elements.l0 k ([] : List (S28)) bt202.2.1 bt202.2.2)))
def sr_value.j0 : Nat → Bool → Bool → ByteArray → Int → Int → Int → Int → Option (Int × Int × Int × (List (S54)) × (List (S28)) × Bool × ByteArray × Int)
  | 0, _, _, _, _, _, _, _ => none
  | k + 1, x5, x42, x1000, x1001, x233000, x233001, x233002 => if x42 = true then ((sr_number.f k x1000 x1001).bind fun bt254 => (some (3, x233001, bt254.2.2, ([] : List (S54)), ([] : List (S28)), bt254.1, bt254.2.1, bt254.2.2))) else ((sr_word.f x1000 x1001 (⟨#[110, 117, 108, 108]⟩ : ByteArray)).bind fun bt257 => (if bt257.1 = true then (some (0, x233001, bt257.2.2, ([] : List (S54)), ([] : List (S28)), x5, bt257.2.1, bt257.2.2)) else ((sr_word.f bt257.2.1 bt257.2.2 (⟨#[102, 97, 108, 115, 101]⟩ : ByteArray)).bind fun bt260 => (if bt260.1 = true then (some (1, x233001, bt260.2.2, ([] : List (S54)), ([] : List (S28)), x5, bt260.2.1, bt260.2.2)) else ((sr_word.f bt260.2.1 bt260.2.2 (⟨#[116, 114, 117, 101]⟩ : ByteArray)).bind fun bt263 => (if bt263.1 = true then (some (2, x233001, bt263.2.2, ([] : List (S54)), ([] : List (S28)), x5, bt263.2.1, bt263.2.2)) else (some (x233000, x233001, bt263.2.2, ([] : List (S54)), ([] : List (S28)), false, bt263.2.1, bt263.2.2))))))))
def sr_value.f : Nat → ByteArray → Int → Option (Int × Int × Int × (List (S54)) × (List (S28)) × Bool × ByteArray × Int)
  | 0, _, _ => none
  | k + 1, s0_0, s0_1 => (sr_here.f s0_0 s0_1).bind fun bt233 => (if bt233.1 = 123 then ((sr_members.f k bt233.2.1 bt233.2.2).bind fun bt236 => (some (6, s0_1, bt236.2.2.2.2, bt236.1, bt236.2.1, bt236.2.2.1, bt236.2.2.2.1, bt236.2.2.2.2))) else (if bt233.1 = 91 then ((sr_elements.f k bt233.2.1 bt233.2.2).bind fun bt245 => (some (5, s0_1, bt245.2.2.2, ([] : List (S54)), bt245.1, bt245.2.1, bt245.2.2.1, bt245.2.2.2))) else (if bt233.1 = 34 then ((sr_quoted.f k bt233.2.1 bt233.2.2).bind fun bt251 => (some (4, s0_1, bt251.2.2, ([] : List (S54)), ([] : List (S28)), bt251.1, bt251.2.1, bt251.2.2))) else (if bt233.1 = 45 then (sr_value.j0 k true true bt233.2.1 bt233.2.2 0 s0_1 0) else (if 48 ≤ bt233.1 then (sr_value.j0 k true (decide (bt233.1 ≤ 57)) bt233.2.1 bt233.2.2 0 s0_1 0) else (sr_value.j0 k true false bt233.2.1 bt233.2.2 0 s0_1 0))))))
end
theorem sr_members.scc.mono_l : ∀ k, (∀ y0 y1, LeO (sr_members.f k y0 y1) (sr_members.f (k + 1) y0 y1)) ∧ (∀ y0 y1 y2 y3, LeO (sr_members.l0 k y0 y1 y2 y3) (sr_members.l0 (k + 1) y0 y1 y2 y3)) ∧ (∀ y0 y1 y2 y3 y4 y5, LeO (sr_members.j1 k y0 y1 y2 y3 y4 y5) (sr_members.j1 (k + 1) y0 y1 y2 y3 y4 y5)) ∧ (∀ y0 y1, LeO (sr_elements.f k y0 y1) (sr_elements.f (k + 1) y0 y1)) ∧ (∀ y0 y1 y2, LeO (sr_elements.l0 k y0 y1 y2) (sr_elements.l0 (k + 1) y0 y1 y2)) ∧ (∀ y0 y1, LeO (sr_value.f k y0 y1) (sr_value.f (k + 1) y0 y1)) ∧ (∀ y0 y1 y2 y3 y4 y5 y6, LeO (sr_value.j0 k y0 y1 y2 y3 y4 y5 y6) (sr_value.j0 (k + 1) y0 y1 y2 y3 y4 y5 y6))
  | 0 => ⟨fun _ _ r h => by simp [sr_members.f] at h, fun _ _ _ _ r h => by simp [sr_members.l0] at h, fun _ _ _ _ _ _ r h => by simp [sr_members.j1] at h, fun _ _ r h => by simp [sr_elements.f] at h, fun _ _ _ r h => by simp [sr_elements.l0] at h, fun _ _ r h => by simp [sr_value.f] at h, fun _ _ _ _ _ _ _ r h => by simp [sr_value.j0] at h⟩
  | k + 1 => by
    obtain ⟨ih0, ih1, ih2, ih3, ih4, ih5, ih6⟩ := sr_members.scc.mono_l k
    refine ⟨?_, ?_, ?_, ?_, ?_, ?_, ?_⟩
    all_goals intros
    all_goals (first | unfold sr_members.f | unfold sr_members.l0 | unfold sr_members.j1 | unfold sr_elements.f | unfold sr_elements.l0 | unfold sr_value.f | unfold sr_value.j0)
    all_goals repeat' first | (with_reducible first | apply ih0 | apply ih1 | apply ih2 | apply ih3 | apply ih4 | apply ih5 | apply ih6 | apply sr_blanks.mono | apply sr_number.mono | apply sr_quoted.mono | apply LeO.refl | apply LeO.none | refine LeO.ite ?_ ?_ | refine LeO.bind ?_ (fun _ => ?_)) | apply LeO.none | refine LeO.ite ?_ ?_ | refine LeO.bind ?_ (fun _ => ?_)
theorem sr_members.mono : ∀ a0 a1 k, LeO (sr_members.f k a0 a1) (sr_members.f (k + 1) a0 a1) := fun a0 a1 k => (sr_members.scc.mono_l k).1 a0 a1
theorem sr_elements.mono : ∀ a0 a1 k, LeO (sr_elements.f k a0 a1) (sr_elements.f (k + 1) a0 a1) := fun a0 a1 k => (sr_members.scc.mono_l k).2.2.2.1 a0 a1
theorem sr_value.mono : ∀ a0 a1 k, LeO (sr_value.f k a0 a1) (sr_value.f (k + 1) a0 a1) := fun a0 a1 k => (sr_members.scc.mono_l k).2.2.2.2.2.1 a0 a1
abbrev sr_members.CT (k : Nat) : Prop := ∀ (g : Nat) (s0_0 : ByteArray) (s0_1 : Int) (r1 : List (S54)) (r2 : List (S28)) (r3 : Bool) (r4 : ByteArray) (r5 : Int) (w0 w : World) (hI : IsS49 w0 w g s0_0 s0_1) (hB : Below w0.heap.size w0 w) (h : sr_members.f k s0_0 s0_1 = some (r1, r2, r3, r4, r5)),
    Calls Try.prog 28 #[.pointer (some ⟨g, 0, none⟩)] w fun e w' => ∃ v0_ v1_ : Value, e = .returned (.tuple #[v0_, v1_, .bool r3]) ∧ Kd.R k54 54 w' w.heap.size (fun _ => True) v0_ r1 ∧ Kd.R k28 28 w' w.heap.size (fun k_ => some k_ ≠ (v0_ : Value).ownBlock) v1_ r2 ∧ IsS49 w0 w' g r4 r5 ∧ Below w0.heap.size w0 w' ∧ KeepBut w w' g none
abbrev sr_elements.CT (k : Nat) : Prop := ∀ (g : Nat) (s0_0 : ByteArray) (s0_1 : Int) (r1 : List (S28)) (r2 : Bool) (r3 : ByteArray) (r4 : Int) (w0 w : World) (hI : IsS49 w0 w g s0_0 s0_1) (hB : Below w0.heap.size w0 w) (h : sr_elements.f k s0_0 s0_1 = some (r1, r2, r3, r4)),
    Calls Try.prog 29 #[.pointer (some ⟨g, 0, none⟩)] w fun e w' => ∃ v0_ : Value, e = .returned (.tuple #[v0_, .bool r2]) ∧ Kd.R k28 28 w' w.heap.size (fun _ => True) v0_ r1 ∧ IsS49 w0 w' g r3 r4 ∧ Below w0.heap.size w0 w' ∧ KeepBut w w' g none
abbrev sr_value.CT (k : Nat) : Prop := ∀ (g : Nat) (s0_0 : ByteArray) (s0_1 : Int) (r1 : Int) (r2 : Int) (r3 : Int) (r4 : List (S54)) (r5 : List (S28)) (r6 : Bool) (r7 : ByteArray) (r8 : Int) (w0 w : World) (hI : IsS49 w0 w g s0_0 s0_1) (hB : Below w0.heap.size w0 w) (h : sr_value.f k s0_0 s0_1 = some (r1, r2, r3, r4, r5, r6, r7, r8)),
    Calls Try.prog 19 #[.pointer (some ⟨g, 0, none⟩)] w fun e w' => ∃ v3_ v4_ : Value, e = .returned (.tuple #[.agg #[.int .i64 r1, .int .i64 r2, .int .i64 r3, v3_, v4_], .bool r6]) ∧ Kd.R k54 54 w' w.heap.size (fun _ => True) v3_ r4 ∧ Kd.R k28 28 w' w.heap.size (fun k_ => some k_ ≠ (v3_ : Value).ownBlock) v4_ r5 ∧ IsS49 w0 w' g r7 r8 ∧ Below w0.heap.size w0 w' ∧ KeepBut w w' g none
end Go.Proofs.Ytnilbkfhfnofgaa.PFnPrWidthMember
