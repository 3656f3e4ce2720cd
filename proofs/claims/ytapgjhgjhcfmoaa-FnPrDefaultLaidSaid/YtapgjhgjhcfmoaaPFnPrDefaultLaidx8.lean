/- Contracts of Go functions of this seat: for each a Lean function over numbers and lists and a proof that the Go function, called in any memory, returns what it gives. Made by program. -/
import Derived.Test.YtapgjhgjhcfmoaaPFnPrDefaultLaidx0
import Derived.Test.YtapgjhgjhcfmoaaPFnPrDefaultLaidx5
import Derived.Test.YtapgjhgjhcfmoaaPFnPrDefaultLaidx6
import Derived.Test.YtapgjhgjhcfmoaaPFnPrDefaultLaidx7
namespace Go.Proofs.Ytapgjhgjhcfmoaa.PFnPrDefaultLaid
open Go.RowKit Go.Proofs.YtapgjhgjhcfmoaaW.PrintWords Go.Proofs.YtapgjhgjhcfmoaaW.PrintLast Go.Proofs.YtapgjhgjhcfmoaaW.PrintMore
attribute [local go_sem] max2_int min2_int max_two min_two max_three min_three max_four min_four   -- for this text's walks alone
set_option linter.unusedVariables false
set_option linter.unusedSimpArgs false
/-! ### pretty_appendTabs: function 34 -/
mutual
def pretty_appendTabs.j0 : Nat → List Int → ByteArray → Int → Option (List Int)
  | 0, _, _, _ => none
  | k + 1, x0, x2, x3 => if (x2.size : Int) = 2 then (if 0 < (x2.size : Int) then (if (bt x2 0) = 32 then (if 1 < (x2.size : Int) then (pretty_appendTabs.j1 k x0 x2 x3 ((bt x2 1) == 32)) else (none)) else (pretty_appendTabs.j1 k x0 x2 x3 false)) else (none)) else (pretty_appendTabs.j1 k x0 x2 x3 false)
def pretty_appendTabs.j1 : Nat → List Int → ByteArray → Int → Bool → Option (List Int)
  | 0, _, _, _, _ => none
  | k + 1, x0, x2, x3, x29 => if x29 = true then (pretty_appendTabs.l0 k x0 x3 0) else (pretty_appendTabs.l1 k x0 x2 x3 0)
def pretty_appendTabs.l0 : Nat → List Int → Int → Int → Option (List Int)
  | 0, _, _, _ => none
  | k + 1, x0, x3, x9 => if x9 < x3 then ((some (([32, 32] : List Int) : List Int)).bind fun y361 => (if x0.length + y361.length < 140737488355328 then (pretty_appendTabs.l0 k (x0 ++ y361) x3 (wrap64 (x9 + 1))) else (none))) else (some x0)
def pretty_appendTabs.l1 : Nat → List Int → ByteArray → Int → Int → Option (List Int)
  | 0, _, _, _, _ => none
  | k + 1, x0, x2, x3, x10 => if x10 < x3 then (if x0.length + x2.size < 140737488355328 then (pretty_appendTabs.l1 k (x0 ++ bytesOf x2) x2 x3 (wrap64 (x10 + 1))) else (none)) else (some x0)
end
def pretty_appendTabs.f (k : Nat) (l0 : List Int) (a1 : ByteArray) (a2 : ByteArray) (a3 : Int) : Option (List Int) := if (a1.size : Int) = 0 then (pretty_appendTabs.j0 k l0 a2 a3) else (if l0.length + a1.size < 140737488355328 then (pretty_appendTabs.j0 k (l0 ++ bytesOf a1) a2 a3) else (none))
theorem pretty_appendTabs.mono_l : ∀ k, (∀ y0 y1 y2, LeO (pretty_appendTabs.j0 k y0 y1 y2) (pretty_appendTabs.j0 (k + 1) y0 y1 y2)) ∧ (∀ y0 y1 y2 y3, LeO (pretty_appendTabs.j1 k y0 y1 y2 y3) (pretty_appendTabs.j1 (k + 1) y0 y1 y2 y3)) ∧ (∀ y0 y1 y2, LeO (pretty_appendTabs.l0 k y0 y1 y2) (pretty_appendTabs.l0 (k + 1) y0 y1 y2)) ∧ (∀ y0 y1 y2 y3, LeO (pretty_appendTabs.l1 k y0 y1 y2 y3) (pretty_appendTabs.l1 (k + 1) y0 y1 y2 y3))
 | 0 => ⟨fun _ _ _ r h => by simp [pretty_appendTabs.j0] at h, fun _ _ _ _ r h => by simp [pretty_appendTabs.j1] at h, fun _ _ _ r h => by simp [pretty_appendTabs.l0] at h, fun _ _ _ _ r h => by simp [pretty_appendTabs.l1] at h⟩
 | k + 1 => by
  obtain ⟨ih0, ih1, ih2, ih3⟩ := pretty_appendTabs.mono_l k
  refine ⟨?_, ?_, ?_, ?_⟩
  all_goals intros
  all_goals (first | unfold pretty_appendTabs.j0 | unfold pretty_appendTabs.j1 | unfold pretty_appendTabs.l0 | unfold pretty_appendTabs.l1)
  all_goals repeat' first
   | (with_reducible exact ih0 _ _ _)
   | (with_reducible exact ih1 _ _ _ _)
   | (with_reducible exact ih2 _ _ _)
   | (with_reducible exact ih3 _ _ _ _)
   | (with_reducible exact LeO.refl _)
   | (with_reducible exact LeO.none _)
   | (with_reducible refine LeO.ite ?_ ?_)
   | (with_reducible refine LeO.bind ?_ (fun _ => ?_))
   | exact ih0 _ _ _
   | exact ih1 _ _ _ _
   | exact ih2 _ _ _
   | exact ih3 _ _ _ _
   | exact LeO.none _
   | refine LeO.ite ?_ ?_
   | refine LeO.bind ?_ (fun _ => ?_)
theorem pretty_appendTabs.mono : ∀ a0 a1 a2 a3 k, LeO (pretty_appendTabs.f k a0 a1 a2 a3) (pretty_appendTabs.f (k + 1) a0 a1 a2 a3) := by
 intro a0 a1 a2 a3 k
 obtain ⟨ih0, ih1, ih2, ih3⟩ := pretty_appendTabs.mono_l k
 unfold pretty_appendTabs.f
 repeat' first
  | (with_reducible exact ih0 _ _ _)
  | (with_reducible exact ih1 _ _ _ _)
  | (with_reducible exact ih2 _ _ _)
  | (with_reducible exact ih3 _ _ _ _)
  | (with_reducible exact LeO.refl _)
  | (with_reducible exact LeO.none _)
  | (with_reducible refine LeO.ite ?_ ?_)
  | (with_reducible refine LeO.bind ?_ (fun _ => ?_))
  | exact ih0 _ _ _
  | exact ih1 _ _ _ _
  | exact ih2 _ _ _
  | exact ih3 _ _ _ _
  | exact LeO.none _
  | refine LeO.ite ?_ ?_
  | refine LeO.bind ?_ (fun _ => ?_)
set_option maxHeartbeats 8000000 in
set_option maxRecDepth 100000 in
theorem pretty_appendTabs.calls (k : Nat) (P0_ : Nat → Prop) (u9000_ : Value) (l0 : List Int) (a1 : ByteArray) (a2 : ByteArray) (a3 : Int) (r : List Int) (w0 w : World) (hB : Below w0.heap.size w0 w) (ho0 : Kd.R (Kd.int .u8) 5 w w0.heap.size P0_ u9000_ l0) (h : pretty_appendTabs.f k l0 a1 a2 a3 = some r) :
  Calls Try.prog 34 #[u9000_, .string a1, .string a2, .int .i64 a3] w fun e w' => ∃ v0_ : Value, e = .returned (v0_) ∧ Kd.R (Kd.int .u8) 5 w' w0.heap.size (fun k_ => (P0_ k_ ∨ w.heap.size ≤ k_)) v0_ r ∧ Below w0.heap.size w0 w' ∧ Kept w w' (fun k_ => P0_ k_) := by
 have HO0 := a_ (show Kd.R (Kd.int .u8) 5 w w0.heap.size (fun k_ => (P0_ k_ ∨ w.heap.size ≤ k_)) u9000_ l0 from Kd.R_mono ho0 (fun k_ hk => (.inl hk)))
 have HK := a_ (Kept.refl w (fun k_ => P0_ k_))
 have HW0 := a_ hB.size
 have HB := a_ hB
 clear hB
 have H : (if (a1.size : Int) = 0 then (pretty_appendTabs.j0 k l0 a2 a3) else (if l0.length + a1.size < 140737488355328 then (pretty_appendTabs.j0 k (l0 ++ bytesOf a1) a2 a3) else (none))) = some r := h
 clear h
 have HC5 := a_ H
 clear H
 go_enter Try.func34, Try.ntmps34
 go_upto_if 13 with (fail)
 go_cut [0] (fun v0 wc => ∃ (kq : Nat) (x0_4 : List Int), Aside0 (pretty_appendTabs.j0 kq x0_4 a2 a3 = some r) ∧ Aside0 (kq ≤ k) ∧ Aside0 (Kd.R (Kd.int .u8) 5 wc w0.heap.size (fun k_ => (P0_ k_ ∨ w.heap.size ≤ k_)) v0 x0_4) ∧ Aside0 (Kept w wc (fun k_ => P0_ k_)) ∧ Aside0 (Below w0.heap.size w0 wc))
 case first =>
  have H := HC5.out
  clear HC5
  by_cases c6 : (a1.size : Int) = 0
  ·
   rw [if_pos c6] at H
   have c6b0 : ((a1.size : Int) == 0) = true := beq_iff_eq.mpr c6
   have c6b1 : ((a1.size : Int) != 0) = false := bne_eq_false_iff_eq.mpr c6
   clear c6
   (first | rw [c6b0] | (simp only [i64_w, i32_w]; rw [c6b0]) | skip)
   have H' := a_ H
   clear H
   go_wp2
   go_meet
   case rel => exact ⟨_, (l0), H', ⟨by first | omega | exact Nat.le_refl _⟩, ⟨rp_ HO0⟩, ⟨kp_ HK⟩, ⟨bl_ HB⟩⟩
  rw [if_neg c6] at H
  have c6b0 : ((a1.size : Int) == 0) = false := beq_eq_false_iff_ne.mpr c6
  have c6b1 : ((a1.size : Int) != 0) = true := bne_iff_ne.mpr c6
  (first | rw [c6b0] | (simp only [i64_w, i32_w]; rw [c6b0]) | skip)
  by_cases c7 : l0.length + a1.size < 140737488355328
  rotate_left
  ·
   rw [if_neg c7] at H
   exact absurd H (by simp)
  rw [if_pos c7] at H
  have LMc7 := a_ c7
  clear c7
  obtain ⟨y358, hy358⟩ : ∃ y_ : List Int, y_ = (l0 ++ bytesOf a1) := ⟨_, rfl⟩
  replace H : (pretty_appendTabs.j0 k y358 a2 a3) = some r := by first | exact lt_ H hy358 | (rw [hy358]; exact H) | exact H
  have Ny358 := a_ hy358
  clear hy358
  have H' := a_ H
  clear H
  go_wp2_with (first | (at_builtin; refine Kd.R_append_str (w0 := w0) w0.heap.size rfl (.tmp 14) _ 32 9 5 rfl Try.underlying32 Try.underlying9 info5 u9000_ l0 a1 (fun k_ => (P0_ k_ ∨ w.heap.size ≤ k_)) rfl rfl ?aF ?aO ?aB ?aS ?aL ?_; (case aB => exact (bl_ HB)); (case aF => exact (fun k_ hk => (.inr (Nat.le_trans (kz_ HK) hk)))); (case aO => exact (rp_ HO0)); (case aS => exact (below_size (bl_ HB))); (case aL => have := LMc7.out; omega); intro v359 w8 ho hb hg hat; rw [← Ny358.out] at ho; have n0_ := a_ (hb); have n1_ := a_ (Kept.of_grown (S := (fun k_ => P0_ k_)) hg (kp_ HK) (fun k_ e_ => (HO0.out.1 k_ e_))); have n2_ := a_ (ho); clear HB HK HO0; have HB := n0_; have HK := n1_; have HO360 := n2_; clear n0_ n1_ n2_; clear ho hb hg hat))
  go_meet
  case rel => exact ⟨_, (y358), H', ⟨by first | omega | exact Nat.le_refl _⟩, ⟨rp_ HO360⟩, ⟨kp_ HK⟩, ⟨bl_ HB⟩⟩
 clear HC5
 (try clear p2); (try clear c3); (try clear c6); (try clear c6b0); (try clear c6b1); (try clear c7)
 obtain ⟨kq, x0_4, HA, HJ4, HO_0, HK, HB⟩ := hcut
 cases kq with
 | zero => exact absurd HA.out (by simp [pretty_appendTabs.j0])
 | succ kj4 =>
  have H := HA.out
  clear HA
  simp only [pretty_appendTabs.j0] at H
  have HC9 := a_ H
  clear H
  go_upto_region 3 with (fail)
  go_cut [29] (fun v29 wc => ∃ (kq : Nat) (x29_8 : Bool), v29 = .bool x29_8 ∧ Aside0 (pretty_appendTabs.j1 kq x0_4 a2 a3 x29_8 = some r) ∧ Aside0 (kq ≤ kj4) ∧ Aside0 (Kd.R (Kd.int .u8) 5 wc w0.heap.size (fun k_ => (P0_ k_ ∨ w.heap.size ≤ k_)) u0 x0_4) ∧ Aside0 (Kept w wc (fun k_ => P0_ k_)) ∧ Aside0 (Below w0.heap.size w0 wc))
  case first =>
   have H := HC9.out
   clear HC9
   by_cases c10 : (a2.size : Int) = 2
   rotate_left
   ·
    rw [if_neg c10] at H
    have c10b0 : ((a2.size : Int) == 2) = false := beq_eq_false_iff_ne.mpr c10
    have c10b1 : ((a2.size : Int) != 2) = true := bne_iff_ne.mpr c10
    (first | rw [c10b0] | (simp only [i64_w, i32_w]; rw [c10b0]) | skip)
    have H' := a_ H
    clear H
    go_wp2
    go_meet
    case rel => exact ⟨_, (false), rl_, H', ⟨by have := HJ4.out; first | omega | exact Nat.le_refl _⟩, ⟨rp_ HO_0⟩, ⟨kp_ HK⟩, ⟨bl_ HB⟩⟩
   rw [if_pos c10] at H
   have c10b0 : ((a2.size : Int) == 2) = true := beq_iff_eq.mpr c10
   have c10b1 : ((a2.size : Int) != 2) = false := bne_eq_false_iff_eq.mpr c10
   clear c10
   (first | rw [c10b0] | (simp only [i64_w, i32_w]; rw [c10b0]) | skip)
   by_cases c11 : 0 < (a2.size : Int)
   rotate_left
   ·
    rw [if_neg c11] at H
    exact absurd H (by simp)
   rw [if_pos c11] at H
   have c11b0 : decide (0 < (a2.size : Int)) = true := decide_eq_true c11
   have c11b1 : decide (0 < a2.size) = true := decide_eq_true (by omega)
   clear c11
   by_cases c13 : (bt a2 0) = 32
   rotate_left
   ·
    rw [if_neg c13] at H
    have c13b0 : ((bt a2 0) == 32) = false := beq_eq_false_iff_ne.mpr c13
    have c13b1 : ((bt a2 0) != 32) = true := bne_iff_ne.mpr c13
    have H' := a_ H
    clear H
    have p12 : 0 ≤ (0 : Int) := (by omega)
    have q12 : 0 < a2.size := (by have : (0 : Int) < (a2.size : Int) := of_decide_eq_true as_; omega)
    have hx12 : ∀ h : 0 < a2.size, ((a2[0]'h).toNat : Int) = bt a2 0 := bt_at a2 0
    clear p12
    have qi12 : (0 < (a2.size : Int)) = True := eq_true (of_decide_eq_true as_)
    replace q12 := eq_true q12
    go_wp2
    go_meet
    case rel => exact ⟨_, (false), rl_, H', ⟨by have := HJ4.out; first | omega | exact Nat.le_refl _⟩, ⟨rp_ HO_0⟩, ⟨kp_ HK⟩, ⟨bl_ HB⟩⟩
   rw [if_pos c13] at H
   have c13b0 : ((bt a2 0) == 32) = true := beq_iff_eq.mpr c13
   have c13b1 : ((bt a2 0) != 32) = false := bne_eq_false_iff_eq.mpr c13
   clear c13
   by_cases c14 : 1 < (a2.size : Int)
   rotate_left
   ·
    rw [if_neg c14] at H
    exact absurd H (by simp)
   rw [if_pos c14] at H
   have c14b0 : decide (1 < (a2.size : Int)) = true := decide_eq_true c14
   have c14b1 : decide (1 < a2.size) = true := decide_eq_true (by omega)
   clear c14
   have H' := a_ H
   clear H
   have p12 : 0 ≤ (0 : Int) := (by omega)
   have q12 : 0 < a2.size := (by have : (0 : Int) < (a2.size : Int) := of_decide_eq_true as_; omega)
   have hx12 : ∀ h : 0 < a2.size, ((a2[0]'h).toNat : Int) = bt a2 0 := bt_at a2 0
   clear p12
   have qi12 : (0 < (a2.size : Int)) = True := eq_true (of_decide_eq_true as_)
   replace q12 := eq_true q12
   have p15 : 0 ≤ (1 : Int) := (by omega)
   have q15 : 1 < a2.size := (by have : (1 : Int) < (a2.size : Int) := of_decide_eq_true as_; omega)
   have hx15 : ∀ h : 1 < a2.size, ((a2[1]'h).toNat : Int) = bt a2 1 := bt_at a2 1
   clear p15
   have qi15 : (1 < (a2.size : Int)) = True := eq_true (of_decide_eq_true as_)
   replace q15 := eq_true q15
   go_wp2
   go_meet
   case rel => exact ⟨_, (((bt a2 1) == 32)), rl_, H', ⟨by have := HJ4.out; first | omega | exact Nat.le_refl _⟩, ⟨rp_ HO_0⟩, ⟨kp_ HK⟩, ⟨bl_ HB⟩⟩
  clear HC9
  (try clear c1); (try clear p1); (try clear q1); (try clear hx1); (try clear qi1); (try clear p2); (try clear c3); (try clear c6); (try clear c6b0); (try clear c6b1); (try clear c7); (try clear c10); (try clear c10b0); (try clear c10b1); (try clear c11); (try clear c11b0); (try clear c11b1); (try clear p12); (try clear q12); (try clear hx12); (try clear qi12); (try clear c13); (try clear c13b0); (try clear c13b1); (try clear c14); (try clear c14b0); (try clear c14b1); (try clear p15); (try clear q15); (try clear hx15); (try clear qi15); (try clear p12); (try clear p15); (try clear p2); (try clear q12); (try clear q15)
  obtain ⟨kq, x29_8, rfl, HA, HJ8, HO_0, HK, HB⟩ := hcut
  cases kq with
  | zero => exact absurd HA.out (by simp [pretty_appendTabs.j1])
  | succ kj8 =>
   have H := HA.out
   clear HA
   simp only [pretty_appendTabs.j1] at H
   by_cases c16 : x29_8 = true
   rotate_left
   ·
    replace c16 := Bool.eq_false_iff.mpr c16
    subst c16
    have H1 : (pretty_appendTabs.l1 kj8 x0_4 a2 a3 0) = some r := by rw [if_neg (show ¬ (false = true) by decide)] at H; exact H
    clear H
    have H := H1
    clear H1
    have H' := a_ H
    clear H
    go_wp2
    (try simp only [Act.put, List.setIfInBounds_toArray, List.set_cons_zero, List.set_cons_succ])
    go_loopg [0, 10] kj8 (fun kq v0 v10 w' => ∃ (x0_3 : List Int) (x10_3 : Int), v10 = .int .i64 x10_3 ∧ Aside0 (pretty_appendTabs.l1 kq x0_3 a2 a3 x10_3 = some r) ∧ Aside0 (kq ≤ kj8) ∧ Aside0 (Kd.R (Kd.int .u8) 5 w' w0.heap.size (fun k_ => (P0_ k_ ∨ w.heap.size ≤ k_)) v0 x0_3) ∧ Aside0 (Kept w w' (fun k_ => P0_ k_)) ∧ Aside0 (Below w0.heap.size w0 w'))
    case atStart => exact ⟨(x0_4), (0), rl_, H', ⟨Nat.le_refl _⟩, ⟨rp_ HO_0⟩, ⟨kp_ HK⟩, ⟨bl_ HB⟩⟩
    case round =>
     clear H'
     (try clear c1); (try clear p1); (try clear q1); (try clear hx1); (try clear qi1); (try clear p2); (try clear c3); (try clear c6); (try clear c6b0); (try clear c6b1); (try clear p6); (try clear c7); (try clear c10); (try clear c10b0); (try clear c10b1); (try clear c11); (try clear c11b0); (try clear c11b1); (try clear p12); (try clear q12); (try clear hx12); (try clear qi12); (try clear c13); (try clear c13b0); (try clear c13b1); (try clear c14); (try clear c14b0); (try clear c14b1); (try clear p15); (try clear q15); (try clear hx15); (try clear qi15); (try clear c16); (try clear c17); (try clear c17b0); (try clear c18); (try clear p1); (try clear p12); (try clear p15); (try clear p2); (try clear q1); (try clear q12); (try clear q15)
     obtain ⟨x0_3, x10_3, rfl, HA, HK3, HO_0, HK, HB⟩ := hrel
     cases gk with
     | zero => exact absurd HA.out (by simp [pretty_appendTabs.l1])
     | succ k3 =>
      have H := HA.out
      clear HA
      simp only [pretty_appendTabs.l1] at H
      by_cases c23 : x10_3 < a3
      rotate_left
      ·
       rw [if_neg c23] at H
       have c23b0 : decide (x10_3 < a3) = false := decide_eq_false c23
       clear c23
       obtain rfl := Option.some.inj H
       go_wp2
       go_ret
       exact ⟨_, by first | rfl | (simp [errW_none, errW_some] <;> rfl) | (simp [*, errW_none, errW_some] <;> rfl), rp_ HO_0, bl_ HB, kp_ HK⟩
      rw [if_pos c23] at H
      have c23b0 : decide (x10_3 < a3) = true := decide_eq_true c23
      clear c23
      by_cases c24 : x0_3.length + a2.size < 140737488355328
      rotate_left
      ·
       rw [if_neg c24] at H
       exact absurd H (by simp)
      rw [if_pos c24] at H
      have LMc24 := a_ c24
      clear c24
      obtain ⟨y367, hy367⟩ : ∃ y_ : List Int, y_ = (x0_3 ++ bytesOf a2) := ⟨_, rfl⟩
      replace H : (pretty_appendTabs.l1 k3 y367 a2 a3 (wrap64 (x10_3 + 1))) = some r := by first | exact lt_ H hy367 | (rw [hy367]; exact H) | exact H
      have Ny367 := a_ hy367
      clear hy367
      have H' := a_ H
      clear H
      go_wp2_with (first | (at_builtin; refine Kd.R_append_str (w0 := w0) w0.heap.size rfl (.tmp 43) _ 32 9 5 rfl Try.underlying32 Try.underlying9 info5 u0 x0_3 a2 (fun k_ => (P0_ k_ ∨ w.heap.size ≤ k_)) rfl rfl ?aF ?aO ?aB ?aS ?aL ?_; (case aB => exact (bl_ HB)); (case aF => exact (fun k_ hk => (.inr (Nat.le_trans (kz_ HK) hk)))); (case aO => exact (rp_ HO_0)); (case aS => exact (below_size (bl_ HB))); (case aL => have := LMc24.out; omega); intro v368 w25 ho hb hg hat; rw [← Ny367.out] at ho; have n0_ := a_ (hb); have n1_ := a_ (Kept.of_grown (S := (fun k_ => P0_ k_)) hg (kp_ HK) (fun k_ e_ => (HO_0.out.1 k_ e_))); have n2_ := a_ (ho); clear HB HK HO_0; have HB := n0_; have HK := n1_; have HO369 := n2_; clear n0_ n1_ n2_; clear ho hb hg hat))
      go_roundg k3
      case measure => have := HJ4.out; have := HJ8.out; have := HK3.out; omega
      case rel => exact ⟨(y367), (wrap64 (x10_3 + 1)), rl_, H', ⟨by have := HJ4.out; have := HJ8.out; have := HK3.out; omega⟩, ⟨rp_ HO369⟩, ⟨kp_ HK⟩, ⟨bl_ HB⟩⟩
   subst c16
   have H1 : (pretty_appendTabs.l0 kj8 x0_4 a3 0) = some r := by rw [if_pos rfl] at H; exact H
   clear H
   have H := H1
   clear H1
   have H' := a_ H
   clear H
   go_wp2
   (try simp only [Act.put, List.setIfInBounds_toArray, List.set_cons_zero, List.set_cons_succ])
   go_loopg [0, 9] kj8 (fun kq v0 v9 w' => ∃ (x0_3 : List Int) (x9_3 : Int), v9 = .int .i64 x9_3 ∧ Aside0 (pretty_appendTabs.l0 kq x0_3 a3 x9_3 = some r) ∧ Aside0 (kq ≤ kj8) ∧ Aside0 (Kd.R (Kd.int .u8) 5 w' w0.heap.size (fun k_ => (P0_ k_ ∨ w.heap.size ≤ k_)) v0 x0_3) ∧ Aside0 (Kept w w' (fun k_ => P0_ k_)) ∧ Aside0 (Below w0.heap.size w0 w'))
   case atStart => exact ⟨(x0_4), (0), rl_, H', ⟨Nat.le_refl _⟩, ⟨rp_ HO_0⟩, ⟨kp_ HK⟩, ⟨bl_ HB⟩⟩
   case round =>
    clear H'
    (try clear c1); (try clear p1); (try clear q1); (try clear hx1); (try clear qi1); (try clear p2); (try clear c3); (try clear c6); (try clear c6b0); (try clear c6b1); (try clear c7); (try clear c10); (try clear c10b0); (try clear c10b1); (try clear c11); (try clear c11b0); (try clear c11b1); (try clear p12); (try clear q12); (try clear hx12); (try clear qi12); (try clear c13); (try clear c13b0); (try clear c13b1); (try clear c14); (try clear c14b0); (try clear c14b1); (try clear p15); (try clear q15); (try clear hx15); (try clear qi15); (try clear c16); (try clear p1); (try clear p12); (try clear p15); (try clear p2); (try clear q1); (try clear q12); (try clear q15)
    obtain ⟨x0_3, x9_3, rfl, HA, HK3, HO_0, HK, HB⟩ := hrel
    cases gk with
    | zero => exact absurd HA.out (by simp [pretty_appendTabs.l0])
    | succ k3 =>
     have H := HA.out
     clear HA
     simp only [pretty_appendTabs.l0] at H
     by_cases c17 : x9_3 < a3
     rotate_left
     ·
      rw [if_neg c17] at H
      have c17b0 : decide (x9_3 < a3) = false := decide_eq_false c17
      clear c17
      obtain rfl := Option.some.inj H
      go_wp2
      go_ret
      exact ⟨_, by first | rfl | (simp [errW_none, errW_some] <;> rfl) | (simp [*, errW_none, errW_some] <;> rfl), rp_ HO_0, bl_ HB, kp_ HK⟩
     rw [if_pos c17] at H
     have c17b0 : decide (x9_3 < a3) = true := decide_eq_true c17
     clear c17
     obtain ⟨y361, hy361⟩ : ∃ y_ : List Int, y_ = (([32, 32] : List Int)) := ⟨_, rfl⟩
     replace H := lt_ H hy361
     have Ny361 := a_ hy361
     clear hy361
     by_cases c18 : x0_3.length + y361.length < 140737488355328
     rotate_left
     ·
      rw [if_neg c18] at H
      exact absurd H (by simp)
     rw [if_pos c18] at H
     have LMc18 := a_ c18
     clear c18
     obtain ⟨y364, hy364⟩ : ∃ y_ : List Int, y_ = (x0_3 ++ y361) := ⟨_, rfl⟩
     replace H : (pretty_appendTabs.l0 k3 y364 a3 (wrap64 (x9_3 + 1))) = some r := by first | exact lt_ H hy364 | (rw [hy364]; exact H) | exact H
     have Ny364 := a_ hy364
     clear hy364
     have H' := a_ H
     clear H
     go_wp2_with (first | ((with_reducible refine gate_dst (N := 36) rfl ?_); refine Kd.R_lit (Kd.int .u8) _ 5 ?hg (N := 36) ?hd (xs := ([32, 32] : List Int)) (inner := [.int .u8 32, .int .u8 32]) (ok := fun _ => True) (okp := fun _ => True) ?hr ?hp (fun _ hk => hk) trivial (Below.refl _ _) (Nat.le_refl _) (by simp) ?_; (case hd => rfl); (case hg => rfl); (case hr => first | (go_simp; done) | (go_simp; rfl)); (case hp => exact (Reps.one (show Kd.M (Kd.int .u8) _ _ _ 32 [.int .u8 32] from rfl) (Reps.one (show Kd.M (Kd.int .u8) _ _ _ 32 [.int .u8 32] from rfl) (Reps.none _ _)))); intro v362 w19 ho20 hb hg_ hnew_; clear hg_ hnew_; (first | rw [← Ny361.out] at ho20 | (simp only [Int.reduceToNat] at ho20; rw [← Ny361.out] at ho20)); have n0_ := a_ (Kd.R_elder' (rp_ HO_0) (Kd.R_base ho20) hb); have n1_ := a_ (Kd.R_lower (Kd.R_new' (Kd.R_newM (M := fun k_ => (P0_ k_ ∨ w.heap.size ≤ k_)) ho20 (kz_ HK) (fun k_ h_ => .inr h_)) (Kd.R_lt (rp_ HO_0))) (below_size (bl_ HB))); have n2_ := a_ (Kept.below (S := (fun k_ => P0_ k_)) (kp_ HK) hb); have n3_ := a_ (below_step (bl_ HB) hb); clear HO_0 HK HB; have HO_0 := n0_; have HO363 := n1_; have HK := n2_; have HB := n3_; clear n0_ n1_ n2_ n3_; clear hb ho20; obtain ⟨Ao22, co22, eo22⟩ := Kd.R_slice HO363.out; subst eo22) | ((with_reducible refine gate_builtin (b := .append) (xs := #[.tmp 35, .tmp 36]) rfl ?_); at_builtin; refine Kd.R_append_rows (Kd.int .u8) (w0 := w0) w0.heap.size rfl (.tmp 35) (.tmp 36) 32 5 (.int .u8 0) 1 rfl Try.underlying32 info5 rfl (by decide) (by omega) u0 x0_3 y361 _ _ _ (fun k_ => (P0_ k_ ∨ w.heap.size ≤ k_) ∧ some k_ ≠ (.slice Ao22 y361.length co22 : Value).ownBlock) (fun _ => False) rfl rfl ?aO ?aR (fun _ _ h => h) (fun _ h => h.elim) ?aF ?aB ?aS ?aL ?_; (case aR => repeat (first | exact (Kd.R_reads' HO363.out).2.2 | (with_reducible refine Kd.C_alloc ?_ _) | (with_reducible refine Kd.C_drewN ?_ _) | (with_reducible refine Kd.C_drew ?_))); (case aB => exact (bl_ HB)); (case aF => exact (fun k_ hk => ⟨(.inr (Nat.le_trans (kz_ HK) hk)), Kd.fresh' (Kd.R_lt (rp_ HO363)) k_ hk⟩)); (case aO => exact (rp_ HO_0)); (case aS => exact (below_size (bl_ HB))); (case aL => have := LMc18.out; omega); intro v365 w21 ho hb hg hat; rw [← Ny364.out] at ho; have n0_ := a_ (Kd.R_after (ok := (fun k_ => (P0_ k_ ∨ w.heap.size ≤ k_))) (by (with_reducible repeat (first | apply Kd.R_alloc | apply Kd.R_drewN | apply Kd.R_drew)); exact Kd.R_mono HO363.out (fun _ hk => ⟨hk.1.1, hk.2⟩)) hg hat); have n1_ := a_ (hb); have n2_ := a_ (Kept.of_grown (S := (fun k_ => P0_ k_)) hg (kp_ HK) (fun k_ e_ => (HO_0.out.1 k_ e_).1)); have n3_ := a_ (ho); clear HO363 HB HK HO_0; have HO363 := n0_; have HB := n1_; have HK := n2_; have HO366 := n3_; clear n0_ n1_ n2_ n3_; clear ho hb hg hat))
     go_roundg k3
     case measure => have := HJ4.out; have := HJ8.out; have := HK3.out; omega
     case rel => exact ⟨(y364), (wrap64 (x9_3 + 1)), rl_, H', ⟨by have := HJ4.out; have := HJ8.out; have := HK3.out; omega⟩, ⟨by (with_reducible repeat (first | apply Kd.R_alloc | apply Kd.R_drewN | apply Kd.R_drew)); exact Kd.R_mono HO366.out (fun _ hk => hk.1)⟩, ⟨kp_ HK⟩, ⟨bl_ HB⟩⟩
mutual
def pretty_appendPrettyObjectA.j0 : Nat → List Int → List Int → Int → Int → Int → Bool → Int → ByteArray → ByteArray → Bool → Int → Int → Int → Option (List Int × Int × Int × Bool)
  | 0, _, _, _, _, _, _, _, _, _, _, _, _, _ => none
  | k + 1, x0, x1, x2, x3, x4, x5, x6, x7, x8, x9, x10, x11, x12 => if x9 = true then (none) else (if x5 = true then (if x3 = 123 then (if x12 = (-1) then (if x0.length < 140737488355328 then (pretty_appendPrettyObjectA.l0 k (x0 ++ [x3]) x1 (wrap64 (x2 + 1)) x3 x4 x5 x6 x7 x8 x9 x10 x11 x12 0) else (none)) else (none)) else (none)) else (none))
def pretty_appendPrettyObjectA.l0 : Nat → List Int → List Int → Int → Int → Int → Bool → Int → ByteArray → ByteArray → Bool → Int → Int → Int → Int → Option (List Int × Int × Int × Bool)
  | 0, _, _, _, _, _, _, _, _, _, _, _, _, _, _ => none
  | k + 1, x0, x1, x2, x3, x4, x5, x6, x7, x8, x9, x10, x11, x12, x35 => if x9 = true then (none) else (if x5 = true then (if x3 = 123 then (if x12 = (-1) then (if x2 < (x1.length : Int) then (if 0 ≤ x2 then (if (rd x1 x2) ≤ 32 then (pretty_appendPrettyObjectA.l0 k x0 x1 (wrap64 (x2 + 1)) x3 x4 x5 x6 x7 x8 x9 x10 x11 x12 x35) else (if (rd x1 x2) = x4 then (if x35 > 0 then (if 0 ≤ (wrap64 ((x0.length : Int) - 1)) then (if (wrap64 ((x0.length : Int) - 1)) < (x0.length : Int) then (if (rd x0 (wrap64 ((x0.length : Int) - 1))) = 32 then ((some (x0.set ((wrap64 ((x0.length : Int) - 1)) : Int).toNat 10 : List Int)).bind fun y376 => (if (rd y376 (wrap64 ((x0.length : Int) - 1))) = x3 then (if y376.length < 140737488355328 then (some ((y376 ++ [x4]), wrap64 (x2 + 1), (x0.length : Int), (x3 != 123))) else (none)) else ((pretty_appendTabs.f k y376 x7 x8 x10).bind fun t381 => (if t381.length < 140737488355328 then (some ((t381 ++ [x4]), wrap64 (x2 + 1), (x0.length : Int), (x3 != 123))) else (none))))) else (if x0.length < 140737488355328 then ((some (x0 ++ [10] : List Int)).bind fun y387 => (if 0 ≤ (wrap64 ((y387.length : Int) - 1)) then (if (wrap64 ((y387.length : Int) - 1)) < (y387.length : Int) then (if (rd y387 (wrap64 ((y387.length : Int) - 1))) = x3 then (if y387.length < 140737488355328 then (some ((y387 ++ [x4]), wrap64 (x2 + 1), (x0.length : Int), (x3 != 123))) else (none)) else ((pretty_appendTabs.f k y387 x7 x8 x10).bind fun t394 => (if t394.length < 140737488355328 then (some ((t394 ++ [x4]), wrap64 (x2 + 1), (x0.length : Int), (x3 != 123))) else (none)))) else (none)) else (none))) else (none))) else (none)) else (none)) else (if 0 ≤ (wrap64 ((x0.length : Int) - 1)) then (if (wrap64 ((x0.length : Int) - 1)) < (x0.length : Int) then (if (rd x0 (wrap64 ((x0.length : Int) - 1))) = x3 then (if x0.length < 140737488355328 then (some ((x0 ++ [x4]), wrap64 (x2 + 1), x11, (x3 != 123))) else (none)) else ((pretty_appendTabs.f k x0 x7 x8 x10).bind fun t404 => (if t404.length < 140737488355328 then (some ((t404 ++ [x4]), wrap64 (x2 + 1), x11, (x3 != 123))) else (none)))) else (none)) else (none))) else (if x3 = 91 then (none) else (if (rd x1 x2) = 34 then (if x35 > 0 then (if x0.length < 140737488355328 then ((some (x0 ++ [44] : List Int)).bind fun y411 => (if x6 = (-1) then (pretty_appendPrettyObjectA.j2 k y411 x1 x2 x3 x4 x5 x6 x7 x8 x9 x10 x12 x35) else (pretty_appendPrettyObjectA.j2 k y411 x1 x2 x3 x4 x5 x6 x7 x8 x9 x10 x12 x35))) else (none)) else (pretty_appendPrettyObjectA.j2 k x0 x1 x2 x3 x4 x5 x6 x7 x8 x9 x10 x12 x35)) else (pretty_appendPrettyObjectA.l0 k x0 x1 (wrap64 (x2 + 1)) x3 x4 x5 x6 x7 x8 x9 x10 x11 x12 x35))))) else (none)) else (some (x0, x2, x11, (x3 != 123)))) else (none)) else (none)) else (none))
def pretty_appendPrettyObjectA.j2 : Nat → List Int → List Int → Int → Int → Int → Bool → Int → ByteArray → ByteArray → Bool → Int → Int → Int → Option (List Int × Int × Int × Bool)
  | 0, _, _, _, _, _, _, _, _, _, _, _, _, _ => none
  | k + 1, x0, x1, x2, x3, x4, x5, x6, x7, x8, x9, x10, x12, x35 => if x9 = true then (none) else (if x5 = true then (if x3 = 123 then (if x12 = (-1) then (if 0 ≤ (wrap64 ((x0.length : Int) - 1)) then (if (wrap64 ((x0.length : Int) - 1)) < (x0.length : Int) then (if (rd x0 (wrap64 ((x0.length : Int) - 1))) = 32 then ((pretty_appendTabs.f k (x0.set ((wrap64 ((x0.length : Int) - 1)) : Int).toNat 10) x7 x8 (wrap64 (x10 + 1))).bind fun t417 => (pretty_appendPrettyObjectA.j3 k t417 x1 x2 x3 x4 x5 x6 x7 x8 x9 x10 (x0.length : Int) x12 x35)) else (if x0.length < 140737488355328 then ((pretty_appendTabs.f k (x0 ++ [10]) x7 x8 (wrap64 (x10 + 1))).bind fun t423 => (pretty_appendPrettyObjectA.j3 k t423 x1 x2 x3 x4 x5 x6 x7 x8 x9 x10 (x0.length : Int) x12 x35)) else (none))) else (none)) else (none)) else (none)) else (none)) else (none))
def pretty_appendPrettyObjectA.j3 : Nat → List Int → List Int → Int → Int → Int → Bool → Int → ByteArray → ByteArray → Bool → Int → Int → Int → Int → Option (List Int × Int × Int × Bool)
  | 0, _, _, _, _, _, _, _, _, _, _, _, _, _, _ => none
  | k + 1, x0, x1, x2, x3, x4, x5, x6, x7, x8, x9, x10, x11, x12, x35 => if x9 = true then (none) else (if x5 = true then (if x3 = 123 then (if x12 = (-1) then ((pretty_appendPrettyString.f k x0 x1 x2 x11).bind fun bt426 => (if bt426.1.length < 140737488355328 then ((some (bt426.1 ++ [58] : List Int)).bind fun y432 => (if y432.length < 140737488355328 then ((pretty_appendPrettyAny.f k (y432 ++ [32]) x1 bt426.2.1 x5 x6 x7 x8 x9 (wrap64 (x10 + 1)) bt426.2.2.1 x12).bind fun bt438 => (pretty_appendPrettyObjectA.l0 k bt438.1 x1 (wrap64 ((wrap64 (bt438.2.1 - 1)) + 1)) x3 x4 x5 x6 x7 x8 x9 x10 bt438.2.2.1 x12 (wrap64 (x35 + 1)))) else (none))) else (none))) else (none)) else (none)) else (none))
def pretty_appendPrettyObjectA.f : Nat → List Int → List Int → Int → Int → Int → Bool → Int → ByteArray → ByteArray → Bool → Int → Int → Int → Option (List Int × Int × Int × Bool)
  | 0, _, _, _, _, _, _, _, _, _, _, _, _, _ => none
  | k + 1, l0, l1, a2, a3, a4, a5, a6, a7, a8, a9, a10, a11, a12 => if a9 = true then (none) else (if a5 = true then (if a3 = 123 then (if a12 = (-1) then (if a6 > 0 then (if a3 = 91 then (none) else (pretty_appendPrettyObjectA.j0 k l0 l1 a2 a3 a4 a5 a6 a7 a8 a9 a10 a11 a12)) else (pretty_appendPrettyObjectA.j0 k l0 l1 a2 a3 a4 a5 a6 a7 a8 a9 a10 a11 a12)) else (none)) else (none)) else (none))
def pretty_appendPrettyObjectB.j1 : Nat → List Int → List Int → Int → Int → Int → Bool → ByteArray → ByteArray → Bool → Int → Int → Option (List Int × Int × Int × Bool)
  | 0, _, _, _, _, _, _, _, _, _, _, _ => none
  | k + 1, x0, x1, x2, x3, x4, x5, x7, x8, x9, x10, x11 => if x9 = true then (none) else (if x3 = 91 then (if x0.length < 140737488355328 then (if x3 = 123 then (none) else (pretty_appendPrettyObjectB.l0 k (x0 ++ [x3]) x1 (wrap64 (x2 + 1)) x3 x4 x5 x7 x8 x9 x10 x11 0)) else (none)) else (none))
def pretty_appendPrettyObjectB.l0 : Nat → List Int → List Int → Int → Int → Int → Bool → ByteArray → ByteArray → Bool → Int → Int → Int → Option (List Int × Int × Int × Bool)
  | 0, _, _, _, _, _, _, _, _, _, _, _, _ => none
  | k + 1, x0, x1, x2, x3, x4, x5, x7, x8, x9, x10, x11, x35 => if x9 = true then (none) else (if x3 = 91 then (if x2 < (x1.length : Int) then (if 0 ≤ x2 then (if (rd x1 x2) ≤ 32 then (pretty_appendPrettyObjectB.l0 k x0 x1 (wrap64 (x2 + 1)) x3 x4 x5 x7 x8 x9 x10 x11 x35) else (if (rd x1 x2) = x4 then (if x5 = true then (if x3 = 123 then (none) else (if x35 > 0 then (if 0 ≤ (wrap64 ((x0.length : Int) - 1)) then (if (wrap64 ((x0.length : Int) - 1)) < (x0.length : Int) then (if (rd x0 (wrap64 ((x0.length : Int) - 1))) = 32 then ((some (x0.set ((wrap64 ((x0.length : Int) - 1)) : Int).toNat 10 : List Int)).bind fun y462 => (if (rd y462 (wrap64 ((x0.length : Int) - 1))) = x3 then (if y462.length < 140737488355328 then (some ((y462 ++ [x4]), wrap64 (x2 + 1), (x0.length : Int), (x3 != 123))) else (none)) else ((pretty_appendTabs.f k y462 x7 x8 x10).bind fun t467 => (if t467.length < 140737488355328 then (some ((t467 ++ [x4]), wrap64 (x2 + 1), (x0.length : Int), (x3 != 123))) else (none))))) else (if x0.length < 140737488355328 then ((some (x0 ++ [10] : List Int)).bind fun y473 => (if 0 ≤ (wrap64 ((y473.length : Int) - 1)) then (if (wrap64 ((y473.length : Int) - 1)) < (y473.length : Int) then (if (rd y473 (wrap64 ((y473.length : Int) - 1))) = x3 then (if y473.length < 140737488355328 then (some ((y473 ++ [x4]), wrap64 (x2 + 1), (x0.length : Int), (x3 != 123))) else (none)) else ((pretty_appendTabs.f k y473 x7 x8 x10).bind fun t480 => (if t480.length < 140737488355328 then (some ((t480 ++ [x4]), wrap64 (x2 + 1), (x0.length : Int), (x3 != 123))) else (none)))) else (none)) else (none))) else (none))) else (none)) else (none)) else (if 0 ≤ (wrap64 ((x0.length : Int) - 1)) then (if (wrap64 ((x0.length : Int) - 1)) < (x0.length : Int) then (if (rd x0 (wrap64 ((x0.length : Int) - 1))) = x3 then (if x0.length < 140737488355328 then (some ((x0 ++ [x4]), wrap64 (x2 + 1), x11, (x3 != 123))) else (none)) else ((pretty_appendTabs.f k x0 x7 x8 x10).bind fun t490 => (if t490.length < 140737488355328 then (some ((t490 ++ [x4]), wrap64 (x2 + 1), x11, (x3 != 123))) else (none)))) else (none)) else (none)))) else (if x0.length < 140737488355328 then (some ((x0 ++ [x4]), wrap64 (x2 + 1), x11, (x3 != 123))) else (none))) else (none))) else (none)) else (some (x0, x2, x11, (x3 != 123)))) else (none))
def pretty_appendPrettyObjectB.j0 : Nat → List Int → List Int → Int → Int → Int → Bool → Int → ByteArray → ByteArray → Bool → Int → Int → Int → Bool → Option (List Int × Int × Int × Bool)
  | 0, _, _, _, _, _, _, _, _, _, _, _, _, _, _ => none
  | k + 1, x0, x1, x2, x3, x4, x5, x6, x7, x8, x9, x10, x11, x12, x47 => if x9 = true then (none) else (if x3 = 91 then (if x47 = true then (if (wrap64 (x6 - (wrap64 ((x0.length : Int) - x11)))) > 3 then ((pretty_appendPrettyObject.f k x0 x1 x2 91 93 false x6 x7 (⟨#[]⟩ : ByteArray) x9 0 0 (wrap64 (x6 - (wrap64 ((x0.length : Int) - x11))))).bind fun bt444 => (if bt444.2.2.2 = true then (if (wrap64 ((bt444.1.length : Int) - (x0.length : Int))) ≤ (wrap64 (x6 - (wrap64 ((x0.length : Int) - x11)))) then (some (bt444.1, bt444.2.1, x11, true)) else (if 0 ≤ (x0.length : Int) then (if (x0.length : Int) ≤ (bt444.1.length : Int) then (pretty_appendPrettyObjectB.j1 k (bt444.1.take ((x0.length : Int) : Int).toNat) x1 x2 x3 x4 x5 x7 x8 x9 x10 x11) else (none)) else (none))) else (if 0 ≤ (x0.length : Int) then (if (x0.length : Int) ≤ (bt444.1.length : Int) then (pretty_appendPrettyObjectB.j1 k (bt444.1.take ((x0.length : Int) : Int).toNat) x1 x2 x3 x4 x5 x7 x8 x9 x10 x11) else (none)) else (none)))) else (pretty_appendPrettyObjectB.j1 k x0 x1 x2 x3 x4 x5 x7 x8 x9 x10 x11)) else (if x12 = (-1) then (pretty_appendPrettyObjectB.j1 k x0 x1 x2 x3 x4 x5 x7 x8 x9 x10 x11) else (if x3 = 123 then (none) else (pretty_appendPrettyObjectB.j1 k x0 x1 x2 x3 x4 x5 x7 x8 x9 x10 x11)))) else (none))
def pretty_appendPrettyObjectB.f : Nat → List Int → List Int → Int → Int → Int → Bool → Int → ByteArray → ByteArray → Bool → Int → Int → Int → Option (List Int × Int × Int × Bool)
  | 0, _, _, _, _, _, _, _, _, _, _, _, _, _ => none
  | k + 1, l0, l1, a2, a3, a4, a5, a6, a7, a8, a9, a10, a11, a12 => if a9 = true then (none) else (if a3 = 91 then (if a6 > 0 then (if a5 = true then (pretty_appendPrettyObjectB.j0 k l0 l1 a2 a3 a4 a5 a6 a7 a8 a9 a10 a11 a12 (a12 == (-1))) else (pretty_appendPrettyObjectB.j0 k l0 l1 a2 a3 a4 a5 a6 a7 a8 a9 a10 a11 a12 false)) else (pretty_appendPrettyObjectB.j1 k l0 l1 a2 a3 a4 a5 a7 a8 a9 a10 a11)) else (none))
def pretty_appendPrettyAny.l0 : Nat → List Int → List Int → Int → Bool → Int → ByteArray → ByteArray → Bool → Int → Int → Int → Option (List Int × Int × Int × Bool)
  | 0, _, _, _, _, _, _, _, _, _, _, _ => none
  | k + 1, x0, x1, x2, x3, x4, x5, x6, x7, x8, x9, x10 => if x2 < (x1.length : Int) then (if 0 ≤ x2 then (if (rd x1 x2) ≤ 32 then (pretty_appendPrettyAny.l0 k x0 x1 (wrap64 (x2 + 1)) x3 x4 x5 x6 x7 x8 x9 x10) else (if (rd x1 x2) = 34 then ((pretty_appendPrettyString.f k x0 x1 x2 x9).bind fun bt501 => (some (bt501.1, bt501.2.1, bt501.2.2.1, bt501.2.2.2))) else (if (rd x1 x2) ≥ 48 then (if (rd x1 x2) ≤ 57 then (pretty_appendPrettyAny.j1 k x0 x1 x2 x3 x4 x5 x6 x7 x8 x9 x10 true) else (if (rd x1 x2) = 45 then (pretty_appendPrettyAny.j1 k x0 x1 x2 x3 x4 x5 x6 x7 x8 x9 x10 true) else (if x2 ≤ (x1.length : Int) then ((pretty_isNaNOrInf.f (x1.drop (x2 : Int).toNat)).bind fun t515 => (pretty_appendPrettyAny.j1 k x0 x1 x2 x3 x4 x5 x6 x7 x8 x9 x10 t515)) else (none)))) else (if (rd x1 x2) = 45 then (pretty_appendPrettyAny.j1 k x0 x1 x2 x3 x4 x5 x6 x7 x8 x9 x10 true) else (if x2 ≤ (x1.length : Int) then ((pretty_isNaNOrInf.f (x1.drop (x2 : Int).toNat)).bind fun t522 => (pretty_appendPrettyAny.j1 k x0 x1 x2 x3 x4 x5 x6 x7 x8 x9 x10 t522)) else (none)))))) else (none)) else (some (x0, x2, x9, true))
def pretty_appendPrettyAny.j1 : Nat → List Int → List Int → Int → Bool → Int → ByteArray → ByteArray → Bool → Int → Int → Int → Bool → Option (List Int × Int × Int × Bool)
  | 0, _, _, _, _, _, _, _, _, _, _, _, _ => none
  | k + 1, x0, x1, x2, x3, x4, x5, x6, x7, x8, x9, x10, x75 => if x75 = true then ((pretty_appendPrettyNumber.f k x0 x1 x2 x9).bind fun bt523 => (some (bt523.1, bt523.2.1, bt523.2.2.1, bt523.2.2.2))) else (if 0 ≤ x2 then (if x2 < (x1.length : Int) then (if (rd x1 x2) = 123 then ((pretty_appendPrettyObject.f k x0 x1 x2 123 125 x3 x4 x5 x6 x7 x8 x9 x10).bind fun bt530 => (some (bt530.1, bt530.2.1, bt530.2.2.1, bt530.2.2.2))) else (if (rd x1 x2) = 91 then ((pretty_appendPrettyObject.f k x0 x1 x2 91 93 x3 x4 x5 x6 x7 x8 x9 x10).bind fun bt537 => (some (bt537.1, bt537.2.1, bt537.2.2.1, bt537.2.2.2))) else (if (rd x1 x2) = 116 then ((some (([116, 114, 117, 101] : List Int) : List Int)).bind fun y544 => (if x0.length + y544.length < 140737488355328 then (some ((x0 ++ y544), wrap64 (x2 + 4), x9, true)) else (none))) else (if (rd x1 x2) = 102 then ((some (([102, 97, 108, 115, 101] : List Int) : List Int)).bind fun y550 => (if x0.length + y550.length < 140737488355328 then (some ((x0 ++ y550), wrap64 (x2 + 5), x9, true)) else (none))) else (if (rd x1 x2) = 110 then ((some (([110, 117, 108, 108] : List Int) : List Int)).bind fun y556 => (if x0.length + y556.length < 140737488355328 then (some ((x0 ++ y556), wrap64 (x2 + 4), x9, true)) else (none))) else (pretty_appendPrettyAny.l0 k x0 x1 (wrap64 (x2 + 1)) x3 x4 x5 x6 x7 x8 x9 x10)))))) else (none)) else (none))
def pretty_appendPrettyAny.f : Nat → List Int → List Int → Int → Bool → Int → ByteArray → ByteArray → Bool → Int → Int → Int → Option (List Int × Int × Int × Bool)
  | 0, _, _, _, _, _, _, _, _, _, _, _ => none
  | k + 1, l0, l1, a2, a3, a4, a5, a6, a7, a8, a9, a10 => pretty_appendPrettyAny.l0 k l0 l1 a2 a3 a4 a5 a6 a7 a8 a9 a10
def pretty_appendPrettyObject.f : Nat → List Int → List Int → Int → Int → Int → Bool → Int → ByteArray → ByteArray → Bool → Int → Int → Int → Option (List Int × Int × Int × Bool)
  | 0, _, _, _, _, _, _, _, _, _, _, _, _, _ => none
  | k + 1, l0, l1, a2, a3, a4, a5, a6, a7, a8, a9, a10, a11, a12 => if a3 = 123 then (pretty_appendPrettyObjectA.f k l0 l1 a2 a3 a4 a5 a6 a7 a8 a9 a10 a11 a12) else (pretty_appendPrettyObjectB.f k l0 l1 a2 a3 a4 a5 a6 a7 a8 a9 a10 a11 a12)
end
theorem pretty_appendPrettyObject.scc.mono_l : ∀ k, (∀ y0 y1 y2 y3 y4 y5 y6 y7 y8 y9 y10 y11 y12, LeO (pretty_appendPrettyObjectA.f k y0 y1 y2 y3 y4 y5 y6 y7 y8 y9 y10 y11 y12) (pretty_appendPrettyObjectA.f (k + 1) y0 y1 y2 y3 y4 y5 y6 y7 y8 y9 y10 y11 y12)) ∧ (∀ y0 y1 y2 y3 y4 y5 y6 y7 y8 y9 y10 y11 y12, LeO (pretty_appendPrettyObjectA.j0 k y0 y1 y2 y3 y4 y5 y6 y7 y8 y9 y10 y11 y12) (pretty_appendPrettyObjectA.j0 (k + 1) y0 y1 y2 y3 y4 y5 y6 y7 y8 y9 y10 y11 y12)) ∧ (∀ y0 y1 y2 y3 y4 y5 y6 y7 y8 y9 y10 y11 y12 y13, LeO (pretty_appendPrettyObjectA.l0 k y0 y1 y2 y3 y4 y5 y6 y7 y8 y9 y10 y11 y12 y13) (pretty_appendPrettyObjectA.l0 (k + 1) y0 y1 y2 y3 y4 y5 y6 y7 y8 y9 y10 y11 y12 y13)) ∧ (∀ y0 y1 y2 y3 y4 y5 y6 y7 y8 y9 y10 y11 y12, LeO (pretty_appendPrettyObjectA.j2 k y0 y1 y2 y3 y4 y5 y6 y7 y8 y9 y10 y11 y12) (pretty_appendPrettyObjectA.j2 (k + 1) y0 y1 y2 y3 y4 y5 y6 y7 y8 y9 y10 y11 y12)) ∧ (∀ y0 y1 y2 y3 y4 y5 y6 y7 y8 y9 y10 y11 y12 y13, LeO (pretty_appendPrettyObjectA.j3 k y0 y1 y2 y3 y4 y5 y6 y7 y8 y9 y10 y11 y12 y13) (pretty_appendPrettyObjectA.j3 (k + 1) y0 y1 y2 y3 y4 y5 y6 y7 y8 y9 y10 y11 y12 y13)) ∧ (∀ y0 y1 y2 y3 y4 y5 y6 y7 y8 y9 y10 y11 y12, LeO (pretty_appendPrettyObjectB.f k y0 y1 y2 y3 y4 y5 y6 y7 y8 y9 y10 y11 y12) (pretty_appendPrettyObjectB.f (k + 1) y0 y1 y2 y3 y4 y5 y6 y7 y8 y9 y10 y11 y12)) ∧ (∀ y0 y1 y2 y3 y4 y5 y6 y7 y8 y9 y10, LeO (pretty_appendPrettyObjectB.j1 k y0 y1 y2 y3 y4 y5 y6 y7 y8 y9 y10) (pretty_appendPrettyObjectB.j1 (k + 1) y0 y1 y2 y3 y4 y5 y6 y7 y8 y9 y10)) ∧ (∀ y0 y1 y2 y3 y4 y5 y6 y7 y8 y9 y10 y11, LeO (pretty_appendPrettyObjectB.l0 k y0 y1 y2 y3 y4 y5 y6 y7 y8 y9 y10 y11) (pretty_appendPrettyObjectB.l0 (k + 1) y0 y1 y2 y3 y4 y5 y6 y7 y8 y9 y10 y11)) ∧ (∀ y0 y1 y2 y3 y4 y5 y6 y7 y8 y9 y10 y11 y12 y13, LeO (pretty_appendPrettyObjectB.j0 k y0 y1 y2 y3 y4 y5 y6 y7 y8 y9 y10 y11 y12 y13) (pretty_appendPrettyObjectB.j0 (k + 1) y0 y1 y2 y3 y4 y5 y6 y7 y8 y9 y10 y11 y12 y13)) ∧ (∀ y0 y1 y2 y3 y4 y5 y6 y7 y8 y9 y10, LeO (pretty_appendPrettyAny.f k y0 y1 y2 y3 y4 y5 y6 y7 y8 y9 y10) (pretty_appendPrettyAny.f (k + 1) y0 y1 y2 y3 y4 y5 y6 y7 y8 y9 y10)) ∧ (∀ y0 y1 y2 y3 y4 y5 y6 y7 y8 y9 y10, LeO (pretty_appendPrettyAny.l0 k y0 y1 y2 y3 y4 y5 y6 y7 y8 y9 y10) (pretty_appendPrettyAny.l0 (k + 1) y0 y1 y2 y3 y4 y5 y6 y7 y8 y9 y10)) ∧ (∀ y0 y1 y2 y3 y4 y5 y6 y7 y8 y9 y10 y11, LeO (pretty_appendPrettyAny.j1 k y0 y1 y2 y3 y4 y5 y6 y7 y8 y9 y10 y11) (pretty_appendPrettyAny.j1 (k + 1) y0 y1 y2 y3 y4 y5 y6 y7 y8 y9 y10 y11)) ∧ (∀ y0 y1 y2 y3 y4 y5 y6 y7 y8 y9 y10 y11 y12, LeO (pretty_appendPrettyObject.f k y0 y1 y2 y3 y4 y5 y6 y7 y8 y9 y10 y11 y12) (pretty_appendPrettyObject.f (k + 1) y0 y1 y2 y3 y4 y5 y6 y7 y8 y9 y10 y11 y12))
  | 0 => ⟨fun _ _ _ _ _ _ _ _ _ _ _ _ _ r h => by simp [pretty_appendPrettyObjectA.f] at h, fun _ _ _ _ _ _ _ _ _ _ _ _ _ r h => by simp [pretty_appendPrettyObjectA.j0] at h, fun _ _ _ _ _ _ _ _ _ _ _ _ _ _ r h => by simp [pretty_appendPrettyObjectA.l0] at h, fun _ _ _ _ _ _ _ _ _ _ _ _ _ r h => by simp [pretty_appendPrettyObjectA.j2] at h, fun _ _ _ _ _ _ _ _ _ _ _ _ _ _ r h => by simp [pretty_appendPrettyObjectA.j3] at h, fun _ _ _ _ _ _ _ _ _ _ _ _ _ r h => by simp [pretty_appendPrettyObjectB.f] at h, fun _ _ _ _ _ _ _ _ _ _ _ r h => by simp [pretty_appendPrettyObjectB.j1] at h, fun _ _ _ _ _ _ _ _ _ _ _ _ r h => by simp [pretty_appendPrettyObjectB.l0] at h, fun _ _ _ _ _ _ _ _ _ _ _ _ _ _ r h => by simp [pretty_appendPrettyObjectB.j0] at h, fun _ _ _ _ _ _ _ _ _ _ _ r h => by simp [pretty_appendPrettyAny.f] at h, fun _ _ _ _ _ _ _ _ _ _ _ r h => by simp [pretty_appendPrettyAny.l0] at h, fun _ _ _ _ _ _ _ _ _ _ _ _ r h => by simp [pretty_appendPrettyAny.j1] at h, fun _ _ _ _ _ _ _ _ _ _ _ _ _ r h => by simp [pretty_appendPrettyObject.f] at h⟩
  | k + 1 => by
    obtain ⟨ih0, ih1, ih2, ih3, ih4, ih5, ih6, ih7, ih8, ih9, ih10, ih11, ih12⟩ := pretty_appendPrettyObject.scc.mono_l k
    refine ⟨?_, ?_, ?_, ?_, ?_, ?_, ?_, ?_, ?_, ?_, ?_, ?_, ?_⟩
    · intro y0 y1 y2 y3 y4 y5 y6 y7 y8 y9 y10 y11 y12
      unfold pretty_appendPrettyObjectA.f
      repeat' first
      | (with_reducible exact ih0 _ _ _ _ _ _ _ _ _ _ _ _ _)
      | (with_reducible exact ih1 _ _ _ _ _ _ _ _ _ _ _ _ _)
      | (with_reducible exact ih2 _ _ _ _ _ _ _ _ _ _ _ _ _ _)
      | (with_reducible exact ih3 _ _ _ _ _ _ _ _ _ _ _ _ _)
      | (with_reducible exact ih4 _ _ _ _ _ _ _ _ _ _ _ _ _ _)
      | (with_reducible exact ih5 _ _ _ _ _ _ _ _ _ _ _ _ _)
      | (with_reducible exact ih6 _ _ _ _ _ _ _ _ _ _ _)
      | (with_reducible exact ih7 _ _ _ _ _ _ _ _ _ _ _ _)
      | (with_reducible exact ih8 _ _ _ _ _ _ _ _ _ _ _ _ _ _)
      | (with_reducible exact ih9 _ _ _ _ _ _ _ _ _ _ _)
      | (with_reducible exact ih10 _ _ _ _ _ _ _ _ _ _ _)
      | (with_reducible exact ih11 _ _ _ _ _ _ _ _ _ _ _ _)
      | (with_reducible exact ih12 _ _ _ _ _ _ _ _ _ _ _ _ _)
      | (with_reducible exact pretty_appendPrettyNumber.mono _ _ _ _ _)
      | (with_reducible exact pretty_appendPrettyString.mono _ _ _ _ _)
      | (with_reducible exact pretty_appendTabs.mono _ _ _ _ _)
      | (with_reducible exact LeO.refl _)
      | (with_reducible exact LeO.none _)
      | (with_reducible refine LeO.ite ?_ ?_)
      | (with_reducible refine LeO.bind ?_ (fun _ => ?_))
      | exact LeO.none _
      | refine LeO.ite ?_ ?_
      | refine LeO.bind ?_ (fun _ => ?_)
    · intro y0 y1 y2 y3 y4 y5 y6 y7 y8 y9 y10 y11 y12
      unfold pretty_appendPrettyObjectA.j0
      repeat' first
      | (with_reducible exact ih0 _ _ _ _ _ _ _ _ _ _ _ _ _)
      | (with_reducible exact ih1 _ _ _ _ _ _ _ _ _ _ _ _ _)
      | (with_reducible exact ih2 _ _ _ _ _ _ _ _ _ _ _ _ _ _)
      | (with_reducible exact ih3 _ _ _ _ _ _ _ _ _ _ _ _ _)
      | (with_reducible exact ih4 _ _ _ _ _ _ _ _ _ _ _ _ _ _)
      | (with_reducible exact ih5 _ _ _ _ _ _ _ _ _ _ _ _ _)
      | (with_reducible exact ih6 _ _ _ _ _ _ _ _ _ _ _)
      | (with_reducible exact ih7 _ _ _ _ _ _ _ _ _ _ _ _)
      | (with_reducible exact ih8 _ _ _ _ _ _ _ _ _ _ _ _ _ _)
      | (with_reducible exact ih9 _ _ _ _ _ _ _ _ _ _ _)
      | (with_reducible exact ih10 _ _ _ _ _ _ _ _ _ _ _)
      | (with_reducible exact ih11 _ _ _ _ _ _ _ _ _ _ _ _)
      | (with_reducible exact ih12 _ _ _ _ _ _ _ _ _ _ _ _ _)
      | (with_reducible exact pretty_appendPrettyNumber.mono _ _ _ _ _)
      | (with_reducible exact pretty_appendPrettyString.mono _ _ _ _ _)
      | (with_reducible exact pretty_appendTabs.mono _ _ _ _ _)
      | (with_reducible exact LeO.refl _)
      | (with_reducible exact LeO.none _)
      | (with_reducible refine LeO.ite ?_ ?_)
      | (with_reducible refine LeO.bind ?_ (fun _ => ?_))
      | exact LeO.none _
      | refine LeO.ite ?_ ?_
      | refine LeO.bind ?_ (fun _ => ?_)
    · intro y0 y1 y2 y3 y4 y5 y6 y7 y8 y9 y10 y11 y12 y13
      unfold pretty_appendPrettyObjectA.l0
      repeat' first
      | (with_reducible exact ih0 _ _ _ _ _ _ _ _ _ _ _ _ _)
      | (with_reducible exact ih1 _ _ _ _ _ _ _ _ _ _ _ _ _)
      | (with_reducible exact ih2 _ _ _ _ _ _ _ _ _ _ _ _ _ _)
      | (with_reducible exact ih3 _ _ _ _ _ _ _ _ _ _ _ _ _)
      | (with_reducible exact ih4 _ _ _ _ _ _ _ _ _ _ _ _ _ _)
      | (with_reducible exact ih5 _ _ _ _ _ _ _ _ _ _ _ _ _)
      | (with_reducible exact ih6 _ _ _ _ _ _ _ _ _ _ _)
      | (with_reducible exact ih7 _ _ _ _ _ _ _ _ _ _ _ _)
      | (with_reducible exact ih8 _ _ _ _ _ _ _ _ _ _ _ _ _ _)
      | (with_reducible exact ih9 _ _ _ _ _ _ _ _ _ _ _)
      | (with_reducible exact ih10 _ _ _ _ _ _ _ _ _ _ _)
      | (with_reducible exact ih11 _ _ _ _ _ _ _ _ _ _ _ _)
      | (with_reducible exact ih12 _ _ _ _ _ _ _ _ _ _ _ _ _)
      | (with_reducible exact pretty_appendPrettyNumber.mono _ _ _ _ _)
      | (with_reducible exact pretty_appendPrettyString.mono _ _ _ _ _)
      | (with_reducible exact pretty_appendTabs.mono _ _ _ _ _)
      | (with_reducible exact LeO.refl _)
      | (with_reducible exact LeO.none _)
      | (with_reducible refine LeO.ite ?_ ?_)
      | (with_reducible refine LeO.bind ?_ (fun _ => ?_))
      | exact LeO.none _
      | refine LeO.ite ?_ ?_
      | refine LeO.bind ?_ (fun _ => ?_)
    · intro y0 y1 y2 y3 y4 y5 y6 y7 y8 y9 y10 y11 y12
      unfold pretty_appendPrettyObjectA.j2
      repeat' first
      | (with_reducible exact ih0 _ _ _ _ _ _ _ _ _ _ _ _ _)
      | (with_reducible exact ih1 _ _ _ _ _ _ _ _ _ _ _ _ _)
      | (with_reducible exact ih2 _ _ _ _ _ _ _ _ _ _ _ _ _ _)
      | (with_reducible exact ih3 _ _ _ _ _ _ _ _ _ _ _ _ _)
      | (with_reducible exact ih4 _ _ _ _ _ _ _ _ _ _ _ _ _ _)
      | (with_reducible exact ih5 _ _ _ _ _ _ _ _ _ _ _ _ _)
      | (with_reducible exact ih6 _ _ _ _ _ _ _ _ _ _ _)
      | (with_reducible exact ih7 _ _ _ _ _ _ _ _ _ _ _ _)
      | (with_reducible exact ih8 _ _ _ _ _ _ _ _ _ _ _ _ _ _)
      | (with_reducible exact ih9 _ _ _ _ _ _ _ _ _ _ _)
      | (with_reducible exact ih10 _ _ _ _ _ _ _ _ _ _ _)
      | (with_reducible exact ih11 _ _ _ _ _ _ _ _ _ _ _ _)
      | (with_reducible exact ih12 _ _ _ _ _ _ _ _ _ _ _ _ _)
      | (with_reducible exact pretty_appendPrettyNumber.mono _ _ _ _ _)
      | (with_reducible exact pretty_appendPrettyString.mono _ _ _ _ _)
      | (with_reducible exact pretty_appendTabs.mono _ _ _ _ _)
      | (with_reducible exact LeO.refl _)
      | (with_reducible exact LeO.none _)
      | (with_reducible refine LeO.ite ?_ ?_)
      | (with_reducible refine LeO.bind ?_ (fun _ => ?_))
      | exact LeO.none _
      | refine LeO.ite ?_ ?_
      | refine LeO.bind ?_ (fun _ => ?_)
    · intro y0 y1 y2 y3 y4 y5 y6 y7 y8 y9 y10 y11 y12 y13
      unfold pretty_appendPrettyObjectA.j3
      repeat' first
      | (with_reducible exact ih0 _ _ _ _ _ _ _ _ _ _ _ _ _)
      | (with_reducible exact ih1 _ _ _ _ _ _ _ _ _ _ _ _ _)
      | (with_reducible exact ih2 _ _ _ _ _ _ _ _ _ _ _ _ _ _)
      | (with_reducible exact ih3 _ _ _ _ _ _ _ _ _ _ _ _ _)
      | (with_reducible exact ih4 _ _ _ _ _ _ _ _ _ _ _ _ _ _)
      | (with_reducible exact ih5 _ _ _ _ _ _ _ _ _ _ _ _ _)
      | (with_reducible exact ih6 _ _ _ _ _ _ _ _ _ _ _)
      | (with_reducible exact ih7 _ _ _ _ _ _ _ _ _ _ _ _)
      | (with_reducible exact ih8 _ _ _ _ _ _ _ _ _ _ _ _ _ _)
      | (with_reducible exact ih9 _ _ _ _ _ _ _ _ _ _ _)
      | (with_reducible exact ih10 _ _ _ _ _ _ _ _ _ _ _)
      | (with_reducible exact ih11 _ _ _ _ _ _ _ _ _ _ _ _)
      | (with_reducible exact ih12 _ _ _ _ _ _ _ _ _ _ _ _ _)
      | (with_reducible exact pretty_appendPrettyNumber.mono _ _ _ _ _)
      | (with_reducible exact pretty_appendPrettyString.mono _ _ _ _ _)
      | (with_reducible exact pretty_appendTabs.mono _ _ _ _ _)
      | (with_reducible exact LeO.refl _)
      | (with_reducible exact LeO.none _)
      | (with_reducible refine LeO.ite ?_ ?_)
      | (with_reducible refine LeO.bind ?_ (fun _ => ?_))
      | exact LeO.none _
      | refine LeO.ite ?_ ?_
      | refine LeO.bind ?_ (fun _ => ?_)
    · intro y0 y1 y2 y3 y4 y5 y6 y7 y8 y9 y10 y11 y12
      unfold pretty_appendPrettyObjectB.f
      repeat' first
      | (with_reducible exact ih0 _ _ _ _ _ _ _ _ _ _ _ _ _)
      | (with_reducible exact ih1 _ _ _ _ _ _ _ _ _ _ _ _ _)
      | (with_reducible exact ih2 _ _ _ _ _ _ _ _ _ _ _ _ _ _)
      | (with_reducible exact ih3 _ _ _ _ _ _ _ _ _ _ _ _ _)
      | (with_reducible exact ih4 _ _ _ _ _ _ _ _ _ _ _ _ _ _)
      | (with_reducible exact ih5 _ _ _ _ _ _ _ _ _ _ _ _ _)
      | (with_reducible exact ih6 _ _ _ _ _ _ _ _ _ _ _)
      | (with_reducible exact ih7 _ _ _ _ _ _ _ _ _ _ _ _)
      | (with_reducible exact ih8 _ _ _ _ _ _ _ _ _ _ _ _ _ _)
      | (with_reducible exact ih9 _ _ _ _ _ _ _ _ _ _ _)
      | (with_reducible exact ih10 _ _ _ _ _ _ _ _ _ _ _)
      | (with_reducible exact ih11 _ _ _ _ _ _ _ _ _ _ _ _)
      | (with_reducible exact ih12 _ _ _ _ _ _ _ _ _ _ _ _ _)
      | (with_reducible exact pretty_appendPrettyNumber.mono _ _ _ _ _)
      | (with_reducible exact pretty_appendPrettyString.mono _ _ _ _ _)
      | (with_reducible exact pretty_appendTabs.mono _ _ _ _ _)
      | (with_reducible exact LeO.refl _)
      | (with_reducible exact LeO.none _)
      | (with_reducible refine LeO.ite ?_ ?_)
      | (with_reducible refine LeO.bind ?_ (fun _ => ?_))
      | exact LeO.none _
      | refine LeO.ite ?_ ?_
      | refine LeO.bind ?_ (fun _ => ?_)
    · intro y0 y1 y2 y3 y4 y5 y6 y7 y8 y9 y10
      unfold pretty_appendPrettyObjectB.j1
      repeat' first
      | (with_reducible exact ih0 _ _ _ _ _ _ _ _ _ _ _ _ _)
      | (with_reducible exact ih1 _ _ _ _ _ _ _ _ _ _ _ _ _)
      | (with_reducible exact ih2 _ _ _ _ _ _ _ _ _ _ _ _ _ _)
      | (with_reducible exact ih3 _ _ _ _ _ _ _ _ _ _ _ _ _)
      | (with_reducible exact ih4 _ _ _ _ _ _ _ _ _ _ _ _ _ _)
      | (with_reducible exact ih5 _ _ _ _ _ _ _ _ _ _ _ _ _)
      | (with_reducible exact ih6 _ _ _ _ _ _ _ _ _ _ _)
      | (with_reducible exact ih7 _ _ _ _ _ _ _ _ _ _ _ _)
      | (with_reducible exact ih8 _ _ _ _ _ _ _ _ _ _ _ _ _ _)
      | (with_reducible exact ih9 _ _ _ _ _ _ _ _ _ _ _)
      | (with_reducible exact ih10 _ _ _ _ _ _ _ _ _ _ _)
      | (with_reducible exact ih11 _ _ _ _ _ _ _ _ _ _ _ _)
      | (with_reducible exact ih12 _ _ _ _ _ _ _ _ _ _ _ _ _)
      | (with_reducible exact pretty_appendPrettyNumber.mono _ _ _ _ _)
      | (with_reducible exact pretty_appendPrettyString.mono _ _ _ _ _)
      | (with_reducible exact pretty_appendTabs.mono _ _ _ _ _)
      | (with_reducible exact LeO.refl _)
      | (with_reducible exact LeO.none _)
      | (with_reducible refine LeO.ite ?_ ?_)
      | (with_reducible refine LeO.bind ?_ (fun _ => ?_))
      | exact LeO.none _
      | refine LeO.ite ?_ ?_
      | refine LeO.bind ?_ (fun _ => ?_)
    · intro y0 y1 y2 y3 y4 y5 y6 y7 y8 y9 y10 y11
      unfold pretty_appendPrettyObjectB.l0
      repeat' first
      | (with_reducible exact ih0 _ _ _ _ _ _ _ _ _ _ _ _ _)
      | (with_reducible exact ih1 _ _ _ _ _ _ _ _ _ _ _ _ _)
      | (with_reducible exact ih2 _ _ _ _ _ _ _ _ _ _ _ _ _ _)
      | (with_reducible exact ih3 _ _ _ _ _ _ _ _ _ _ _ _ _)
      | (with_reducible exact ih4 _ _ _ _ _ _ _ _ _ _ _ _ _ _)
      | (with_reducible exact ih5 _ _ _ _ _ _ _ _ _ _ _ _ _)
      | (with_reducible exact ih6 _ _ _ _ _ _ _ _ _ _ _)
      | (with_reducible exact ih7 _ _ _ _ _ _ _ _ _ _ _ _)
      | (with_reducible exact ih8 _ _ _ _ _ _ _ _ _ _ _ _ _ _)
      | (with_reducible exact ih9 _ _ _ _ _ _ _ _ _ _ _)
      | (with_reducible exact ih10 _ _ _ _ _ _ _ _ _ _ _)
      | (with_reducible exact ih11 _ _ _ _ _ _ _ _ _ _ _ _)
      | (with_reducible exact ih12 _ _ _ _ _ _ _ _ _ _ _ _ _)
      | (with_reducible exact pretty_appendPrettyNumber.mono _ _ _ _ _)
      | (with_reducible exact pretty_appendPrettyString.mono _ _ _ _ _)
      | (with_reducible exact pretty_appendTabs.mono _ _ _ _ _)
      | (with_reducible exact LeO.refl _)
      | (with_reducible exact LeO.none _)
      | (with_reducible refine LeO.ite ?_ ?_)
      | (with_reducible refine LeO.bind ?_ (fun _ => ?_))
      | exact LeO.none _
      | refine LeO.ite ?_ ?_
      | refine LeO.bind ?_ (fun _ => ?_)
    · intro y0 y1 y2 y3 y4 y5 y6 y7 y8 y9 y10 y11 y12 y13
      unfold pretty_appendPrettyObjectB.j0
      repeat' first
      | (with_reducible exact ih0 _ _ _ _ _ _ _ _ _ _ _ _ _)
      | (with_reducible exact ih1 _ _ _ _ _ _ _ _ _ _ _ _ _)
      | (with_reducible exact ih2 _ _ _ _ _ _ _ _ _ _ _ _ _ _)
      | (with_reducible exact ih3 _ _ _ _ _ _ _ _ _ _ _ _ _)
      | (with_reducible exact ih4 _ _ _ _ _ _ _ _ _ _ _ _ _ _)
      | (with_reducible exact ih5 _ _ _ _ _ _ _ _ _ _ _ _ _)
      | (with_reducible exact ih6 _ _ _ _ _ _ _ _ _ _ _)
      | (with_reducible exact ih7 _ _ _ _ _ _ _ _ _ _ _ _)
      | (with_reducible exact ih8 _ _ _ _ _ _ _ _ _ _ _ _ _ _)
      | (with_reducible exact ih9 _ _ _ _ _ _ _ _ _ _ _)
      | (with_reducible exact ih10 _ _ _ _ _ _ _ _ _ _ _)
      | (with_reducible exact ih11 _ _ _ _ _ _ _ _ _ _ _ _)
      | (with_reducible exact ih12 _ _ _ _ _ _ _ _ _ _ _ _ _)
      | (with_reducible exact pretty_appendPrettyNumber.mono _ _ _ _ _)
      | (with_reducible exact pretty_appendPrettyString.mono _ _ _ _ _)
      | (with_reducible exact pretty_appendTabs.mono _ _ _ _ _)
      | (with_reducible exact LeO.refl _)
      | (with_reducible exact LeO.none _)
      | (with_reducible refine LeO.ite ?_ ?_)
      | (with_reducible refine LeO.bind ?_ (fun _ => ?_))
      | exact LeO.none _
      | refine LeO.ite ?_ ?_
      | refine LeO.bind ?_ (fun _ => ?_)
    · intro y0 y1 y2 y3 y4 y5 y6 y7 y8 y9 y10
      unfold pretty_appendPrettyAny.f
      repeat' first
      | (with_reducible exact ih0 _ _ _ _ _ _ _ _ _ _ _ _ _)
      | (with_reducible exact ih1 _ _ _ _ _ _ _ _ _ _ _ _ _)
      | (with_reducible exact ih2 _ _ _ _ _ _ _ _ _ _ _ _ _ _)
      | (with_reducible exact ih3 _ _ _ _ _ _ _ _ _ _ _ _ _)
      | (with_reducible exact ih4 _ _ _ _ _ _ _ _ _ _ _ _ _ _)
      | (with_reducible exact ih5 _ _ _ _ _ _ _ _ _ _ _ _ _)
      | (with_reducible exact ih6 _ _ _ _ _ _ _ _ _ _ _)
      | (with_reducible exact ih7 _ _ _ _ _ _ _ _ _ _ _ _)
      | (with_reducible exact ih8 _ _ _ _ _ _ _ _ _ _ _ _ _ _)
      | (with_reducible exact ih9 _ _ _ _ _ _ _ _ _ _ _)
      | (with_reducible exact ih10 _ _ _ _ _ _ _ _ _ _ _)
      | (with_reducible exact ih11 _ _ _ _ _ _ _ _ _ _ _ _)
      | (with_reducible exact ih12 _ _ _ _ _ _ _ _ _ _ _ _ _)
      | (with_reducible exact pretty_appendPrettyNumber.mono _ _ _ _ _)
      | (with_reducible exact pretty_appendPrettyString.mono _ _ _ _ _)
      | (with_reducible exact pretty_appendTabs.mono _ _ _ _ _)
      | (with_reducible exact LeO.refl _)
      | (with_reducible exact LeO.none _)
      | (with_reducible refine LeO.ite ?_ ?_)
      | (with_reducible refine LeO.bind ?_ (fun _ => ?_))
      | exact LeO.none _
      | refine LeO.ite ?_ ?_
      | refine LeO.bind ?_ (fun _ => ?_)
    · intro y0 y1 y2 y3 y4 y5 y6 y7 y8 y9 y10
      unfold pretty_appendPrettyAny.l0
      repeat' first
      | (with_reducible exact ih0 _ _ _ _ _ _ _ _ _ _ _ _ _)
      | (with_reducible exact ih1 _ _ _ _ _ _ _ _ _ _ _ _ _)
      | (with_reducible exact ih2 _ _ _ _ _ _ _ _ _ _ _ _ _ _)
      | (with_reducible exact ih3 _ _ _ _ _ _ _ _ _ _ _ _ _)
      | (with_reducible exact ih4 _ _ _ _ _ _ _ _ _ _ _ _ _ _)
      | (with_reducible exact ih5 _ _ _ _ _ _ _ _ _ _ _ _ _)
      | (with_reducible exact ih6 _ _ _ _ _ _ _ _ _ _ _)
      | (with_reducible exact ih7 _ _ _ _ _ _ _ _ _ _ _ _)
      | (with_reducible exact ih8 _ _ _ _ _ _ _ _ _ _ _ _ _ _)
      | (with_reducible exact ih9 _ _ _ _ _ _ _ _ _ _ _)
      | (with_reducible exact ih10 _ _ _ _ _ _ _ _ _ _ _)
      | (with_reducible exact ih11 _ _ _ _ _ _ _ _ _ _ _ _)
      | (with_reducible exact ih12 _ _ _ _ _ _ _ _ _ _ _ _ _)
      | (with_reducible exact pretty_appendPrettyNumber.mono _ _ _ _ _)
      | (with_reducible exact pretty_appendPrettyString.mono _ _ _ _ _)
      | (with_reducible exact pretty_appendTabs.mono _ _ _ _ _)
      | (with_reducible exact LeO.refl _)
      | (with_reducible exact LeO.none _)
      | (with_reducible refine LeO.ite ?_ ?_)
      | (with_reducible refine LeO.bind ?_ (fun _ => ?_))
      | exact LeO.none _
      | refine LeO.ite ?_ ?_
      | refine LeO.bind ?_ (fun _ => ?_)
    · intro y0 y1 y2 y3 y4 y5 y6 y7 y8 y9 y10 y11
      unfold pretty_appendPrettyAny.j1
      repeat' first
      | (with_reducible exact ih0 _ _ _ _ _ _ _ _ _ _ _ _ _)
      | (with_reducible exact ih1 _ _ _ _ _ _ _ _ _ _ _ _ _)
      | (with_reducible exact ih2 _ _ _ _ _ _ _ _ _ _ _ _ _ _)
      | (with_reducible exact ih3 _ _ _ _ _ _ _ _ _ _ _ _ _)
      | (with_reducible exact ih4 _ _ _ _ _ _ _ _ _ _ _ _ _ _)
      | (with_reducible exact ih5 _ _ _ _ _ _ _ _ _ _ _ _ _)
      | (with_reducible exact ih6 _ _ _ _ _ _ _ _ _ _ _)
      | (with_reducible exact ih7 _ _ _ _ _ _ _ _ _ _ _ _)
      | (with_reducible exact ih8 _ _ _ _ _ _ _ _ _ _ _ _ _ _)
      | (with_reducible exact ih9 _ _ _ _ _ _ _ _ _ _ _)
      | (with_reducible exact ih10 _ _ _ _ _ _ _ _ _ _ _)
      | (with_reducible exact ih11 _ _ _ _ _ _ _ _ _ _ _ _)
      | (with_reducible exact ih12 _ _ _ _ _ _ _ _ _ _ _ _ _)
      | (with_reducible exact pretty_appendPrettyNumber.mono _ _ _ _ _)
      | (with_reducible exact pretty_appendPrettyString.mono _ _ _ _ _)
      | (with_reducible exact pretty_appendTabs.mono _ _ _ _ _)
      | (with_reducible exact LeO.refl _)
      | (with_reducible exact LeO.none _)
      | (with_reducible refine LeO.ite ?_ ?_)
      | (with_reducible refine LeO.bind ?_ (fun _ => ?_))
      | exact LeO.none _
      | refine LeO.ite ?_ ?_
      | refine LeO.bind ?_ (fun _ => ?_)
    · intro y0 y1 y2 y3 y4 y5 y6 y7 y8 y9 y10 y11 y12
      unfold pretty_appendPrettyObject.f
      repeat' first
      | (with_reducible exact ih0 _ _ _ _ _ _ _ _ _ _ _ _ _)
      | (with_reducible exact ih1 _ _ _ _ _ _ _ _ _ _ _ _ _)
      | (with_reducible exact ih2 _ _ _ _ _ _ _ _ _ _ _ _ _ _)
      | (with_reducible exact ih3 _ _ _ _ _ _ _ _ _ _ _ _ _)
      | (with_reducible exact ih4 _ _ _ _ _ _ _ _ _ _ _ _ _ _)
      | (with_reducible exact ih5 _ _ _ _ _ _ _ _ _ _ _ _ _)
      | (with_reducible exact ih6 _ _ _ _ _ _ _ _ _ _ _)
      | (with_reducible exact ih7 _ _ _ _ _ _ _ _ _ _ _ _)
      | (with_reducible exact ih8 _ _ _ _ _ _ _ _ _ _ _ _ _ _)
      | (with_reducible exact ih9 _ _ _ _ _ _ _ _ _ _ _)
      | (with_reducible exact ih10 _ _ _ _ _ _ _ _ _ _ _)
      | (with_reducible exact ih11 _ _ _ _ _ _ _ _ _ _ _ _)
      | (with_reducible exact ih12 _ _ _ _ _ _ _ _ _ _ _ _ _)
      | (with_reducible exact pretty_appendPrettyNumber.mono _ _ _ _ _)
      | (with_reducible exact pretty_appendPrettyString.mono _ _ _ _ _)
      | (with_reducible exact pretty_appendTabs.mono _ _ _ _ _)
      | (with_reducible exact LeO.refl _)
      | (with_reducible exact LeO.none _)
      | (with_reducible refine LeO.ite ?_ ?_)
      | (with_reducible refine LeO.bind ?_ (fun _ => ?_))
      | exact LeO.none _
      | refine LeO.ite ?_ ?_
      | refine LeO.bind ?_ (fun _ => ?_)
theorem pretty_appendPrettyAny.mono : ∀ a0 a1 a2 a3 a4 a5 a6 a7 a8 a9 a10 k, LeO (pretty_appendPrettyAny.f k a0 a1 a2 a3 a4 a5 a6 a7 a8 a9 a10) (pretty_appendPrettyAny.f (k + 1) a0 a1 a2 a3 a4 a5 a6 a7 a8 a9 a10) := fun a0 a1 a2 a3 a4 a5 a6 a7 a8 a9 a10 k => (pretty_appendPrettyObject.scc.mono_l k).2.2.2.2.2.2.2.2.2.1 a0 a1 a2 a3 a4 a5 a6 a7 a8 a9 a10
theorem pretty_appendPrettyObject.mono : ∀ a0 a1 a2 a3 a4 a5 a6 a7 a8 a9 a10 a11 a12 k, LeO (pretty_appendPrettyObject.f k a0 a1 a2 a3 a4 a5 a6 a7 a8 a9 a10 a11 a12) (pretty_appendPrettyObject.f (k + 1) a0 a1 a2 a3 a4 a5 a6 a7 a8 a9 a10 a11 a12) := fun a0 a1 a2 a3 a4 a5 a6 a7 a8 a9 a10 a11 a12 k => (pretty_appendPrettyObject.scc.mono_l k).2.2.2.2.2.2.2.2.2.2.2.2 a0 a1 a2 a3 a4 a5 a6 a7 a8 a9 a10 a11 a12
abbrev pretty_appendPrettyObjectA.CT (k : Nat) : Prop := ∀ (P0_ : Nat → Prop) (u9000_ : Value) (l0 : List Int) (P1_ : Nat → Prop) (A1 : Option Addr) (c1 : Nat) (l1 : List Int) (a2 : Int) (a3 : Int) (a4 : Int) (a5 : Bool) (a6 : Int) (a7 : ByteArray) (a8 : ByteArray) (a9 : Bool) (a10 : Int) (a11 : Int) (a12 : Int) (r1 : List Int) (r2 : Int) (r3 : Int) (r4 : Bool) (w0 w : World) (hB : Below w0.heap.size w0 w) (ho0 : Kd.R (Kd.int .u8) 5 w w0.heap.size P0_ u9000_ l0) (hs1 : Kd.V (Kd.int .u8) 5 w w0.heap.size (fun k_ => P1_ k_ ∧ some k_ ≠ (u9000_ : Value).ownBlock) (.slice A1 l1.length c1) l1) (h : pretty_appendPrettyObjectA.f k l0 l1 a2 a3 a4 a5 a6 a7 a8 a9 a10 a11 a12 = some (r1, r2, r3, r4)),
    Calls Try.prog 31 #[u9000_, .slice A1 l1.length c1, .int .i64 a2, .int .u8 a3, .int .u8 a4, .bool a5, .int .i64 a6, .string a7, .string a8, .bool a9, .int .i64 a10, .int .i64 a11, .int .i64 a12] w fun e w' => ∃ v0_ : Value, e = .returned (.tuple #[v0_, .int .i64 r2, .int .i64 r3, .bool r4]) ∧ Kd.R (Kd.int .u8) 5 w' w0.heap.size (fun k_ => (P0_ k_ ∨ w.heap.size ≤ k_)) v0_ r1 ∧ Below w0.heap.size w0 w' ∧ Kept w w' (fun k_ => P0_ k_)
abbrev pretty_appendPrettyObject.CT (k : Nat) : Prop := ∀ (P0_ : Nat → Prop) (u9000_ : Value) (l0 : List Int) (P1_ : Nat → Prop) (A1 : Option Addr) (c1 : Nat) (l1 : List Int) (a2 : Int) (a3 : Int) (a4 : Int) (a5 : Bool) (a6 : Int) (a7 : ByteArray) (a8 : ByteArray) (a9 : Bool) (a10 : Int) (a11 : Int) (a12 : Int) (r1 : List Int) (r2 : Int) (r3 : Int) (r4 : Bool) (w0 w : World) (hB : Below w0.heap.size w0 w) (ho0 : Kd.R (Kd.int .u8) 5 w w0.heap.size P0_ u9000_ l0) (hs1 : Kd.V (Kd.int .u8) 5 w w0.heap.size (fun k_ => P1_ k_ ∧ some k_ ≠ (u9000_ : Value).ownBlock) (.slice A1 l1.length c1) l1) (h : pretty_appendPrettyObject.f k l0 l1 a2 a3 a4 a5 a6 a7 a8 a9 a10 a11 a12 = some (r1, r2, r3, r4)),
    Calls Try.prog 31 #[u9000_, .slice A1 l1.length c1, .int .i64 a2, .int .u8 a3, .int .u8 a4, .bool a5, .int .i64 a6, .string a7, .string a8, .bool a9, .int .i64 a10, .int .i64 a11, .int .i64 a12] w fun e w' => ∃ v0_ : Value, e = .returned (.tuple #[v0_, .int .i64 r2, .int .i64 r3, .bool r4]) ∧ Kd.R (Kd.int .u8) 5 w' w0.heap.size (fun k_ => (P0_ k_ ∨ w.heap.size ≤ k_)) v0_ r1 ∧ Below w0.heap.size w0 w' ∧ Kept w w' (fun k_ => P0_ k_)
abbrev pretty_appendPrettyObjectB.CT (k : Nat) : Prop := ∀ (P0_ : Nat → Prop) (u9000_ : Value) (l0 : List Int) (P1_ : Nat → Prop) (A1 : Option Addr) (c1 : Nat) (l1 : List Int) (a2 : Int) (a3 : Int) (a4 : Int) (a5 : Bool) (a6 : Int) (a7 : ByteArray) (a8 : ByteArray) (a9 : Bool) (a10 : Int) (a11 : Int) (a12 : Int) (r1 : List Int) (r2 : Int) (r3 : Int) (r4 : Bool) (w0 w : World) (hB : Below w0.heap.size w0 w) (ho0 : Kd.R (Kd.int .u8) 5 w w0.heap.size P0_ u9000_ l0) (hs1 : Kd.V (Kd.int .u8) 5 w w0.heap.size (fun k_ => P1_ k_ ∧ some k_ ≠ (u9000_ : Value).ownBlock) (.slice A1 l1.length c1) l1) (h : pretty_appendPrettyObjectB.f k l0 l1 a2 a3 a4 a5 a6 a7 a8 a9 a10 a11 a12 = some (r1, r2, r3, r4)),
    Calls Try.prog 31 #[u9000_, .slice A1 l1.length c1, .int .i64 a2, .int .u8 a3, .int .u8 a4, .bool a5, .int .i64 a6, .string a7, .string a8, .bool a9, .int .i64 a10, .int .i64 a11, .int .i64 a12] w fun e w' => ∃ v0_ : Value, e = .returned (.tuple #[v0_, .int .i64 r2, .int .i64 r3, .bool r4]) ∧ Kd.R (Kd.int .u8) 5 w' w0.heap.size (fun k_ => (P0_ k_ ∨ w.heap.size ≤ k_)) v0_ r1 ∧ Below w0.heap.size w0 w' ∧ Kept w w' (fun k_ => P0_ k_)
abbrev pretty_appendPrettyAny.CT (k : Nat) : Prop := ∀ (P0_ : Nat → Prop) (u9000_ : Value) (l0 : List Int) (P1_ : Nat → Prop) (A1 : Option Addr) (c1 : Nat) (l1 : List Int) (a2 : Int) (a3 : Bool) (a4 : Int) (a5 : ByteArray) (a6 : ByteArray) (a7 : Bool) (a8 : Int) (a9 : Int) (a10 : Int) (r1 : List Int) (r2 : Int) (r3 : Int) (r4 : Bool) (w0 w : World) (hB : Below w0.heap.size w0 w) (ho0 : Kd.R (Kd.int .u8) 5 w w0.heap.size P0_ u9000_ l0) (hs1 : Kd.V (Kd.int .u8) 5 w w0.heap.size (fun k_ => P1_ k_ ∧ some k_ ≠ (u9000_ : Value).ownBlock) (.slice A1 l1.length c1) l1) (h : pretty_appendPrettyAny.f k l0 l1 a2 a3 a4 a5 a6 a7 a8 a9 a10 = some (r1, r2, r3, r4)),
    Calls Try.prog 24 #[u9000_, .slice A1 l1.length c1, .int .i64 a2, .bool a3, .int .i64 a4, .string a5, .string a6, .bool a7, .int .i64 a8, .int .i64 a9, .int .i64 a10] w fun e w' => ∃ v0_ : Value, e = .returned (.tuple #[v0_, .int .i64 r2, .int .i64 r3, .bool r4]) ∧ Kd.R (Kd.int .u8) 5 w' w0.heap.size (fun k_ => (P0_ k_ ∨ w.heap.size ≤ k_)) v0_ r1 ∧ Below w0.heap.size w0 w' ∧ Kept w w' (fun k_ => P0_ k_)
end Go.Proofs.Ytapgjhgjhcfmoaa.PFnPrDefaultLaid
