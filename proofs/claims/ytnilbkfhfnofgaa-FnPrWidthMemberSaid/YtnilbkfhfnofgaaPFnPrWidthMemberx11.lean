/- Contracts of Go functions of this seat: a Lean function over numbers and lists for each, and a proof that the Go function returns what it gives. Made by program. -/
import Derived.Test.YtnilbkfhfnofgaaPFnPrWidthMemberx0
namespace Go.Proofs.Ytnilbkfhfnofgaa.PFnPrWidthMember
open Go.RowKit Go.Proofs.YtnilbkfhfnofgaaW.PrintWords Go.Proofs.YtnilbkfhfnofgaaW.PrintLast Go.Proofs.YtnilbkfhfnofgaaW.PrintMore
attribute [local go_sem] max2_int min2_int max_two min_two max_three min_three max_four min_four   -- for this text's walks alone
set_option linter.unusedVariables false
set_option linter.unusedSimpArgs false
/-! ### pNu: function 35 -/
def pNu.l0 : Nat → List Int → List Int → Int → Int → Int → Option (List Int × Int × Int × Bool)
  | 0, _, _, _, _, _ => none
  | k + 1, x0, x1, x2, x3, x12 => if x2 < (x1.length : Int) then (if 0 ≤ x2 then (if (rd x1 x2) ≤ 32 then (if 0 ≤ x12 then (if x12 ≤ x2 then (if x2 ≤ (x1.length : Int) then ((some ((x1.take (x2 : Int).toNat).drop (x12 : Int).toNat : List Int)).bind fun y450 => (if x0.length + y450.length < 140737488355328 then (some ((x0 ++ y450), x2, x3, true)) else (none))) else (none)) else (none)) else (none)) else (if (rd x1 x2) = 44 then (if 0 ≤ x12 then (if x12 ≤ x2 then (if x2 ≤ (x1.length : Int) then ((some ((x1.take (x2 : Int).toNat).drop (x12 : Int).toNat : List Int)).bind fun y458 => (if x0.length + y458.length < 140737488355328 then (some ((x0 ++ y458), x2, x3, true)) else (none))) else (none)) else (none)) else (none)) else (if (rd x1 x2) = 58 then (none) else (if (rd x1 x2) = 93 then (if 0 ≤ x12 then (if x12 ≤ x2 then (if x2 ≤ (x1.length : Int) then ((some ((x1.take (x2 : Int).toNat).drop (x12 : Int).toNat : List Int)).bind fun y467 => (if x0.length + y467.length < 140737488355328 then (some ((x0 ++ y467), x2, x3, true)) else (none))) else (none)) else (none)) else (none)) else (if (rd x1 x2) = 125 then (none) else (pNu.l0 k x0 x1 (wrap64 (x2 + 1)) x3 x12)))))) else (none)) else (none)
def pNu.f (k : Nat) (l0 : List Int) (l1 : List Int) (a2 : Int) (a3 : Int) : Option (List Int × Int × Int × Bool) := pNu.l0 k l0 l1 (wrap64 (a2 + 1)) a3 a2
theorem pNu.mono_l : ∀ k, (∀ y0 y1 y2 y3 y4, LeO (pNu.l0 k y0 y1 y2 y3 y4) (pNu.l0 (k + 1) y0 y1 y2 y3 y4))
 | 0 => fun _ _ _ _ _ r h => by simp [pNu.l0] at h
 | k + 1 => by
  have ih0 := pNu.mono_l k
  ·
   intro y0 y1 y2 y3 y4
   unfold pNu.l0
   repeat' first | (with_reducible first | apply ih0 | apply LeO.refl | apply LeO.none | refine LeO.ite ?_ ?_ | refine LeO.bind ?_ (fun _ => ?_)) | apply ih0 | apply LeO.none | refine LeO.ite ?_ ?_ | refine LeO.bind ?_ (fun _ => ?_)
theorem pNu.mono : ∀ a0 a1 a2 a3 k, LeO (pNu.f k a0 a1 a2 a3) (pNu.f (k + 1) a0 a1 a2 a3) := by
 intro a0 a1 a2 a3 k
 have ih0 := pNu.mono_l k
 unfold pNu.f
 repeat' first | (with_reducible first | apply ih0 | apply LeO.refl | apply LeO.none | refine LeO.ite ?_ ?_ | refine LeO.bind ?_ (fun _ => ?_)) | apply ih0 | apply LeO.none | refine LeO.ite ?_ ?_ | refine LeO.bind ?_ (fun _ => ?_)
set_option maxHeartbeats 8000000 in
set_option maxRecDepth 100000 in
theorem pNu.calls (k : Nat) (P0_ : Nat → Prop) (u9000_ : Value) (l0 : List Int) (A1 : Option Addr) (c1 : Nat) (l1 : List Int) (a2 : Int) (a3 : Int) (r1 : List Int) (r2 : Int) (r3 : Int) (r4 : Bool) (w0 w : World) (hB : Below w0.heap.size w0 w) (ho0 : Kd.R (Kd.int .u8) 5 w w0.heap.size P0_ u9000_ l0) (hr1 : ∀ W_, Kept w W_ (fun k_ => P0_ k_) → Kd.C (Kd.int .u8) W_ A1 l1.length l1) (hc1 : l1.length ≤ c1) (h : pNu.f k l0 l1 a2 a3 = some (r1, r2, r3, r4)) :
  Calls Try.prog 35 #[u9000_, .slice A1 l1.length c1, .int .i64 a2, .int .i64 a3] w fun e w' => ∃ v0_ : Value, e = .returned (.tuple #[v0_, .int .i64 r2, .int .i64 r3, .bool r4]) ∧ Kd.R (Kd.int .u8) 5 w' w0.heap.size (fun k_ => (P0_ k_ ∨ w.heap.size ≤ k_)) v0_ r1 ∧ Below w0.heap.size w0 w' ∧ Kept w w' (fun k_ => P0_ k_) := by
 have HO0 := a_ (show Kd.R (Kd.int .u8) 5 w w0.heap.size (fun k_ => (P0_ k_ ∨ w.heap.size ≤ k_)) u9000_ l0 from Kd.R_mono ho0 (fun k_ hk => (.inl hk)))
 have HR1 := a_ hr1
 have HC1 := a_ hc1
 clear hr1 hc1
 have HK := a_ (Kept.refl w (fun k_ => P0_ k_))
 have HW0 := a_ hB.size
 have HB := a_ hB
 clear hB
 have H : (pNu.l0 k l0 l1 (wrap64 (a2 + 1)) a3 a2) = some (r1, r2, r3, r4) := h
 clear h
 have H' := a_ H
 clear H
 go_enter Try.func35, Try.ntmps35
 go_wp2
 (try simp only [Act.put, List.setIfInBounds_toArray, List.set_cons_zero, List.set_cons_succ])
 go_loopg [2] k (fun kq v2 w' => ∃ (x2_1 : Int), v2 = .int .i64 x2_1 ∧ Aside0 (pNu.l0 kq l0 l1 x2_1 a3 a2 = some (r1, r2, r3, r4)) ∧ Aside0 (kq ≤ k) ∧ Aside0 (Kd.R (Kd.int .u8) 5 w' w0.heap.size (fun k_ => (P0_ k_ ∨ w.heap.size ≤ k_)) u9000_ l0) ∧ Aside0 (Kept w w' (fun k_ => P0_ k_)) ∧ Aside0 (Below w0.heap.size w0 w'))
 case atStart => exact ⟨(wrap64 (a2 + 1)), rl_, H', ⟨Nat.le_refl _⟩, ⟨rp_ HO0⟩, ⟨kp_ HK⟩, ⟨bl_ HB⟩⟩
 case round =>
  clear H'
  (try clear c1); (try clear p2); (try clear c3)
  obtain ⟨x2_1, rfl, HA, HK1, HO_0, HK, HB⟩ := hrel
  cases gk with
  | zero => exact absurd HA.out (by simp [pNu.l0])
  | succ k1 =>
   have H := HA.out
   clear HA
   simp only [pNu.l0] at H
   by_cases c5 : x2_1 < (l1.length : Int)
   rotate_left
   ·
    rw [if_neg c5] at H
    exact absurd H (by simp)
   rw [if_pos c5] at H
   have c5b0 : decide (x2_1 < (l1.length : Int)) = true := decide_eq_true c5
   clear c5
   by_cases c6 : 0 ≤ x2_1
   rotate_left
   ·
    rw [if_neg c6] at H
    exact absurd H (by simp)
   rw [if_pos c6] at H
   have c6b0 : decide (0 ≤ x2_1) = true := decide_eq_true c6
   clear c6
   by_cases c7 : (rd l1 x2_1) ≤ 32
   ·
    rw [if_pos c7] at H
    have c7b0 : decide ((rd l1 x2_1) ≤ 32) = true := decide_eq_true c7
    clear c7
    by_cases c8 : 0 ≤ a2
    rotate_left
    ·
     rw [if_neg c8] at H
     exact absurd H (by simp)
    rw [if_pos c8] at H
    have c8b0 := eq_true c8
    have c8b1 : decide (0 ≤ a2) = true := decide_eq_true c8
    clear c8
    by_cases c9 : a2 ≤ x2_1
    rotate_left
    ·
     rw [if_neg c9] at H
     exact absurd H (by simp)
    rw [if_pos c9] at H
    have c9b0 := eq_true c9
    have c9b1 : decide (a2 ≤ x2_1) = true := decide_eq_true c9
    clear c9
    by_cases c10 : x2_1 ≤ (l1.length : Int)
    rotate_left
    ·
     rw [if_neg c10] at H
     exact absurd H (by simp)
    rw [if_pos c10] at H
    have c10b0 := eq_true c10
    have c10b1 : decide (x2_1 ≤ (l1.length : Int)) = true := decide_eq_true c10
    clear c10
    obtain ⟨y450, hy450⟩ : ∃ y_ : List Int, y_ = ((l1.take (x2_1 : Int).toNat).drop (a2 : Int).toNat) := ⟨_, rfl⟩
    replace H := lt_ H hy450
    have Ny450 := a_ hy450
    clear hy450
    by_cases c11 : l0.length + y450.length < 140737488355328
    rotate_left
    ·
     rw [if_neg c11] at H
     exact absurd H (by simp)
    rw [if_pos c11] at H
    have LMc11 := a_ c11
    clear c11
    obtain ⟨y454, hy454⟩ : ∃ y_ : List Int, y_ = (l0 ++ y450) := ⟨_, rfl⟩
    replace H : (some (y454, x2_1, a3, true)) = some (r1, r2, r3, r4) := by first | exact lt_ H hy454 | (rw [hy454]; exact H) | exact H
    have Ny454 := a_ hy454
    clear hy454
    simp only [Option.some.injEq, Prod.mk.injEq] at H
    obtain ⟨rfl, rfl, rfl, rfl⟩ := H
    have p449 : 0 ≤ (x2_1 : Int) := of_decide_eq_true as_
    have q449 : x2_1 < (l1.length : Int) := of_decide_eq_true as_
    obtain ⟨ad449, e449, hx449_0⟩ := Kd.at_int (Kd.C_kept_now HR1.out HK.out) x2_1 p449 q449
    cases e449
    replace p449 := eq_true p449
    replace q449 := eq_true q449
    have q12 : (x2_1 : Int) ≤ ((l1.length : Int) : Int) := of_decide_eq_true as_
    obtain ⟨i012, hi012, _, hsz12, _⟩ := info_parts info5
    have hroom12 : l1.length ≤ c1 := HC1.out
    have hC12 : Kd.C (Kd.int .u8) _ (some ad449) l1.length l1 := (Kd.C_kept_now HR1.out HK.out)
    have ql12 : (a2 : Int) ≤ (x2_1 : Int) := of_decide_eq_true as_
    have q012 : (0 : Int) ≤ (a2 : Int) := of_decide_eq_true as_
    have hcut12 := cut_mid (P := Try.prog) 40 5 .i64 .i64 Try.underlying40 hi012 1 hsz12 (some ad449) l1.length c1 a2 x2_1 q012 ql12 q12 hroom12
    have hr12 := Kd.C_mid (lo := (a2 : Int).toNat) (hi := (x2_1 : Int).toNat) (c := c1) hC12 (by omega) (by omega) hroom12
    obtain ⟨A12, hA12⟩ : ∃ A1_, A1_ = (if c1 = (a2 : Int).toNat then (some ad449) else ((some ad449) : Option Addr).map (·.add ((a2 : Int).toNat * 1))) := ⟨_, rfl⟩
    obtain ⟨c12, hc12⟩ : ∃ c1_, c1_ = c1 - (a2 : Int).toNat := ⟨_, rfl⟩
    have hy12 : y450.length = (x2_1 : Int).toNat - (a2 : Int).toNat := (by rw [Ny450.out, List.length_drop, List.length_take] <;> omega)
    rw [show ((l1).take (x2_1 : Int).toNat).drop (a2 : Int).toNat = y450 from Ny450.out.symm] at hr12
    replace hr12 : Kd.C (Kd.int .u8) _ A12 y450.length y450 := (by rw [hA12]; exact hr12)
    rw [← hy12, ← hA12, ← hc12] at hcut12
    have HR453 := a_ hr12
    have HC453 := a_ (show y450.length ≤ c12 from by rw [hy12, hc12]; exact Nat.sub_le_sub_right (Nat.le_trans (by omega) hroom12) _)
    clear hr12 hC12 hroom12 hi012 hsz12 hc12
    have KY12 := a_ hy12
    have KA12 := a_ hA12
    clear hy12 hA12
    have KL12 := a_ (show (x2_1 : Int).toNat ≤ l1.length from by omega)
    have KM12 := a_ (show (a2 : Int).toNat ≤ (x2_1 : Int).toNat from by omega)
    replace q12 := eq_true q12
    go_wp2_with (first | ((with_reducible refine gate_builtin (b := .append) (xs := #[.tmp 55, .tmp 59]) rfl ?_); at_builtin; refine Kd.R_append_rows (Kd.int .u8) (w0 := w0) w0.heap.size rfl (.tmp 55) (.tmp 59) 40 5 (.int .u8 0) 1 rfl Try.underlying40 info5 rfl (by decide) (by omega) u9000_ l0 y450 _ _ _ (fun k_ => (P0_ k_ ∨ w.heap.size ≤ k_)) (fun _ => False) rfl rfl ?aO ?aR (fun _ _ h => h) (fun _ h => h.elim) ?aF ?aB ?aS ?aL ?_; (case aR => repeat (first | exact (by repeat (first | (with_reducible exact HR453.out) | (with_reducible refine Kd.C_alloc ?_ _) | (with_reducible refine Kd.C_drewN ?_ _) | (with_reducible refine Kd.C_drew ?_) | exact HR453.out)) | (with_reducible refine Kd.C_alloc ?_ _) | (with_reducible refine Kd.C_drewN ?_ _) | (with_reducible refine Kd.C_drew ?_))); (case aB => exact (bl_ HB)); (case aF => exact (ki_ (kz_ HK))); (case aO => exact (rp_ HO_0)); (case aS => exact (below_size (bl_ HB))); (case aL => have := LMc11.out; omega); intro v455 w13 ho hb hg hat; rw [← Ny454.out] at ho; replace HB := a_ hb; replace HR453 := a_ ((show Kd.C (Kd.int .u8) w13 A12 y450.length y450 from by rw [Ny450.out, KA12.out]; exact Kd.C_mid (lo := (a2 : Int).toNat) (hi := (x2_1 : Int).toNat) (c := c1) (Kd.C_kept_now HR1.out (show Kept w w13 (fun k_ => P0_ k_) from (Kept.of_grown (S := (fun k_ => P0_ k_)) hg (kp_ HK) (fun k_ e_ => (HO_0.out.1 k_ e_))))) KM12.out KL12.out HC1.out)); replace HK := a_ (Kept.of_grown (S := (fun k_ => P0_ k_)) hg (kp_ HK) (fun k_ e_ => (HO_0.out.1 k_ e_))); have HO456 := a_ ho; clear HO_0; clear ho hb hg hat))
    refine bodyPost_ret (results_list (rs := [.tmp 8, .tmp 9, .tmp 10, .tmp 11]) rfl (by simp) (.tmp (.tmp (.tmp (.tmp .nil))))) rfl ?_
    exact ⟨_, by first | rfl | (simp [errW_none, errW_some] <;> rfl) | (simp [*, errW_none, errW_some] <;> rfl), rp_ HO456, bl_ HB, kp_ HK⟩
   rw [if_neg c7] at H
   have c7b0 : decide ((rd l1 x2_1) ≤ 32) = false := decide_eq_false c7
   clear c7
   by_cases c14 : (rd l1 x2_1) = 44
   ·
    rw [if_pos c14] at H
    have c14b0 : ((rd l1 x2_1) == 44) = true := beq_iff_eq.mpr c14
    have c14b1 : ((rd l1 x2_1) != 44) = false := bne_eq_false_iff_eq.mpr c14
    clear c14
    by_cases c15 : 0 ≤ a2
    rotate_left
    ·
     rw [if_neg c15] at H
     exact absurd H (by simp)
    rw [if_pos c15] at H
    have c15b0 := eq_true c15
    have c15b1 : decide (0 ≤ a2) = true := decide_eq_true c15
    clear c15
    by_cases c16 : a2 ≤ x2_1
    rotate_left
    ·
     rw [if_neg c16] at H
     exact absurd H (by simp)
    rw [if_pos c16] at H
    have c16b0 := eq_true c16
    have c16b1 : decide (a2 ≤ x2_1) = true := decide_eq_true c16
    clear c16
    by_cases c17 : x2_1 ≤ (l1.length : Int)
    rotate_left
    ·
     rw [if_neg c17] at H
     exact absurd H (by simp)
    rw [if_pos c17] at H
    have c17b0 := eq_true c17
    have c17b1 : decide (x2_1 ≤ (l1.length : Int)) = true := decide_eq_true c17
    clear c17
    obtain ⟨y458, hy458⟩ : ∃ y_ : List Int, y_ = ((l1.take (x2_1 : Int).toNat).drop (a2 : Int).toNat) := ⟨_, rfl⟩
    replace H := lt_ H hy458
    have Ny458 := a_ hy458
    clear hy458
    by_cases c18 : l0.length + y458.length < 140737488355328
    rotate_left
    ·
     rw [if_neg c18] at H
     exact absurd H (by simp)
    rw [if_pos c18] at H
    have LMc18 := a_ c18
    clear c18
    obtain ⟨y462, hy462⟩ : ∃ y_ : List Int, y_ = (l0 ++ y458) := ⟨_, rfl⟩
    replace H : (some (y462, x2_1, a3, true)) = some (r1, r2, r3, r4) := by first | exact lt_ H hy462 | (rw [hy462]; exact H) | exact H
    have Ny462 := a_ hy462
    clear hy462
    simp only [Option.some.injEq, Prod.mk.injEq] at H
    obtain ⟨rfl, rfl, rfl, rfl⟩ := H
    have p449 : 0 ≤ (x2_1 : Int) := of_decide_eq_true as_
    have q449 : x2_1 < (l1.length : Int) := of_decide_eq_true as_
    obtain ⟨ad449, e449, hx449_0⟩ := Kd.at_int (Kd.C_kept_now HR1.out HK.out) x2_1 p449 q449
    cases e449
    replace p449 := eq_true p449
    replace q449 := eq_true q449
    have p457 : 0 ≤ (x2_1 : Int) := of_decide_eq_true as_
    have q457 : x2_1 < (l1.length : Int) := of_decide_eq_true as_
    obtain ⟨ad457, e457, hx457_0⟩ := Kd.at_int (Kd.C_kept_now HR1.out HK.out) x2_1 p457 q457
    obtain rfl : ad449 = ad457 := (by injection e457)
    replace p457 := eq_true p457
    replace q457 := eq_true q457
    have q19 : (x2_1 : Int) ≤ ((l1.length : Int) : Int) := of_decide_eq_true as_
    obtain ⟨i019, hi019, _, hsz19, _⟩ := info_parts info5
    have hroom19 : l1.length ≤ c1 := HC1.out
    have hC19 : Kd.C (Kd.int .u8) _ (some ad449) l1.length l1 := (Kd.C_kept_now HR1.out HK.out)
    have ql19 : (a2 : Int) ≤ (x2_1 : Int) := of_decide_eq_true as_
    have q019 : (0 : Int) ≤ (a2 : Int) := of_decide_eq_true as_
    have hcut19 := cut_mid (P := Try.prog) 40 5 .i64 .i64 Try.underlying40 hi019 1 hsz19 (some ad449) l1.length c1 a2 x2_1 q019 ql19 q19 hroom19
    have hr19 := Kd.C_mid (lo := (a2 : Int).toNat) (hi := (x2_1 : Int).toNat) (c := c1) hC19 (by omega) (by omega) hroom19
    obtain ⟨A19, hA19⟩ : ∃ A1_, A1_ = (if c1 = (a2 : Int).toNat then (some ad449) else ((some ad449) : Option Addr).map (·.add ((a2 : Int).toNat * 1))) := ⟨_, rfl⟩
    obtain ⟨c19, hc19⟩ : ∃ c1_, c1_ = c1 - (a2 : Int).toNat := ⟨_, rfl⟩
    have hy19 : y458.length = (x2_1 : Int).toNat - (a2 : Int).toNat := (by rw [Ny458.out, List.length_drop, List.length_take] <;> omega)
    rw [show ((l1).take (x2_1 : Int).toNat).drop (a2 : Int).toNat = y458 from Ny458.out.symm] at hr19
    replace hr19 : Kd.C (Kd.int .u8) _ A19 y458.length y458 := (by rw [hA19]; exact hr19)
    rw [← hy19, ← hA19, ← hc19] at hcut19
    have HR461 := a_ hr19
    have HC461 := a_ (show y458.length ≤ c19 from by rw [hy19, hc19]; exact Nat.sub_le_sub_right (Nat.le_trans (by omega) hroom19) _)
    clear hr19 hC19 hroom19 hi019 hsz19 hc19
    have KY19 := a_ hy19
    have KA19 := a_ hA19
    clear hy19 hA19
    have KL19 := a_ (show (x2_1 : Int).toNat ≤ l1.length from by omega)
    have KM19 := a_ (show (a2 : Int).toNat ≤ (x2_1 : Int).toNat from by omega)
    replace q19 := eq_true q19
    go_wp2_with (first | ((with_reducible refine gate_builtin (b := .append) (xs := #[.tmp 55, .tmp 59]) rfl ?_); at_builtin; refine Kd.R_append_rows (Kd.int .u8) (w0 := w0) w0.heap.size rfl (.tmp 55) (.tmp 59) 40 5 (.int .u8 0) 1 rfl Try.underlying40 info5 rfl (by decide) (by omega) u9000_ l0 y458 _ _ _ (fun k_ => (P0_ k_ ∨ w.heap.size ≤ k_)) (fun _ => False) rfl rfl ?aO ?aR (fun _ _ h => h) (fun _ h => h.elim) ?aF ?aB ?aS ?aL ?_; (case aR => repeat (first | exact (by repeat (first | (with_reducible exact HR461.out) | (with_reducible refine Kd.C_alloc ?_ _) | (with_reducible refine Kd.C_drewN ?_ _) | (with_reducible refine Kd.C_drew ?_) | exact HR461.out)) | (with_reducible refine Kd.C_alloc ?_ _) | (with_reducible refine Kd.C_drewN ?_ _) | (with_reducible refine Kd.C_drew ?_))); (case aB => exact (bl_ HB)); (case aF => exact (ki_ (kz_ HK))); (case aO => exact (rp_ HO_0)); (case aS => exact (below_size (bl_ HB))); (case aL => have := LMc18.out; omega); intro v463 w20 ho hb hg hat; rw [← Ny462.out] at ho; replace HB := a_ hb; replace HR461 := a_ ((show Kd.C (Kd.int .u8) w20 A19 y458.length y458 from by rw [Ny458.out, KA19.out]; exact Kd.C_mid (lo := (a2 : Int).toNat) (hi := (x2_1 : Int).toNat) (c := c1) (Kd.C_kept_now HR1.out (show Kept w w20 (fun k_ => P0_ k_) from (Kept.of_grown (S := (fun k_ => P0_ k_)) hg (kp_ HK) (fun k_ e_ => (HO_0.out.1 k_ e_))))) KM19.out KL19.out HC1.out)); replace HK := a_ (Kept.of_grown (S := (fun k_ => P0_ k_)) hg (kp_ HK) (fun k_ e_ => (HO_0.out.1 k_ e_))); have HO464 := a_ ho; clear HO_0; clear ho hb hg hat))
    refine bodyPost_ret (results_list (rs := [.tmp 8, .tmp 9, .tmp 10, .tmp 11]) rfl (by simp) (.tmp (.tmp (.tmp (.tmp .nil))))) rfl ?_
    exact ⟨_, by first | rfl | (simp [errW_none, errW_some] <;> rfl) | (simp [*, errW_none, errW_some] <;> rfl), rp_ HO464, bl_ HB, kp_ HK⟩
   rw [if_neg c14] at H
   have c14b0 : ((rd l1 x2_1) == 44) = false := beq_eq_false_iff_ne.mpr c14
   have c14b1 : ((rd l1 x2_1) != 44) = true := bne_iff_ne.mpr c14
   by_cases c21 : (rd l1 x2_1) = 58
   ·
    rw [if_pos c21] at H
    exact absurd H (by simp)
   rw [if_neg c21] at H
   have c21b0 : ((rd l1 x2_1) == 58) = false := beq_eq_false_iff_ne.mpr c21
   have c21b1 : ((rd l1 x2_1) != 58) = true := bne_iff_ne.mpr c21
   by_cases c22 : (rd l1 x2_1) = 93
   rotate_left
   ·
    rw [if_neg c22] at H
    have c22b0 : ((rd l1 x2_1) == 93) = false := beq_eq_false_iff_ne.mpr c22
    have c22b1 : ((rd l1 x2_1) != 93) = true := bne_iff_ne.mpr c22
    by_cases c29 : (rd l1 x2_1) = 125
    ·
     rw [if_pos c29] at H
     exact absurd H (by simp)
    rw [if_neg c29] at H
    have c29b0 : ((rd l1 x2_1) == 125) = false := beq_eq_false_iff_ne.mpr c29
    have c29b1 : ((rd l1 x2_1) != 125) = true := bne_iff_ne.mpr c29
    have H' := a_ H
    clear H
    have p449 : 0 ≤ (x2_1 : Int) := of_decide_eq_true as_
    have q449 : x2_1 < (l1.length : Int) := of_decide_eq_true as_
    obtain ⟨ad449, e449, hx449_0⟩ := Kd.at_int (Kd.C_kept_now HR1.out HK.out) x2_1 p449 q449
    cases e449
    replace p449 := eq_true p449
    replace q449 := eq_true q449
    have p457 : 0 ≤ (x2_1 : Int) := of_decide_eq_true as_
    have q457 : x2_1 < (l1.length : Int) := of_decide_eq_true as_
    obtain ⟨ad457, e457, hx457_0⟩ := Kd.at_int (Kd.C_kept_now HR1.out HK.out) x2_1 p457 q457
    obtain rfl : ad449 = ad457 := (by injection e457)
    replace p457 := eq_true p457
    replace q457 := eq_true q457
    have p465 : 0 ≤ (x2_1 : Int) := of_decide_eq_true as_
    have q465 : x2_1 < (l1.length : Int) := of_decide_eq_true as_
    obtain ⟨ad465, e465, hx465_0⟩ := Kd.at_int (Kd.C_kept_now HR1.out HK.out) x2_1 p465 q465
    obtain rfl : ad449 = ad465 := (by injection e465)
    replace p465 := eq_true p465
    replace q465 := eq_true q465
    have p466 : 0 ≤ (x2_1 : Int) := of_decide_eq_true as_
    have q466 : x2_1 < (l1.length : Int) := of_decide_eq_true as_
    obtain ⟨ad466, e466, hx466_0⟩ := Kd.at_int (Kd.C_kept_now HR1.out HK.out) x2_1 p466 q466
    obtain rfl : ad449 = ad466 := (by injection e466)
    replace p466 := eq_true p466
    replace q466 := eq_true q466
    have p474 : 0 ≤ (x2_1 : Int) := of_decide_eq_true as_
    have q474 : x2_1 < (l1.length : Int) := of_decide_eq_true as_
    obtain ⟨ad474, e474, hx474_0⟩ := Kd.at_int (Kd.C_kept_now HR1.out HK.out) x2_1 p474 q474
    obtain rfl : ad449 = ad474 := (by injection e474)
    replace p474 := eq_true p474
    replace q474 := eq_true q474
    go_wp2
    go_roundg k1
    case measure => have := HK1.out; omega
    case rel => exact ⟨(wrap64 (x2_1 + 1)), rl_, H', ⟨by have := HK1.out; omega⟩, ⟨rp_ HO_0⟩, ⟨kp_ HK⟩, ⟨bl_ HB⟩⟩
   rw [if_pos c22] at H
   have c22b0 : ((rd l1 x2_1) == 93) = true := beq_iff_eq.mpr c22
   have c22b1 : ((rd l1 x2_1) != 93) = false := bne_eq_false_iff_eq.mpr c22
   clear c22
   by_cases c23 : 0 ≤ a2
   rotate_left
   ·
    rw [if_neg c23] at H
    exact absurd H (by simp)
   rw [if_pos c23] at H
   have c23b0 := eq_true c23
   have c23b1 : decide (0 ≤ a2) = true := decide_eq_true c23
   clear c23
   by_cases c24 : a2 ≤ x2_1
   rotate_left
   ·
    rw [if_neg c24] at H
    exact absurd H (by simp)
   rw [if_pos c24] at H
   have c24b0 := eq_true c24
   have c24b1 : decide (a2 ≤ x2_1) = true := decide_eq_true c24
   clear c24
   by_cases c25 : x2_1 ≤ (l1.length : Int)
   rotate_left
   ·
    rw [if_neg c25] at H
    exact absurd H (by simp)
   rw [if_pos c25] at H
   have c25b0 := eq_true c25
   have c25b1 : decide (x2_1 ≤ (l1.length : Int)) = true := decide_eq_true c25
   clear c25
   obtain ⟨y467, hy467⟩ : ∃ y_ : List Int, y_ = ((l1.take (x2_1 : Int).toNat).drop (a2 : Int).toNat) := ⟨_, rfl⟩
   replace H := lt_ H hy467
   have Ny467 := a_ hy467
   clear hy467
   by_cases c26 : l0.length + y467.length < 140737488355328
   rotate_left
   ·
    rw [if_neg c26] at H
    exact absurd H (by simp)
   rw [if_pos c26] at H
   have LMc26 := a_ c26
   clear c26
   obtain ⟨y471, hy471⟩ : ∃ y_ : List Int, y_ = (l0 ++ y467) := ⟨_, rfl⟩
   replace H : (some (y471, x2_1, a3, true)) = some (r1, r2, r3, r4) := by first | exact lt_ H hy471 | (rw [hy471]; exact H) | exact H
   have Ny471 := a_ hy471
   clear hy471
   simp only [Option.some.injEq, Prod.mk.injEq] at H
   obtain ⟨rfl, rfl, rfl, rfl⟩ := H
   have p449 : 0 ≤ (x2_1 : Int) := of_decide_eq_true as_
   have q449 : x2_1 < (l1.length : Int) := of_decide_eq_true as_
   obtain ⟨ad449, e449, hx449_0⟩ := Kd.at_int (Kd.C_kept_now HR1.out HK.out) x2_1 p449 q449
   cases e449
   replace p449 := eq_true p449
   replace q449 := eq_true q449
   have p457 : 0 ≤ (x2_1 : Int) := of_decide_eq_true as_
   have q457 : x2_1 < (l1.length : Int) := of_decide_eq_true as_
   obtain ⟨ad457, e457, hx457_0⟩ := Kd.at_int (Kd.C_kept_now HR1.out HK.out) x2_1 p457 q457
   obtain rfl : ad449 = ad457 := (by injection e457)
   replace p457 := eq_true p457
   replace q457 := eq_true q457
   have p465 : 0 ≤ (x2_1 : Int) := of_decide_eq_true as_
   have q465 : x2_1 < (l1.length : Int) := of_decide_eq_true as_
   obtain ⟨ad465, e465, hx465_0⟩ := Kd.at_int (Kd.C_kept_now HR1.out HK.out) x2_1 p465 q465
   obtain rfl : ad449 = ad465 := (by injection e465)
   replace p465 := eq_true p465
   replace q465 := eq_true q465
   have p466 : 0 ≤ (x2_1 : Int) := of_decide_eq_true as_
   have q466 : x2_1 < (l1.length : Int) := of_decide_eq_true as_
   obtain ⟨ad466, e466, hx466_0⟩ := Kd.at_int (Kd.C_kept_now HR1.out HK.out) x2_1 p466 q466
   obtain rfl : ad449 = ad466 := (by injection e466)
   replace p466 := eq_true p466
   replace q466 := eq_true q466
   have q27 : (x2_1 : Int) ≤ ((l1.length : Int) : Int) := of_decide_eq_true as_
   obtain ⟨i027, hi027, _, hsz27, _⟩ := info_parts info5
   have hroom27 : l1.length ≤ c1 := HC1.out
   have hC27 : Kd.C (Kd.int .u8) _ (some ad449) l1.length l1 := (Kd.C_kept_now HR1.out HK.out)
   have ql27 : (a2 : Int) ≤ (x2_1 : Int) := of_decide_eq_true as_
   have q027 : (0 : Int) ≤ (a2 : Int) := of_decide_eq_true as_
   have hcut27 := cut_mid (P := Try.prog) 40 5 .i64 .i64 Try.underlying40 hi027 1 hsz27 (some ad449) l1.length c1 a2 x2_1 q027 ql27 q27 hroom27
   have hr27 := Kd.C_mid (lo := (a2 : Int).toNat) (hi := (x2_1 : Int).toNat) (c := c1) hC27 (by omega) (by omega) hroom27
   obtain ⟨A27, hA27⟩ : ∃ A1_, A1_ = (if c1 = (a2 : Int).toNat then (some ad449) else ((some ad449) : Option Addr).map (·.add ((a2 : Int).toNat * 1))) := ⟨_, rfl⟩
   obtain ⟨c27, hc27⟩ : ∃ c1_, c1_ = c1 - (a2 : Int).toNat := ⟨_, rfl⟩
   have hy27 : y467.length = (x2_1 : Int).toNat - (a2 : Int).toNat := (by rw [Ny467.out, List.length_drop, List.length_take] <;> omega)
   rw [show ((l1).take (x2_1 : Int).toNat).drop (a2 : Int).toNat = y467 from Ny467.out.symm] at hr27
   replace hr27 : Kd.C (Kd.int .u8) _ A27 y467.length y467 := (by rw [hA27]; exact hr27)
   rw [← hy27, ← hA27, ← hc27] at hcut27
   have HR470 := a_ hr27
   have HC470 := a_ (show y467.length ≤ c27 from by rw [hy27, hc27]; exact Nat.sub_le_sub_right (Nat.le_trans (by omega) hroom27) _)
   clear hr27 hC27 hroom27 hi027 hsz27 hc27
   have KY27 := a_ hy27
   have KA27 := a_ hA27
   clear hy27 hA27
   have KL27 := a_ (show (x2_1 : Int).toNat ≤ l1.length from by omega)
   have KM27 := a_ (show (a2 : Int).toNat ≤ (x2_1 : Int).toNat from by omega)
   replace q27 := eq_true q27
   go_wp2_with (first | ((with_reducible refine gate_builtin (b := .append) (xs := #[.tmp 55, .tmp 59]) rfl ?_); at_builtin; refine Kd.R_append_rows (Kd.int .u8) (w0 := w0) w0.heap.size rfl (.tmp 55) (.tmp 59) 40 5 (.int .u8 0) 1 rfl Try.underlying40 info5 rfl (by decide) (by omega) u9000_ l0 y467 _ _ _ (fun k_ => (P0_ k_ ∨ w.heap.size ≤ k_)) (fun _ => False) rfl rfl ?aO ?aR (fun _ _ h => h) (fun _ h => h.elim) ?aF ?aB ?aS ?aL ?_; (case aR => repeat (first | exact (by repeat (first | (with_reducible exact HR470.out) | (with_reducible refine Kd.C_alloc ?_ _) | (with_reducible refine Kd.C_drewN ?_ _) | (with_reducible refine Kd.C_drew ?_) | exact HR470.out)) | (with_reducible refine Kd.C_alloc ?_ _) | (with_reducible refine Kd.C_drewN ?_ _) | (with_reducible refine Kd.C_drew ?_))); (case aB => exact (bl_ HB)); (case aF => exact (ki_ (kz_ HK))); (case aO => exact (rp_ HO_0)); (case aS => exact (below_size (bl_ HB))); (case aL => have := LMc26.out; omega); intro v472 w28 ho hb hg hat; rw [← Ny471.out] at ho; replace HB := a_ hb; replace HR470 := a_ ((show Kd.C (Kd.int .u8) w28 A27 y467.length y467 from by rw [Ny467.out, KA27.out]; exact Kd.C_mid (lo := (a2 : Int).toNat) (hi := (x2_1 : Int).toNat) (c := c1) (Kd.C_kept_now HR1.out (show Kept w w28 (fun k_ => P0_ k_) from (Kept.of_grown (S := (fun k_ => P0_ k_)) hg (kp_ HK) (fun k_ e_ => (HO_0.out.1 k_ e_))))) KM27.out KL27.out HC1.out)); replace HK := a_ (Kept.of_grown (S := (fun k_ => P0_ k_)) hg (kp_ HK) (fun k_ e_ => (HO_0.out.1 k_ e_))); have HO473 := a_ ho; clear HO_0; clear ho hb hg hat))
   refine bodyPost_ret (results_list (rs := [.tmp 8, .tmp 9, .tmp 10, .tmp 11]) rfl (by simp) (.tmp (.tmp (.tmp (.tmp .nil))))) rfl ?_
   exact ⟨_, by first | rfl | (simp [errW_none, errW_some] <;> rfl) | (simp [*, errW_none, errW_some] <;> rfl), rp_ HO473, bl_ HB, kp_ HK⟩
/-! ### pTb: function 41 -/
mutual
def pTb.j0 : Nat → List Int → ByteArray → Int → Option (List Int)
  | 0, _, _, _ => none
  | k + 1, x0, x2, x3 => if (x2.size : Int) = 2 then (if 0 < (x2.size : Int) then (if (bt x2 0) = 32 then (if 1 < (x2.size : Int) then (pTb.j1 k x0 x2 x3 ((bt x2 1) == 32)) else (none)) else (pTb.j1 k x0 x2 x3 false)) else (none)) else (pTb.j1 k x0 x2 x3 false)
def pTb.j1 : Nat → List Int → ByteArray → Int → Bool → Option (List Int)
  | 0, _, _, _, _ => none
  | k + 1, x0, x2, x3, x29 => if x29 = true then (pTb.l0 k x0 x3 0) else (pTb.l1 k x0 x2 x3 0)
def pTb.l0 : Nat → List Int → Int → Int → Option (List Int)
  | 0, _, _, _ => none
  | k + 1, x0, x3, x9 => if x9 < x3 then ((some (([32, 32] : List Int) : List Int)).bind fun y481 => (if x0.length + y481.length < 140737488355328 then (pTb.l0 k (x0 ++ y481) x3 (wrap64 (x9 + 1))) else (none))) else (some x0)
def pTb.l1 : Nat → List Int → ByteArray → Int → Int → Option (List Int)
  | 0, _, _, _, _ => none
  | k + 1, x0, x2, x3, x10 => if x10 < x3 then (if x0.length + x2.size < 140737488355328 then (pTb.l1 k (x0 ++ bytesOf x2) x2 x3 (wrap64 (x10 + 1))) else (none)) else (some x0)
end
def pTb.f (k : Nat) (l0 : List Int) (a1 : ByteArray) (a2 : ByteArray) (a3 : Int) : Option (List Int) := if (a1.size : Int) = 0 then (pTb.j0 k l0 a2 a3) else (if l0.length + a1.size < 140737488355328 then (pTb.j0 k (l0 ++ bytesOf a1) a2 a3) else (none))
theorem pTb.mono_l : ∀ k, (∀ y0 y1 y2, LeO (pTb.j0 k y0 y1 y2) (pTb.j0 (k + 1) y0 y1 y2)) ∧ (∀ y0 y1 y2 y3, LeO (pTb.j1 k y0 y1 y2 y3) (pTb.j1 (k + 1) y0 y1 y2 y3)) ∧ (∀ y0 y1 y2, LeO (pTb.l0 k y0 y1 y2) (pTb.l0 (k + 1) y0 y1 y2)) ∧ (∀ y0 y1 y2 y3, LeO (pTb.l1 k y0 y1 y2 y3) (pTb.l1 (k + 1) y0 y1 y2 y3))
 | 0 => ⟨fun _ _ _ r h => by simp [pTb.j0] at h, fun _ _ _ _ r h => by simp [pTb.j1] at h, fun _ _ _ r h => by simp [pTb.l0] at h, fun _ _ _ _ r h => by simp [pTb.l1] at h⟩
 | k + 1 => by
  obtain ⟨ih0, ih1, ih2, ih3⟩ := pTb.mono_l k
  refine ⟨?_, ?_, ?_, ?_⟩
  all_goals intros
  all_goals (first | unfold pTb.j0 | unfold pTb.j1 | unfold pTb.l0 | unfold pTb.l1)
  all_goals repeat' first | (with_reducible first | apply ih0 | apply ih1 | apply ih2 | apply ih3 | apply LeO.refl | apply LeO.none | refine LeO.ite ?_ ?_ | refine LeO.bind ?_ (fun _ => ?_)) | apply ih0 | apply ih1 | apply ih2 | apply ih3 | apply LeO.none | refine LeO.ite ?_ ?_ | refine LeO.bind ?_ (fun _ => ?_)
theorem pTb.mono : ∀ a0 a1 a2 a3 k, LeO (pTb.f k a0 a1 a2 a3) (pTb.f (k + 1) a0 a1 a2 a3) := by
 intro a0 a1 a2 a3 k
 obtain ⟨ih0, ih1, ih2, ih3⟩ := pTb.mono_l k
 unfold pTb.f
 repeat' first | (with_reducible first | apply ih0 | apply ih1 | apply ih2 | apply ih3 | apply LeO.refl | apply LeO.none | refine LeO.ite ?_ ?_ | refine LeO.bind ?_ (fun _ => ?_)) | apply ih0 | apply ih1 | apply ih2 | apply ih3 | apply LeO.none | refine LeO.ite ?_ ?_ | refine LeO.bind ?_ (fun _ => ?_)
set_option maxHeartbeats 8000000 in
set_option maxRecDepth 100000 in
theorem pTb.calls (k : Nat) (P0_ : Nat → Prop) (u9000_ : Value) (l0 : List Int) (a1 : ByteArray) (a2 : ByteArray) (a3 : Int) (r : List Int) (w0 w : World) (hB : Below w0.heap.size w0 w) (ho0 : Kd.R (Kd.int .u8) 5 w w0.heap.size P0_ u9000_ l0) (h : pTb.f k l0 a1 a2 a3 = some r) :
  Calls Try.prog 41 #[u9000_, .string a1, .string a2, .int .i64 a3] w fun e w' => ∃ v0_ : Value, e = .returned (v0_) ∧ Kd.R (Kd.int .u8) 5 w' w0.heap.size (fun k_ => (P0_ k_ ∨ w.heap.size ≤ k_)) v0_ r ∧ Below w0.heap.size w0 w' ∧ Kept w w' (fun k_ => P0_ k_) := by
 have HO0 := a_ (show Kd.R (Kd.int .u8) 5 w w0.heap.size (fun k_ => (P0_ k_ ∨ w.heap.size ≤ k_)) u9000_ l0 from Kd.R_mono ho0 (fun k_ hk => (.inl hk)))
 have HK := a_ (Kept.refl w (fun k_ => P0_ k_))
 have HW0 := a_ hB.size
 have HB := a_ hB
 clear hB
 have H : (if (a1.size : Int) = 0 then (pTb.j0 k l0 a2 a3) else (if l0.length + a1.size < 140737488355328 then (pTb.j0 k (l0 ++ bytesOf a1) a2 a3) else (none))) = some r := h
 clear h
 have HC5 := a_ H
 clear H
 go_enter Try.func41, Try.ntmps41
 go_upto_if 13 with (fail)
 go_cut [0] (fun v0 wc => ∃ (kq : Nat) (x0_4 : List Int), Aside0 (pTb.j0 kq x0_4 a2 a3 = some r) ∧ Aside0 (kq ≤ k) ∧ Aside0 (Kd.R (Kd.int .u8) 5 wc w0.heap.size (fun k_ => (P0_ k_ ∨ w.heap.size ≤ k_)) v0 x0_4) ∧ Aside0 (Kept w wc (fun k_ => P0_ k_)) ∧ Aside0 (Below w0.heap.size w0 wc))
 case first =>
  have H := HC5.out
  clear HC5
  by_cases c6 : (a1.size : Int) = 0
  ·
   rw [if_pos c6] at H
   have c6b0 : ((a1.size : Int) == 0) = true := beq_iff_eq.mpr c6
   have c6b1 : ((a1.size : Int) != 0) = false := bne_eq_false_iff_eq.mpr c6
   clear c6
   (first | rw [c6b0] | (simp only [i64_w, i32_w]; rw [c6b0]) | skip)
   have H' := a_ H
   clear H
   go_wp2
   go_meet
   case rel => exact ⟨_, (l0), H', ⟨by first | omega | exact Nat.le_refl _⟩, ⟨rp_ HO0⟩, ⟨kp_ HK⟩, ⟨bl_ HB⟩⟩
  rw [if_neg c6] at H
  have c6b0 : ((a1.size : Int) == 0) = false := beq_eq_false_iff_ne.mpr c6
  have c6b1 : ((a1.size : Int) != 0) = true := bne_iff_ne.mpr c6
  (first | rw [c6b0] | (simp only [i64_w, i32_w]; rw [c6b0]) | skip)
  by_cases c7 : l0.length + a1.size < 140737488355328
  rotate_left
  ·
   rw [if_neg c7] at H
   exact absurd H (by simp)
  rw [if_pos c7] at H
  have LMc7 := a_ c7
  clear c7
  obtain ⟨y478, hy478⟩ : ∃ y_ : List Int, y_ = (l0 ++ bytesOf a1) := ⟨_, rfl⟩
  replace H : (pTb.j0 k y478 a2 a3) = some r := by first | exact lt_ H hy478 | (rw [hy478]; exact H) | exact H
  have Ny478 := a_ hy478
  clear hy478
  have H' := a_ H
  clear H
  go_wp2_with (first | (at_builtin; refine Kd.R_append_str (w0 := w0) w0.heap.size rfl (.tmp 14) _ 40 9 5 rfl Try.underlying40 Try.underlying9 info5 u9000_ l0 a1 (fun k_ => (P0_ k_ ∨ w.heap.size ≤ k_)) rfl rfl ?aF ?aO ?aB ?aS ?aL ?_; (case aB => exact (bl_ HB)); (case aF => exact (ki_ (kz_ HK))); (case aO => exact (rp_ HO0)); (case aS => exact (below_size (bl_ HB))); (case aL => have := LMc7.out; omega); intro v479 w8 ho hb hg hat; rw [← Ny478.out] at ho; replace HB := a_ hb; replace HK := a_ (Kept.of_grown (S := (fun k_ => P0_ k_)) hg (kp_ HK) (fun k_ e_ => (HO0.out.1 k_ e_))); have HO480 := a_ ho; clear HO0; clear ho hb hg hat))
  go_meet
  case rel => exact ⟨_, (y478), H', ⟨by first | omega | exact Nat.le_refl _⟩, ⟨rp_ HO480⟩, ⟨kp_ HK⟩, ⟨bl_ HB⟩⟩
 clear HC5
 (try clear p2); (try clear c4); (try clear c6); (try clear c6b0); (try clear c6b1); (try clear c7)
 obtain ⟨kq, x0_4, HA, HJ4, HO_0, HK, HB⟩ := hcut
 cases kq with
 | zero => exact absurd HA.out (by simp [pTb.j0])
 | succ kj4 =>
  have H := HA.out
  clear HA
  simp only [pTb.j0] at H
  have HC9 := a_ H
  clear H
  go_upto_region 3 with (fail)
  go_cut [29] (fun v29 wc => ∃ (kq : Nat) (x29_8 : Bool), v29 = .bool x29_8 ∧ Aside0 (pTb.j1 kq x0_4 a2 a3 x29_8 = some r) ∧ Aside0 (kq ≤ kj4) ∧ Aside0 (Kd.R (Kd.int .u8) 5 wc w0.heap.size (fun k_ => (P0_ k_ ∨ w.heap.size ≤ k_)) u0 x0_4) ∧ Aside0 (Kept w wc (fun k_ => P0_ k_)) ∧ Aside0 (Below w0.heap.size w0 wc))
  case first =>
   have H := HC9.out
   clear HC9
   by_cases c10 : (a2.size : Int) = 2
   rotate_left
   ·
    rw [if_neg c10] at H
    have c10b0 : ((a2.size : Int) == 2) = false := beq_eq_false_iff_ne.mpr c10
    have c10b1 : ((a2.size : Int) != 2) = true := bne_iff_ne.mpr c10
    (first | rw [c10b0] | (simp only [i64_w, i32_w]; rw [c10b0]) | skip)
    have H' := a_ H
    clear H
    go_wp2
    go_meet
    case rel => exact ⟨_, (false), rl_, H', ⟨by have := HJ4.out; first | omega | exact Nat.le_refl _⟩, ⟨rp_ HO_0⟩, ⟨kp_ HK⟩, ⟨bl_ HB⟩⟩
   rw [if_pos c10] at H
   have c10b0 : ((a2.size : Int) == 2) = true := beq_iff_eq.mpr c10
   have c10b1 : ((a2.size : Int) != 2) = false := bne_eq_false_iff_eq.mpr c10
   clear c10
   (first | rw [c10b0] | (simp only [i64_w, i32_w]; rw [c10b0]) | skip)
   by_cases c11 : 0 < (a2.size : Int)
   rotate_left
   ·
    rw [if_neg c11] at H
    exact absurd H (by simp)
   rw [if_pos c11] at H
   have c11b0 : decide (0 < (a2.size : Int)) = true := decide_eq_true c11
   have c11b1 : decide (0 < a2.size) = true := decide_eq_true (by omega)
   clear c11
   by_cases c13 : (bt a2 0) = 32
   rotate_left
   ·
    rw [if_neg c13] at H
    have c13b0 : ((bt a2 0) == 32) = false := beq_eq_false_iff_ne.mpr c13
    have c13b1 : ((bt a2 0) != 32) = true := bne_iff_ne.mpr c13
    have H' := a_ H
    clear H
    have p12 : 0 ≤ (0 : Int) := (by omega)
    have q12 : 0 < a2.size := (by have : (0 : Int) < (a2.size : Int) := of_decide_eq_true as_; omega)
    have hx12 : ∀ h : 0 < a2.size, ((a2[0]'h).toNat : Int) = bt a2 0 := bt_at a2 0
    clear p12
    have qi12 : (0 < (a2.size : Int)) = True := eq_true (of_decide_eq_true as_)
    replace q12 := eq_true q12
    go_wp2
    go_meet
    case rel => exact ⟨_, (false), rl_, H', ⟨by have := HJ4.out; first | omega | exact Nat.le_refl _⟩, ⟨rp_ HO_0⟩, ⟨kp_ HK⟩, ⟨bl_ HB⟩⟩
   rw [if_pos c13] at H
   have c13b0 : ((bt a2 0) == 32) = true := beq_iff_eq.mpr c13
   have c13b1 : ((bt a2 0) != 32) = false := bne_eq_false_iff_eq.mpr c13
   clear c13
   by_cases c14 : 1 < (a2.size : Int)
   rotate_left
   ·
    rw [if_neg c14] at H
    exact absurd H (by simp)
   rw [if_pos c14] at H
   have c14b0 : decide (1 < (a2.size : Int)) = true := decide_eq_true c14
   have c14b1 : decide (1 < a2.size) = true := decide_eq_true (by omega)
   clear c14
   have H' := a_ H
   clear H
   have p12 : 0 ≤ (0 : Int) := (by omega)
   have q12 : 0 < a2.size := (by have : (0 : Int) < (a2.size : Int) := of_decide_eq_true as_; omega)
   have hx12 : ∀ h : 0 < a2.size, ((a2[0]'h).toNat : Int) = bt a2 0 := bt_at a2 0
   clear p12
   have qi12 : (0 < (a2.size : Int)) = True := eq_true (of_decide_eq_true as_)
   replace q12 := eq_true q12
   have p15 : 0 ≤ (1 : Int) := (by omega)
   have q15 : 1 < a2.size := (by have : (1 : Int) < (a2.size : Int) := of_decide_eq_true as_; omega)
   have hx15 : ∀ h : 1 < a2.size, ((a2[1]'h).toNat : Int) = bt a2 1 := bt_at a2 1
   clear p15
   have qi15 : (1 < (a2.size : Int)) = True := eq_true (of_decide_eq_true as_)
   replace q15 := eq_true q15
   go_wp2
   go_meet
   case rel => exact ⟨_, (((bt a2 1) == 32)), rl_, H', ⟨by have := HJ4.out; first | omega | exact Nat.le_refl _⟩, ⟨rp_ HO_0⟩, ⟨kp_ HK⟩, ⟨bl_ HB⟩⟩
  clear HC9
  (try clear c1); (try clear p1); (try clear q1); (try clear hx1); (try clear qi1); (try clear p2); (try clear c4); (try clear c6); (try clear c6b0); (try clear c6b1); (try clear c7); (try clear c10); (try clear c10b0); (try clear c10b1); (try clear c11); (try clear c11b0); (try clear c11b1); (try clear p12); (try clear q12); (try clear hx12); (try clear qi12); (try clear c13); (try clear c13b0); (try clear c13b1); (try clear c14); (try clear c14b0); (try clear c14b1); (try clear p15); (try clear q15); (try clear hx15); (try clear qi15); (try clear p12); (try clear p15); (try clear p2); (try clear q12); (try clear q15)
  obtain ⟨kq, x29_8, rfl, HA, HJ8, HO_0, HK, HB⟩ := hcut
  cases kq with
  | zero => exact absurd HA.out (by simp [pTb.j1])
  | succ kj8 =>
   have H := HA.out
   clear HA
   simp only [pTb.j1] at H
   by_cases c16 : x29_8 = true
   rotate_left
   ·
    replace c16 := Bool.eq_false_iff.mpr c16
    subst c16
    rw [if_neg (show ¬ (false = true) by decide)] at H
    have H' := a_ H
    clear H
    go_wp2
    (try simp only [Act.put, List.setIfInBounds_toArray, List.set_cons_zero, List.set_cons_succ])
    go_loopg [0, 10] kj8 (fun kq v0 v10 w' => ∃ (x0_3 : List Int) (x10_3 : Int), v10 = .int .i64 x10_3 ∧ Aside0 (pTb.l1 kq x0_3 a2 a3 x10_3 = some r) ∧ Aside0 (kq ≤ kj8) ∧ Aside0 (Kd.R (Kd.int .u8) 5 w' w0.heap.size (fun k_ => (P0_ k_ ∨ w.heap.size ≤ k_)) v0 x0_3) ∧ Aside0 (Kept w w' (fun k_ => P0_ k_)) ∧ Aside0 (Below w0.heap.size w0 w'))
    case atStart => exact ⟨(x0_4), (0), rl_, H', ⟨Nat.le_refl _⟩, ⟨rp_ HO_0⟩, ⟨kp_ HK⟩, ⟨bl_ HB⟩⟩
    case round =>
     clear H'
     (try clear c1); (try clear p1); (try clear q1); (try clear hx1); (try clear qi1); (try clear p2); (try clear c4); (try clear c6); (try clear c6b0); (try clear c6b1); (try clear p6); (try clear c7); (try clear c10); (try clear c10b0); (try clear c10b1); (try clear c11); (try clear c11b0); (try clear c11b1); (try clear p12); (try clear q12); (try clear hx12); (try clear qi12); (try clear c13); (try clear c13b0); (try clear c13b1); (try clear c14); (try clear c14b0); (try clear c14b1); (try clear p15); (try clear q15); (try clear hx15); (try clear qi15); (try clear c16); (try clear c17); (try clear c17b0); (try clear c18); (try clear p1); (try clear p12); (try clear p15); (try clear p2); (try clear q1); (try clear q12); (try clear q15)
     obtain ⟨x0_3, x10_3, rfl, HA, HK3, HO_0, HK, HB⟩ := hrel
     cases gk with
     | zero => exact absurd HA.out (by simp [pTb.l1])
     | succ k3 =>
      have H := HA.out
      clear HA
      simp only [pTb.l1] at H
      by_cases c23 : x10_3 < a3
      rotate_left
      ·
       rw [if_neg c23] at H
       have c23b0 : decide (x10_3 < a3) = false := decide_eq_false c23
       clear c23
       obtain rfl := Option.some.inj H
       go_wp2
       go_ret
       exact ⟨_, by first | rfl | (simp [errW_none, errW_some] <;> rfl) | (simp [*, errW_none, errW_some] <;> rfl), rp_ HO_0, bl_ HB, kp_ HK⟩
      rw [if_pos c23] at H
      have c23b0 : decide (x10_3 < a3) = true := decide_eq_true c23
      clear c23
      by_cases c24 : x0_3.length + a2.size < 140737488355328
      rotate_left
      ·
       rw [if_neg c24] at H
       exact absurd H (by simp)
      rw [if_pos c24] at H
      have LMc24 := a_ c24
      clear c24
      obtain ⟨y487, hy487⟩ : ∃ y_ : List Int, y_ = (x0_3 ++ bytesOf a2) := ⟨_, rfl⟩
      replace H : (pTb.l1 k3 y487 a2 a3 (wrap64 (x10_3 + 1))) = some r := by first | exact lt_ H hy487 | (rw [hy487]; exact H) | exact H
      have Ny487 := a_ hy487
      clear hy487
      have H' := a_ H
      clear H
      go_wp2_with (first | (at_builtin; refine Kd.R_append_str (w0 := w0) w0.heap.size rfl (.tmp 43) _ 40 9 5 rfl Try.underlying40 Try.underlying9 info5 u0 x0_3 a2 (fun k_ => (P0_ k_ ∨ w.heap.size ≤ k_)) rfl rfl ?aF ?aO ?aB ?aS ?aL ?_; (case aB => exact (bl_ HB)); (case aF => exact (ki_ (kz_ HK))); (case aO => exact (rp_ HO_0)); (case aS => exact (below_size (bl_ HB))); (case aL => have := LMc24.out; omega); intro v488 w25 ho hb hg hat; rw [← Ny487.out] at ho; replace HB := a_ hb; replace HK := a_ (Kept.of_grown (S := (fun k_ => P0_ k_)) hg (kp_ HK) (fun k_ e_ => (HO_0.out.1 k_ e_))); have HO489 := a_ ho; clear HO_0; clear ho hb hg hat))
      go_roundg k3
      case measure => have := HJ4.out; have := HJ8.out; have := HK3.out; omega
      case rel => exact ⟨(y487), (wrap64 (x10_3 + 1)), rl_, H', ⟨by have := HJ4.out; have := HJ8.out; have := HK3.out; omega⟩, ⟨rp_ HO489⟩, ⟨kp_ HK⟩, ⟨bl_ HB⟩⟩
   subst c16
   rw [if_pos rfl] at H
   have H' := a_ H
   clear H
   go_wp2
   (try simp only [Act.put, List.setIfInBounds_toArray, List.set_cons_zero, List.set_cons_succ])
   go_loopg [0, 9] kj8 (fun kq v0 v9 w' => ∃ (x0_3 : List Int) (x9_3 : Int), v9 = .int .i64 x9_3 ∧ Aside0 (pTb.l0 kq x0_3 a3 x9_3 = some r) ∧ Aside0 (kq ≤ kj8) ∧ Aside0 (Kd.R (Kd.int .u8) 5 w' w0.heap.size (fun k_ => (P0_ k_ ∨ w.heap.size ≤ k_)) v0 x0_3) ∧ Aside0 (Kept w w' (fun k_ => P0_ k_)) ∧ Aside0 (Below w0.heap.size w0 w'))
   case atStart => exact ⟨(x0_4), (0), rl_, H', ⟨Nat.le_refl _⟩, ⟨rp_ HO_0⟩, ⟨kp_ HK⟩, ⟨bl_ HB⟩⟩
   case round =>
    clear H'
    (try clear c1); (try clear p1); (try clear q1); (try clear hx1); (try clear qi1); (try clear p2); (try clear c4); (try clear c6); (try clear c6b0); (try clear c6b1); (try clear c7); (try clear c10); (try clear c10b0); (try clear c10b1); (try clear c11); (try clear c11b0); (try clear c11b1); (try clear p12); (try clear q12); (try clear hx12); (try clear qi12); (try clear c13); (try clear c13b0); (try clear c13b1); (try clear c14); (try clear c14b0); (try clear c14b1); (try clear p15); (try clear q15); (try clear hx15); (try clear qi15); (try clear c16); (try clear p1); (try clear p12); (try clear p15); (try clear p2); (try clear q1); (try clear q12); (try clear q15)
    obtain ⟨x0_3, x9_3, rfl, HA, HK3, HO_0, HK, HB⟩ := hrel
    cases gk with
    | zero => exact absurd HA.out (by simp [pTb.l0])
    | succ k3 =>
     have H := HA.out
     clear HA
     simp only [pTb.l0] at H
     by_cases c17 : x9_3 < a3
     rotate_left
     ·
      rw [if_neg c17] at H
      have c17b0 : decide (x9_3 < a3) = false := decide_eq_false c17
      clear c17
      obtain rfl := Option.some.inj H
      go_wp2
      go_ret
      exact ⟨_, by first | rfl | (simp [errW_none, errW_some] <;> rfl) | (simp [*, errW_none, errW_some] <;> rfl), rp_ HO_0, bl_ HB, kp_ HK⟩
     rw [if_pos c17] at H
     have c17b0 : decide (x9_3 < a3) = true := decide_eq_true c17
     clear c17
     obtain ⟨y481, hy481⟩ : ∃ y_ : List Int, y_ = (([32, 32] : List Int)) := ⟨_, rfl⟩
     replace H := lt_ H hy481
     have Ny481 := a_ hy481
     clear hy481
     by_cases c18 : x0_3.length + y481.length < 140737488355328
     rotate_left
     ·
      rw [if_neg c18] at H
      exact absurd H (by simp)
     rw [if_pos c18] at H
     have LMc18 := a_ c18
     clear c18
     obtain ⟨y484, hy484⟩ : ∃ y_ : List Int, y_ = (x0_3 ++ y481) := ⟨_, rfl⟩
     replace H : (pTb.l0 k3 y484 a3 (wrap64 (x9_3 + 1))) = some r := by first | exact lt_ H hy484 | (rw [hy484]; exact H) | exact H
     have Ny484 := a_ hy484
     clear hy484
     have H' := a_ H
     clear H
     go_wp2_with (first | ((with_reducible refine gate_dst (N := 36) rfl ?_); refine Kd.R_lit (Kd.int .u8) _ 5 ?hg (N := 36) ?hd (xs := ([32, 32] : List Int)) (inner := [.int .u8 32, .int .u8 32]) (ok := fun _ => True) (okp := fun _ => True) ?hr ?hp (fun _ hk => hk) trivial (Below.refl _ _) (Nat.le_refl _) (by simp) ?_; (case hd => rfl); (case hg => rfl); (case hr => first | (go_simp; done) | (go_simp; rfl)); (case hp => exact (Reps.one (show Kd.M (Kd.int .u8) _ _ _ 32 [.int .u8 32] from rfl) (Reps.one (show Kd.M (Kd.int .u8) _ _ _ 32 [.int .u8 32] from rfl) (Reps.none _ _)))); intro v482 w19 ho20 hb hg_ hnew_; clear hg_ hnew_; (first | rw [← Ny481.out] at ho20 | (simp only [Int.reduceToNat] at ho20; rw [← Ny481.out] at ho20)); have HO483 := a_ (Kd.R_lower (Kd.R_new' (Kd.R_newM (M := fun k_ => (P0_ k_ ∨ w.heap.size ≤ k_)) ho20 (kz_ HK) (fun k_ h_ => .inr h_)) (Kd.R_lt (rp_ HO_0))) (below_size (bl_ HB))); replace HO_0 := a_ (Kd.R_elder' (rp_ HO_0) (Kd.R_base ho20) hb); replace HK := a_ (Kept.below (S := (fun k_ => P0_ k_)) (kp_ HK) hb); replace HB := a_ (below_step (bl_ HB) hb); clear hb ho20; obtain ⟨Ao22, co22, eo22⟩ := Kd.R_slice HO483.out; subst eo22) | ((with_reducible refine gate_builtin (b := .append) (xs := #[.tmp 35, .tmp 36]) rfl ?_); at_builtin; refine Kd.R_append_rows (Kd.int .u8) (w0 := w0) w0.heap.size rfl (.tmp 35) (.tmp 36) 40 5 (.int .u8 0) 1 rfl Try.underlying40 info5 rfl (by decide) (by omega) u0 x0_3 y481 _ _ _ (fun k_ => (P0_ k_ ∨ w.heap.size ≤ k_) ∧ some k_ ≠ (.slice Ao22 y481.length co22 : Value).ownBlock) (fun _ => False) rfl rfl ?aO ?aR (fun _ _ h => h) (fun _ h => h.elim) ?aF ?aB ?aS ?aL ?_; (case aR => repeat (first | exact (Kd.R_reads' HO483.out).2.2 | (with_reducible refine Kd.C_alloc ?_ _) | (with_reducible refine Kd.C_drewN ?_ _) | (with_reducible refine Kd.C_drew ?_))); (case aB => exact (bl_ HB)); (case aF => exact (fun k_ hk => ⟨(.inr (Nat.le_trans (kz_ HK) hk)), Kd.fresh' (Kd.R_lt (rp_ HO483)) k_ hk⟩)); (case aO => exact (rp_ HO_0)); (case aS => exact (below_size (bl_ HB))); (case aL => have := LMc18.out; omega); intro v485 w21 ho hb hg hat; rw [← Ny484.out] at ho; replace HO483 := a_ (Kd.R_after (ok := (fun k_ => (P0_ k_ ∨ w.heap.size ≤ k_))) (by (with_reducible repeat (first | apply Kd.R_alloc | apply Kd.R_drewN | apply Kd.R_drew)); exact Kd.R_mono HO483.out (fun _ hk => ⟨hk.1.1, hk.2⟩)) hg hat); replace HB := a_ hb; replace HK := a_ (Kept.of_grown (S := (fun k_ => P0_ k_)) hg (kp_ HK) (fun k_ e_ => (HO_0.out.1 k_ e_).1)); have HO486 := a_ ho; clear HO_0; clear ho hb hg hat))
     go_roundg k3
     case measure => have := HJ4.out; have := HJ8.out; have := HK3.out; omega
     case rel => exact ⟨(y484), (wrap64 (x9_3 + 1)), rl_, H', ⟨by have := HJ4.out; have := HJ8.out; have := HK3.out; omega⟩, ⟨by (with_reducible repeat (first | apply Kd.R_alloc | apply Kd.R_drewN | apply Kd.R_drew)); exact Kd.R_mono HO486.out (fun _ hk => hk.1)⟩, ⟨kp_ HK⟩, ⟨bl_ HB⟩⟩
end Go.Proofs.Ytnilbkfhfnofgaa.PFnPrWidthMember
