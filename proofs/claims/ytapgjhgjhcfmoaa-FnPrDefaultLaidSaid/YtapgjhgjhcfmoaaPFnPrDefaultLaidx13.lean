/- Contracts of Go functions of this seat: for each a Lean function over numbers and lists and a proof that the Go function, called in any memory, returns what it gives. Made by program. -/
import Derived.Test.YtapgjhgjhcfmoaaPFnPrDefaultLaidx0
import Derived.Test.YtapgjhgjhcfmoaaPFnPrDefaultLaidx12
namespace Go.Proofs.Ytapgjhgjhcfmoaa.PFnPrDefaultLaid
open Go.RowKit Go.Proofs.YtapgjhgjhcfmoaaW.PrintWords Go.Proofs.YtapgjhgjhcfmoaaW.PrintLast Go.Proofs.YtapgjhgjhcfmoaaW.PrintMore
attribute [local go_sem] max2_int min2_int max_two min_two max_three min_three max_four min_four   -- for this text's walks alone
set_option linter.unusedVariables false
set_option linter.unusedSimpArgs false
/-! ### spec_laidTo: function 10 -/
mutual
def spec_laidTo.j0 : Nat → List Int → ByteArray → ByteArray → ByteArray → Bool → Int → Int → Int → Int → Int → List (S41) → List (S25) → Option (List Int)
  | 0, _, _, _, _, _, _, _, _, _, _, _, _ => none
  | k + 1, x0, x1, x3, x4, x5, x13, x14, x616000, x616001, x616002, x616003, x616004 => if x0.length < 140737488355328 then (spec_laidTo.l0 k (x0 ++ [x13]) x1 x3 x4 x5 x14 (x616004.length : Int) 0 x616000 x616001 x616002 x616003 x616004) else (none)
def spec_laidTo.l0 : Nat → List Int → ByteArray → ByteArray → ByteArray → Bool → Int → Int → Int → Int → Int → Int → List (S41) → List (S25) → Option (List Int)
  | 0, _, _, _, _, _, _, _, _, _, _, _, _, _ => none
  | k + 1, x0, x1, x3, x4, x5, x14, x45, x46, x616000, x616001, x616002, x616003, x616004 => if x46 < x45 then (if x46 > 0 then (if x0.length < 140737488355328 then ((some (x0 ++ [44] : List Int)).bind fun y631 => (if y631.length < 140737488355328 then ((some (y631 ++ [10] : List Int)).bind fun y634 => (if y634.length + x3.size < 140737488355328 then ((some (y634 ++ bytesOf x3 : List Int)).bind fun y637 => (if y637.length + x4.size < 140737488355328 then ((some (y637 ++ bytesOf x4 : List Int)).bind fun y640 => (if x616000 = 6 then (if 0 ≤ x46 then (if x46 < (x616003.length : Int) then (if 0 ≤ ((rd_T41 x616003 x46).f0) then (if ((rd_T41 x616003 x46).f0) ≤ ((rd_T41 x616003 x46).f1) then (if ((rd_T41 x616003 x46).f1) ≤ (x1.size : Int) then (if y640.length + (x1.extract (((rd_T41 x616003 x46).f0) : Int).toNat (((rd_T41 x616003 x46).f1) : Int).toNat).size < 140737488355328 then ((some (y640 ++ bytesOf (x1.extract (((rd_T41 x616003 x46).f0) : Int).toNat (((rd_T41 x616003 x46).f1) : Int).toNat) : List Int)).bind fun y645 => ((some (([58, 32] : List Int) : List Int)).bind fun y648 => (if y645.length + y648.length < 140737488355328 then (if x46 < (x616004.length : Int) then (if x3.size + x4.size ≤ 9223372036854775807 then ((spec_laidTo.f k (y645 ++ y648) x1 ((rd_T25 x616004 x46).f0) ((rd_T25 x616004 x46).f1) ((rd_T25 x616004 x46).f2) ((rd_T25 x616004 x46).f3) ((rd_T25 x616004 x46).f4) (x3 ++ x4) x4 x5).bind fun t655 => (spec_laidTo.l0 k t655 x1 x3 x4 x5 x14 x45 (wrap64 (x46 + 1)) x616000 x616001 x616002 x616003 x616004)) else (none)) else (none)) else (none)))) else (none)) else (none)) else (none)) else (none)) else (none)) else (none)) else (if 0 ≤ x46 then (if x46 < (x616004.length : Int) then (if x3.size + x4.size ≤ 9223372036854775807 then ((spec_laidTo.f k y640 x1 ((rd_T25 x616004 x46).f0) ((rd_T25 x616004 x46).f1) ((rd_T25 x616004 x46).f2) ((rd_T25 x616004 x46).f3) ((rd_T25 x616004 x46).f4) (x3 ++ x4) x4 x5).bind fun t659 => (spec_laidTo.l0 k t659 x1 x3 x4 x5 x14 x45 (wrap64 (x46 + 1)) x616000 x616001 x616002 x616003 x616004)) else (none)) else (none)) else (none)))) else (none))) else (none))) else (none))) else (none)) else (if x0.length < 140737488355328 then ((some (x0 ++ [10] : List Int)).bind fun y662 => (if y662.length + x3.size < 140737488355328 then ((some (y662 ++ bytesOf x3 : List Int)).bind fun y665 => (if y665.length + x4.size < 140737488355328 then ((some (y665 ++ bytesOf x4 : List Int)).bind fun y668 => (if x616000 = 6 then (if 0 ≤ x46 then (if x46 < (x616003.length : Int) then (if 0 ≤ ((rd_T41 x616003 x46).f0) then (if ((rd_T41 x616003 x46).f0) ≤ ((rd_T41 x616003 x46).f1) then (if ((rd_T41 x616003 x46).f1) ≤ (x1.size : Int) then (if y668.length + (x1.extract (((rd_T41 x616003 x46).f0) : Int).toNat (((rd_T41 x616003 x46).f1) : Int).toNat).size < 140737488355328 then ((some (y668 ++ bytesOf (x1.extract (((rd_T41 x616003 x46).f0) : Int).toNat (((rd_T41 x616003 x46).f1) : Int).toNat) : List Int)).bind fun y673 => ((some (([58, 32] : List Int) : List Int)).bind fun y676 => (if y673.length + y676.length < 140737488355328 then (if x46 < (x616004.length : Int) then (if x3.size + x4.size ≤ 9223372036854775807 then ((spec_laidTo.f k (y673 ++ y676) x1 ((rd_T25 x616004 x46).f0) ((rd_T25 x616004 x46).f1) ((rd_T25 x616004 x46).f2) ((rd_T25 x616004 x46).f3) ((rd_T25 x616004 x46).f4) (x3 ++ x4) x4 x5).bind fun t683 => (spec_laidTo.l0 k t683 x1 x3 x4 x5 x14 x45 (wrap64 (x46 + 1)) x616000 x616001 x616002 x616003 x616004)) else (none)) else (none)) else (none)))) else (none)) else (none)) else (none)) else (none)) else (none)) else (none)) else (if 0 ≤ x46 then (if x46 < (x616004.length : Int) then (if x3.size + x4.size ≤ 9223372036854775807 then ((spec_laidTo.f k y668 x1 ((rd_T25 x616004 x46).f0) ((rd_T25 x616004 x46).f1) ((rd_T25 x616004 x46).f2) ((rd_T25 x616004 x46).f3) ((rd_T25 x616004 x46).f4) (x3 ++ x4) x4 x5).bind fun t687 => (spec_laidTo.l0 k t687 x1 x3 x4 x5 x14 x45 (wrap64 (x46 + 1)) x616000 x616001 x616002 x616003 x616004)) else (none)) else (none)) else (none)))) else (none))) else (none))) else (none))) else (if x0.length < 140737488355328 then ((some (x0 ++ [10] : List Int)).bind fun y622 => (if y622.length + x3.size < 140737488355328 then ((some (y622 ++ bytesOf x3 : List Int)).bind fun y625 => (if y625.length < 140737488355328 then (some (y625 ++ [x14])) else (none))) else (none))) else (none))
def spec_laidTo.f : Nat → List Int → ByteArray → Int → Int → Int → List (S41) → List (S25) → ByteArray → ByteArray → Bool → Option (List Int)
  | 0, _, _, _, _, _, _, _, _, _, _ => none
  | k + 1, l0, a1, a2_0, a2_1, a2_2, l2_3, l2_4, a3, a4, a5 => if (l2_4.length : Int) = 0 then ((spec_bareTo.f k l0 a1 a2_0 a2_1 a2_2 l2_3 l2_4).bind fun t616 => (some t616)) else (if a5 = true then (none) else (if a2_0 = 6 then (spec_laidTo.j0 k l0 a1 a3 a4 a5 123 125 a2_0 a2_1 a2_2 l2_3 l2_4) else (spec_laidTo.j0 k l0 a1 a3 a4 a5 91 93 a2_0 a2_1 a2_2 l2_3 l2_4)))
end
theorem spec_laidTo.mono_l : ∀ k, (∀ y0 y1 y2 y3 y4 y5 y6 y7 y8 y9, LeO (spec_laidTo.f k y0 y1 y2 y3 y4 y5 y6 y7 y8 y9) (spec_laidTo.f (k + 1) y0 y1 y2 y3 y4 y5 y6 y7 y8 y9)) ∧ (∀ y0 y1 y2 y3 y4 y5 y6 y7 y8 y9 y10 y11, LeO (spec_laidTo.j0 k y0 y1 y2 y3 y4 y5 y6 y7 y8 y9 y10 y11) (spec_laidTo.j0 (k + 1) y0 y1 y2 y3 y4 y5 y6 y7 y8 y9 y10 y11)) ∧ (∀ y0 y1 y2 y3 y4 y5 y6 y7 y8 y9 y10 y11 y12, LeO (spec_laidTo.l0 k y0 y1 y2 y3 y4 y5 y6 y7 y8 y9 y10 y11 y12) (spec_laidTo.l0 (k + 1) y0 y1 y2 y3 y4 y5 y6 y7 y8 y9 y10 y11 y12))
 | 0 => ⟨fun _ _ _ _ _ _ _ _ _ _ r h => by simp [spec_laidTo.f] at h, fun _ _ _ _ _ _ _ _ _ _ _ _ r h => by simp [spec_laidTo.j0] at h, fun _ _ _ _ _ _ _ _ _ _ _ _ _ r h => by simp [spec_laidTo.l0] at h⟩
 | k + 1 => by
  obtain ⟨ih0, ih1, ih2⟩ := spec_laidTo.mono_l k
  refine ⟨?_, ?_, ?_⟩
  all_goals intros
  all_goals (first | unfold spec_laidTo.f | unfold spec_laidTo.j0 | unfold spec_laidTo.l0)
  all_goals repeat' first
   | (with_reducible exact ih0 _ _ _ _ _ _ _ _ _ _)
   | (with_reducible exact ih1 _ _ _ _ _ _ _ _ _ _ _ _)
   | (with_reducible exact ih2 _ _ _ _ _ _ _ _ _ _ _ _ _)
   | (with_reducible exact spec_bareTo.mono _ _ _ _ _ _ _ _)
   | (with_reducible exact LeO.refl _)
   | (with_reducible exact LeO.none _)
   | (with_reducible refine LeO.ite ?_ ?_)
   | (with_reducible refine LeO.bind ?_ (fun _ => ?_))
   | exact ih0 _ _ _ _ _ _ _ _ _ _
   | exact ih1 _ _ _ _ _ _ _ _ _ _ _ _
   | exact ih2 _ _ _ _ _ _ _ _ _ _ _ _ _
   | exact spec_bareTo.mono _ _ _ _ _ _ _ _
   | exact LeO.none _
   | refine LeO.ite ?_ ?_
   | refine LeO.bind ?_ (fun _ => ?_)
theorem spec_laidTo.mono : ∀ a0 a1 a2 a3 a4 a5 a6 a7 a8 a9 k, LeO (spec_laidTo.f k a0 a1 a2 a3 a4 a5 a6 a7 a8 a9) (spec_laidTo.f (k + 1) a0 a1 a2 a3 a4 a5 a6 a7 a8 a9) := by
 intro a0 a1 a2 a3 a4 a5 a6 a7 a8 a9 k
 obtain ⟨ih0, ih1, ih2⟩ := spec_laidTo.mono_l k
 exact ih0 a0 a1 a2 a3 a4 a5 a6 a7 a8 a9
def spec_laidTo.T18 : Bool × List (List Nat × List Nat) := (true, [([], []), ([], []), ([], []), ([2], [2]), ([], []), ([3, 4], [3, 4]), ([5], [5]), ([6], [6]), ([], []), ([8], [8]), ([], []), ([9, 10], [9, 10]), ([11], [11]), ([12], [12]), ([1, 7, 13], [1, 7, 13]), ([0, 14], [0, 14]), ([15, 15, 0, 1, 2, 3, 4, 5, 6, 7, 8, 9, 10, 11, 12, 13, 14, 15], [0, 15])])
def spec_laidTo.B18 : List Nat := [0, 0, 0, 4, 0, 28, 60, 124, 0, 256, 0, 1792, 3840, 7936, 16382, 32767, 65535]
theorem spec_laidTo.tab18 : rtab .any (opsOf Try.f10 18) = spec_laidTo.T18 := by kernel_rfl
theorem spec_laidTo.bits18 : waitsOk spec_laidTo.T18.2 spec_laidTo.B18 = true := by kernel_rfl
set_option maxHeartbeats 8000000 in
set_option maxRecDepth 100000 in
theorem spec_laidTo.calls (k : Nat) : ∀ (P0_ : Nat → Prop) (u9000_ : Value) (l0 : List Int) (a1 : ByteArray) (a2_0 : Int) (a2_1 : Int) (a2_2 : Int) (A2_3 : Option Addr) (c2_3 : Nat) (l2_3 : List (S41)) (A2_4 : Option Addr) (c2_4 : Nat) (l2_4 : List (S25)) (a3 : ByteArray) (a4 : ByteArray) (a5 : Bool) (r : List Int) (w0 w : World) (hB : Below w0.heap.size w0 w) (ho0 : Kd.R (Kd.int .u8) 5 w w0.heap.size P0_ u9000_ l0) (hr2_3 : Kd.C k41 w0 A2_3 l2_3.length l2_3) (hc2_3 : l2_3.length ≤ c2_3) (hr2_4 : Kd.C k25 w0 A2_4 l2_4.length l2_4) (hc2_4 : l2_4.length ≤ c2_4) (h : spec_laidTo.f k l0 a1 a2_0 a2_1 a2_2 l2_3 l2_4 a3 a4 a5 = some r),
  Calls Try.prog 10 #[u9000_, .string a1, .agg #[.int .i64 a2_0, .int .i64 a2_1, .int .i64 a2_2, .slice A2_3 l2_3.length c2_3, .slice A2_4 l2_4.length c2_4], .string a3, .string a4, .bool a5] w fun e w' => ∃ v0_ : Value, e = .returned (v0_) ∧ Kd.R (Kd.int .u8) 5 w' w0.heap.size (fun k_ => (P0_ k_ ∨ w.heap.size ≤ k_)) v0_ r ∧ Below w0.heap.size w0 w' ∧ Kept w w' (fun k_ => P0_ k_) := by
 induction k using Nat.strongRecOn with
 | _ k ih =>
 intro P0_ u9000_ l0 a1 a2_0 a2_1 a2_2 A2_3 c2_3 l2_3 A2_4 c2_4 l2_4 a3 a4 a5 r w0 w hB ho0 hr2_3 hc2_3 hr2_4 hc2_4 h
 cases k with
 | zero => exact absurd h (by simp [spec_laidTo.f])
 | succ k =>
 simp only [spec_laidTo.f] at h
 have hu25 := Try.underlying25
 have HO0 := a_ (show Kd.R (Kd.int .u8) 5 w w0.heap.size (fun k_ => (P0_ k_ ∨ w.heap.size ≤ k_)) u9000_ l0 from Kd.R_mono ho0 (fun k_ hk => (.inl hk)))
 have HR2_3 := a_ hr2_3
 have HC2_3 := a_ hc2_3
 clear hr2_3 hc2_3
 have HR2_4 := a_ hr2_4
 have HC2_4 := a_ hc2_4
 clear hr2_4 hc2_4
 have HK := a_ (Kept.refl w (fun k_ => P0_ k_))
 have HW0 := a_ hB.size
 have HB := a_ hB
 clear hB
 have H : (if (l2_4.length : Int) = 0 then ((spec_bareTo.f k l0 a1 a2_0 a2_1 a2_2 l2_3 l2_4).bind fun t616 => (some t616)) else (if a5 = true then (none) else (if a2_0 = 6 then (spec_laidTo.j0 k l0 a1 a3 a4 a5 123 125 a2_0 a2_1 a2_2 l2_3 l2_4) else (spec_laidTo.j0 k l0 a1 a3 a4 a5 91 93 a2_0 a2_1 a2_2 l2_3 l2_4)))) = some r := h
 clear h
 by_cases c7 : (l2_4.length : Int) = 0
 ·
  rw [if_pos c7] at H
  have c7b0 : ((l2_4.length : Int) == 0) = true := beq_iff_eq.mpr c7
  have c7b1 : ((l2_4.length : Int) != 0) = false := bne_eq_false_iff_eq.mpr c7
  clear c7
  replace H := Option.bind_eq_some_iff.mp H
  obtain ⟨t616, A80, H⟩ := H
  replace H : (some t616) = some r := H
  have A8 := a_ A80
  clear A80
  obtain rfl := Option.some.inj H
  go_enter Try.func10, Try.ntmps10
  go_wp2_with (first | ((with_reducible refine gate_dst (N := 8) rfl ?_); refine box_event ?hg (N := 8) ?hd (cs := #[.int .i64 a2_0, .int .i64 a2_1, .int .i64 a2_2, .slice A2_3 l2_3.length c2_3, .slice A2_4 l2_4.length c2_4]) (t := 25) ?hr ?_; (case hd => rfl); (case hg => rfl); (case hr => first | (go_simp; done) | (go_simp; rfl)); intro gb615 hg w9 hbox hb; have n0_ := a_ (Kd.R_below (rp_ HO0) hb); have n1_ := a_ (Kept.below (S := (fun k_ => P0_ k_)) (kp_ HK) hb); have n2_ := a_ (below_step (bl_ HB) hb); have n3_ := a_ (hbox); have n4_ := a_ ((by rw [hg]; exact (kz_ HK) : w.heap.size ≤ gb615)); have n5_ := a_ ((by rw [hg]; exact (below_size (bl_ HB)) : w0.heap.size ≤ gb615)); clear HO0 HK HB; have HO0 := n0_; have HK := n1_; have HB := n2_; have BK615 := n3_; have GW615 := n4_; have GE615 := n5_; clear n0_ n1_ n2_ n3_ n4_ n5_ hb hbox hg; have hcz10_0 := bc_ BK615 0 (.int .i64 a2_0); have hcz10_1 := bc_ BK615 1 (.int .i64 a2_1); have hcz10_2 := bc_ BK615 2 (.int .i64 a2_2); have hcz10_3 := bc_ BK615 3 (.slice A2_3 l2_3.length c2_3); have hcz10_4 := bc_ BK615 4 (.slice A2_4 l2_4.length c2_4); have hfz10_0 := blk_frozen BK615.out 0; have hfz10_1 := blk_frozen BK615.out 1; have hfz10_2 := blk_frozen BK615.out 2; have hfz10_3 := blk_frozen BK615.out 3; have hfz10_4 := blk_frozen BK615.out 4; obtain ⟨Ao11, co11, eo11⟩ := Kd.R_slice HO0.out; subst eo11) | ((with_reducible refine gate_callee (f := 14) rfl ?_); refine goesL_ (some 24) rfl rfl Try.func14 (by kernel_rfl) rfl #[.slice Ao11 l0.length co11, .string a1, .agg #[.int .i64 a2_0, .int .i64 a2_1, .int .i64 a2_2, .slice A2_3 l2_3.length c2_3, .slice A2_4 l2_4.length c2_4]] rfl ar_ ?_; (with_reducible refine (spec_bareTo.calls k (fun k_ => some k_ = (.slice Ao11 l0.length co11 : Value).ownBlock) (.slice Ao11 l0.length co11) l0 a1 a2_0 a2_1 a2_2 _ _ l2_3 _ _ l2_4 t616 w0 _ ?side1 ?side2 ?side3 ?side4 ?side5 ?side6 A8.out).mono ?_); (case side1 => exact bl_ HB); (case side2 => exact Kd.R_tight rfl HO0.out); (case side3 => exact HR2_3.out); (case side4 => exact HC2_3.out); (case side5 => exact HR2_4.out); (case side6 => exact HC2_4.out); rintro e w12 ⟨v617, rfl, ho0, hb, hkp⟩; refine ⟨_, rfl, ?_⟩; have n0_ := a_ (blk_kept (bk_ BK615) hkp (fun hs_ => (fun e_ => (Kd.R_ne HO0.out BK615.out (by decide)) e_) hs_)); have n1_ := a_ (Kd.R_mono (ok' := fun k_ => (P0_ k_ ∨ w.heap.size ≤ k_)) ho0 (fun k_ hk_ => Or.elim hk_ (fun hs_ => (HO0.out.1 k_ (hs_).symm)) (fun hn_ => (.inr (Nat.le_trans (kz_ HK) hn_))))); have n2_ := a_ (Kept.then_ (S := (fun k_ => P0_ k_)) (kp_ HK) hkp (fun k_ hs_ => (fun e_ => (HO0.out.1 k_ e_.symm)) hs_)); have n3_ := a_ (hb); clear BK615 HK HB HO0; have BK615 := n0_; have HO618 := n1_; have HK := n2_; have HB := n3_; clear n0_ n1_ n2_ n3_ hb hkp ho0))
  go_ret
  exact ⟨_, by first | rfl | (simp [errW_none, errW_some] <;> rfl) | (simp [*, errW_none, errW_some] <;> rfl), rp_ HO618, bl_ HB, kp_ HK⟩
 rw [if_neg c7] at H
 have c7b0 : ((l2_4.length : Int) == 0) = false := beq_eq_false_iff_ne.mpr c7
 have c7b1 : ((l2_4.length : Int) != 0) = true := bne_iff_ne.mpr c7
 have c7b2 : ¬ (l2_4 = []) := fun h_ => c7 (by rw [h_]; rfl)
 by_cases c13 : a5 = true
 ·
  subst c13
  have H1 : (none) = some r := by rw [if_pos rfl] at H; exact H
  clear H
  have H := H1
  clear H1
  exact absurd H (by simp)
 replace c13 := Bool.eq_false_iff.mpr c13
 subst c13
 have H1 : (if a2_0 = 6 then (spec_laidTo.j0 k l0 a1 a3 a4 false 123 125 a2_0 a2_1 a2_2 l2_3 l2_4) else (spec_laidTo.j0 k l0 a1 a3 a4 false 91 93 a2_0 a2_1 a2_2 l2_3 l2_4)) = some r := by rw [if_neg (show ¬ (false = true) by decide)] at H; exact H
 clear H
 have H := H1
 clear H1
 have HC14 := a_ H
 clear H
 go_enter Try.func10, Try.ntmps10
 go_upto_if 38 with (first | ((with_reducible refine gate_dst (N := 8) rfl ?_); refine box_event ?hg (N := 8) ?hd (cs := #[.int .i64 a2_0, .int .i64 a2_1, .int .i64 a2_2, .slice A2_3 l2_3.length c2_3, .slice A2_4 l2_4.length c2_4]) (t := 25) ?hr ?_; (case hd => rfl); (case hg => rfl); (case hr => first | (go_simp; done) | (go_simp; rfl)); intro gb615 hg w15 hbox hb; have n0_ := a_ (Kd.R_below (rp_ HO0) hb); have n1_ := a_ (Kept.below (S := (fun k_ => P0_ k_)) (kp_ HK) hb); have n2_ := a_ (below_step (bl_ HB) hb); have n3_ := a_ (hbox); have n4_ := a_ ((by rw [hg]; exact (kz_ HK) : w.heap.size ≤ gb615)); have n5_ := a_ ((by rw [hg]; exact (below_size (bl_ HB)) : w0.heap.size ≤ gb615)); clear HO0 HK HB; have HO0 := n0_; have HK := n1_; have HB := n2_; have BK615 := n3_; have GW615 := n4_; have GE615 := n5_; clear n0_ n1_ n2_ n3_ n4_ n5_ hb hbox hg; have hcz16_0 := bc_ BK615 0 (.int .i64 a2_0); have hcz16_1 := bc_ BK615 1 (.int .i64 a2_1); have hcz16_2 := bc_ BK615 2 (.int .i64 a2_2); have hcz16_3 := bc_ BK615 3 (.slice A2_3 l2_3.length c2_3); have hcz16_4 := bc_ BK615 4 (.slice A2_4 l2_4.length c2_4); have hfz16_0 := blk_frozen BK615.out 0; have hfz16_1 := blk_frozen BK615.out 1; have hfz16_2 := blk_frozen BK615.out 2; have hfz16_3 := blk_frozen BK615.out 3; have hfz16_4 := blk_frozen BK615.out 4))
 (try simp only [Act.put, List.setIfInBounds_toArray, List.set_cons_zero, List.set_cons_succ])
 go_cut [13, 14] (fun v13 v14 wc => ∃ (kq : Nat) (x13_13 : Int) (x14_13 : Int), v13 = .int .u8 x13_13 ∧ v14 = .int .u8 x14_13 ∧ Aside0 (spec_laidTo.j0 kq l0 a1 a3 a4 false x13_13 x14_13 a2_0 a2_1 a2_2 l2_3 l2_4 = some r) ∧ Aside0 (kq ≤ k) ∧ Aside0 (Kd.R (Kd.int .u8) 5 wc w0.heap.size (fun k_ => (P0_ k_ ∨ w.heap.size ≤ k_)) u9000_ l0) ∧ Aside0 (wc.heap[gb615]? = some (.cells #[.int .i64 a2_0, .int .i64 a2_1, .int .i64 a2_2, (.slice A2_3 l2_3.length c2_3), (.slice A2_4 l2_4.length c2_4)] 25 (0, 0))) ∧ Aside0 (Kept w wc (fun k_ => P0_ k_)) ∧ Aside0 (Below w0.heap.size w0 wc))
 case first =>
  have H := HC14.out
  clear HC14
  by_cases c17 : a2_0 = 6
  rotate_left
  ·
   rw [if_neg c17] at H
   have c17b0 : (a2_0 == 6) = false := beq_eq_false_iff_ne.mpr c17
   have c17b1 : (a2_0 != 6) = true := bne_iff_ne.mpr c17
   (first | rw [c17b0] | (simp only [i64_w, i32_w]; rw [c17b0]) | skip)
   have H' := a_ H
   clear H
   go_wp2
   go_meet
   case rel => exact ⟨_, (91), (93), rl_, rl_, H', ⟨by first | omega | exact Nat.le_refl _⟩, ⟨rp_ HO0⟩, ⟨bk_ BK615⟩, ⟨kp_ HK⟩, ⟨bl_ HB⟩⟩
  rw [if_pos c17] at H
  have c17b0 : (a2_0 == 6) = true := beq_iff_eq.mpr c17
  have c17b1 : (a2_0 != 6) = false := bne_eq_false_iff_eq.mpr c17
  clear c17
  (first | rw [c17b0] | (simp only [i64_w, i32_w]; rw [c17b0]) | skip)
  have H' := a_ H
  clear H
  go_wp2
  go_meet
  case rel => exact ⟨_, (123), (125), rl_, rl_, H', ⟨by first | omega | exact Nat.le_refl _⟩, ⟨rp_ HO0⟩, ⟨bk_ BK615⟩, ⟨kp_ HK⟩, ⟨bl_ HB⟩⟩
 clear HC14
 clear c7 c7b0 c7b1 c7b2 hcz16_0 hcz16_1 hcz16_2 hcz16_3 hcz16_4 hfz16_0 hfz16_1 hfz16_2 hfz16_3 hfz16_4
 obtain ⟨kq, x13_13, x14_13, rfl, rfl, HA, HJ13, HO_0, BK615, HK, HB⟩ := hcut
 cases kq with
 | zero => exact absurd HA.out (by simp [spec_laidTo.j0])
 | succ kj13 =>
  have H := HA.out
  clear HA
  simp only [spec_laidTo.j0] at H
  by_cases c18 : l0.length < 140737488355328
  rotate_left
  ·
   rw [if_neg c18] at H
   exact absurd H (by simp)
  rw [if_pos c18] at H
  have LMc18 := a_ c18
  clear c18
  obtain ⟨y619, hy619⟩ : ∃ y_ : List Int, y_ = (l0 ++ [x13_13]) := ⟨_, rfl⟩
  replace H : (spec_laidTo.l0 kj13 y619 a1 a3 a4 false x14_13 (l2_4.length : Int) 0 a2_0 a2_1 a2_2 l2_3 l2_4) = some r := by first | exact lt_ H hy619 | (rw [hy619]; exact H) | exact H
  have Ny619 := a_ hy619
  clear hy619
  have H' := a_ H
  clear H
  go_wp2_with (first | ((with_reducible refine gate_builtin (b := .append) (xs := #[.tmp 39, .tmp 41]) rfl ?_); at_builtin; refine Kd.R_append (Kd.int .u8) (w0 := w0) w0.heap.size rfl (.tmp 39) (.tmp 41) 32 5 (.int .u8 0) 1 rfl Try.underlying32 info5 rfl (by decide) (by omega) u9000_ l0 x13_13 [.int .u8 x13_13] (fun k_ => (P0_ k_ ∨ w.heap.size ≤ k_)) (fun _ => False) rfl rfl ?aP (fun _ hk => hk.elim) ?aF ?aO ?aB ?aS ?aL ?_; (case aP => exact rfl); (case aB => exact (bl_ HB)); (case aF => exact (fun k_ hk => (.inr (Nat.le_trans (kz_ HK) hk)))); (case aO => exact (rp_ HO_0)); (case aS => exact (below_size (bl_ HB))); (case aL => have := LMc18.out; omega); intro v620 w19 ho hb hg hat; rw [← Ny619.out] at ho; have n0_ := a_ (blk_grown (g := gb615) (o := .cells #[.int .i64 a2_0, .int .i64 a2_1, .int .i64 a2_2, .slice A2_3 l2_3.length c2_3, .slice A2_4 l2_4.length c2_4] 25 (0, 0)) (bk_ BK615) hg (Kd.R_ne HO_0.out BK615.out (by decide))); have n1_ := a_ (hb); have n2_ := a_ (Kept.of_grown (S := (fun k_ => P0_ k_)) hg (kp_ HK) (fun k_ e_ => (HO_0.out.1 k_ e_))); have n3_ := a_ (ho); clear BK615 HB HK HO_0; have BK615 := n0_; have HB := n1_; have HK := n2_; have HO621 := n3_; clear n0_ n1_ n2_ n3_ ho hb hg hat; have hcz20_0 := bc_ BK615 0 (.int .i64 a2_0); have hcz20_1 := bc_ BK615 1 (.int .i64 a2_1); have hcz20_2 := bc_ BK615 2 (.int .i64 a2_2); have hcz20_3 := bc_ BK615 3 (.slice A2_3 l2_3.length c2_3); have hcz20_4 := bc_ BK615 4 (.slice A2_4 l2_4.length c2_4); have hfz20_0 := blk_frozen BK615.out 0; have hfz20_1 := blk_frozen BK615.out 1; have hfz20_2 := blk_frozen BK615.out 2; have hfz20_3 := blk_frozen BK615.out 3; have hfz20_4 := blk_frozen BK615.out 4))
  (try simp only [Act.put, List.setIfInBounds_toArray, List.set_cons_zero, List.set_cons_succ])
  go_loopg [0, 46] kj13 (fun kq v0 v46 w' => ∃ (x0_2 : List Int) (x46_2 : Int), v46 = .int .i64 x46_2 ∧ Aside0 (spec_laidTo.l0 kq x0_2 a1 a3 a4 false x14_13 (l2_4.length : Int) x46_2 a2_0 a2_1 a2_2 l2_3 l2_4 = some r) ∧ Aside0 (kq ≤ kj13) ∧ Aside0 (Kd.R (Kd.int .u8) 5 w' w0.heap.size (fun k_ => (P0_ k_ ∨ w.heap.size ≤ k_)) v0 x0_2) ∧ Aside0 (w'.heap[gb615]? = some (.cells #[.int .i64 a2_0, .int .i64 a2_1, .int .i64 a2_2, (.slice A2_3 l2_3.length c2_3), (.slice A2_4 l2_4.length c2_4)] 25 (0, 0))) ∧ Aside0 (Kept w w' (fun k_ => P0_ k_)) ∧ Aside0 (Below w0.heap.size w0 w'))
  case atStart => exact ⟨(y619), (0), rl_, H', ⟨Nat.le_refl _⟩, ⟨rp_ HO621⟩, ⟨bk_ BK615⟩, ⟨kp_ HK⟩, ⟨bl_ HB⟩⟩
  case round =>
   clear H'
   clear hcz20_0 hcz20_1 hcz20_2 hcz20_3 hcz20_4 hfz20_0 hfz20_1 hfz20_2 hfz20_3 hfz20_4
   obtain ⟨x0_2, x46_2, rfl, HA, HK2, HO_0, BK615, HK, HB⟩ := hrel
   cases gk with
   | zero => exact absurd HA.out (by simp [spec_laidTo.l0])
   | succ k2 =>
    have H := HA.out
    clear HA
    simp only [spec_laidTo.l0] at H
    by_cases c21 : x46_2 < (l2_4.length : Int)
    rotate_left
    ·
     rw [if_neg c21] at H
     have c21b0 : decide (x46_2 < (l2_4.length : Int)) = false := decide_eq_false c21
     clear c21
     by_cases c100 : x0_2.length < 140737488355328
     rotate_left
     ·
      rw [if_neg c100] at H
      exact absurd H (by simp)
     rw [if_pos c100] at H
     have LMc100 := a_ c100
     clear c100
     obtain ⟨y622, hy622⟩ : ∃ y_ : List Int, y_ = (x0_2 ++ [10]) := ⟨_, rfl⟩
     replace H := lt_ H hy622
     have Ny622 := a_ hy622
     clear hy622
     by_cases c101 : y622.length + a3.size < 140737488355328
     rotate_left
     ·
      rw [if_neg c101] at H
      exact absurd H (by simp)
     rw [if_pos c101] at H
     have LMc101 := a_ c101
     clear c101
     obtain ⟨y625, hy625⟩ : ∃ y_ : List Int, y_ = (y622 ++ bytesOf a3) := ⟨_, rfl⟩
     replace H := lt_ H hy625
     have Ny625 := a_ hy625
     clear hy625
     by_cases c102 : y625.length < 140737488355328
     rotate_left
     ·
      rw [if_neg c102] at H
      exact absurd H (by simp)
     rw [if_pos c102] at H
     have LMc102 := a_ c102
     clear c102
     obtain ⟨y628, hy628⟩ : ∃ y_ : List Int, y_ = (y625 ++ [x14_13]) := ⟨_, rfl⟩
     replace H : (some y628) = some r := by first | exact lt_ H hy628 | (rw [hy628]; exact H) | exact H
     have Ny628 := a_ hy628
     clear hy628
     obtain rfl := Option.some.inj H
     go_wp2_with (first | ((with_reducible refine gate_builtin (b := .append) (xs := #[.tmp 99, .tmp 100]) rfl ?_); at_builtin; refine Kd.R_append (Kd.int .u8) (w0 := w0) w0.heap.size rfl (.tmp 99) (.tmp 100) 32 5 (.int .u8 0) 1 rfl Try.underlying32 info5 rfl (by decide) (by omega) u0 x0_2 10 [.int .u8 10] (fun k_ => (P0_ k_ ∨ w.heap.size ≤ k_)) (fun _ => False) rfl rfl ?aP (fun _ hk => hk.elim) ?aF ?aO ?aB ?aS ?aL ?_; (case aP => exact rfl); (case aB => exact (bl_ HB)); (case aF => exact (fun k_ hk => (.inr (Nat.le_trans (kz_ HK) hk)))); (case aO => exact (rp_ HO_0)); (case aS => exact (below_size (bl_ HB))); (case aL => have := LMc100.out; omega); intro v623 w103 ho hb hg hat; rw [← Ny622.out] at ho; have n0_ := a_ (blk_grown (g := gb615) (o := .cells #[.int .i64 a2_0, .int .i64 a2_1, .int .i64 a2_2, .slice A2_3 l2_3.length c2_3, .slice A2_4 l2_4.length c2_4] 25 (0, 0)) (bk_ BK615) hg (Kd.R_ne HO_0.out BK615.out (by decide))); have n1_ := a_ (hb); have n2_ := a_ (Kept.of_grown (S := (fun k_ => P0_ k_)) hg (kp_ HK) (fun k_ e_ => (HO_0.out.1 k_ e_))); have n3_ := a_ (ho); clear BK615 HB HK HO_0; have BK615 := n0_; have HB := n1_; have HK := n2_; have HO624 := n3_; clear n0_ n1_ n2_ n3_ ho hb hg hat) | (at_builtin; refine Kd.R_append_str (w0 := w0) w0.heap.size rfl (.tmp 102) _ 32 9 5 rfl Try.underlying32 Try.underlying9 info5 v623 y622 a3 (fun k_ => (P0_ k_ ∨ w.heap.size ≤ k_)) rfl rfl ?aF ?aO ?aB ?aS ?aL ?_; (case aB => exact (bl_ HB)); (case aF => exact (fun k_ hk => (.inr (Nat.le_trans (kz_ HK) hk)))); (case aO => exact (rp_ HO624)); (case aS => exact (below_size (bl_ HB))); (case aL => have := LMc101.out; omega); intro v626 w104 ho hb hg hat; rw [← Ny625.out] at ho; have n0_ := a_ (blk_grown (g := gb615) (o := .cells #[.int .i64 a2_0, .int .i64 a2_1, .int .i64 a2_2, .slice A2_3 l2_3.length c2_3, .slice A2_4 l2_4.length c2_4] 25 (0, 0)) (bk_ BK615) hg (Kd.R_ne HO624.out BK615.out (by decide))); have n1_ := a_ (hb); have n2_ := a_ (Kept.of_grown (S := (fun k_ => P0_ k_)) hg (kp_ HK) (fun k_ e_ => (HO624.out.1 k_ e_))); have n3_ := a_ (ho); clear BK615 HB HK HO624; have BK615 := n0_; have HB := n1_; have HK := n2_; have HO627 := n3_; clear n0_ n1_ n2_ n3_ ho hb hg hat) | ((with_reducible refine gate_builtin (b := .append) (xs := #[.tmp 105, .tmp 107]) rfl ?_); at_builtin; refine Kd.R_append (Kd.int .u8) (w0 := w0) w0.heap.size rfl (.tmp 105) (.tmp 107) 32 5 (.int .u8 0) 1 rfl Try.underlying32 info5 rfl (by decide) (by omega) v626 y625 x14_13 [.int .u8 x14_13] (fun k_ => (P0_ k_ ∨ w.heap.size ≤ k_)) (fun _ => False) rfl rfl ?aP (fun _ hk => hk.elim) ?aF ?aO ?aB ?aS ?aL ?_; (case aP => exact rfl); (case aB => exact (bl_ HB)); (case aF => exact (fun k_ hk => (.inr (Nat.le_trans (kz_ HK) hk)))); (case aO => exact (rp_ HO627)); (case aS => exact (below_size (bl_ HB))); (case aL => have := LMc102.out; omega); intro v629 w105 ho hb hg hat; rw [← Ny628.out] at ho; have n0_ := a_ (blk_grown (g := gb615) (o := .cells #[.int .i64 a2_0, .int .i64 a2_1, .int .i64 a2_2, .slice A2_3 l2_3.length c2_3, .slice A2_4 l2_4.length c2_4] 25 (0, 0)) (bk_ BK615) hg (Kd.R_ne HO627.out BK615.out (by decide))); have n1_ := a_ (hb); have n2_ := a_ (Kept.of_grown (S := (fun k_ => P0_ k_)) hg (kp_ HK) (fun k_ e_ => (HO627.out.1 k_ e_))); have n3_ := a_ (ho); clear BK615 HB HK HO627; have BK615 := n0_; have HB := n1_; have HK := n2_; have HO630 := n3_; clear n0_ n1_ n2_ n3_ ho hb hg hat))
     go_ret
     exact ⟨_, by first | rfl | (simp [errW_none, errW_some] <;> rfl) | (simp [*, errW_none, errW_some] <;> rfl), rp_ HO630, bl_ HB, kp_ HK⟩
    rw [if_pos c21] at H
    have c21b0 : decide (x46_2 < (l2_4.length : Int)) = true := decide_eq_true c21
    clear c21
    by_cases c22 : x46_2 > 0
    rotate_left
    ·
     rw [if_neg c22] at H
     have c22b0 : decide (0 < x46_2) = false := decide_eq_false c22
     clear c22
     by_cases c63 : x0_2.length < 140737488355328
     rotate_left
     ·
      rw [if_neg c63] at H
      exact absurd H (by simp)
     rw [if_pos c63] at H
     have LMc63 := a_ c63
     clear c63
     obtain ⟨y662, hy662⟩ : ∃ y_ : List Int, y_ = (x0_2 ++ [10]) := ⟨_, rfl⟩
     replace H := lt_ H hy662
     have Ny662 := a_ hy662
     clear hy662
     by_cases c64 : y662.length + a3.size < 140737488355328
     rotate_left
     ·
      rw [if_neg c64] at H
      exact absurd H (by simp)
     rw [if_pos c64] at H
     have LMc64 := a_ c64
     clear c64
     obtain ⟨y665, hy665⟩ : ∃ y_ : List Int, y_ = (y662 ++ bytesOf a3) := ⟨_, rfl⟩
     replace H := lt_ H hy665
     have Ny665 := a_ hy665
     clear hy665
     by_cases c65 : y665.length + a4.size < 140737488355328
     rotate_left
     ·
      rw [if_neg c65] at H
      exact absurd H (by simp)
     rw [if_pos c65] at H
     have LMc65 := a_ c65
     clear c65
     obtain ⟨y668, hy668⟩ : ∃ y_ : List Int, y_ = (y665 ++ bytesOf a4) := ⟨_, rfl⟩
     replace H := lt_ H hy668
     have Ny668 := a_ hy668
     clear hy668
     by_cases c66 : a2_0 = 6
     rotate_left
     ·
      rw [if_neg c66] at H
      have c66b0 : (a2_0 == 6) = false := beq_eq_false_iff_ne.mpr c66
      have c66b1 : (a2_0 != 6) = true := bne_iff_ne.mpr c66
      by_cases c90 : 0 ≤ x46_2
      rotate_left
      ·
       rw [if_neg c90] at H
       exact absurd H (by simp)
      rw [if_pos c90] at H
      have c90b0 : decide (0 ≤ x46_2) = true := decide_eq_true c90
      clear c90
      by_cases c91 : x46_2 < (l2_4.length : Int)
      rotate_left
      ·
       rw [if_neg c91] at H
       exact absurd H (by simp)
      rw [if_pos c91] at H
      have c91b0 : decide (x46_2 < (l2_4.length : Int)) = true := decide_eq_true c91
      clear c91
      by_cases c92 : a3.size + a4.size ≤ 9223372036854775807
      rotate_left
      ·
       rw [if_neg c92] at H
       exact absurd H (by simp)
      rw [if_pos c92] at H
      have c92b0 := eq_true c92
      have c92b1 : decide (a3.size + a4.size ≤ 9223372036854775807) = true := decide_eq_true c92
      try have c92b2 : (9223372036854775807 < a3.size + a4.size) = False := eq_false (Nat.not_lt.2 c92)
      replace H := Option.bind_eq_some_iff.mp H
      obtain ⟨t687, A930, H⟩ := H
      replace H : (spec_laidTo.l0 k2 t687 a1 a3 a4 false x14_13 (l2_4.length : Int) (wrap64 (x46_2 + 1)) a2_0 a2_1 a2_2 l2_3 l2_4) = some r := H
      have A93 := a_ A930
      clear A930
      have H' := a_ H
      clear H
      go_wp2_with (first | ((with_reducible refine gate_builtin (b := .append) (xs := #[.tmp 54, .tmp 55]) rfl ?_); at_builtin; refine Kd.R_append (Kd.int .u8) (w0 := w0) w0.heap.size rfl (.tmp 54) (.tmp 55) 32 5 (.int .u8 0) 1 rfl Try.underlying32 info5 rfl (by decide) (by omega) u0 x0_2 10 [.int .u8 10] (fun k_ => (P0_ k_ ∨ w.heap.size ≤ k_)) (fun _ => False) rfl rfl ?aP (fun _ hk => hk.elim) ?aF ?aO ?aB ?aS ?aL ?_; (case aP => exact rfl); (case aB => exact (bl_ HB)); (case aF => exact (fun k_ hk => (.inr (Nat.le_trans (kz_ HK) hk)))); (case aO => exact (rp_ HO_0)); (case aS => exact (below_size (bl_ HB))); (case aL => have := LMc63.out; omega); intro v663 w94 ho hb hg hat; rw [← Ny662.out] at ho; have n0_ := a_ (blk_grown (g := gb615) (o := .cells #[.int .i64 a2_0, .int .i64 a2_1, .int .i64 a2_2, .slice A2_3 l2_3.length c2_3, .slice A2_4 l2_4.length c2_4] 25 (0, 0)) (bk_ BK615) hg (Kd.R_ne HO_0.out BK615.out (by decide))); have n1_ := a_ (hb); have n2_ := a_ (Kept.of_grown (S := (fun k_ => P0_ k_)) hg (kp_ HK) (fun k_ e_ => (HO_0.out.1 k_ e_))); have n3_ := a_ (ho); clear BK615 HB HK HO_0; have BK615 := n0_; have HB := n1_; have HK := n2_; have HO664 := n3_; clear n0_ n1_ n2_ n3_ ho hb hg hat) | (at_builtin; refine Kd.R_append_str (w0 := w0) w0.heap.size rfl (.tmp 57) _ 32 9 5 rfl Try.underlying32 Try.underlying9 info5 v663 y662 a3 (fun k_ => (P0_ k_ ∨ w.heap.size ≤ k_)) rfl rfl ?aF ?aO ?aB ?aS ?aL ?_; (case aB => exact (bl_ HB)); (case aF => exact (fun k_ hk => (.inr (Nat.le_trans (kz_ HK) hk)))); (case aO => exact (rp_ HO664)); (case aS => exact (below_size (bl_ HB))); (case aL => have := LMc64.out; omega); intro v666 w95 ho hb hg hat; rw [← Ny665.out] at ho; have n0_ := a_ (blk_grown (g := gb615) (o := .cells #[.int .i64 a2_0, .int .i64 a2_1, .int .i64 a2_2, .slice A2_3 l2_3.length c2_3, .slice A2_4 l2_4.length c2_4] 25 (0, 0)) (bk_ BK615) hg (Kd.R_ne HO664.out BK615.out (by decide))); have n1_ := a_ (hb); have n2_ := a_ (Kept.of_grown (S := (fun k_ => P0_ k_)) hg (kp_ HK) (fun k_ e_ => (HO664.out.1 k_ e_))); have n3_ := a_ (ho); clear BK615 HB HK HO664; have BK615 := n0_; have HB := n1_; have HK := n2_; have HO667 := n3_; clear n0_ n1_ n2_ n3_ ho hb hg hat) | (at_builtin; refine Kd.R_append_str (w0 := w0) w0.heap.size rfl (.tmp 60) _ 32 9 5 rfl Try.underlying32 Try.underlying9 info5 v666 y665 a4 (fun k_ => (P0_ k_ ∨ w.heap.size ≤ k_)) rfl rfl ?aF ?aO ?aB ?aS ?aL ?_; (case aB => exact (bl_ HB)); (case aF => exact (fun k_ hk => (.inr (Nat.le_trans (kz_ HK) hk)))); (case aO => exact (rp_ HO667)); (case aS => exact (below_size (bl_ HB))); (case aL => have := LMc65.out; omega); intro v669 w96 ho hb hg hat; rw [← Ny668.out] at ho; have n0_ := a_ (blk_grown (g := gb615) (o := .cells #[.int .i64 a2_0, .int .i64 a2_1, .int .i64 a2_2, .slice A2_3 l2_3.length c2_3, .slice A2_4 l2_4.length c2_4] 25 (0, 0)) (bk_ BK615) hg (Kd.R_ne HO667.out BK615.out (by decide))); have n1_ := a_ (hb); have n2_ := a_ (Kept.of_grown (S := (fun k_ => P0_ k_)) hg (kp_ HK) (fun k_ e_ => (HO667.out.1 k_ e_))); have n3_ := a_ (ho); clear BK615 HB HK HO667; have BK615 := n0_; have HB := n1_; have HK := n2_; have HO670 := n3_; clear n0_ n1_ n2_ n3_ ho hb hg hat; have hcz97_0 := bc_ BK615 0 (.int .i64 a2_0); have hcz97_1 := bc_ BK615 1 (.int .i64 a2_1); have hcz97_2 := bc_ BK615 2 (.int .i64 a2_2); have hcz97_3 := bc_ BK615 3 (.slice A2_3 l2_3.length c2_3); have hcz97_4 := bc_ BK615 4 (.slice A2_4 l2_4.length c2_4); have hfz97_0 := blk_frozen BK615.out 0; have hfz97_1 := blk_frozen BK615.out 1; have hfz97_2 := blk_frozen BK615.out 2; have hfz97_3 := blk_frozen BK615.out 3; have hfz97_4 := blk_frozen BK615.out 4; have p686 : 0 ≤ (x46_2 : Int) := of_decide_eq_true as_; have q686 : x46_2 < (l2_4.length : Int) := of_decide_eq_true as_; obtain ⟨ad686, A686_3, c686_3, A686_4, c686_4, e686, hx686_0, hx686_1, hx686_2, hx686_3, hx686_4, hl686_3, hi686_3, hl686_4, hi686_4⟩ := at_T25_w0 HR2_4.out HB.out x46_2 p686 q686; cases e686; have HR686_3 := a_ hi686_3; have HC686_3 := a_ hl686_3; clear hi686_3 hl686_3; have HR686_4 := a_ hi686_4; have HC686_4 := a_ hl686_4; clear hi686_4 hl686_4; replace p686 := eq_true p686; replace q686 := eq_true q686; obtain ⟨Ao98, co98, eo98⟩ := Kd.R_slice HO670.out; subst eo98) | ((with_reducible refine gate_callee (f := 10) rfl ?_); refine goesL_ (some 97) rfl rfl Try.func10 (by kernel_rfl) rfl #[.slice Ao98 y668.length co98, .string a1, .agg #[.int .i64 ((rd_T25 l2_4 x46_2).f0), .int .i64 ((rd_T25 l2_4 x46_2).f1), .int .i64 ((rd_T25 l2_4 x46_2).f2), .slice A686_3 ((rd_T25 l2_4 x46_2).f3).length c686_3, .slice A686_4 ((rd_T25 l2_4 x46_2).f4).length c686_4], .string (a3 ++ a4), .string a4, .bool false] rfl ar_ ?_; (with_reducible refine (ih k2 (by have := HJ13.out; have := HK2.out; omega) (fun k_ => some k_ = (.slice Ao98 y668.length co98 : Value).ownBlock) (.slice Ao98 y668.length co98) y668 a1 ((rd_T25 l2_4 x46_2).f0) ((rd_T25 l2_4 x46_2).f1) ((rd_T25 l2_4 x46_2).f2) _ _ ((rd_T25 l2_4 x46_2).f3) _ _ ((rd_T25 l2_4 x46_2).f4) (a3 ++ a4) a4 false t687 w0 _ ?side1 ?side2 ?side3 ?side4 ?side5 ?side6 A93.out).mono ?_); (case side1 => exact bl_ HB); (case side2 => exact Kd.R_tight rfl HO670.out); (case side3 => exact HR686_3.out); (case side4 => exact HC686_3.out); (case side5 => exact HR686_4.out); (case side6 => exact HC686_4.out); rintro e w99 ⟨v688, rfl, ho0, hb, hkp⟩; refine ⟨_, rfl, ?_⟩; have n0_ := a_ (blk_kept (bk_ BK615) hkp (fun hs_ => (fun e_ => (Kd.R_ne HO670.out BK615.out (by decide)) e_) hs_)); have n1_ := a_ (Kd.R_mono (ok' := fun k_ => (P0_ k_ ∨ w.heap.size ≤ k_)) ho0 (fun k_ hk_ => Or.elim hk_ (fun hs_ => (HO670.out.1 k_ (hs_).symm)) (fun hn_ => (.inr (Nat.le_trans (kz_ HK) hn_))))); have n2_ := a_ (Kept.then_ (S := (fun k_ => P0_ k_)) (kp_ HK) hkp (fun k_ hs_ => (fun e_ => (HO670.out.1 k_ e_.symm)) hs_)); have n3_ := a_ (hb); clear BK615 HK HB HO670; have BK615 := n0_; have HO689 := n1_; have HK := n2_; have HB := n3_; clear n0_ n1_ n2_ n3_ hb hkp ho0))
      go_roundg k2
      case measure => have := HJ13.out; have := HK2.out; omega
      case rel => exact ⟨(t687), (wrap64 (x46_2 + 1)), rl_, H', ⟨by have := HJ13.out; have := HK2.out; omega⟩, ⟨rp_ HO689⟩, ⟨bk_ BK615⟩, ⟨kp_ HK⟩, ⟨bl_ HB⟩⟩
     rw [if_pos c66] at H
     have c66b0 : (a2_0 == 6) = true := beq_iff_eq.mpr c66
     have c66b1 : (a2_0 != 6) = false := bne_eq_false_iff_eq.mpr c66
     clear c66
     by_cases c67 : 0 ≤ x46_2
     rotate_left
     ·
      rw [if_neg c67] at H
      exact absurd H (by simp)
     rw [if_pos c67] at H
     have c67b0 : decide (0 ≤ x46_2) = true := decide_eq_true c67
     clear c67
     by_cases c68 : x46_2 < (l2_3.length : Int)
     rotate_left
     ·
      rw [if_neg c68] at H
      exact absurd H (by simp)
     rw [if_pos c68] at H
     have c68b0 : decide (x46_2 < (l2_3.length : Int)) = true := decide_eq_true c68
     clear c68
     by_cases c69 : 0 ≤ ((rd_T41 l2_3 x46_2).f0)
     rotate_left
     ·
      rw [if_neg c69] at H
      exact absurd H (by simp)
     rw [if_pos c69] at H
     have c69b0 := eq_true c69
     have c69b1 : decide (0 ≤ ((rd_T41 l2_3 x46_2).f0)) = true := decide_eq_true c69
     clear c69
     by_cases c70 : ((rd_T41 l2_3 x46_2).f0) ≤ ((rd_T41 l2_3 x46_2).f1)
     rotate_left
     ·
      rw [if_neg c70] at H
      exact absurd H (by simp)
     rw [if_pos c70] at H
     have c70b0 := eq_true c70
     have c70b1 : decide (((rd_T41 l2_3 x46_2).f0) ≤ ((rd_T41 l2_3 x46_2).f1)) = true := decide_eq_true c70
     clear c70
     by_cases c71 : ((rd_T41 l2_3 x46_2).f1) ≤ (a1.size : Int)
     rotate_left
     ·
      rw [if_neg c71] at H
      exact absurd H (by simp)
     rw [if_pos c71] at H
     have c71b0 := eq_true c71
     have c71b1 : decide (((rd_T41 l2_3 x46_2).f1) ≤ (a1.size : Int)) = true := decide_eq_true c71
     clear c71
     by_cases c72 : y668.length + (a1.extract (((rd_T41 l2_3 x46_2).f0) : Int).toNat (((rd_T41 l2_3 x46_2).f1) : Int).toNat).size < 140737488355328
     rotate_left
     ·
      rw [if_neg c72] at H
      exact absurd H (by simp)
     rw [if_pos c72] at H
     have LMc72 := a_ c72
     clear c72
     obtain ⟨y673, hy673⟩ : ∃ y_ : List Int, y_ = (y668 ++ bytesOf (a1.extract (((rd_T41 l2_3 x46_2).f0) : Int).toNat (((rd_T41 l2_3 x46_2).f1) : Int).toNat)) := ⟨_, rfl⟩
     replace H := lt_ H hy673
     have Ny673 := a_ hy673
     clear hy673
     obtain ⟨y676, hy676⟩ : ∃ y_ : List Int, y_ = (([58, 32] : List Int)) := ⟨_, rfl⟩
     replace H := lt_ H hy676
     have Ny676 := a_ hy676
     clear hy676
     by_cases c73 : y673.length + y676.length < 140737488355328
     rotate_left
     ·
      rw [if_neg c73] at H
      exact absurd H (by simp)
     rw [if_pos c73] at H
     have LMc73 := a_ c73
     clear c73
     obtain ⟨y679, hy679⟩ : ∃ y_ : List Int, y_ = (y673 ++ y676) := ⟨_, rfl⟩
     replace H : (if x46_2 < (l2_4.length : Int) then (if a3.size + a4.size ≤ 9223372036854775807 then ((spec_laidTo.f k2 y679 a1 ((rd_T25 l2_4 x46_2).f0) ((rd_T25 l2_4 x46_2).f1) ((rd_T25 l2_4 x46_2).f2) ((rd_T25 l2_4 x46_2).f3) ((rd_T25 l2_4 x46_2).f4) (a3 ++ a4) a4 false).bind fun t683 => (spec_laidTo.l0 k2 t683 a1 a3 a4 false x14_13 (l2_4.length : Int) (wrap64 (x46_2 + 1)) a2_0 a2_1 a2_2 l2_3 l2_4)) else (none)) else (none)) = some r := by first | exact lt_ H hy679 | (rw [hy679]; exact H) | exact H
     have Ny679 := a_ hy679
     clear hy679
     by_cases c74 : x46_2 < (l2_4.length : Int)
     rotate_left
     ·
      rw [if_neg c74] at H
      exact absurd H (by simp)
     rw [if_pos c74] at H
     have c74b0 : decide (x46_2 < (l2_4.length : Int)) = true := decide_eq_true c74
     clear c74
     by_cases c75 : a3.size + a4.size ≤ 9223372036854775807
     rotate_left
     ·
      rw [if_neg c75] at H
      exact absurd H (by simp)
     rw [if_pos c75] at H
     have c75b0 := eq_true c75
     have c75b1 : decide (a3.size + a4.size ≤ 9223372036854775807) = true := decide_eq_true c75
     try have c75b2 : (9223372036854775807 < a3.size + a4.size) = False := eq_false (Nat.not_lt.2 c75)
     replace H := Option.bind_eq_some_iff.mp H
     obtain ⟨t683, A760, H⟩ := H
     replace H : (spec_laidTo.l0 k2 t683 a1 a3 a4 false x14_13 (l2_4.length : Int) (wrap64 (x46_2 + 1)) a2_0 a2_1 a2_2 l2_3 l2_4) = some r := H
     have A76 := a_ A760
     clear A760
     have H' := a_ H
     clear H
     try go_wp2_with (first | ((with_reducible refine gate_builtin (b := .append) (xs := #[.tmp 54, .tmp 55]) rfl ?_); at_builtin; refine Kd.R_append (Kd.int .u8) (w0 := w0) w0.heap.size rfl (.tmp 54) (.tmp 55) 32 5 (.int .u8 0) 1 rfl Try.underlying32 info5 rfl (by decide) (by omega) u0 x0_2 10 [.int .u8 10] (fun k_ => (P0_ k_ ∨ w.heap.size ≤ k_)) (fun _ => False) rfl rfl ?aP (fun _ hk => hk.elim) ?aF ?aO ?aB ?aS ?aL ?_; (case aP => exact rfl); (case aB => exact (bl_ HB)); (case aF => exact (fun k_ hk => (.inr (Nat.le_trans (kz_ HK) hk)))); (case aO => exact (rp_ HO_0)); (case aS => exact (below_size (bl_ HB))); (case aL => have := LMc63.out; omega); intro v663 w77 ho hb hg hat; rw [← Ny662.out] at ho; have n0_ := a_ (blk_grown (g := gb615) (o := .cells #[.int .i64 a2_0, .int .i64 a2_1, .int .i64 a2_2, .slice A2_3 l2_3.length c2_3, .slice A2_4 l2_4.length c2_4] 25 (0, 0)) (bk_ BK615) hg (Kd.R_ne HO_0.out BK615.out (by decide))); have n1_ := a_ (hb); have n2_ := a_ (Kept.of_grown (S := (fun k_ => P0_ k_)) hg (kp_ HK) (fun k_ e_ => (HO_0.out.1 k_ e_))); have n3_ := a_ (ho); clear BK615 HB HK HO_0; have BK615 := n0_; have HB := n1_; have HK := n2_; have HO664 := n3_; clear n0_ n1_ n2_ n3_ ho hb hg hat) | (at_builtin; refine Kd.R_append_str (w0 := w0) w0.heap.size rfl (.tmp 57) _ 32 9 5 rfl Try.underlying32 Try.underlying9 info5 v663 y662 a3 (fun k_ => (P0_ k_ ∨ w.heap.size ≤ k_)) rfl rfl ?aF ?aO ?aB ?aS ?aL ?_; (case aB => exact (bl_ HB)); (case aF => exact (fun k_ hk => (.inr (Nat.le_trans (kz_ HK) hk)))); (case aO => exact (rp_ HO664)); (case aS => exact (below_size (bl_ HB))); (case aL => have := LMc64.out; omega); intro v666 w78 ho hb hg hat; rw [← Ny665.out] at ho; have n0_ := a_ (blk_grown (g := gb615) (o := .cells #[.int .i64 a2_0, .int .i64 a2_1, .int .i64 a2_2, .slice A2_3 l2_3.length c2_3, .slice A2_4 l2_4.length c2_4] 25 (0, 0)) (bk_ BK615) hg (Kd.R_ne HO664.out BK615.out (by decide))); have n1_ := a_ (hb); have n2_ := a_ (Kept.of_grown (S := (fun k_ => P0_ k_)) hg (kp_ HK) (fun k_ e_ => (HO664.out.1 k_ e_))); have n3_ := a_ (ho); clear BK615 HB HK HO664; have BK615 := n0_; have HB := n1_; have HK := n2_; have HO667 := n3_; clear n0_ n1_ n2_ n3_ ho hb hg hat) | (at_builtin; refine Kd.R_append_str (w0 := w0) w0.heap.size rfl (.tmp 60) _ 32 9 5 rfl Try.underlying32 Try.underlying9 info5 v666 y665 a4 (fun k_ => (P0_ k_ ∨ w.heap.size ≤ k_)) rfl rfl ?aF ?aO ?aB ?aS ?aL ?_; (case aB => exact (bl_ HB)); (case aF => exact (fun k_ hk => (.inr (Nat.le_trans (kz_ HK) hk)))); (case aO => exact (rp_ HO667)); (case aS => exact (below_size (bl_ HB))); (case aL => have := LMc65.out; omega); intro v669 w79 ho hb hg hat; rw [← Ny668.out] at ho; have n0_ := a_ (blk_grown (g := gb615) (o := .cells #[.int .i64 a2_0, .int .i64 a2_1, .int .i64 a2_2, .slice A2_3 l2_3.length c2_3, .slice A2_4 l2_4.length c2_4] 25 (0, 0)) (bk_ BK615) hg (Kd.R_ne HO667.out BK615.out (by decide))); have n1_ := a_ (hb); have n2_ := a_ (Kept.of_grown (S := (fun k_ => P0_ k_)) hg (kp_ HK) (fun k_ e_ => (HO667.out.1 k_ e_))); have n3_ := a_ (ho); clear BK615 HB HK HO667; have BK615 := n0_; have HB := n1_; have HK := n2_; have HO670 := n3_; clear n0_ n1_ n2_ n3_ ho hb hg hat; have hcz80_0 := bc_ BK615 0 (.int .i64 a2_0); have hcz80_1 := bc_ BK615 1 (.int .i64 a2_1); have hcz80_2 := bc_ BK615 2 (.int .i64 a2_2); have hcz80_3 := bc_ BK615 3 (.slice A2_3 l2_3.length c2_3); have hcz80_4 := bc_ BK615 4 (.slice A2_4 l2_4.length c2_4); have hfz80_0 := blk_frozen BK615.out 0; have hfz80_1 := blk_frozen BK615.out 1; have hfz80_2 := blk_frozen BK615.out 2; have hfz80_3 := blk_frozen BK615.out 3; have hfz80_4 := blk_frozen BK615.out 4))
     have n0_ := a_ (Kd.R_drew HO670.out)
     have n1_ := a_ (blk_drew BK615.out)
     have n2_ := a_ (Kept.drew HK.out)
     have n3_ := a_ (below_drew1 HB.out)
     clear HO670
     clear BK615
     clear HK
     clear HB
     have HO670 := n0_
     have BK615 := n1_
     have HK := n2_
     have HB := n3_
     clear n0_ n1_ n2_ n3_
     have p671 : 0 ≤ (x46_2 : Int) := of_decide_eq_true as_
     have q671 : x46_2 < (l2_3.length : Int) := of_decide_eq_true as_
     obtain ⟨ad671, e671, hx671_0, hx671_1⟩ := at_T41_w0 HR2_3.out HB.out x46_2 p671 q671
     have hw671_1 := hx671_1
     have hw671_0 := hx671_0
     cases e671
     replace p671 := eq_true p671
     replace q671 := eq_true q671
     have p672 : 0 ≤ (x46_2 : Int) := of_decide_eq_true as_
     have q672 : x46_2 < (l2_3.length : Int) := of_decide_eq_true as_
     obtain ⟨ad672, e672, hx672_0, hx672_1⟩ := at_T41_w0 HR2_3.out HB.out x46_2 p672 q672
     have hw672_1 := hx672_1
     have hw672_0 := hx672_0
     obtain rfl : ad671 = ad672 := (by injection e672)
     replace p672 := eq_true p672
     replace q672 := eq_true q672
     refine start_ (n := 17) (S := fun w' => w'.cell? ⟨gb615, 0, none⟩ = some (.int .i64 a2_0) ∧ w'.cell? ⟨gb615, 1, none⟩ = some (.int .i64 a2_1) ∧ w'.cell? ⟨gb615, 2, none⟩ = some (.int .i64 a2_2) ∧ w'.cell? ⟨gb615, 3, none⟩ = some (.slice (some ad671) l2_3.length c2_3) ∧ w'.cell? ⟨gb615, 4, none⟩ = some (.slice A2_4 l2_4.length c2_4) ∧ w'.cell? (ad671.add ((x46_2).toNat * 2)) = some (.int .i64 ((rd_T41 l2_3 x46_2).f0)) ∧ w'.cell? ⟨(ad671.add ((x46_2).toNat * 2)).block, (ad671.add ((x46_2).toNat * 2)).off + 1, none⟩ = some (.int .i64 ((rd_T41 l2_3 x46_2).f1)) ∧ w'.cell? (ad671.add ((x46_2).toNat * 2)) = some (.int .i64 ((rd_T41 l2_3 x46_2).f0)) ∧ w'.cell? ⟨(ad671.add ((x46_2).toNat * 2)).block, (ad671.add ((x46_2).toNat * 2)).off + 1, none⟩ = some (.int .i64 ((rd_T41 l2_3 x46_2).f1))) (ds := [15]) #[false, false, false, false, false, false, false, false, false, false, false, false, false, false, false, false, false] (by kernel_rfl) rfl rfl ⟨(blk_cell BK615.out 0).trans rfl, (blk_cell BK615.out 1).trans rfl, (blk_cell BK615.out 2).trans rfl, (blk_cell BK615.out 3).trans rfl, (blk_cell BK615.out 4).trans rfl, hx671_0, hx671_1, hx672_0, hx672_1⟩ (fun hHeld => ?_); refine with_tabW spec_laidTo.tab18 spec_laidTo.bits18 (fun HT_ HW_ => ?_)
     generalize w79.drew = w81 at HO670 BK615 HK HB hx671_0 hx671_1 hx672_0 hx672_1 hHeld ⊢
     refine pure_ (i := 0) (N := some 66) (v := ?_) (a' := ?_) #[true, false, false, false, false, false, false, false, false, false, false, false, false, false, false, false, false] rfl rfl (any_of HT_.out (by kernel_rfl)) (fun _ _ _ h => h) (Or.inl ⟨by rfl, ?_⟩) ?_ ?_
     rotate_left
     ·
      intro w'
      go_simp
      with_reducible rfl
     rotate_left
     ·
      simp only [Act.put, List.setIfInBounds_toArray, List.set_cons_zero, List.set_cons_succ, i64_w, i32_w]
      rfl
     refine pure_ (i := 1) (N := some 67) (v := ?_) (a' := ?_) #[true, true, false, false, false, false, false, false, false, false, false, false, false, false, false, false, false] rfl rfl (any_of HT_.out (by kernel_rfl)) (fun _ _ _ h => h) (Or.inl ⟨by rfl, ?_⟩) ?_ ?_
     rotate_left
     ·
      intro w'
      go_simp
      with_reducible rfl
     rotate_left
     ·
      simp only [Act.put, List.setIfInBounds_toArray, List.set_cons_zero, List.set_cons_succ, i64_w, i32_w]
      rfl
     refine pure_ (i := 2) (N := some 68) (v := ?_) (a' := ?_) #[true, true, true, false, false, false, false, false, false, false, false, false, false, false, false, false, false] rfl rfl (any_of HT_.out (by kernel_rfl)) (fun _ _ _ h => h) (Or.inl ⟨by rfl, ?_⟩) ?_ ?_
     rotate_left
     ·
      intro w'
      go_simp
      with_reducible rfl
     rotate_left
     ·
      simp only [Act.put, List.setIfInBounds_toArray, List.set_cons_zero, List.set_cons_succ, i64_w, i32_w]
      rfl
     refine pure_ (i := 4) (N := some 70) (v := ?_) (a' := ?_) #[true, true, true, false, true, false, false, false, false, false, false, false, false, false, false, false, false] rfl rfl (any_of HT_.out (by kernel_rfl)) (fun _ _ _ h => h) (Or.inl ⟨by rfl, ?_⟩) ?_ ?_
     rotate_left
     ·
      intro w'
      go_simp
      with_reducible rfl
     rotate_left
     ·
      simp only [Act.put, List.setIfInBounds_toArray, List.set_cons_zero, List.set_cons_succ, i64_w, i32_w]
      rfl
     refine pure_ (i := 8) (N := some 74) (v := ?_) (a' := ?_) #[true, true, true, false, true, false, false, false, true, false, false, false, false, false, false, false, false] rfl rfl (any_of HT_.out (by kernel_rfl)) (fun _ _ _ h => h) (Or.inl ⟨by rfl, ?_⟩) ?_ ?_
     rotate_left
     ·
      intro w'
      go_simp
      with_reducible rfl
     rotate_left
     ·
      simp only [Act.put, List.setIfInBounds_toArray, List.set_cons_zero, List.set_cons_succ, i64_w, i32_w]
      rfl
     refine pure_ (i := 10) (N := some 76) (v := ?_) (a' := ?_) #[true, true, true, false, true, false, false, false, true, false, true, false, false, false, false, false, false] rfl rfl (any_of HT_.out (by kernel_rfl)) (fun _ _ _ h => h) (Or.inl ⟨by rfl, ?_⟩) ?_ ?_
     rotate_left
     ·
      intro w'
      go_simp
      with_reducible rfl
     rotate_left
     ·
      simp only [Act.put, List.setIfInBounds_toArray, List.set_cons_zero, List.set_cons_succ, i64_w, i32_w]
      rfl
     refine take_ (i := 3) (N := some 69) (v := ?_) (a' := ?_) #[true, true, true, true, true, false, false, false, true, false, true, false, false, false, false, false, false] rfl rfl (take_ofW HT_.out HW_.out (by kernel_rfl)) (fun _ _ _ h => h) (Or.inl ⟨by rfl, ?_⟩) hHeld ?_ ?_
     rotate_left
     ·
      rintro w' ⟨s0, s1, s2, s3, s4, s5, s6, s7, s8⟩
      go_simp
      with_reducible rfl
     rotate_left
     ·
      simp only [Act.put, List.setIfInBounds_toArray, List.set_cons_zero, List.set_cons_succ, i64_w, i32_w]
      rfl
     refine pure_ (i := 5) (N := some 71) (v := ?_) (a' := ?_) #[true, true, true, true, true, true, false, false, true, false, true, false, false, false, false, false, false] rfl rfl (any_of HT_.out (by kernel_rfl)) (fun _ _ _ h => h) (Or.inl ⟨by rfl, ?_⟩) ?_ ?_
     rotate_left
     ·
      intro w'
      go_simp
      with_reducible rfl
     rotate_left
     ·
      simp only [Act.put, List.setIfInBounds_toArray, List.set_cons_zero, List.set_cons_succ, i64_w, i32_w]
      rfl
     refine pure_ (i := 6) (N := some 72) (v := ?_) (a' := ?_) #[true, true, true, true, true, true, true, false, true, false, true, false, false, false, false, false, false] rfl rfl (any_of HT_.out (by kernel_rfl)) (fun _ _ _ h => h) (Or.inl ⟨by rfl, ?_⟩) ?_ ?_
     rotate_left
     ·
      intro w'
      go_simp
      with_reducible rfl
     rotate_left
     ·
      simp only [Act.put, List.setIfInBounds_toArray, List.set_cons_zero, List.set_cons_succ, i64_w, i32_w]
      rfl
     refine take_ (i := 7) (N := some 73) (v := ?_) (a' := ?_) #[true, true, true, true, true, true, true, true, true, false, true, false, false, false, false, false, false] rfl rfl (take_ofW HT_.out HW_.out (by kernel_rfl)) (fun _ _ _ h => h) (Or.inl ⟨by rfl, ?_⟩) hHeld ?_ ?_
     rotate_left
     ·
      rintro w' ⟨s0, s1, s2, s3, s4, s5, s6, s7, s8⟩
      go_simp
      with_reducible rfl
     rotate_left
     ·
      simp only [Act.put, List.setIfInBounds_toArray, List.set_cons_zero, List.set_cons_succ, i64_w, i32_w]
      rfl
     refine take_ (i := 9) (N := some 75) (v := ?_) (a' := ?_) #[true, true, true, true, true, true, true, true, true, true, true, false, false, false, false, false, false] rfl rfl (take_ofW HT_.out HW_.out (by kernel_rfl)) (fun _ _ _ h => h) (Or.inl ⟨by rfl, ?_⟩) hHeld ?_ ?_
     rotate_left
     ·
      rintro w' ⟨s0, s1, s2, s3, s4, s5, s6, s7, s8⟩
      go_simp
      with_reducible rfl
     rotate_left
     ·
      simp only [Act.put, List.setIfInBounds_toArray, List.set_cons_zero, List.set_cons_succ, i64_w, i32_w]
      rfl
     refine pure_ (i := 11) (N := some 77) (v := ?_) (a' := ?_) #[true, true, true, true, true, true, true, true, true, true, true, true, false, false, false, false, false] rfl rfl (any_of HT_.out (by kernel_rfl)) (fun _ _ _ h => h) (Or.inl ⟨by rfl, ?_⟩) ?_ ?_
     rotate_left
     ·
      intro w'
      go_simp
      with_reducible rfl
     rotate_left
     ·
      simp only [Act.put, List.setIfInBounds_toArray, List.set_cons_zero, List.set_cons_succ, i64_w, i32_w]
      rfl
     refine pure_ (i := 12) (N := some 78) (v := ?_) (a' := ?_) #[true, true, true, true, true, true, true, true, true, true, true, true, true, false, false, false, false] rfl rfl (any_of HT_.out (by kernel_rfl)) (fun _ _ _ h => h) (Or.inl ⟨by rfl, ?_⟩) ?_ ?_
     rotate_left
     ·
      intro w'
      go_simp
      with_reducible rfl
     rotate_left
     ·
      simp only [Act.put, List.setIfInBounds_toArray, List.set_cons_zero, List.set_cons_succ, i64_w, i32_w]
      rfl
     refine take_ (i := 13) (N := some 79) (v := ?_) (a' := ?_) #[true, true, true, true, true, true, true, true, true, true, true, true, true, true, false, false, false] rfl rfl (take_ofW HT_.out HW_.out (by kernel_rfl)) (fun _ _ _ h => h) (Or.inl ⟨by rfl, ?_⟩) hHeld ?_ ?_
     rotate_left
     ·
      rintro w' ⟨s0, s1, s2, s3, s4, s5, s6, s7, s8⟩
      go_simp
      with_reducible rfl
     rotate_left
     ·
      simp only [Act.put, List.setIfInBounds_toArray, List.set_cons_zero, List.set_cons_succ, i64_w, i32_w]
      rfl
     refine pure_ (i := 14) (N := some 80) (v := ?_) (a' := ?_) #[true, true, true, true, true, true, true, true, true, true, true, true, true, true, true, false, false] rfl rfl (any_of HT_.out (by kernel_rfl)) (fun _ _ _ h => h) (Or.inl ⟨by rfl, ?_⟩) ?_ ?_
     rotate_left
     ·
      intro w'
      go_simp
      with_reducible rfl
     rotate_left
     ·
      simp only [Act.put, List.setIfInBounds_toArray, List.set_cons_zero, List.set_cons_succ, i64_w, i32_w]
      rfl
     refine last_ (i := 15) (N := some 81) #[true, true, true, true, true, true, true, true, true, true, true, true, true, true, true, true, false] rfl rfl (one_of HT_.out (by kernel_rfl)) (by decide) (fun K hK => ?_)
     refine Kd.R_append_str_step (w0 := w0) w0.heap.size (by rfl) (.tmp 66) _ 32 9 5 rfl Try.underlying32 Try.underlying9 info5 v669 y668 (a1.extract (((rd_T41 l2_3 x46_2).f0) : Int).toNat (((rd_T41 l2_3 x46_2).f1) : Int).toNat) (fun k_ => (P0_ k_ ∨ w.heap.size ≤ k_)) rfl rfl ?aF ?aO ?aB ?aS ?aL ?_
     (case aB => exact (bl_ HB))
     (case aF => exact (fun k_ hk => (.inr (Nat.le_trans (kz_ HK) hk))))
     (case aO => exact (rp_ HO670))
     (case aS => exact (below_size (bl_ HB)))
     (case aL => have := LMc72.out; omega)
     intro v674 w82 ho hb hg hat
     rw [← Ny673.out] at ho
     have n0_ := a_ (blk_grown (g := gb615) (o := .cells #[.int .i64 a2_0, .int .i64 a2_1, .int .i64 a2_2, .slice (some ad671) l2_3.length c2_3, .slice A2_4 l2_4.length c2_4] 25 (0, 0)) (bk_ BK615) hg (Kd.R_ne HO670.out BK615.out (by decide)))
     have n1_ := a_ (hb)
     have n2_ := a_ (Kept.of_grown (S := (fun k_ => P0_ k_)) hg (kp_ HK) (fun k_ e_ => (HO670.out.1 k_ e_)))
     have n3_ := a_ (ho)
     clear BK615
     clear HB
     clear HK
     clear HO670
     have BK615 := n0_
     have HB := n1_
     have HK := n2_
     have HO675 := n3_
     clear n0_ n1_ n2_ n3_
     clear ho hb hg hat
     refine hK.out _ _ ?_
     clear hK K
     refine norm_ (a' := ?_) ?_ ?_
     rotate_left
     ·
      show Act.put _ (some 81) _ = _
      simp only [Act.put, List.setIfInBounds_toArray, List.set_cons_zero, List.set_cons_succ, i64_w, i32_w]
      rfl
     refine pure_ (i := 16) (N := some 0) (v := ?_) (a' := ?_) #[true, true, true, true, true, true, true, true, true, true, true, true, true, true, true, true, true] rfl rfl (any_of HT_.out (by kernel_rfl)) (fun _ _ _ h => h) (Or.inl ⟨by rfl, ?_⟩) ?_ ?_
     rotate_left
     ·
      intro w'
      go_simp
      with_reducible rfl
     rotate_left
     ·
      simp only [Act.put, List.setIfInBounds_toArray, List.set_cons_zero, List.set_cons_succ, i64_w, i32_w]
      rfl
     refine done_ (done_of HT_.out (by kernel_rfl)) ?_
     try go_wp2_with (first | ((with_reducible refine gate_dst (N := 83) rfl ?_); refine Kd.R_lit (Kd.int .u8) _ 5 ?hg (N := 83) ?hd (xs := ([58, 32] : List Int)) (inner := [.int .u8 58, .int .u8 32]) (ok := fun _ => True) (okp := fun _ => True) ?hr ?hp (fun _ hk => hk) trivial (Below.refl _ _) (Nat.le_refl _) (by simp) ?_; (case hd => rfl); (case hg => rfl); (case hr => first | (go_simp; done) | (go_simp; rfl)); (case hp => exact (Reps.one (show Kd.M (Kd.int .u8) _ _ _ 58 [.int .u8 58] from rfl) (Reps.one (show Kd.M (Kd.int .u8) _ _ _ 32 [.int .u8 32] from rfl) (Reps.none _ _)))); intro v677 w83 ho84 hb hg_ hnew_; clear hg_ hnew_; (first | rw [← Ny676.out] at ho84 | (simp only [Int.reduceToNat] at ho84; rw [← Ny676.out] at ho84)); have n0_ := a_ (Kd.R_elder' (rp_ HO675) (Kd.R_base ho84) hb); have n1_ := a_ (Kd.R_lower (Kd.R_new' (Kd.R_newM (M := fun k_ => (P0_ k_ ∨ w.heap.size ≤ k_)) ho84 (kz_ HK) (fun k_ h_ => .inr h_)) (Kd.R_lt (rp_ HO675))) (below_size (bl_ HB))); have n2_ := a_ (blk_below (g := gb615) (o := .cells #[.int .i64 a2_0, .int .i64 a2_1, .int .i64 a2_2, .slice (some ad671) l2_3.length c2_3, .slice A2_4 l2_4.length c2_4] 25 (0, 0)) (bk_ BK615) hb); have n3_ := a_ (Kept.below (S := (fun k_ => P0_ k_)) (kp_ HK) hb); have n4_ := a_ (below_step (bl_ HB) hb); clear HO675 BK615 HK HB; have HO675 := n0_; have HO678 := n1_; have BK615 := n2_; have HK := n3_; have HB := n4_; clear n0_ n1_ n2_ n3_ n4_ hb ho84; obtain ⟨Ao86, co86, eo86⟩ := Kd.R_slice HO678.out; subst eo86) | ((with_reducible refine gate_builtin (b := .append) (xs := #[.tmp 82, .tmp 83]) rfl ?_); at_builtin; refine Kd.R_append_rows (Kd.int .u8) (w0 := w0) w0.heap.size rfl (.tmp 82) (.tmp 83) 32 5 (.int .u8 0) 1 rfl Try.underlying32 info5 rfl (by decide) (by omega) v674 y673 y676 _ _ _ (fun k_ => (P0_ k_ ∨ w.heap.size ≤ k_) ∧ some k_ ≠ (.slice Ao86 y676.length co86 : Value).ownBlock) (fun _ => False) rfl rfl ?aO ?aR (fun _ _ h => h) (fun _ h => h.elim) ?aF ?aB ?aS ?aL ?_; (case aR => repeat (first | exact (Kd.R_reads' HO678.out).2.2 | (with_reducible refine Kd.C_alloc ?_ _) | (with_reducible refine Kd.C_drewN ?_ _) | (with_reducible refine Kd.C_drew ?_))); (case aB => exact (bl_ HB)); (case aF => exact (fun k_ hk => ⟨(.inr (Nat.le_trans (kz_ HK) hk)), Kd.fresh' (Kd.R_lt (rp_ HO678)) k_ hk⟩)); (case aO => exact (rp_ HO675)); (case aS => exact (below_size (bl_ HB))); (case aL => have := LMc73.out; omega); intro v680 w85 ho hb hg hat; rw [← Ny679.out] at ho; have n0_ := a_ (blk_grown (g := gb615) (o := .cells #[.int .i64 a2_0, .int .i64 a2_1, .int .i64 a2_2, .slice (some ad671) l2_3.length c2_3, .slice A2_4 l2_4.length c2_4] 25 (0, 0)) (bk_ BK615) hg (Kd.R_ne HO675.out BK615.out (by decide))); have n1_ := a_ (Kd.R_after (ok := (fun k_ => (P0_ k_ ∨ w.heap.size ≤ k_))) (by (with_reducible repeat (first | apply Kd.R_alloc | apply Kd.R_drewN | apply Kd.R_drew)); exact Kd.R_mono HO678.out (fun _ hk => ⟨hk.1.1, hk.2⟩)) hg hat); have n2_ := a_ (hb); have n3_ := a_ (Kept.of_grown (S := (fun k_ => P0_ k_)) hg (kp_ HK) (fun k_ e_ => (HO675.out.1 k_ e_).1)); have n4_ := a_ (ho); clear BK615 HO678 HB HK HO675; have BK615 := n0_; have HO678 := n1_; have HB := n2_; have HK := n3_; have HO681 := n4_; clear n0_ n1_ n2_ n3_ n4_ ho hb hg hat; have hcz87_0 := bc_ BK615 0 (.int .i64 a2_0); have hcz87_1 := bc_ BK615 1 (.int .i64 a2_1); have hcz87_2 := bc_ BK615 2 (.int .i64 a2_2); have hcz87_3 := bc_ BK615 3 (.slice (some ad671) l2_3.length c2_3); have hcz87_4 := bc_ BK615 4 (.slice A2_4 l2_4.length c2_4); have hfz87_0 := blk_frozen BK615.out 0; have hfz87_1 := blk_frozen BK615.out 1; have hfz87_2 := blk_frozen BK615.out 2; have hfz87_3 := blk_frozen BK615.out 3; have hfz87_4 := blk_frozen BK615.out 4; have p682 : 0 ≤ (x46_2 : Int) := of_decide_eq_true as_; have q682 : x46_2 < (l2_4.length : Int) := of_decide_eq_true as_; obtain ⟨ad682, A682_3, c682_3, A682_4, c682_4, e682, hx682_0, hx682_1, hx682_2, hx682_3, hx682_4, hl682_3, hi682_3, hl682_4, hi682_4⟩ := at_T25_w0 HR2_4.out HB.out x46_2 p682 q682; cases e682; have HR682_3 := a_ hi682_3; have HC682_3 := a_ hl682_3; clear hi682_3 hl682_3; have HR682_4 := a_ hi682_4; have HC682_4 := a_ hl682_4; clear hi682_4 hl682_4; replace p682 := eq_true p682; replace q682 := eq_true q682; obtain ⟨Ao88, co88, eo88⟩ := Kd.R_slice HO681.out; subst eo88) | ((with_reducible refine gate_callee (f := 10) rfl ?_); refine goesL_ (some 97) rfl rfl Try.func10 (by kernel_rfl) rfl #[.slice Ao88 y679.length co88, .string a1, .agg #[.int .i64 ((rd_T25 l2_4 x46_2).f0), .int .i64 ((rd_T25 l2_4 x46_2).f1), .int .i64 ((rd_T25 l2_4 x46_2).f2), .slice A682_3 ((rd_T25 l2_4 x46_2).f3).length c682_3, .slice A682_4 ((rd_T25 l2_4 x46_2).f4).length c682_4], .string (a3 ++ a4), .string a4, .bool false] rfl ar_ ?_; (with_reducible refine (ih k2 (by have := HJ13.out; have := HK2.out; omega) (fun k_ => some k_ = (.slice Ao88 y679.length co88 : Value).ownBlock) (.slice Ao88 y679.length co88) y679 a1 ((rd_T25 l2_4 x46_2).f0) ((rd_T25 l2_4 x46_2).f1) ((rd_T25 l2_4 x46_2).f2) _ _ ((rd_T25 l2_4 x46_2).f3) _ _ ((rd_T25 l2_4 x46_2).f4) (a3 ++ a4) a4 false t683 w0 _ ?side1 ?side2 ?side3 ?side4 ?side5 ?side6 A76.out).mono ?_); (case side1 => exact bl_ HB); (case side2 => exact Kd.R_tight rfl HO681.out); (case side3 => exact HR682_3.out); (case side4 => exact HC682_3.out); (case side5 => exact HR682_4.out); (case side6 => exact HC682_4.out); rintro e w89 ⟨v684, rfl, ho0, hb, hkp⟩; refine ⟨_, rfl, ?_⟩; have n0_ := a_ (blk_kept (bk_ BK615) hkp (fun hs_ => (fun e_ => (Kd.R_ne HO681.out BK615.out (by decide)) e_) hs_)); have n1_ := a_ (Kd.R_mono (ok' := fun k_ => (P0_ k_ ∨ w.heap.size ≤ k_) ∧ some k_ ≠ (v684 : Value).ownBlock) (Kd.R_keptB (HO678.out) hkp (fun k_ hk_ hs_ => (hk_.2) hs_)) (fun k_ hk_ => ⟨hk_.1.1, fun e_ => Or.elim (ho0.1 k_ e_.symm) (fun hs_ => hk_.2.1 hs_) (fun hn_ => Nat.not_le.2 hk_.2.2 hn_)⟩)); have n2_ := a_ (Kd.R_mono (ok' := fun k_ => (P0_ k_ ∨ w.heap.size ≤ k_) ∧ some k_ ≠ (.slice Ao86 y676.length co86 : Value).ownBlock) ho0 (fun k_ hk_ => ⟨Or.elim hk_ (fun hs_ => (HO681.out.1 k_ (hs_).symm).1) (fun hn_ => (.inr (Nat.le_trans (kz_ HK) hn_))), Or.elim hk_ (fun hs_ => fun e_ => (((HO678.out).1 k_ e_.symm).2) hs_) (fun hn_ => (Kd.fresh' (Kd.R_lt (rp_ HO678)) k_ hn_))⟩)); have n3_ := a_ (Kept.then_ (S := (fun k_ => P0_ k_)) (kp_ HK) hkp (fun k_ hs_ => (fun e_ => (HO681.out.1 k_ e_.symm).1) hs_)); have n4_ := a_ (hb); clear BK615 HO678 HK HB HO681; have BK615 := n0_; have HO678 := n1_; have HO685 := n2_; have HK := n3_; have HB := n4_; clear n0_ n1_ n2_ n3_ n4_ hb hkp ho0))
     go_roundg k2
     case measure => have := HJ13.out; have := HK2.out; omega
     case rel => exact ⟨(t683), (wrap64 (x46_2 + 1)), rl_, H', ⟨by have := HJ13.out; have := HK2.out; omega⟩, ⟨by (with_reducible repeat (first | apply Kd.R_alloc | apply Kd.R_drewN | apply Kd.R_drew)); exact Kd.R_mono HO685.out (fun _ hk => hk.1)⟩, ⟨bk_ BK615⟩, ⟨kp_ HK⟩, ⟨bl_ HB⟩⟩
    rw [if_pos c22] at H
    have c22b0 : decide (0 < x46_2) = true := decide_eq_true c22
    clear c22
    by_cases c23 : x0_2.length < 140737488355328
    rotate_left
    ·
     rw [if_neg c23] at H
     exact absurd H (by simp)
    rw [if_pos c23] at H
    have LMc23 := a_ c23
    clear c23
    obtain ⟨y631, hy631⟩ : ∃ y_ : List Int, y_ = (x0_2 ++ [44]) := ⟨_, rfl⟩
    replace H := lt_ H hy631
    have Ny631 := a_ hy631
    clear hy631
    by_cases c24 : y631.length < 140737488355328
    rotate_left
    ·
     rw [if_neg c24] at H
     exact absurd H (by simp)
    rw [if_pos c24] at H
    have LMc24 := a_ c24
    clear c24
    obtain ⟨y634, hy634⟩ : ∃ y_ : List Int, y_ = (y631 ++ [10]) := ⟨_, rfl⟩
    replace H := lt_ H hy634
    have Ny634 := a_ hy634
    clear hy634
    by_cases c25 : y634.length + a3.size < 140737488355328
    rotate_left
    ·
     rw [if_neg c25] at H
     exact absurd H (by simp)
    rw [if_pos c25] at H
    have LMc25 := a_ c25
    clear c25
    obtain ⟨y637, hy637⟩ : ∃ y_ : List Int, y_ = (y634 ++ bytesOf a3) := ⟨_, rfl⟩
    replace H := lt_ H hy637
    have Ny637 := a_ hy637
    clear hy637
    by_cases c26 : y637.length + a4.size < 140737488355328
    rotate_left
    ·
     rw [if_neg c26] at H
     exact absurd H (by simp)
    rw [if_pos c26] at H
    have LMc26 := a_ c26
    clear c26
    obtain ⟨y640, hy640⟩ : ∃ y_ : List Int, y_ = (y637 ++ bytesOf a4) := ⟨_, rfl⟩
    replace H := lt_ H hy640
    have Ny640 := a_ hy640
    clear hy640
    by_cases c27 : a2_0 = 6
    rotate_left
    ·
     rw [if_neg c27] at H
     have c27b0 : (a2_0 == 6) = false := beq_eq_false_iff_ne.mpr c27
     have c27b1 : (a2_0 != 6) = true := bne_iff_ne.mpr c27
     by_cases c52 : 0 ≤ x46_2
     rotate_left
     ·
      rw [if_neg c52] at H
      exact absurd H (by simp)
     rw [if_pos c52] at H
     have c52b0 : decide (0 ≤ x46_2) = true := decide_eq_true c52
     clear c52
     by_cases c53 : x46_2 < (l2_4.length : Int)
     rotate_left
     ·
      rw [if_neg c53] at H
      exact absurd H (by simp)
     rw [if_pos c53] at H
     have c53b0 : decide (x46_2 < (l2_4.length : Int)) = true := decide_eq_true c53
     clear c53
     by_cases c54 : a3.size + a4.size ≤ 9223372036854775807
     rotate_left
     ·
      rw [if_neg c54] at H
      exact absurd H (by simp)
     rw [if_pos c54] at H
     have c54b0 := eq_true c54
     have c54b1 : decide (a3.size + a4.size ≤ 9223372036854775807) = true := decide_eq_true c54
     try have c54b2 : (9223372036854775807 < a3.size + a4.size) = False := eq_false (Nat.not_lt.2 c54)
     replace H := Option.bind_eq_some_iff.mp H
     obtain ⟨t659, A550, H⟩ := H
     replace H : (spec_laidTo.l0 k2 t659 a1 a3 a4 false x14_13 (l2_4.length : Int) (wrap64 (x46_2 + 1)) a2_0 a2_1 a2_2 l2_3 l2_4) = some r := H
     have A55 := a_ A550
     clear A550
     have H' := a_ H
     clear H
     go_wp2_with (first | ((with_reducible refine gate_builtin (b := .append) (xs := #[.tmp 51, .tmp 52]) rfl ?_); at_builtin; refine Kd.R_append (Kd.int .u8) (w0 := w0) w0.heap.size rfl (.tmp 51) (.tmp 52) 32 5 (.int .u8 0) 1 rfl Try.underlying32 info5 rfl (by decide) (by omega) u0 x0_2 44 [.int .u8 44] (fun k_ => (P0_ k_ ∨ w.heap.size ≤ k_)) (fun _ => False) rfl rfl ?aP (fun _ hk => hk.elim) ?aF ?aO ?aB ?aS ?aL ?_; (case aP => exact rfl); (case aB => exact (bl_ HB)); (case aF => exact (fun k_ hk => (.inr (Nat.le_trans (kz_ HK) hk)))); (case aO => exact (rp_ HO_0)); (case aS => exact (below_size (bl_ HB))); (case aL => have := LMc23.out; omega); intro v632 w56 ho hb hg hat; rw [← Ny631.out] at ho; have n0_ := a_ (blk_grown (g := gb615) (o := .cells #[.int .i64 a2_0, .int .i64 a2_1, .int .i64 a2_2, .slice A2_3 l2_3.length c2_3, .slice A2_4 l2_4.length c2_4] 25 (0, 0)) (bk_ BK615) hg (Kd.R_ne HO_0.out BK615.out (by decide))); have n1_ := a_ (hb); have n2_ := a_ (Kept.of_grown (S := (fun k_ => P0_ k_)) hg (kp_ HK) (fun k_ e_ => (HO_0.out.1 k_ e_))); have n3_ := a_ (ho); clear BK615 HB HK HO_0; have BK615 := n0_; have HB := n1_; have HK := n2_; have HO633 := n3_; clear n0_ n1_ n2_ n3_ ho hb hg hat) | ((with_reducible refine gate_builtin (b := .append) (xs := #[.tmp 54, .tmp 55]) rfl ?_); at_builtin; refine Kd.R_append (Kd.int .u8) (w0 := w0) w0.heap.size rfl (.tmp 54) (.tmp 55) 32 5 (.int .u8 0) 1 rfl Try.underlying32 info5 rfl (by decide) (by omega) v632 y631 10 [.int .u8 10] (fun k_ => (P0_ k_ ∨ w.heap.size ≤ k_)) (fun _ => False) rfl rfl ?aP (fun _ hk => hk.elim) ?aF ?aO ?aB ?aS ?aL ?_; (case aP => exact rfl); (case aB => exact (bl_ HB)); (case aF => exact (fun k_ hk => (.inr (Nat.le_trans (kz_ HK) hk)))); (case aO => exact (rp_ HO633)); (case aS => exact (below_size (bl_ HB))); (case aL => have := LMc24.out; omega); intro v635 w57 ho hb hg hat; rw [← Ny634.out] at ho; have n0_ := a_ (blk_grown (g := gb615) (o := .cells #[.int .i64 a2_0, .int .i64 a2_1, .int .i64 a2_2, .slice A2_3 l2_3.length c2_3, .slice A2_4 l2_4.length c2_4] 25 (0, 0)) (bk_ BK615) hg (Kd.R_ne HO633.out BK615.out (by decide))); have n1_ := a_ (hb); have n2_ := a_ (Kept.of_grown (S := (fun k_ => P0_ k_)) hg (kp_ HK) (fun k_ e_ => (HO633.out.1 k_ e_))); have n3_ := a_ (ho); clear BK615 HB HK HO633; have BK615 := n0_; have HB := n1_; have HK := n2_; have HO636 := n3_; clear n0_ n1_ n2_ n3_ ho hb hg hat) | (at_builtin; refine Kd.R_append_str (w0 := w0) w0.heap.size rfl (.tmp 57) _ 32 9 5 rfl Try.underlying32 Try.underlying9 info5 v635 y634 a3 (fun k_ => (P0_ k_ ∨ w.heap.size ≤ k_)) rfl rfl ?aF ?aO ?aB ?aS ?aL ?_; (case aB => exact (bl_ HB)); (case aF => exact (fun k_ hk => (.inr (Nat.le_trans (kz_ HK) hk)))); (case aO => exact (rp_ HO636)); (case aS => exact (below_size (bl_ HB))); (case aL => have := LMc25.out; omega); intro v638 w58 ho hb hg hat; rw [← Ny637.out] at ho; have n0_ := a_ (blk_grown (g := gb615) (o := .cells #[.int .i64 a2_0, .int .i64 a2_1, .int .i64 a2_2, .slice A2_3 l2_3.length c2_3, .slice A2_4 l2_4.length c2_4] 25 (0, 0)) (bk_ BK615) hg (Kd.R_ne HO636.out BK615.out (by decide))); have n1_ := a_ (hb); have n2_ := a_ (Kept.of_grown (S := (fun k_ => P0_ k_)) hg (kp_ HK) (fun k_ e_ => (HO636.out.1 k_ e_))); have n3_ := a_ (ho); clear BK615 HB HK HO636; have BK615 := n0_; have HB := n1_; have HK := n2_; have HO639 := n3_; clear n0_ n1_ n2_ n3_ ho hb hg hat) | (at_builtin; refine Kd.R_append_str (w0 := w0) w0.heap.size rfl (.tmp 60) _ 32 9 5 rfl Try.underlying32 Try.underlying9 info5 v638 y637 a4 (fun k_ => (P0_ k_ ∨ w.heap.size ≤ k_)) rfl rfl ?aF ?aO ?aB ?aS ?aL ?_; (case aB => exact (bl_ HB)); (case aF => exact (fun k_ hk => (.inr (Nat.le_trans (kz_ HK) hk)))); (case aO => exact (rp_ HO639)); (case aS => exact (below_size (bl_ HB))); (case aL => have := LMc26.out; omega); intro v641 w59 ho hb hg hat; rw [← Ny640.out] at ho; have n0_ := a_ (blk_grown (g := gb615) (o := .cells #[.int .i64 a2_0, .int .i64 a2_1, .int .i64 a2_2, .slice A2_3 l2_3.length c2_3, .slice A2_4 l2_4.length c2_4] 25 (0, 0)) (bk_ BK615) hg (Kd.R_ne HO639.out BK615.out (by decide))); have n1_ := a_ (hb); have n2_ := a_ (Kept.of_grown (S := (fun k_ => P0_ k_)) hg (kp_ HK) (fun k_ e_ => (HO639.out.1 k_ e_))); have n3_ := a_ (ho); clear BK615 HB HK HO639; have BK615 := n0_; have HB := n1_; have HK := n2_; have HO642 := n3_; clear n0_ n1_ n2_ n3_ ho hb hg hat; have hcz60_0 := bc_ BK615 0 (.int .i64 a2_0); have hcz60_1 := bc_ BK615 1 (.int .i64 a2_1); have hcz60_2 := bc_ BK615 2 (.int .i64 a2_2); have hcz60_3 := bc_ BK615 3 (.slice A2_3 l2_3.length c2_3); have hcz60_4 := bc_ BK615 4 (.slice A2_4 l2_4.length c2_4); have hfz60_0 := blk_frozen BK615.out 0; have hfz60_1 := blk_frozen BK615.out 1; have hfz60_2 := blk_frozen BK615.out 2; have hfz60_3 := blk_frozen BK615.out 3; have hfz60_4 := blk_frozen BK615.out 4; have p658 : 0 ≤ (x46_2 : Int) := of_decide_eq_true as_; have q658 : x46_2 < (l2_4.length : Int) := of_decide_eq_true as_; obtain ⟨ad658, A658_3, c658_3, A658_4, c658_4, e658, hx658_0, hx658_1, hx658_2, hx658_3, hx658_4, hl658_3, hi658_3, hl658_4, hi658_4⟩ := at_T25_w0 HR2_4.out HB.out x46_2 p658 q658; cases e658; have HR658_3 := a_ hi658_3; have HC658_3 := a_ hl658_3; clear hi658_3 hl658_3; have HR658_4 := a_ hi658_4; have HC658_4 := a_ hl658_4; clear hi658_4 hl658_4; replace p658 := eq_true p658; replace q658 := eq_true q658; obtain ⟨Ao61, co61, eo61⟩ := Kd.R_slice HO642.out; subst eo61) | ((with_reducible refine gate_callee (f := 10) rfl ?_); refine goesL_ (some 97) rfl rfl Try.func10 (by kernel_rfl) rfl #[.slice Ao61 y640.length co61, .string a1, .agg #[.int .i64 ((rd_T25 l2_4 x46_2).f0), .int .i64 ((rd_T25 l2_4 x46_2).f1), .int .i64 ((rd_T25 l2_4 x46_2).f2), .slice A658_3 ((rd_T25 l2_4 x46_2).f3).length c658_3, .slice A658_4 ((rd_T25 l2_4 x46_2).f4).length c658_4], .string (a3 ++ a4), .string a4, .bool false] rfl ar_ ?_; (with_reducible refine (ih k2 (by have := HJ13.out; have := HK2.out; omega) (fun k_ => some k_ = (.slice Ao61 y640.length co61 : Value).ownBlock) (.slice Ao61 y640.length co61) y640 a1 ((rd_T25 l2_4 x46_2).f0) ((rd_T25 l2_4 x46_2).f1) ((rd_T25 l2_4 x46_2).f2) _ _ ((rd_T25 l2_4 x46_2).f3) _ _ ((rd_T25 l2_4 x46_2).f4) (a3 ++ a4) a4 false t659 w0 _ ?side1 ?side2 ?side3 ?side4 ?side5 ?side6 A55.out).mono ?_); (case side1 => exact bl_ HB); (case side2 => exact Kd.R_tight rfl HO642.out); (case side3 => exact HR658_3.out); (case side4 => exact HC658_3.out); (case side5 => exact HR658_4.out); (case side6 => exact HC658_4.out); rintro e w62 ⟨v660, rfl, ho0, hb, hkp⟩; refine ⟨_, rfl, ?_⟩; have n0_ := a_ (blk_kept (bk_ BK615) hkp (fun hs_ => (fun e_ => (Kd.R_ne HO642.out BK615.out (by decide)) e_) hs_)); have n1_ := a_ (Kd.R_mono (ok' := fun k_ => (P0_ k_ ∨ w.heap.size ≤ k_)) ho0 (fun k_ hk_ => Or.elim hk_ (fun hs_ => (HO642.out.1 k_ (hs_).symm)) (fun hn_ => (.inr (Nat.le_trans (kz_ HK) hn_))))); have n2_ := a_ (Kept.then_ (S := (fun k_ => P0_ k_)) (kp_ HK) hkp (fun k_ hs_ => (fun e_ => (HO642.out.1 k_ e_.symm)) hs_)); have n3_ := a_ (hb); clear BK615 HK HB HO642; have BK615 := n0_; have HO661 := n1_; have HK := n2_; have HB := n3_; clear n0_ n1_ n2_ n3_ hb hkp ho0))
     go_roundg k2
     case measure => have := HJ13.out; have := HK2.out; omega
     case rel => exact ⟨(t659), (wrap64 (x46_2 + 1)), rl_, H', ⟨by have := HJ13.out; have := HK2.out; omega⟩, ⟨rp_ HO661⟩, ⟨bk_ BK615⟩, ⟨kp_ HK⟩, ⟨bl_ HB⟩⟩
    rw [if_pos c27] at H
    have c27b0 : (a2_0 == 6) = true := beq_iff_eq.mpr c27
    have c27b1 : (a2_0 != 6) = false := bne_eq_false_iff_eq.mpr c27
    clear c27
    by_cases c28 : 0 ≤ x46_2
    rotate_left
    ·
     rw [if_neg c28] at H
     exact absurd H (by simp)
    rw [if_pos c28] at H
    have c28b0 : decide (0 ≤ x46_2) = true := decide_eq_true c28
    clear c28
    by_cases c29 : x46_2 < (l2_3.length : Int)
    rotate_left
    ·
     rw [if_neg c29] at H
     exact absurd H (by simp)
    rw [if_pos c29] at H
    have c29b0 : decide (x46_2 < (l2_3.length : Int)) = true := decide_eq_true c29
    clear c29
    by_cases c30 : 0 ≤ ((rd_T41 l2_3 x46_2).f0)
    rotate_left
    ·
     rw [if_neg c30] at H
     exact absurd H (by simp)
    rw [if_pos c30] at H
    have c30b0 := eq_true c30
    have c30b1 : decide (0 ≤ ((rd_T41 l2_3 x46_2).f0)) = true := decide_eq_true c30
    clear c30
    by_cases c31 : ((rd_T41 l2_3 x46_2).f0) ≤ ((rd_T41 l2_3 x46_2).f1)
    rotate_left
    ·
     rw [if_neg c31] at H
     exact absurd H (by simp)
    rw [if_pos c31] at H
    have c31b0 := eq_true c31
    have c31b1 : decide (((rd_T41 l2_3 x46_2).f0) ≤ ((rd_T41 l2_3 x46_2).f1)) = true := decide_eq_true c31
    clear c31
    by_cases c32 : ((rd_T41 l2_3 x46_2).f1) ≤ (a1.size : Int)
    rotate_left
    ·
     rw [if_neg c32] at H
     exact absurd H (by simp)
    rw [if_pos c32] at H
    have c32b0 := eq_true c32
    have c32b1 : decide (((rd_T41 l2_3 x46_2).f1) ≤ (a1.size : Int)) = true := decide_eq_true c32
    clear c32
    by_cases c33 : y640.length + (a1.extract (((rd_T41 l2_3 x46_2).f0) : Int).toNat (((rd_T41 l2_3 x46_2).f1) : Int).toNat).size < 140737488355328
    rotate_left
    ·
     rw [if_neg c33] at H
     exact absurd H (by simp)
    rw [if_pos c33] at H
    have LMc33 := a_ c33
    clear c33
    obtain ⟨y645, hy645⟩ : ∃ y_ : List Int, y_ = (y640 ++ bytesOf (a1.extract (((rd_T41 l2_3 x46_2).f0) : Int).toNat (((rd_T41 l2_3 x46_2).f1) : Int).toNat)) := ⟨_, rfl⟩
    replace H := lt_ H hy645
    have Ny645 := a_ hy645
    clear hy645
    obtain ⟨y648, hy648⟩ : ∃ y_ : List Int, y_ = (([58, 32] : List Int)) := ⟨_, rfl⟩
    replace H := lt_ H hy648
    have Ny648 := a_ hy648
    clear hy648
    by_cases c34 : y645.length + y648.length < 140737488355328
    rotate_left
    ·
     rw [if_neg c34] at H
     exact absurd H (by simp)
    rw [if_pos c34] at H
    have LMc34 := a_ c34
    clear c34
    obtain ⟨y651, hy651⟩ : ∃ y_ : List Int, y_ = (y645 ++ y648) := ⟨_, rfl⟩
    replace H : (if x46_2 < (l2_4.length : Int) then (if a3.size + a4.size ≤ 9223372036854775807 then ((spec_laidTo.f k2 y651 a1 ((rd_T25 l2_4 x46_2).f0) ((rd_T25 l2_4 x46_2).f1) ((rd_T25 l2_4 x46_2).f2) ((rd_T25 l2_4 x46_2).f3) ((rd_T25 l2_4 x46_2).f4) (a3 ++ a4) a4 false).bind fun t655 => (spec_laidTo.l0 k2 t655 a1 a3 a4 false x14_13 (l2_4.length : Int) (wrap64 (x46_2 + 1)) a2_0 a2_1 a2_2 l2_3 l2_4)) else (none)) else (none)) = some r := by first | exact lt_ H hy651 | (rw [hy651]; exact H) | exact H
    have Ny651 := a_ hy651
    clear hy651
    by_cases c35 : x46_2 < (l2_4.length : Int)
    rotate_left
    ·
     rw [if_neg c35] at H
     exact absurd H (by simp)
    rw [if_pos c35] at H
    have c35b0 : decide (x46_2 < (l2_4.length : Int)) = true := decide_eq_true c35
    clear c35
    by_cases c36 : a3.size + a4.size ≤ 9223372036854775807
    rotate_left
    ·
     rw [if_neg c36] at H
     exact absurd H (by simp)
    rw [if_pos c36] at H
    have c36b0 := eq_true c36
    have c36b1 : decide (a3.size + a4.size ≤ 9223372036854775807) = true := decide_eq_true c36
    try have c36b2 : (9223372036854775807 < a3.size + a4.size) = False := eq_false (Nat.not_lt.2 c36)
    replace H := Option.bind_eq_some_iff.mp H
    obtain ⟨t655, A370, H⟩ := H
    replace H : (spec_laidTo.l0 k2 t655 a1 a3 a4 false x14_13 (l2_4.length : Int) (wrap64 (x46_2 + 1)) a2_0 a2_1 a2_2 l2_3 l2_4) = some r := H
    have A37 := a_ A370
    clear A370
    have H' := a_ H
    clear H
    try go_wp2_with (first | ((with_reducible refine gate_builtin (b := .append) (xs := #[.tmp 51, .tmp 52]) rfl ?_); at_builtin; refine Kd.R_append (Kd.int .u8) (w0 := w0) w0.heap.size rfl (.tmp 51) (.tmp 52) 32 5 (.int .u8 0) 1 rfl Try.underlying32 info5 rfl (by decide) (by omega) u0 x0_2 44 [.int .u8 44] (fun k_ => (P0_ k_ ∨ w.heap.size ≤ k_)) (fun _ => False) rfl rfl ?aP (fun _ hk => hk.elim) ?aF ?aO ?aB ?aS ?aL ?_; (case aP => exact rfl); (case aB => exact (bl_ HB)); (case aF => exact (fun k_ hk => (.inr (Nat.le_trans (kz_ HK) hk)))); (case aO => exact (rp_ HO_0)); (case aS => exact (below_size (bl_ HB))); (case aL => have := LMc23.out; omega); intro v632 w38 ho hb hg hat; rw [← Ny631.out] at ho; have n0_ := a_ (blk_grown (g := gb615) (o := .cells #[.int .i64 a2_0, .int .i64 a2_1, .int .i64 a2_2, .slice A2_3 l2_3.length c2_3, .slice A2_4 l2_4.length c2_4] 25 (0, 0)) (bk_ BK615) hg (Kd.R_ne HO_0.out BK615.out (by decide))); have n1_ := a_ (hb); have n2_ := a_ (Kept.of_grown (S := (fun k_ => P0_ k_)) hg (kp_ HK) (fun k_ e_ => (HO_0.out.1 k_ e_))); have n3_ := a_ (ho); clear BK615 HB HK HO_0; have BK615 := n0_; have HB := n1_; have HK := n2_; have HO633 := n3_; clear n0_ n1_ n2_ n3_ ho hb hg hat) | ((with_reducible refine gate_builtin (b := .append) (xs := #[.tmp 54, .tmp 55]) rfl ?_); at_builtin; refine Kd.R_append (Kd.int .u8) (w0 := w0) w0.heap.size rfl (.tmp 54) (.tmp 55) 32 5 (.int .u8 0) 1 rfl Try.underlying32 info5 rfl (by decide) (by omega) v632 y631 10 [.int .u8 10] (fun k_ => (P0_ k_ ∨ w.heap.size ≤ k_)) (fun _ => False) rfl rfl ?aP (fun _ hk => hk.elim) ?aF ?aO ?aB ?aS ?aL ?_; (case aP => exact rfl); (case aB => exact (bl_ HB)); (case aF => exact (fun k_ hk => (.inr (Nat.le_trans (kz_ HK) hk)))); (case aO => exact (rp_ HO633)); (case aS => exact (below_size (bl_ HB))); (case aL => have := LMc24.out; omega); intro v635 w39 ho hb hg hat; rw [← Ny634.out] at ho; have n0_ := a_ (blk_grown (g := gb615) (o := .cells #[.int .i64 a2_0, .int .i64 a2_1, .int .i64 a2_2, .slice A2_3 l2_3.length c2_3, .slice A2_4 l2_4.length c2_4] 25 (0, 0)) (bk_ BK615) hg (Kd.R_ne HO633.out BK615.out (by decide))); have n1_ := a_ (hb); have n2_ := a_ (Kept.of_grown (S := (fun k_ => P0_ k_)) hg (kp_ HK) (fun k_ e_ => (HO633.out.1 k_ e_))); have n3_ := a_ (ho); clear BK615 HB HK HO633; have BK615 := n0_; have HB := n1_; have HK := n2_; have HO636 := n3_; clear n0_ n1_ n2_ n3_ ho hb hg hat) | (at_builtin; refine Kd.R_append_str (w0 := w0) w0.heap.size rfl (.tmp 57) _ 32 9 5 rfl Try.underlying32 Try.underlying9 info5 v635 y634 a3 (fun k_ => (P0_ k_ ∨ w.heap.size ≤ k_)) rfl rfl ?aF ?aO ?aB ?aS ?aL ?_; (case aB => exact (bl_ HB)); (case aF => exact (fun k_ hk => (.inr (Nat.le_trans (kz_ HK) hk)))); (case aO => exact (rp_ HO636)); (case aS => exact (below_size (bl_ HB))); (case aL => have := LMc25.out; omega); intro v638 w40 ho hb hg hat; rw [← Ny637.out] at ho; have n0_ := a_ (blk_grown (g := gb615) (o := .cells #[.int .i64 a2_0, .int .i64 a2_1, .int .i64 a2_2, .slice A2_3 l2_3.length c2_3, .slice A2_4 l2_4.length c2_4] 25 (0, 0)) (bk_ BK615) hg (Kd.R_ne HO636.out BK615.out (by decide))); have n1_ := a_ (hb); have n2_ := a_ (Kept.of_grown (S := (fun k_ => P0_ k_)) hg (kp_ HK) (fun k_ e_ => (HO636.out.1 k_ e_))); have n3_ := a_ (ho); clear BK615 HB HK HO636; have BK615 := n0_; have HB := n1_; have HK := n2_; have HO639 := n3_; clear n0_ n1_ n2_ n3_ ho hb hg hat) | (at_builtin; refine Kd.R_append_str (w0 := w0) w0.heap.size rfl (.tmp 60) _ 32 9 5 rfl Try.underlying32 Try.underlying9 info5 v638 y637 a4 (fun k_ => (P0_ k_ ∨ w.heap.size ≤ k_)) rfl rfl ?aF ?aO ?aB ?aS ?aL ?_; (case aB => exact (bl_ HB)); (case aF => exact (fun k_ hk => (.inr (Nat.le_trans (kz_ HK) hk)))); (case aO => exact (rp_ HO639)); (case aS => exact (below_size (bl_ HB))); (case aL => have := LMc26.out; omega); intro v641 w41 ho hb hg hat; rw [← Ny640.out] at ho; have n0_ := a_ (blk_grown (g := gb615) (o := .cells #[.int .i64 a2_0, .int .i64 a2_1, .int .i64 a2_2, .slice A2_3 l2_3.length c2_3, .slice A2_4 l2_4.length c2_4] 25 (0, 0)) (bk_ BK615) hg (Kd.R_ne HO639.out BK615.out (by decide))); have n1_ := a_ (hb); have n2_ := a_ (Kept.of_grown (S := (fun k_ => P0_ k_)) hg (kp_ HK) (fun k_ e_ => (HO639.out.1 k_ e_))); have n3_ := a_ (ho); clear BK615 HB HK HO639; have BK615 := n0_; have HB := n1_; have HK := n2_; have HO642 := n3_; clear n0_ n1_ n2_ n3_ ho hb hg hat; have hcz42_0 := bc_ BK615 0 (.int .i64 a2_0); have hcz42_1 := bc_ BK615 1 (.int .i64 a2_1); have hcz42_2 := bc_ BK615 2 (.int .i64 a2_2); have hcz42_3 := bc_ BK615 3 (.slice A2_3 l2_3.length c2_3); have hcz42_4 := bc_ BK615 4 (.slice A2_4 l2_4.length c2_4); have hfz42_0 := blk_frozen BK615.out 0; have hfz42_1 := blk_frozen BK615.out 1; have hfz42_2 := blk_frozen BK615.out 2; have hfz42_3 := blk_frozen BK615.out 3; have hfz42_4 := blk_frozen BK615.out 4))
    have n0_ := a_ (Kd.R_drew HO642.out)
    have n1_ := a_ (blk_drew BK615.out)
    have n2_ := a_ (Kept.drew HK.out)
    have n3_ := a_ (below_drew1 HB.out)
    clear HO642
    clear BK615
    clear HK
    clear HB
    have HO642 := n0_
    have BK615 := n1_
    have HK := n2_
    have HB := n3_
    clear n0_ n1_ n2_ n3_
    have p643 : 0 ≤ (x46_2 : Int) := of_decide_eq_true as_
    have q643 : x46_2 < (l2_3.length : Int) := of_decide_eq_true as_
    obtain ⟨ad643, e643, hx643_0, hx643_1⟩ := at_T41_w0 HR2_3.out HB.out x46_2 p643 q643
    have hw643_1 := hx643_1
    have hw643_0 := hx643_0
    cases e643
    replace p643 := eq_true p643
    replace q643 := eq_true q643
    have p644 : 0 ≤ (x46_2 : Int) := of_decide_eq_true as_
    have q644 : x46_2 < (l2_3.length : Int) := of_decide_eq_true as_
    obtain ⟨ad644, e644, hx644_0, hx644_1⟩ := at_T41_w0 HR2_3.out HB.out x46_2 p644 q644
    have hw644_1 := hx644_1
    have hw644_0 := hx644_0
    obtain rfl : ad643 = ad644 := (by injection e644)
    replace p644 := eq_true p644
    replace q644 := eq_true q644
    refine start_ (n := 17) (S := fun w' => w'.cell? ⟨gb615, 0, none⟩ = some (.int .i64 a2_0) ∧ w'.cell? ⟨gb615, 1, none⟩ = some (.int .i64 a2_1) ∧ w'.cell? ⟨gb615, 2, none⟩ = some (.int .i64 a2_2) ∧ w'.cell? ⟨gb615, 3, none⟩ = some (.slice (some ad643) l2_3.length c2_3) ∧ w'.cell? ⟨gb615, 4, none⟩ = some (.slice A2_4 l2_4.length c2_4) ∧ w'.cell? (ad643.add ((x46_2).toNat * 2)) = some (.int .i64 ((rd_T41 l2_3 x46_2).f0)) ∧ w'.cell? ⟨(ad643.add ((x46_2).toNat * 2)).block, (ad643.add ((x46_2).toNat * 2)).off + 1, none⟩ = some (.int .i64 ((rd_T41 l2_3 x46_2).f1)) ∧ w'.cell? (ad643.add ((x46_2).toNat * 2)) = some (.int .i64 ((rd_T41 l2_3 x46_2).f0)) ∧ w'.cell? ⟨(ad643.add ((x46_2).toNat * 2)).block, (ad643.add ((x46_2).toNat * 2)).off + 1, none⟩ = some (.int .i64 ((rd_T41 l2_3 x46_2).f1))) (ds := [15]) #[false, false, false, false, false, false, false, false, false, false, false, false, false, false, false, false, false] (by kernel_rfl) rfl rfl ⟨(blk_cell BK615.out 0).trans rfl, (blk_cell BK615.out 1).trans rfl, (blk_cell BK615.out 2).trans rfl, (blk_cell BK615.out 3).trans rfl, (blk_cell BK615.out 4).trans rfl, hx643_0, hx643_1, hx644_0, hx644_1⟩ (fun hHeld => ?_); refine with_tabW spec_laidTo.tab18 spec_laidTo.bits18 (fun HT_ HW_ => ?_)
    generalize w41.drew = w43 at HO642 BK615 HK HB hx643_0 hx643_1 hx644_0 hx644_1 hHeld ⊢
    refine pure_ (i := 0) (N := some 66) (v := ?_) (a' := ?_) #[true, false, false, false, false, false, false, false, false, false, false, false, false, false, false, false, false] rfl rfl (any_of HT_.out (by kernel_rfl)) (fun _ _ _ h => h) (Or.inl ⟨by rfl, ?_⟩) ?_ ?_
    rotate_left
    ·
     intro w'
     go_simp
     with_reducible rfl
    rotate_left
    ·
     simp only [Act.put, List.setIfInBounds_toArray, List.set_cons_zero, List.set_cons_succ, i64_w, i32_w]
     rfl
    refine pure_ (i := 1) (N := some 67) (v := ?_) (a' := ?_) #[true, true, false, false, false, false, false, false, false, false, false, false, false, false, false, false, false] rfl rfl (any_of HT_.out (by kernel_rfl)) (fun _ _ _ h => h) (Or.inl ⟨by rfl, ?_⟩) ?_ ?_
    rotate_left
    ·
     intro w'
     go_simp
     with_reducible rfl
    rotate_left
    ·
     simp only [Act.put, List.setIfInBounds_toArray, List.set_cons_zero, List.set_cons_succ, i64_w, i32_w]
     rfl
    refine pure_ (i := 2) (N := some 68) (v := ?_) (a' := ?_) #[true, true, true, false, false, false, false, false, false, false, false, false, false, false, false, false, false] rfl rfl (any_of HT_.out (by kernel_rfl)) (fun _ _ _ h => h) (Or.inl ⟨by rfl, ?_⟩) ?_ ?_
    rotate_left
    ·
     intro w'
     go_simp
     with_reducible rfl
    rotate_left
    ·
     simp only [Act.put, List.setIfInBounds_toArray, List.set_cons_zero, List.set_cons_succ, i64_w, i32_w]
     rfl
    refine pure_ (i := 4) (N := some 70) (v := ?_) (a' := ?_) #[true, true, true, false, true, false, false, false, false, false, false, false, false, false, false, false, false] rfl rfl (any_of HT_.out (by kernel_rfl)) (fun _ _ _ h => h) (Or.inl ⟨by rfl, ?_⟩) ?_ ?_
    rotate_left
    ·
     intro w'
     go_simp
     with_reducible rfl
    rotate_left
    ·
     simp only [Act.put, List.setIfInBounds_toArray, List.set_cons_zero, List.set_cons_succ, i64_w, i32_w]
     rfl
    refine pure_ (i := 8) (N := some 74) (v := ?_) (a' := ?_) #[true, true, true, false, true, false, false, false, true, false, false, false, false, false, false, false, false] rfl rfl (any_of HT_.out (by kernel_rfl)) (fun _ _ _ h => h) (Or.inl ⟨by rfl, ?_⟩) ?_ ?_
    rotate_left
    ·
     intro w'
     go_simp
     with_reducible rfl
    rotate_left
    ·
     simp only [Act.put, List.setIfInBounds_toArray, List.set_cons_zero, List.set_cons_succ, i64_w, i32_w]
     rfl
    refine pure_ (i := 10) (N := some 76) (v := ?_) (a' := ?_) #[true, true, true, false, true, false, false, false, true, false, true, false, false, false, false, false, false] rfl rfl (any_of HT_.out (by kernel_rfl)) (fun _ _ _ h => h) (Or.inl ⟨by rfl, ?_⟩) ?_ ?_
    rotate_left
    ·
     intro w'
     go_simp
     with_reducible rfl
    rotate_left
    ·
     simp only [Act.put, List.setIfInBounds_toArray, List.set_cons_zero, List.set_cons_succ, i64_w, i32_w]
     rfl
    refine take_ (i := 3) (N := some 69) (v := ?_) (a' := ?_) #[true, true, true, true, true, false, false, false, true, false, true, false, false, false, false, false, false] rfl rfl (take_ofW HT_.out HW_.out (by kernel_rfl)) (fun _ _ _ h => h) (Or.inl ⟨by rfl, ?_⟩) hHeld ?_ ?_
    rotate_left
    ·
     rintro w' ⟨s0, s1, s2, s3, s4, s5, s6, s7, s8⟩
     go_simp
     with_reducible rfl
    rotate_left
    ·
     simp only [Act.put, List.setIfInBounds_toArray, List.set_cons_zero, List.set_cons_succ, i64_w, i32_w]
     rfl
    refine pure_ (i := 5) (N := some 71) (v := ?_) (a' := ?_) #[true, true, true, true, true, true, false, false, true, false, true, false, false, false, false, false, false] rfl rfl (any_of HT_.out (by kernel_rfl)) (fun _ _ _ h => h) (Or.inl ⟨by rfl, ?_⟩) ?_ ?_
    rotate_left
    ·
     intro w'
     go_simp
     with_reducible rfl
    rotate_left
    ·
     simp only [Act.put, List.setIfInBounds_toArray, List.set_cons_zero, List.set_cons_succ, i64_w, i32_w]
     rfl
    refine pure_ (i := 6) (N := some 72) (v := ?_) (a' := ?_) #[true, true, true, true, true, true, true, false, true, false, true, false, false, false, false, false, false] rfl rfl (any_of HT_.out (by kernel_rfl)) (fun _ _ _ h => h) (Or.inl ⟨by rfl, ?_⟩) ?_ ?_
    rotate_left
    ·
     intro w'
     go_simp
     with_reducible rfl
    rotate_left
    ·
     simp only [Act.put, List.setIfInBounds_toArray, List.set_cons_zero, List.set_cons_succ, i64_w, i32_w]
     rfl
    refine take_ (i := 7) (N := some 73) (v := ?_) (a' := ?_) #[true, true, true, true, true, true, true, true, true, false, true, false, false, false, false, false, false] rfl rfl (take_ofW HT_.out HW_.out (by kernel_rfl)) (fun _ _ _ h => h) (Or.inl ⟨by rfl, ?_⟩) hHeld ?_ ?_
    rotate_left
    ·
     rintro w' ⟨s0, s1, s2, s3, s4, s5, s6, s7, s8⟩
     go_simp
     with_reducible rfl
    rotate_left
    ·
     simp only [Act.put, List.setIfInBounds_toArray, List.set_cons_zero, List.set_cons_succ, i64_w, i32_w]
     rfl
    refine take_ (i := 9) (N := some 75) (v := ?_) (a' := ?_) #[true, true, true, true, true, true, true, true, true, true, true, false, false, false, false, false, false] rfl rfl (take_ofW HT_.out HW_.out (by kernel_rfl)) (fun _ _ _ h => h) (Or.inl ⟨by rfl, ?_⟩) hHeld ?_ ?_
    rotate_left
    ·
     rintro w' ⟨s0, s1, s2, s3, s4, s5, s6, s7, s8⟩
     go_simp
     with_reducible rfl
    rotate_left
    ·
     simp only [Act.put, List.setIfInBounds_toArray, List.set_cons_zero, List.set_cons_succ, i64_w, i32_w]
     rfl
    refine pure_ (i := 11) (N := some 77) (v := ?_) (a' := ?_) #[true, true, true, true, true, true, true, true, true, true, true, true, false, false, false, false, false] rfl rfl (any_of HT_.out (by kernel_rfl)) (fun _ _ _ h => h) (Or.inl ⟨by rfl, ?_⟩) ?_ ?_
    rotate_left
    ·
     intro w'
     go_simp
     with_reducible rfl
    rotate_left
    ·
     simp only [Act.put, List.setIfInBounds_toArray, List.set_cons_zero, List.set_cons_succ, i64_w, i32_w]
     rfl
    refine pure_ (i := 12) (N := some 78) (v := ?_) (a' := ?_) #[true, true, true, true, true, true, true, true, true, true, true, true, true, false, false, false, false] rfl rfl (any_of HT_.out (by kernel_rfl)) (fun _ _ _ h => h) (Or.inl ⟨by rfl, ?_⟩) ?_ ?_
    rotate_left
    ·
     intro w'
     go_simp
     with_reducible rfl
    rotate_left
    ·
     simp only [Act.put, List.setIfInBounds_toArray, List.set_cons_zero, List.set_cons_succ, i64_w, i32_w]
     rfl
    refine take_ (i := 13) (N := some 79) (v := ?_) (a' := ?_) #[true, true, true, true, true, true, true, true, true, true, true, true, true, true, false, false, false] rfl rfl (take_ofW HT_.out HW_.out (by kernel_rfl)) (fun _ _ _ h => h) (Or.inl ⟨by rfl, ?_⟩) hHeld ?_ ?_
    rotate_left
    ·
     rintro w' ⟨s0, s1, s2, s3, s4, s5, s6, s7, s8⟩
     go_simp
     with_reducible rfl
    rotate_left
    ·
     simp only [Act.put, List.setIfInBounds_toArray, List.set_cons_zero, List.set_cons_succ, i64_w, i32_w]
     rfl
    refine pure_ (i := 14) (N := some 80) (v := ?_) (a' := ?_) #[true, true, true, true, true, true, true, true, true, true, true, true, true, true, true, false, false] rfl rfl (any_of HT_.out (by kernel_rfl)) (fun _ _ _ h => h) (Or.inl ⟨by rfl, ?_⟩) ?_ ?_
    rotate_left
    ·
     intro w'
     go_simp
     with_reducible rfl
    rotate_left
    ·
     simp only [Act.put, List.setIfInBounds_toArray, List.set_cons_zero, List.set_cons_succ, i64_w, i32_w]
     rfl
    refine last_ (i := 15) (N := some 81) #[true, true, true, true, true, true, true, true, true, true, true, true, true, true, true, true, false] rfl rfl (one_of HT_.out (by kernel_rfl)) (by decide) (fun K hK => ?_)
    refine Kd.R_append_str_step (w0 := w0) w0.heap.size (by rfl) (.tmp 66) _ 32 9 5 rfl Try.underlying32 Try.underlying9 info5 v641 y640 (a1.extract (((rd_T41 l2_3 x46_2).f0) : Int).toNat (((rd_T41 l2_3 x46_2).f1) : Int).toNat) (fun k_ => (P0_ k_ ∨ w.heap.size ≤ k_)) rfl rfl ?aF ?aO ?aB ?aS ?aL ?_
    (case aB => exact (bl_ HB))
    (case aF => exact (fun k_ hk => (.inr (Nat.le_trans (kz_ HK) hk))))
    (case aO => exact (rp_ HO642))
    (case aS => exact (below_size (bl_ HB)))
    (case aL => have := LMc33.out; omega)
    intro v646 w44 ho hb hg hat
    rw [← Ny645.out] at ho
    have n0_ := a_ (blk_grown (g := gb615) (o := .cells #[.int .i64 a2_0, .int .i64 a2_1, .int .i64 a2_2, .slice (some ad643) l2_3.length c2_3, .slice A2_4 l2_4.length c2_4] 25 (0, 0)) (bk_ BK615) hg (Kd.R_ne HO642.out BK615.out (by decide)))
    have n1_ := a_ (hb)
    have n2_ := a_ (Kept.of_grown (S := (fun k_ => P0_ k_)) hg (kp_ HK) (fun k_ e_ => (HO642.out.1 k_ e_)))
    have n3_ := a_ (ho)
    clear BK615
    clear HB
    clear HK
    clear HO642
    have BK615 := n0_
    have HB := n1_
    have HK := n2_
    have HO647 := n3_
    clear n0_ n1_ n2_ n3_
    clear ho hb hg hat
    refine hK.out _ _ ?_
    clear hK K
    refine norm_ (a' := ?_) ?_ ?_
    rotate_left
    ·
     show Act.put _ (some 81) _ = _
     simp only [Act.put, List.setIfInBounds_toArray, List.set_cons_zero, List.set_cons_succ, i64_w, i32_w]
     rfl
    refine pure_ (i := 16) (N := some 0) (v := ?_) (a' := ?_) #[true, true, true, true, true, true, true, true, true, true, true, true, true, true, true, true, true] rfl rfl (any_of HT_.out (by kernel_rfl)) (fun _ _ _ h => h) (Or.inl ⟨by rfl, ?_⟩) ?_ ?_
    rotate_left
    ·
     intro w'
     go_simp
     with_reducible rfl
    rotate_left
    ·
     simp only [Act.put, List.setIfInBounds_toArray, List.set_cons_zero, List.set_cons_succ, i64_w, i32_w]
     rfl
    refine done_ (done_of HT_.out (by kernel_rfl)) ?_
    try go_wp2_with (first | ((with_reducible refine gate_dst (N := 83) rfl ?_); refine Kd.R_lit (Kd.int .u8) _ 5 ?hg (N := 83) ?hd (xs := ([58, 32] : List Int)) (inner := [.int .u8 58, .int .u8 32]) (ok := fun _ => True) (okp := fun _ => True) ?hr ?hp (fun _ hk => hk) trivial (Below.refl _ _) (Nat.le_refl _) (by simp) ?_; (case hd => rfl); (case hg => rfl); (case hr => first | (go_simp; done) | (go_simp; rfl)); (case hp => exact (Reps.one (show Kd.M (Kd.int .u8) _ _ _ 58 [.int .u8 58] from rfl) (Reps.one (show Kd.M (Kd.int .u8) _ _ _ 32 [.int .u8 32] from rfl) (Reps.none _ _)))); intro v649 w45 ho46 hb hg_ hnew_; clear hg_ hnew_; (first | rw [← Ny648.out] at ho46 | (simp only [Int.reduceToNat] at ho46; rw [← Ny648.out] at ho46)); have n0_ := a_ (Kd.R_elder' (rp_ HO647) (Kd.R_base ho46) hb); have n1_ := a_ (Kd.R_lower (Kd.R_new' (Kd.R_newM (M := fun k_ => (P0_ k_ ∨ w.heap.size ≤ k_)) ho46 (kz_ HK) (fun k_ h_ => .inr h_)) (Kd.R_lt (rp_ HO647))) (below_size (bl_ HB))); have n2_ := a_ (blk_below (g := gb615) (o := .cells #[.int .i64 a2_0, .int .i64 a2_1, .int .i64 a2_2, .slice (some ad643) l2_3.length c2_3, .slice A2_4 l2_4.length c2_4] 25 (0, 0)) (bk_ BK615) hb); have n3_ := a_ (Kept.below (S := (fun k_ => P0_ k_)) (kp_ HK) hb); have n4_ := a_ (below_step (bl_ HB) hb); clear HO647 BK615 HK HB; have HO647 := n0_; have HO650 := n1_; have BK615 := n2_; have HK := n3_; have HB := n4_; clear n0_ n1_ n2_ n3_ n4_ hb ho46; obtain ⟨Ao48, co48, eo48⟩ := Kd.R_slice HO650.out; subst eo48) | ((with_reducible refine gate_builtin (b := .append) (xs := #[.tmp 82, .tmp 83]) rfl ?_); at_builtin; refine Kd.R_append_rows (Kd.int .u8) (w0 := w0) w0.heap.size rfl (.tmp 82) (.tmp 83) 32 5 (.int .u8 0) 1 rfl Try.underlying32 info5 rfl (by decide) (by omega) v646 y645 y648 _ _ _ (fun k_ => (P0_ k_ ∨ w.heap.size ≤ k_) ∧ some k_ ≠ (.slice Ao48 y648.length co48 : Value).ownBlock) (fun _ => False) rfl rfl ?aO ?aR (fun _ _ h => h) (fun _ h => h.elim) ?aF ?aB ?aS ?aL ?_; (case aR => repeat (first | exact (Kd.R_reads' HO650.out).2.2 | (with_reducible refine Kd.C_alloc ?_ _) | (with_reducible refine Kd.C_drewN ?_ _) | (with_reducible refine Kd.C_drew ?_))); (case aB => exact (bl_ HB)); (case aF => exact (fun k_ hk => ⟨(.inr (Nat.le_trans (kz_ HK) hk)), Kd.fresh' (Kd.R_lt (rp_ HO650)) k_ hk⟩)); (case aO => exact (rp_ HO647)); (case aS => exact (below_size (bl_ HB))); (case aL => have := LMc34.out; omega); intro v652 w47 ho hb hg hat; rw [← Ny651.out] at ho; have n0_ := a_ (blk_grown (g := gb615) (o := .cells #[.int .i64 a2_0, .int .i64 a2_1, .int .i64 a2_2, .slice (some ad643) l2_3.length c2_3, .slice A2_4 l2_4.length c2_4] 25 (0, 0)) (bk_ BK615) hg (Kd.R_ne HO647.out BK615.out (by decide))); have n1_ := a_ (Kd.R_after (ok := (fun k_ => (P0_ k_ ∨ w.heap.size ≤ k_))) (by (with_reducible repeat (first | apply Kd.R_alloc | apply Kd.R_drewN | apply Kd.R_drew)); exact Kd.R_mono HO650.out (fun _ hk => ⟨hk.1.1, hk.2⟩)) hg hat); have n2_ := a_ (hb); have n3_ := a_ (Kept.of_grown (S := (fun k_ => P0_ k_)) hg (kp_ HK) (fun k_ e_ => (HO647.out.1 k_ e_).1)); have n4_ := a_ (ho); clear BK615 HO650 HB HK HO647; have BK615 := n0_; have HO650 := n1_; have HB := n2_; have HK := n3_; have HO653 := n4_; clear n0_ n1_ n2_ n3_ n4_ ho hb hg hat; have hcz49_0 := bc_ BK615 0 (.int .i64 a2_0); have hcz49_1 := bc_ BK615 1 (.int .i64 a2_1); have hcz49_2 := bc_ BK615 2 (.int .i64 a2_2); have hcz49_3 := bc_ BK615 3 (.slice (some ad643) l2_3.length c2_3); have hcz49_4 := bc_ BK615 4 (.slice A2_4 l2_4.length c2_4); have hfz49_0 := blk_frozen BK615.out 0; have hfz49_1 := blk_frozen BK615.out 1; have hfz49_2 := blk_frozen BK615.out 2; have hfz49_3 := blk_frozen BK615.out 3; have hfz49_4 := blk_frozen BK615.out 4; have p654 : 0 ≤ (x46_2 : Int) := of_decide_eq_true as_; have q654 : x46_2 < (l2_4.length : Int) := of_decide_eq_true as_; obtain ⟨ad654, A654_3, c654_3, A654_4, c654_4, e654, hx654_0, hx654_1, hx654_2, hx654_3, hx654_4, hl654_3, hi654_3, hl654_4, hi654_4⟩ := at_T25_w0 HR2_4.out HB.out x46_2 p654 q654; cases e654; have HR654_3 := a_ hi654_3; have HC654_3 := a_ hl654_3; clear hi654_3 hl654_3; have HR654_4 := a_ hi654_4; have HC654_4 := a_ hl654_4; clear hi654_4 hl654_4; replace p654 := eq_true p654; replace q654 := eq_true q654; obtain ⟨Ao50, co50, eo50⟩ := Kd.R_slice HO653.out; subst eo50) | ((with_reducible refine gate_callee (f := 10) rfl ?_); refine goesL_ (some 97) rfl rfl Try.func10 (by kernel_rfl) rfl #[.slice Ao50 y651.length co50, .string a1, .agg #[.int .i64 ((rd_T25 l2_4 x46_2).f0), .int .i64 ((rd_T25 l2_4 x46_2).f1), .int .i64 ((rd_T25 l2_4 x46_2).f2), .slice A654_3 ((rd_T25 l2_4 x46_2).f3).length c654_3, .slice A654_4 ((rd_T25 l2_4 x46_2).f4).length c654_4], .string (a3 ++ a4), .string a4, .bool false] rfl ar_ ?_; (with_reducible refine (ih k2 (by have := HJ13.out; have := HK2.out; omega) (fun k_ => some k_ = (.slice Ao50 y651.length co50 : Value).ownBlock) (.slice Ao50 y651.length co50) y651 a1 ((rd_T25 l2_4 x46_2).f0) ((rd_T25 l2_4 x46_2).f1) ((rd_T25 l2_4 x46_2).f2) _ _ ((rd_T25 l2_4 x46_2).f3) _ _ ((rd_T25 l2_4 x46_2).f4) (a3 ++ a4) a4 false t655 w0 _ ?side1 ?side2 ?side3 ?side4 ?side5 ?side6 A37.out).mono ?_); (case side1 => exact bl_ HB); (case side2 => exact Kd.R_tight rfl HO653.out); (case side3 => exact HR654_3.out); (case side4 => exact HC654_3.out); (case side5 => exact HR654_4.out); (case side6 => exact HC654_4.out); rintro e w51 ⟨v656, rfl, ho0, hb, hkp⟩; refine ⟨_, rfl, ?_⟩; have n0_ := a_ (blk_kept (bk_ BK615) hkp (fun hs_ => (fun e_ => (Kd.R_ne HO653.out BK615.out (by decide)) e_) hs_)); have n1_ := a_ (Kd.R_mono (ok' := fun k_ => (P0_ k_ ∨ w.heap.size ≤ k_) ∧ some k_ ≠ (v656 : Value).ownBlock) (Kd.R_keptB (HO650.out) hkp (fun k_ hk_ hs_ => (hk_.2) hs_)) (fun k_ hk_ => ⟨hk_.1.1, fun e_ => Or.elim (ho0.1 k_ e_.symm) (fun hs_ => hk_.2.1 hs_) (fun hn_ => Nat.not_le.2 hk_.2.2 hn_)⟩)); have n2_ := a_ (Kd.R_mono (ok' := fun k_ => (P0_ k_ ∨ w.heap.size ≤ k_) ∧ some k_ ≠ (.slice Ao48 y648.length co48 : Value).ownBlock) ho0 (fun k_ hk_ => ⟨Or.elim hk_ (fun hs_ => (HO653.out.1 k_ (hs_).symm).1) (fun hn_ => (.inr (Nat.le_trans (kz_ HK) hn_))), Or.elim hk_ (fun hs_ => fun e_ => (((HO650.out).1 k_ e_.symm).2) hs_) (fun hn_ => (Kd.fresh' (Kd.R_lt (rp_ HO650)) k_ hn_))⟩)); have n3_ := a_ (Kept.then_ (S := (fun k_ => P0_ k_)) (kp_ HK) hkp (fun k_ hs_ => (fun e_ => (HO653.out.1 k_ e_.symm).1) hs_)); have n4_ := a_ (hb); clear BK615 HO650 HK HB HO653; have BK615 := n0_; have HO650 := n1_; have HO657 := n2_; have HK := n3_; have HB := n4_; clear n0_ n1_ n2_ n3_ n4_ hb hkp ho0))
    go_roundg k2
    case measure => have := HJ13.out; have := HK2.out; omega
    case rel => exact ⟨(t655), (wrap64 (x46_2 + 1)), rl_, H', ⟨by have := HJ13.out; have := HK2.out; omega⟩, ⟨by (with_reducible repeat (first | apply Kd.R_alloc | apply Kd.R_drewN | apply Kd.R_drew)); exact Kd.R_mono HO657.out (fun _ hk => hk.1)⟩, ⟨bk_ BK615⟩, ⟨kp_ HK⟩, ⟨bl_ HB⟩⟩
end Go.Proofs.Ytapgjhgjhcfmoaa.PFnPrDefaultLaid
