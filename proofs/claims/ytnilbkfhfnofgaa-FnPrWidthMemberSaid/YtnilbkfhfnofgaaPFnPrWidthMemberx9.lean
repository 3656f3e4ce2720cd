/- Contracts of Go functions of this seat: a Lean function over numbers and lists for each, and a proof that the Go function returns what it gives. Made by program. -/
import Derived.Test.YtnilbkfhfnofgaaPFnPrWidthMemberx0
import Derived.Test.YtnilbkfhfnofgaaPFnPrWidthMemberx7
import Derived.Test.YtnilbkfhfnofgaaPFnPrWidthMemberx8
namespace Go.Proofs.Ytnilbkfhfnofgaa.PFnPrWidthMember
open Go.RowKit Go.Proofs.YtnilbkfhfnofgaaW.PrintWords Go.Proofs.YtnilbkfhfnofgaaW.PrintLast Go.Proofs.YtnilbkfhfnofgaaW.PrintMore
attribute [local go_sem] max2_int min2_int max_two min_two max_three min_three max_four min_four   -- for this text's walks alone
set_option linter.unusedVariables false
set_option linter.unusedSimpArgs false
/-! ### sLa: function 16 -/
mutual
def sLa.j0 : Nat → List Int → ByteArray → ByteArray → ByteArray → Bool → Int → Int → Int → Int → Int → List (S54) → List (S28) → Option (List Int)
  | 0, _, _, _, _, _, _, _, _, _, _, _, _ => none
  | k + 1, x0, x1, x3, x4, x5, x13, x14, x345000, x345001, x345002, x345003, x345004 => if x0.length < 140737488355328 then (sLa.l0 k (x0 ++ [x13]) x1 x3 x4 x5 x14 (x345004.length : Int) 0 x345000 x345001 x345002 x345003 x345004) else (none)
def sLa.l0 : Nat → List Int → ByteArray → ByteArray → ByteArray → Bool → Int → Int → Int → Int → Int → Int → List (S54) → List (S28) → Option (List Int)
  | 0, _, _, _, _, _, _, _, _, _, _, _, _, _ => none
  | k + 1, x0, x1, x3, x4, x5, x14, x45, x46, x345000, x345001, x345002, x345003, x345004 => if x46 < x45 then (if x46 > 0 then (if x0.length < 140737488355328 then ((some (x0 ++ [44] : List Int)).bind fun y364 => (if y364.length < 140737488355328 then ((some (y364 ++ [10] : List Int)).bind fun y367 => (if y367.length + x3.size < 140737488355328 then ((some (y367 ++ bytesOf x3 : List Int)).bind fun y370 => (if y370.length + x4.size < 140737488355328 then ((some (y370 ++ bytesOf x4 : List Int)).bind fun y373 => (if x345000 = 6 then (if 0 ≤ x46 then (if x46 < (x345003.length : Int) then (if 0 ≤ ((rd_T54 x345003 x46).f0) then (if ((rd_T54 x345003 x46).f0) ≤ ((rd_T54 x345003 x46).f1) then (if ((rd_T54 x345003 x46).f1) ≤ (x1.size : Int) then (if y373.length + (x1.extract (((rd_T54 x345003 x46).f0) : Int).toNat (((rd_T54 x345003 x46).f1) : Int).toNat).size < 140737488355328 then ((some (y373 ++ bytesOf (x1.extract (((rd_T54 x345003 x46).f0) : Int).toNat (((rd_T54 x345003 x46).f1) : Int).toNat) : List Int)).bind fun y378 => ((some (([58, 32] : List Int) : List Int)).bind fun y381 => (if y378.length + y381.length < 140737488355328 then (if x46 < (x345004.length : Int) then (if x3.size + x4.size ≤ 9223372036854775807 then ((sLa.f k (y378 ++ y381) x1 ((rd_T28 x345004 x46).f0) ((rd_T28 x345004 x46).f1) ((rd_T28 x345004 x46).f2) ((rd_T28 x345004 x46).f3) ((rd_T28 x345004 x46).f4) (x3 ++ x4) x4 x5).bind fun t388 => (sLa.l0 k t388 x1 x3 x4 x5 x14 x45 (wrap64 (x46 + 1)) x345000 x345001 x345002 x345003 x345004)) else (none)) else (none)) else (none)))) else (none)) else (none)) else (none)) else (none)) else (none)) else (none)) else (if 0 ≤ x46 then (if x46 < (x345004.length : Int) then (if x3.size + x4.size ≤ 9223372036854775807 then ((sLa.f k y373 x1 ((rd_T28 x345004 x46).f0) ((rd_T28 x345004 x46).f1) ((rd_T28 x345004 x46).f2) ((rd_T28 x345004 x46).f3) ((rd_T28 x345004 x46).f4) (x3 ++ x4) x4 x5).bind fun t392 => (sLa.l0 k t392 x1 x3 x4 x5 x14 x45 (wrap64 (x46 + 1)) x345000 x345001 x345002 x345003 x345004)) else (none)) else (none)) else (none)))) else (none))) else (none))) else (none))) else (none)) else (if x0.length < 140737488355328 then ((some (x0 ++ [10] : List Int)).bind fun y395 => (if y395.length + x3.size < 140737488355328 then ((some (y395 ++ bytesOf x3 : List Int)).bind fun y398 => (if y398.length + x4.size < 140737488355328 then ((some (y398 ++ bytesOf x4 : List Int)).bind fun y401 => (if x345000 = 6 then (if 0 ≤ x46 then (if x46 < (x345003.length : Int) then (if 0 ≤ ((rd_T54 x345003 x46).f0) then (if ((rd_T54 x345003 x46).f0) ≤ ((rd_T54 x345003 x46).f1) then (if ((rd_T54 x345003 x46).f1) ≤ (x1.size : Int) then (if y401.length + (x1.extract (((rd_T54 x345003 x46).f0) : Int).toNat (((rd_T54 x345003 x46).f1) : Int).toNat).size < 140737488355328 then ((some (y401 ++ bytesOf (x1.extract (((rd_T54 x345003 x46).f0) : Int).toNat (((rd_T54 x345003 x46).f1) : Int).toNat) : List Int)).bind fun y406 => ((some (([58, 32] : List Int) : List Int)).bind fun y409 => (if y406.length + y409.length < 140737488355328 then (if x46 < (x345004.length : Int) then (if x3.size + x4.size ≤ 9223372036854775807 then ((sLa.f k (y406 ++ y409) x1 ((rd_T28 x345004 x46).f0) ((rd_T28 x345004 x46).f1) ((rd_T28 x345004 x46).f2) ((rd_T28 x345004 x46).f3) ((rd_T28 x345004 x46).f4) (x3 ++ x4) x4 x5).bind fun t416 => (sLa.l0 k t416 x1 x3 x4 x5 x14 x45 (wrap64 (x46 + 1)) x345000 x345001 x345002 x345003 x345004)) else (none)) else (none)) else (none)))) else (none)) else (none)) else (none)) else (none)) else (none)) else (none)) else (if 0 ≤ x46 then (if x46 < (x345004.length : Int) then (if x3.size + x4.size ≤ 9223372036854775807 then ((sLa.f k y401 x1 ((rd_T28 x345004 x46).f0) ((rd_T28 x345004 x46).f1) ((rd_T28 x345004 x46).f2) ((rd_T28 x345004 x46).f3) ((rd_T28 x345004 x46).f4) (x3 ++ x4) x4 x5).bind fun t420 => (sLa.l0 k t420 x1 x3 x4 x5 x14 x45 (wrap64 (x46 + 1)) x345000 x345001 x345002 x345003 x345004)) else (none)) else (none)) else (none)))) else (none))) else (none))) else (none))) else (if x0.length < 140737488355328 then ((some (x0 ++ [10] : List Int)).bind fun y355 => (if y355.length + x3.size < 140737488355328 then ((some (y355 ++ bytesOf x3 : List Int)).bind fun y358 => (if y358.length < 140737488355328 then (some (y358 ++ [x14])) else (none))) else (none))) else (none))
def sLa.f : Nat → List Int → ByteArray → Int → Int → Int → List (S54) → List (S28) → ByteArray → ByteArray → Bool → Option (List Int)
  | 0, _, _, _, _, _, _, _, _, _, _ => none
  | k + 1, l0, a1, a2_0, a2_1, a2_2, l2_3, l2_4, a3, a4, a5 => if (l2_4.length : Int) = 0 then ((sBa.f k l0 a1 a2_0 a2_1 a2_2 l2_3 l2_4).bind fun t345 => (some t345)) else (if a5 = true then ((sOb.f k a2_0 a2_1 a2_2 l2_3 l2_4).bind fun t348 => (if t348 = true then (none) else ((sLi.f k l0 a1 a2_0 a2_1 a2_2 l2_3 l2_4).bind fun t349 => (some t349)))) else (if a2_0 = 6 then (sLa.j0 k l0 a1 a3 a4 a5 123 125 a2_0 a2_1 a2_2 l2_3 l2_4) else (sLa.j0 k l0 a1 a3 a4 a5 91 93 a2_0 a2_1 a2_2 l2_3 l2_4)))
end
theorem sLa.mono_l : ∀ k, (∀ y0 y1 y2 y3 y4 y5 y6 y7 y8 y9, LeO (sLa.f k y0 y1 y2 y3 y4 y5 y6 y7 y8 y9) (sLa.f (k + 1) y0 y1 y2 y3 y4 y5 y6 y7 y8 y9)) ∧ (∀ y0 y1 y2 y3 y4 y5 y6 y7 y8 y9 y10 y11, LeO (sLa.j0 k y0 y1 y2 y3 y4 y5 y6 y7 y8 y9 y10 y11) (sLa.j0 (k + 1) y0 y1 y2 y3 y4 y5 y6 y7 y8 y9 y10 y11)) ∧ (∀ y0 y1 y2 y3 y4 y5 y6 y7 y8 y9 y10 y11 y12, LeO (sLa.l0 k y0 y1 y2 y3 y4 y5 y6 y7 y8 y9 y10 y11 y12) (sLa.l0 (k + 1) y0 y1 y2 y3 y4 y5 y6 y7 y8 y9 y10 y11 y12))
 | 0 => ⟨fun _ _ _ _ _ _ _ _ _ _ r h => by simp [sLa.f] at h, fun _ _ _ _ _ _ _ _ _ _ _ _ r h => by simp [sLa.j0] at h, fun _ _ _ _ _ _ _ _ _ _ _ _ _ r h => by simp [sLa.l0] at h⟩
 | k + 1 => by
  obtain ⟨ih0, ih1, ih2⟩ := sLa.mono_l k
  refine ⟨?_, ?_, ?_⟩
  all_goals intros
  all_goals (first | unfold sLa.f | unfold sLa.j0 | unfold sLa.l0)
  all_goals repeat' first | (with_reducible first | apply ih0 | apply ih1 | apply ih2 | apply sBa.mono | apply sLi.mono | apply sOb.mono | apply LeO.refl | apply LeO.none | refine LeO.ite ?_ ?_ | refine LeO.bind ?_ (fun _ => ?_)) | apply ih0 | apply ih1 | apply ih2 | apply sBa.mono | apply sLi.mono | apply sOb.mono | apply LeO.none | refine LeO.ite ?_ ?_ | refine LeO.bind ?_ (fun _ => ?_)
theorem sLa.mono : ∀ a0 a1 a2 a3 a4 a5 a6 a7 a8 a9 k, LeO (sLa.f k a0 a1 a2 a3 a4 a5 a6 a7 a8 a9) (sLa.f (k + 1) a0 a1 a2 a3 a4 a5 a6 a7 a8 a9) := by
 intro a0 a1 a2 a3 a4 a5 a6 a7 a8 a9 k
 obtain ⟨ih0, ih1, ih2⟩ := sLa.mono_l k
 exact ih0 a0 a1 a2 a3 a4 a5 a6 a7 a8 a9
def sLa.T18 : Bool × List (List Nat × List Nat) := (true, [([], []), ([], []), ([], []), ([2], [2]), ([], []), ([3, 4], [3, 4]), ([5], [5]), ([6], [6]), ([], []), ([8], [8]), ([], []), ([9, 10], [9, 10]), ([11], [11]), ([12], [12]), ([1, 7, 13], [1, 7, 13]), ([0, 14], [0, 14]), ([15, 15, 0, 1, 2, 3, 4, 5, 6, 7, 8, 9, 10, 11, 12, 13, 14, 15], [0, 15])])
def sLa.B18 : List Nat := [0, 0, 0, 4, 0, 28, 60, 124, 0, 256, 0, 1792, 3840, 7936, 16382, 32767, 65535]
theorem sLa.tab18 : rtab .any (opsOf Try.f16 18) = sLa.T18 := by kernel_rfl
theorem sLa.bits18 : waitsOk sLa.T18.2 sLa.B18 = true := by kernel_rfl
set_option maxHeartbeats 8000000 in
set_option maxRecDepth 100000 in
theorem sLa.calls (k : Nat) : ∀ (P0_ : Nat → Prop) (u9000_ : Value) (l0 : List Int) (a1 : ByteArray) (a2_0 : Int) (a2_1 : Int) (a2_2 : Int) (A2_3 : Option Addr) (c2_3 : Nat) (l2_3 : List (S54)) (A2_4 : Option Addr) (c2_4 : Nat) (l2_4 : List (S28)) (a3 : ByteArray) (a4 : ByteArray) (a5 : Bool) (r : List Int) (w0 w : World) (hB : Below w0.heap.size w0 w) (ho0 : Kd.R (Kd.int .u8) 5 w w0.heap.size P0_ u9000_ l0) (hr2_3 : Kd.C k54 w0 A2_3 l2_3.length l2_3) (hc2_3 : l2_3.length ≤ c2_3) (hr2_4 : Kd.C k28 w0 A2_4 l2_4.length l2_4) (hc2_4 : l2_4.length ≤ c2_4) (h : sLa.f k l0 a1 a2_0 a2_1 a2_2 l2_3 l2_4 a3 a4 a5 = some r),
  Calls Try.prog 16 #[u9000_, .string a1, .agg #[.int .i64 a2_0, .int .i64 a2_1, .int .i64 a2_2, .slice A2_3 l2_3.length c2_3, .slice A2_4 l2_4.length c2_4], .string a3, .string a4, .bool a5] w fun e w' => ∃ v0_ : Value, e = .returned (v0_) ∧ Kd.R (Kd.int .u8) 5 w' w0.heap.size (fun k_ => (P0_ k_ ∨ w.heap.size ≤ k_)) v0_ r ∧ Below w0.heap.size w0 w' ∧ Kept w w' (fun k_ => P0_ k_) := by
 induction k using Nat.strongRecOn with
 | _ k ih =>
 intro P0_ u9000_ l0 a1 a2_0 a2_1 a2_2 A2_3 c2_3 l2_3 A2_4 c2_4 l2_4 a3 a4 a5 r w0 w hB ho0 hr2_3 hc2_3 hr2_4 hc2_4 h
 cases k with
 | zero => exact absurd h (by simp [sLa.f])
 | succ k =>
 simp only [sLa.f] at h
 have hu28 := Try.underlying28
 have HO0 := a_ (show Kd.R (Kd.int .u8) 5 w w0.heap.size (fun k_ => (P0_ k_ ∨ w.heap.size ≤ k_)) u9000_ l0 from Kd.R_mono ho0 (fun k_ hk => (.inl hk)))
 have HR2_3 := a_ hr2_3
 have HC2_3 := a_ hc2_3
 clear hr2_3 hc2_3
 have HR2_4 := a_ hr2_4
 have HC2_4 := a_ hc2_4
 clear hr2_4 hc2_4
 have HK := a_ (Kept.refl w (fun k_ => P0_ k_))
 have HW0 := a_ hB.size
 have HB := a_ hB
 clear hB
 have H : (if (l2_4.length : Int) = 0 then ((sBa.f k l0 a1 a2_0 a2_1 a2_2 l2_3 l2_4).bind fun t345 => (some t345)) else (if a5 = true then ((sOb.f k a2_0 a2_1 a2_2 l2_3 l2_4).bind fun t348 => (if t348 = true then (none) else ((sLi.f k l0 a1 a2_0 a2_1 a2_2 l2_3 l2_4).bind fun t349 => (some t349)))) else (if a2_0 = 6 then (sLa.j0 k l0 a1 a3 a4 a5 123 125 a2_0 a2_1 a2_2 l2_3 l2_4) else (sLa.j0 k l0 a1 a3 a4 a5 91 93 a2_0 a2_1 a2_2 l2_3 l2_4)))) = some r := h
 clear h
 by_cases c7 : (l2_4.length : Int) = 0
 ·
  rw [if_pos c7] at H
  have c7b0 : ((l2_4.length : Int) == 0) = true := beq_iff_eq.mpr c7
  have c7b1 : ((l2_4.length : Int) != 0) = false := bne_eq_false_iff_eq.mpr c7
  clear c7
  replace H := Option.bind_eq_some_iff.mp H
  obtain ⟨t345, A80, H⟩ := H
  replace H : (some t345) = some r := H
  have A8 := a_ A80
  clear A80
  obtain rfl := Option.some.inj H
  go_enter Try.func16, Try.ntmps16
  go_wp2_with (first | ((with_reducible refine gate_dst (N := 8) rfl ?_); refine box_event ?hg (N := 8) ?hd (cs := #[.int .i64 a2_0, .int .i64 a2_1, .int .i64 a2_2, .slice A2_3 l2_3.length c2_3, .slice A2_4 l2_4.length c2_4]) (t := 28) ?hr ?_; (case hd => rfl); (case hg => rfl); (case hr => first | (go_simp; done) | (go_simp; rfl)); intro gb344 hg w9 hbox hb; replace HO0 := a_ (Kd.R_below (rp_ HO0) hb); have BK344 := a_ hbox; have GW344 := a_ ((by rw [hg]; exact (kz_ HK) : w.heap.size ≤ gb344)); replace HK := a_ (Kept.below (S := (fun k_ => P0_ k_)) (kp_ HK) hb); have GE344 := a_ ((by rw [hg]; exact (below_size (bl_ HB)) : w0.heap.size ≤ gb344)); replace HB := a_ (below_step (bl_ HB) hb); clear hb hbox hg; obtain ⟨hcz10_0, hcz10_1, hcz10_2, hcz10_3, hcz10_4, hfz10_0, hfz10_1, hfz10_2, hfz10_3, hfz10_4⟩ := b5_ BK344; obtain ⟨Ao11, co11, eo11⟩ := Kd.R_slice HO0.out; subst eo11) | ((with_reducible refine gate_callee (f := 22) rfl ?_); refine goesL_ (some 24) rfl rfl Try.func22 (by kernel_rfl) rfl #[.slice Ao11 l0.length co11, .string a1, .agg #[.int .i64 a2_0, .int .i64 a2_1, .int .i64 a2_2, .slice A2_3 l2_3.length c2_3, .slice A2_4 l2_4.length c2_4]] rfl ar_ ?_; (with_reducible refine (sBa.calls k (fun k_ => some k_ = (.slice Ao11 l0.length co11 : Value).ownBlock) (.slice Ao11 l0.length co11) l0 a1 a2_0 a2_1 a2_2 _ _ l2_3 _ _ l2_4 t345 w0 _ ?side1 ?side2 ?side3 ?side4 ?side5 ?side6 A8.out).mono ?_); (case side1 => exact bl_ HB); (case side2 => exact Kd.R_tight rfl HO0.out); (case side3 => exact HR2_3.out); (case side4 => exact HC2_3.out); (case side5 => exact HR2_4.out); (case side6 => exact HC2_4.out); rintro e w12 ⟨v346, rfl, ho0, hb, hkp⟩; refine ⟨_, rfl, ?_⟩; replace BK344 := a_ (blk_kept (bk_ BK344) hkp (fun hs_ => (fun e_ => (Kd.R_ne HO0.out BK344.out (by decide)) e_) hs_)); have HO347 := a_ (Kd.R_mono (ok' := fun k_ => (P0_ k_ ∨ w.heap.size ≤ k_)) ho0 (fun k_ hk_ => Or.elim hk_ (fun hs_ => (HO0.out.1 k_ (hs_).symm)) (fun hn_ => (.inr (Nat.le_trans (kz_ HK) hn_))))); replace HK := a_ (Kept.then_ (S := (fun k_ => P0_ k_)) (kp_ HK) hkp (fun k_ hs_ => (fun e_ => (HO0.out.1 k_ e_.symm)) hs_)); replace HB := a_ hb; clear HO0; (try clear hb); (try clear hkp); (try clear ho0)))
  go_ret
  exact ⟨_, by first | rfl | (simp [errW_none, errW_some] <;> rfl) | (simp [*, errW_none, errW_some] <;> rfl), rp_ HO347, bl_ HB, kp_ HK⟩
 rw [if_neg c7] at H
 have c7b0 : ((l2_4.length : Int) == 0) = false := beq_eq_false_iff_ne.mpr c7
 have c7b1 : ((l2_4.length : Int) != 0) = true := bne_iff_ne.mpr c7
 have c7b2 : ¬ (l2_4 = []) := fun h_ => c7 (by rw [h_]; rfl)
 by_cases c13 : a5 = true
 ·
  subst c13
  rw [if_pos rfl] at H
  replace H := Option.bind_eq_some_iff.mp H
  obtain ⟨t348, A140, H⟩ := H
  replace H : (if t348 = true then (none) else ((sLi.f k l0 a1 a2_0 a2_1 a2_2 l2_3 l2_4).bind fun t349 => (some t349))) = some r := H
  have A14 := a_ A140
  clear A140
  by_cases c15 : t348 = true
  ·
   subst c15
   rw [if_pos rfl] at H
   exact absurd H (by simp)
  replace c15 := Bool.eq_false_iff.mpr c15
  subst c15
  rw [if_neg (show ¬ (false = true) by decide)] at H
  replace H := Option.bind_eq_some_iff.mp H
  obtain ⟨t349, A160, H⟩ := H
  replace H : (some t349) = some r := H
  have A16 := a_ A160
  clear A160
  obtain rfl := Option.some.inj H
  go_enter Try.func16, Try.ntmps16
  go_wp2_with (first | ((with_reducible refine gate_dst (N := 8) rfl ?_); refine box_event ?hg (N := 8) ?hd (cs := #[.int .i64 a2_0, .int .i64 a2_1, .int .i64 a2_2, .slice A2_3 l2_3.length c2_3, .slice A2_4 l2_4.length c2_4]) (t := 28) ?hr ?_; (case hd => rfl); (case hg => rfl); (case hr => first | (go_simp; done) | (go_simp; rfl)); intro gb344 hg w17 hbox hb; replace HO0 := a_ (Kd.R_below (rp_ HO0) hb); have BK344 := a_ hbox; have GW344 := a_ ((by rw [hg]; exact (kz_ HK) : w.heap.size ≤ gb344)); replace HK := a_ (Kept.below (S := (fun k_ => P0_ k_)) (kp_ HK) hb); have GE344 := a_ ((by rw [hg]; exact (below_size (bl_ HB)) : w0.heap.size ≤ gb344)); replace HB := a_ (below_step (bl_ HB) hb); clear hb hbox hg; obtain ⟨hcz18_0, hcz18_1, hcz18_2, hcz18_3, hcz18_4, hfz18_0, hfz18_1, hfz18_2, hfz18_3, hfz18_4⟩ := b5_ BK344) | (go_at_call 23; (with_reducible refine (sOb.calls k a2_0 a2_1 a2_2 _ _ l2_3 _ _ l2_4 false _ ?side1 ?side2 ?side3 ?side4 A14.out).mono ?_); (case side1 => exact Kd.C_below HR2_3.out (bl_ HB)); (case side2 => exact HC2_3.out); (case side3 => exact Kd.C_below HR2_4.out (bl_ HB)); (case side4 => exact HC2_4.out); rintro e w19 ⟨rfl, hb⟩; replace HO0 := a_ (Kd.R_below (rp_ HO0) hb); replace BK344 := a_ (blk_below (g := gb344) (o := .cells #[.int .i64 a2_0, .int .i64 a2_1, .int .i64 a2_2, .slice A2_3 l2_3.length c2_3, .slice A2_4 l2_4.length c2_4] 28 (0, 0)) (bk_ BK344) hb); replace HK := a_ (Kept.below (S := (fun k_ => P0_ k_)) (kp_ HK) hb); replace HB := a_ (below_step (bl_ HB) hb); (try clear hb); (try clear hb2); (try clear hk); (try clear hi); obtain ⟨hcz20_0, hcz20_1, hcz20_2, hcz20_3, hcz20_4, hfz20_0, hfz20_1, hfz20_2, hfz20_3, hfz20_4⟩ := b5_ BK344; obtain ⟨Ao21, co21, eo21⟩ := Kd.R_slice HO0.out; subst eo21) | ((with_reducible refine gate_callee (f := 24) rfl ?_); refine goesL_ (some 35) rfl rfl Try.func24 (by kernel_rfl) rfl #[.slice Ao21 l0.length co21, .string a1, .agg #[.int .i64 a2_0, .int .i64 a2_1, .int .i64 a2_2, .slice A2_3 l2_3.length c2_3, .slice A2_4 l2_4.length c2_4]] rfl ar_ ?_; (with_reducible refine (sLi.calls k (fun k_ => some k_ = (.slice Ao21 l0.length co21 : Value).ownBlock) (.slice Ao21 l0.length co21) l0 a1 a2_0 a2_1 a2_2 _ _ l2_3 _ _ l2_4 t349 w0 _ ?side1 ?side2 ?side3 ?side4 ?side5 ?side6 A16.out).mono ?_); (case side1 => exact bl_ HB); (case side2 => exact Kd.R_tight rfl HO0.out); (case side3 => exact HR2_3.out); (case side4 => exact HC2_3.out); (case side5 => exact HR2_4.out); (case side6 => exact HC2_4.out); rintro e w22 ⟨v350, rfl, ho0, hb, hkp⟩; refine ⟨_, rfl, ?_⟩; replace BK344 := a_ (blk_kept (bk_ BK344) hkp (fun hs_ => (fun e_ => (Kd.R_ne HO0.out BK344.out (by decide)) e_) hs_)); have HO351 := a_ (Kd.R_mono (ok' := fun k_ => (P0_ k_ ∨ w.heap.size ≤ k_)) ho0 (fun k_ hk_ => Or.elim hk_ (fun hs_ => (HO0.out.1 k_ (hs_).symm)) (fun hn_ => (.inr (Nat.le_trans (kz_ HK) hn_))))); replace HK := a_ (Kept.then_ (S := (fun k_ => P0_ k_)) (kp_ HK) hkp (fun k_ hs_ => (fun e_ => (HO0.out.1 k_ e_.symm)) hs_)); replace HB := a_ hb; clear HO0; (try clear hb); (try clear hkp); (try clear ho0)))
  go_ret
  exact ⟨_, by first | rfl | (simp [errW_none, errW_some] <;> rfl) | (simp [*, errW_none, errW_some] <;> rfl), rp_ HO351, bl_ HB, kp_ HK⟩
 replace c13 := Bool.eq_false_iff.mpr c13
 subst c13
 rw [if_neg (show ¬ (false = true) by decide)] at H
 have HC23 := a_ H
 clear H
 go_enter Try.func16, Try.ntmps16
 go_upto_if 38 with (first | ((with_reducible refine gate_dst (N := 8) rfl ?_); refine box_event ?hg (N := 8) ?hd (cs := #[.int .i64 a2_0, .int .i64 a2_1, .int .i64 a2_2, .slice A2_3 l2_3.length c2_3, .slice A2_4 l2_4.length c2_4]) (t := 28) ?hr ?_; (case hd => rfl); (case hg => rfl); (case hr => first | (go_simp; done) | (go_simp; rfl)); intro gb344 hg w24 hbox hb; replace HO0 := a_ (Kd.R_below (rp_ HO0) hb); have BK344 := a_ hbox; have GW344 := a_ ((by rw [hg]; exact (kz_ HK) : w.heap.size ≤ gb344)); replace HK := a_ (Kept.below (S := (fun k_ => P0_ k_)) (kp_ HK) hb); have GE344 := a_ ((by rw [hg]; exact (below_size (bl_ HB)) : w0.heap.size ≤ gb344)); replace HB := a_ (below_step (bl_ HB) hb); clear hb hbox hg; obtain ⟨hcz25_0, hcz25_1, hcz25_2, hcz25_3, hcz25_4, hfz25_0, hfz25_1, hfz25_2, hfz25_3, hfz25_4⟩ := b5_ BK344))
 (try simp only [Act.put, List.setIfInBounds_toArray, List.set_cons_zero, List.set_cons_succ])
 go_cut [13, 14] (fun v13 v14 wc => ∃ (kq : Nat) (x13_22 : Int) (x14_22 : Int), v13 = .int .u8 x13_22 ∧ v14 = .int .u8 x14_22 ∧ Aside0 (sLa.j0 kq l0 a1 a3 a4 false x13_22 x14_22 a2_0 a2_1 a2_2 l2_3 l2_4 = some r) ∧ Aside0 (kq ≤ k) ∧ Aside0 (Kd.R (Kd.int .u8) 5 wc w0.heap.size (fun k_ => (P0_ k_ ∨ w.heap.size ≤ k_)) u9000_ l0) ∧ Aside0 (wc.heap[gb344]? = some (.cells #[.int .i64 a2_0, .int .i64 a2_1, .int .i64 a2_2, (.slice A2_3 l2_3.length c2_3), (.slice A2_4 l2_4.length c2_4)] 28 (0, 0))) ∧ Aside0 (Kept w wc (fun k_ => P0_ k_)) ∧ Aside0 (Below w0.heap.size w0 wc))
 case first =>
  have H := HC23.out
  clear HC23
  by_cases c26 : a2_0 = 6
  rotate_left
  ·
   rw [if_neg c26] at H
   have c26b0 : (a2_0 == 6) = false := beq_eq_false_iff_ne.mpr c26
   have c26b1 : (a2_0 != 6) = true := bne_iff_ne.mpr c26
   (first | rw [c26b0] | (simp only [i64_w, i32_w]; rw [c26b0]) | skip)
   have H' := a_ H
   clear H
   go_wp2
   go_meet
   case rel => exact ⟨_, (91), (93), rl_, rl_, H', ⟨by first | omega | exact Nat.le_refl _⟩, ⟨rp_ HO0⟩, ⟨bk_ BK344⟩, ⟨kp_ HK⟩, ⟨bl_ HB⟩⟩
  rw [if_pos c26] at H
  have c26b0 : (a2_0 == 6) = true := beq_iff_eq.mpr c26
  have c26b1 : (a2_0 != 6) = false := bne_eq_false_iff_eq.mpr c26
  clear c26
  (first | rw [c26b0] | (simp only [i64_w, i32_w]; rw [c26b0]) | skip)
  have H' := a_ H
  clear H
  go_wp2
  go_meet
  case rel => exact ⟨_, (123), (125), rl_, rl_, H', ⟨by first | omega | exact Nat.le_refl _⟩, ⟨rp_ HO0⟩, ⟨bk_ BK344⟩, ⟨kp_ HK⟩, ⟨bl_ HB⟩⟩
 clear HC23
 (try clear c1); (try clear c2); (try clear p2); (try clear c7); (try clear c7b0); (try clear c7b1); (try clear c7b2); (try clear c13); (try clear c15); (try clear c16); (try clear c22); (try clear c24); (try clear c26); (try clear c26b0); (try clear c26b1); (try clear hcz10_0); (try clear hcz10_1); (try clear hcz10_2); (try clear hcz10_3); (try clear hcz10_4); (try clear hcz18_0); (try clear hcz18_1); (try clear hcz18_2); (try clear hcz18_3); (try clear hcz18_4); (try clear hcz20_0); (try clear hcz20_1); (try clear hcz20_2); (try clear hcz20_3); (try clear hcz20_4); (try clear hcz25_0); (try clear hcz25_1); (try clear hcz25_2); (try clear hcz25_3); (try clear hcz25_4); (try clear hfz10_0); (try clear hfz10_1); (try clear hfz10_2); (try clear hfz10_3); (try clear hfz10_4); (try clear hfz18_0); (try clear hfz18_1); (try clear hfz18_2); (try clear hfz18_3); (try clear hfz18_4); (try clear hfz20_0); (try clear hfz20_1); (try clear hfz20_2); (try clear hfz20_3); (try clear hfz20_4); (try clear hfz25_0); (try clear hfz25_1); (try clear hfz25_2); (try clear hfz25_3); (try clear hfz25_4)
 as_aux_lemma =>
  obtain ⟨kq, x13_22, x14_22, rfl, rfl, HA, HJ22, HO_0, BK344, HK, HB⟩ := hcut
  cases kq with
  | zero => exact absurd HA.out (by simp [sLa.j0])
  | succ kj22 =>
   have H := HA.out
   clear HA
   simp only [sLa.j0] at H
   by_cases c27 : l0.length < 140737488355328
   rotate_left
   ·
    rw [if_neg c27] at H
    exact absurd H (by simp)
   rw [if_pos c27] at H
   have LMc27 := a_ c27
   clear c27
   obtain ⟨y352, hy352⟩ : ∃ y_ : List Int, y_ = (l0 ++ [x13_22]) := ⟨_, rfl⟩
   replace H : (sLa.l0 kj22 y352 a1 a3 a4 false x14_22 (l2_4.length : Int) 0 a2_0 a2_1 a2_2 l2_3 l2_4) = some r := by first | exact lt_ H hy352 | (rw [hy352]; exact H) | exact H
   have Ny352 := a_ hy352
   clear hy352
   have H' := a_ H
   clear H
   go_wp2_with (first | ((with_reducible refine gate_builtin (b := .append) (xs := #[.tmp 39, .tmp 41]) rfl ?_); at_builtin; refine Kd.R_append (Kd.int .u8) (w0 := w0) w0.heap.size rfl (.tmp 39) (.tmp 41) 40 5 (.int .u8 0) 1 rfl Try.underlying40 info5 rfl (by decide) (by omega) u9000_ l0 x13_22 [.int .u8 x13_22] (fun k_ => (P0_ k_ ∨ w.heap.size ≤ k_)) (fun _ => False) rfl rfl ?aP (fun _ hk => hk.elim) ?aF ?aO ?aB ?aS ?aL ?_; (case aP => exact rfl); (case aB => exact (bl_ HB)); (case aF => exact (ki_ (kz_ HK))); (case aO => exact (rp_ HO_0)); (case aS => exact (below_size (bl_ HB))); (case aL => have := LMc27.out; omega); intro v353 w28 ho hb hg hat; rw [← Ny352.out] at ho; replace BK344 := a_ (blk_grown (g := gb344) (o := .cells #[.int .i64 a2_0, .int .i64 a2_1, .int .i64 a2_2, .slice A2_3 l2_3.length c2_3, .slice A2_4 l2_4.length c2_4] 28 (0, 0)) (bk_ BK344) hg (Kd.R_ne HO_0.out BK344.out (by decide))); replace HB := a_ hb; replace HK := a_ (Kept.of_grown (S := (fun k_ => P0_ k_)) hg (kp_ HK) (fun k_ e_ => (HO_0.out.1 k_ e_))); have HO354 := a_ ho; clear HO_0; clear ho hb hg hat; obtain ⟨hcz29_0, hcz29_1, hcz29_2, hcz29_3, hcz29_4, hfz29_0, hfz29_1, hfz29_2, hfz29_3, hfz29_4⟩ := b5_ BK344))
   (try simp only [Act.put, List.setIfInBounds_toArray, List.set_cons_zero, List.set_cons_succ])
   go_loopg [0, 46] kj22 (fun kq v0 v46 w' => ∃ (x0_2 : List Int) (x46_2 : Int), v46 = .int .i64 x46_2 ∧ Aside0 (sLa.l0 kq x0_2 a1 a3 a4 false x14_22 (l2_4.length : Int) x46_2 a2_0 a2_1 a2_2 l2_3 l2_4 = some r) ∧ Aside0 (kq ≤ kj22) ∧ Aside0 (Kd.R (Kd.int .u8) 5 w' w0.heap.size (fun k_ => (P0_ k_ ∨ w.heap.size ≤ k_)) v0 x0_2) ∧ Aside0 (w'.heap[gb344]? = some (.cells #[.int .i64 a2_0, .int .i64 a2_1, .int .i64 a2_2, (.slice A2_3 l2_3.length c2_3), (.slice A2_4 l2_4.length c2_4)] 28 (0, 0))) ∧ Aside0 (Kept w w' (fun k_ => P0_ k_)) ∧ Aside0 (Below w0.heap.size w0 w'))
   case atStart => exact ⟨(y352), (0), rl_, H', ⟨Nat.le_refl _⟩, ⟨rp_ HO354⟩, ⟨bk_ BK344⟩, ⟨kp_ HK⟩, ⟨bl_ HB⟩⟩
   case round =>
    clear H'
    (try clear c1); (try clear c2); (try clear p2); (try clear c7); (try clear c7b0); (try clear c7b1); (try clear c7b2); (try clear c13); (try clear c15); (try clear c16); (try clear c22); (try clear c24); (try clear c26); (try clear c26b0); (try clear c26b1); (try clear c27); (try clear hcz10_0); (try clear hcz10_1); (try clear hcz10_2); (try clear hcz10_3); (try clear hcz10_4); (try clear hcz18_0); (try clear hcz18_1); (try clear hcz18_2); (try clear hcz18_3); (try clear hcz18_4); (try clear hcz20_0); (try clear hcz20_1); (try clear hcz20_2); (try clear hcz20_3); (try clear hcz20_4); (try clear hcz25_0); (try clear hcz25_1); (try clear hcz25_2); (try clear hcz25_3); (try clear hcz25_4); (try clear hcz29_0); (try clear hcz29_1); (try clear hcz29_2); (try clear hcz29_3); (try clear hcz29_4); (try clear hfz10_0); (try clear hfz10_1); (try clear hfz10_2); (try clear hfz10_3); (try clear hfz10_4); (try clear hfz18_0); (try clear hfz18_1); (try clear hfz18_2); (try clear hfz18_3); (try clear hfz18_4); (try clear hfz20_0); (try clear hfz20_1); (try clear hfz20_2); (try clear hfz20_3); (try clear hfz20_4); (try clear hfz25_0); (try clear hfz25_1); (try clear hfz25_2); (try clear hfz25_3); (try clear hfz25_4); (try clear hfz29_0); (try clear hfz29_1); (try clear hfz29_2); (try clear hfz29_3); (try clear hfz29_4); (try clear p2)
    as_aux_lemma =>
     obtain ⟨x0_2, x46_2, rfl, HA, HK2, HO_0, BK344, HK, HB⟩ := hrel
     cases gk with
     | zero => exact absurd HA.out (by simp [sLa.l0])
     | succ k2 =>
      have H := HA.out
      clear HA
      simp only [sLa.l0] at H
      by_cases c30 : x46_2 < (l2_4.length : Int)
      rotate_left
      ·
       rw [if_neg c30] at H
       have c30b0 : decide (x46_2 < (l2_4.length : Int)) = false := decide_eq_false c30
       clear c30
       by_cases c109 : x0_2.length < 140737488355328
       rotate_left
       ·
        rw [if_neg c109] at H
        exact absurd H (by simp)
       rw [if_pos c109] at H
       have LMc109 := a_ c109
       clear c109
       obtain ⟨y355, hy355⟩ : ∃ y_ : List Int, y_ = (x0_2 ++ [10]) := ⟨_, rfl⟩
       replace H := lt_ H hy355
       have Ny355 := a_ hy355
       clear hy355
       by_cases c110 : y355.length + a3.size < 140737488355328
       rotate_left
       ·
        rw [if_neg c110] at H
        exact absurd H (by simp)
       rw [if_pos c110] at H
       have LMc110 := a_ c110
       clear c110
       obtain ⟨y358, hy358⟩ : ∃ y_ : List Int, y_ = (y355 ++ bytesOf a3) := ⟨_, rfl⟩
       replace H := lt_ H hy358
       have Ny358 := a_ hy358
       clear hy358
       by_cases c111 : y358.length < 140737488355328
       rotate_left
       ·
        rw [if_neg c111] at H
        exact absurd H (by simp)
       rw [if_pos c111] at H
       have LMc111 := a_ c111
       clear c111
       obtain ⟨y361, hy361⟩ : ∃ y_ : List Int, y_ = (y358 ++ [x14_22]) := ⟨_, rfl⟩
       replace H : (some y361) = some r := by first | exact lt_ H hy361 | (rw [hy361]; exact H) | exact H
       have Ny361 := a_ hy361
       clear hy361
       obtain rfl := Option.some.inj H
       go_wp2_with (first | ((with_reducible refine gate_builtin (b := .append) (xs := #[.tmp 99, .tmp 100]) rfl ?_); at_builtin; refine Kd.R_append (Kd.int .u8) (w0 := w0) w0.heap.size rfl (.tmp 99) (.tmp 100) 40 5 (.int .u8 0) 1 rfl Try.underlying40 info5 rfl (by decide) (by omega) u0 x0_2 10 [.int .u8 10] (fun k_ => (P0_ k_ ∨ w.heap.size ≤ k_)) (fun _ => False) rfl rfl ?aP (fun _ hk => hk.elim) ?aF ?aO ?aB ?aS ?aL ?_; (case aP => exact rfl); (case aB => exact (bl_ HB)); (case aF => exact (ki_ (kz_ HK))); (case aO => exact (rp_ HO_0)); (case aS => exact (below_size (bl_ HB))); (case aL => have := LMc109.out; omega); intro v356 w112 ho hb hg hat; rw [← Ny355.out] at ho; replace BK344 := a_ (blk_grown (g := gb344) (o := .cells #[.int .i64 a2_0, .int .i64 a2_1, .int .i64 a2_2, .slice A2_3 l2_3.length c2_3, .slice A2_4 l2_4.length c2_4] 28 (0, 0)) (bk_ BK344) hg (Kd.R_ne HO_0.out BK344.out (by decide))); replace HB := a_ hb; replace HK := a_ (Kept.of_grown (S := (fun k_ => P0_ k_)) hg (kp_ HK) (fun k_ e_ => (HO_0.out.1 k_ e_))); have HO357 := a_ ho; clear HO_0; clear ho hb hg hat) | (at_builtin; refine Kd.R_append_str (w0 := w0) w0.heap.size rfl (.tmp 102) _ 40 9 5 rfl Try.underlying40 Try.underlying9 info5 v356 y355 a3 (fun k_ => (P0_ k_ ∨ w.heap.size ≤ k_)) rfl rfl ?aF ?aO ?aB ?aS ?aL ?_; (case aB => exact (bl_ HB)); (case aF => exact (ki_ (kz_ HK))); (case aO => exact (rp_ HO357)); (case aS => exact (below_size (bl_ HB))); (case aL => have := LMc110.out; omega); intro v359 w113 ho hb hg hat; rw [← Ny358.out] at ho; replace BK344 := a_ (blk_grown (g := gb344) (o := .cells #[.int .i64 a2_0, .int .i64 a2_1, .int .i64 a2_2, .slice A2_3 l2_3.length c2_3, .slice A2_4 l2_4.length c2_4] 28 (0, 0)) (bk_ BK344) hg (Kd.R_ne HO357.out BK344.out (by decide))); replace HB := a_ hb; replace HK := a_ (Kept.of_grown (S := (fun k_ => P0_ k_)) hg (kp_ HK) (fun k_ e_ => (HO357.out.1 k_ e_))); have HO360 := a_ ho; clear HO357; clear ho hb hg hat) | ((with_reducible refine gate_builtin (b := .append) (xs := #[.tmp 105, .tmp 107]) rfl ?_); at_builtin; refine Kd.R_append (Kd.int .u8) (w0 := w0) w0.heap.size rfl (.tmp 105) (.tmp 107) 40 5 (.int .u8 0) 1 rfl Try.underlying40 info5 rfl (by decide) (by omega) v359 y358 x14_22 [.int .u8 x14_22] (fun k_ => (P0_ k_ ∨ w.heap.size ≤ k_)) (fun _ => False) rfl rfl ?aP (fun _ hk => hk.elim) ?aF ?aO ?aB ?aS ?aL ?_; (case aP => exact rfl); (case aB => exact (bl_ HB)); (case aF => exact (ki_ (kz_ HK))); (case aO => exact (rp_ HO360)); (case aS => exact (below_size (bl_ HB))); (case aL => have := LMc111.out; omega); intro v362 w114 ho hb hg hat; rw [← Ny361.out] at ho; replace BK344 := a_ (blk_grown (g := gb344) (o := .cells #[.int .i64 a2_0, .int .i64 a2_1, .int .i64 a2_2, .slice A2_3 l2_3.length c2_3, .slice A2_4 l2_4.length c2_4] 28 (0, 0)) (bk_ BK344) hg (Kd.R_ne HO360.out BK344.out (by decide))); replace HB := a_ hb; replace HK := a_ (Kept.of_grown (S := (fun k_ => P0_ k_)) hg (kp_ HK) (fun k_ e_ => (HO360.out.1 k_ e_))); have HO363 := a_ ho; clear HO360; clear ho hb hg hat))
       go_ret
       exact ⟨_, by first | rfl | (simp [errW_none, errW_some] <;> rfl) | (simp [*, errW_none, errW_some] <;> rfl), rp_ HO363, bl_ HB, kp_ HK⟩
      rw [if_pos c30] at H
      have c30b0 : decide (x46_2 < (l2_4.length : Int)) = true := decide_eq_true c30
      clear c30
      by_cases c31 : x46_2 > 0
      rotate_left
      ·
       rw [if_neg c31] at H
       have c31b0 : decide (0 < x46_2) = false := decide_eq_false c31
       clear c31
       by_cases c72 : x0_2.length < 140737488355328
       rotate_left
       ·
        rw [if_neg c72] at H
        exact absurd H (by simp)
       rw [if_pos c72] at H
       have LMc72 := a_ c72
       clear c72
       obtain ⟨y395, hy395⟩ : ∃ y_ : List Int, y_ = (x0_2 ++ [10]) := ⟨_, rfl⟩
       replace H := lt_ H hy395
       have Ny395 := a_ hy395
       clear hy395
       by_cases c73 : y395.length + a3.size < 140737488355328
       rotate_left
       ·
        rw [if_neg c73] at H
        exact absurd H (by simp)
       rw [if_pos c73] at H
       have LMc73 := a_ c73
       clear c73
       obtain ⟨y398, hy398⟩ : ∃ y_ : List Int, y_ = (y395 ++ bytesOf a3) := ⟨_, rfl⟩
       replace H := lt_ H hy398
       have Ny398 := a_ hy398
       clear hy398
       by_cases c74 : y398.length + a4.size < 140737488355328
       rotate_left
       ·
        rw [if_neg c74] at H
        exact absurd H (by simp)
       rw [if_pos c74] at H
       have LMc74 := a_ c74
       clear c74
       obtain ⟨y401, hy401⟩ : ∃ y_ : List Int, y_ = (y398 ++ bytesOf a4) := ⟨_, rfl⟩
       replace H := lt_ H hy401
       have Ny401 := a_ hy401
       clear hy401
       by_cases c75 : a2_0 = 6
       rotate_left
       ·
        rw [if_neg c75] at H
        have c75b0 : (a2_0 == 6) = false := beq_eq_false_iff_ne.mpr c75
        have c75b1 : (a2_0 != 6) = true := bne_iff_ne.mpr c75
        by_cases c99 : 0 ≤ x46_2
        rotate_left
        ·
         rw [if_neg c99] at H
         exact absurd H (by simp)
        rw [if_pos c99] at H
        have c99b0 : decide (0 ≤ x46_2) = true := decide_eq_true c99
        clear c99
        by_cases c100 : x46_2 < (l2_4.length : Int)
        rotate_left
        ·
         rw [if_neg c100] at H
         exact absurd H (by simp)
        rw [if_pos c100] at H
        have c100b0 : decide (x46_2 < (l2_4.length : Int)) = true := decide_eq_true c100
        clear c100
        by_cases c101 : a3.size + a4.size ≤ 9223372036854775807
        rotate_left
        ·
         rw [if_neg c101] at H
         exact absurd H (by simp)
        rw [if_pos c101] at H
        have c101b0 := eq_true c101
        have c101b1 : decide (a3.size + a4.size ≤ 9223372036854775807) = true := decide_eq_true c101
        try have c101b2 : (9223372036854775807 < a3.size + a4.size) = False := eq_false (Nat.not_lt.2 c101)
        replace H := Option.bind_eq_some_iff.mp H
        obtain ⟨t420, A1020, H⟩ := H
        replace H : (sLa.l0 k2 t420 a1 a3 a4 false x14_22 (l2_4.length : Int) (wrap64 (x46_2 + 1)) a2_0 a2_1 a2_2 l2_3 l2_4) = some r := H
        have A102 := a_ A1020
        clear A1020
        have H' := a_ H
        clear H
        go_wp2_with (first | ((with_reducible refine gate_builtin (b := .append) (xs := #[.tmp 54, .tmp 55]) rfl ?_); at_builtin; refine Kd.R_append (Kd.int .u8) (w0 := w0) w0.heap.size rfl (.tmp 54) (.tmp 55) 40 5 (.int .u8 0) 1 rfl Try.underlying40 info5 rfl (by decide) (by omega) u0 x0_2 10 [.int .u8 10] (fun k_ => (P0_ k_ ∨ w.heap.size ≤ k_)) (fun _ => False) rfl rfl ?aP (fun _ hk => hk.elim) ?aF ?aO ?aB ?aS ?aL ?_; (case aP => exact rfl); (case aB => exact (bl_ HB)); (case aF => exact (ki_ (kz_ HK))); (case aO => exact (rp_ HO_0)); (case aS => exact (below_size (bl_ HB))); (case aL => have := LMc72.out; omega); intro v396 w103 ho hb hg hat; rw [← Ny395.out] at ho; replace BK344 := a_ (blk_grown (g := gb344) (o := .cells #[.int .i64 a2_0, .int .i64 a2_1, .int .i64 a2_2, .slice A2_3 l2_3.length c2_3, .slice A2_4 l2_4.length c2_4] 28 (0, 0)) (bk_ BK344) hg (Kd.R_ne HO_0.out BK344.out (by decide))); replace HB := a_ hb; replace HK := a_ (Kept.of_grown (S := (fun k_ => P0_ k_)) hg (kp_ HK) (fun k_ e_ => (HO_0.out.1 k_ e_))); have HO397 := a_ ho; clear HO_0; clear ho hb hg hat) | (at_builtin; refine Kd.R_append_str (w0 := w0) w0.heap.size rfl (.tmp 57) _ 40 9 5 rfl Try.underlying40 Try.underlying9 info5 v396 y395 a3 (fun k_ => (P0_ k_ ∨ w.heap.size ≤ k_)) rfl rfl ?aF ?aO ?aB ?aS ?aL ?_; (case aB => exact (bl_ HB)); (case aF => exact (ki_ (kz_ HK))); (case aO => exact (rp_ HO397)); (case aS => exact (below_size (bl_ HB))); (case aL => have := LMc73.out; omega); intro v399 w104 ho hb hg hat; rw [← Ny398.out] at ho; replace BK344 := a_ (blk_grown (g := gb344) (o := .cells #[.int .i64 a2_0, .int .i64 a2_1, .int .i64 a2_2, .slice A2_3 l2_3.length c2_3, .slice A2_4 l2_4.length c2_4] 28 (0, 0)) (bk_ BK344) hg (Kd.R_ne HO397.out BK344.out (by decide))); replace HB := a_ hb; replace HK := a_ (Kept.of_grown (S := (fun k_ => P0_ k_)) hg (kp_ HK) (fun k_ e_ => (HO397.out.1 k_ e_))); have HO400 := a_ ho; clear HO397; clear ho hb hg hat) | (at_builtin; refine Kd.R_append_str (w0 := w0) w0.heap.size rfl (.tmp 60) _ 40 9 5 rfl Try.underlying40 Try.underlying9 info5 v399 y398 a4 (fun k_ => (P0_ k_ ∨ w.heap.size ≤ k_)) rfl rfl ?aF ?aO ?aB ?aS ?aL ?_; (case aB => exact (bl_ HB)); (case aF => exact (ki_ (kz_ HK))); (case aO => exact (rp_ HO400)); (case aS => exact (below_size (bl_ HB))); (case aL => have := LMc74.out; omega); intro v402 w105 ho hb hg hat; rw [← Ny401.out] at ho; replace BK344 := a_ (blk_grown (g := gb344) (o := .cells #[.int .i64 a2_0, .int .i64 a2_1, .int .i64 a2_2, .slice A2_3 l2_3.length c2_3, .slice A2_4 l2_4.length c2_4] 28 (0, 0)) (bk_ BK344) hg (Kd.R_ne HO400.out BK344.out (by decide))); replace HB := a_ hb; replace HK := a_ (Kept.of_grown (S := (fun k_ => P0_ k_)) hg (kp_ HK) (fun k_ e_ => (HO400.out.1 k_ e_))); have HO403 := a_ ho; clear HO400; clear ho hb hg hat; obtain ⟨hcz106_0, hcz106_1, hcz106_2, hcz106_3, hcz106_4, hfz106_0, hfz106_1, hfz106_2, hfz106_3, hfz106_4⟩ := b5_ BK344; have p419 : 0 ≤ (x46_2 : Int) := of_decide_eq_true as_; have q419 : x46_2 < (l2_4.length : Int) := of_decide_eq_true as_; obtain ⟨ad419, A419_3, c419_3, A419_4, c419_4, e419, hx419_0, hx419_1, hx419_2, hx419_3, hx419_4, hl419_3, hi419_3, hl419_4, hi419_4⟩ := at_T28_w0 HR2_4.out HB.out x46_2 p419 q419; cases e419; have HR419_3 := a_ hi419_3; have HC419_3 := a_ hl419_3; clear hi419_3 hl419_3; have HR419_4 := a_ hi419_4; have HC419_4 := a_ hl419_4; clear hi419_4 hl419_4; replace p419 := eq_true p419; replace q419 := eq_true q419; obtain ⟨Ao107, co107, eo107⟩ := Kd.R_slice HO403.out; subst eo107) | ((with_reducible refine gate_callee (f := 16) rfl ?_); refine goesL_ (some 97) rfl rfl Try.func16 (by kernel_rfl) rfl #[.slice Ao107 y401.length co107, .string a1, .agg #[.int .i64 ((rd_T28 l2_4 x46_2).f0), .int .i64 ((rd_T28 l2_4 x46_2).f1), .int .i64 ((rd_T28 l2_4 x46_2).f2), .slice A419_3 ((rd_T28 l2_4 x46_2).f3).length c419_3, .slice A419_4 ((rd_T28 l2_4 x46_2).f4).length c419_4], .string (a3 ++ a4), .string a4, .bool false] rfl ar_ ?_; (with_reducible refine (ih k2 (by have := HJ22.out; have := HK2.out; omega) (fun k_ => some k_ = (.slice Ao107 y401.length co107 : Value).ownBlock) (.slice Ao107 y401.length co107) y401 a1 ((rd_T28 l2_4 x46_2).f0) ((rd_T28 l2_4 x46_2).f1) ((rd_T28 l2_4 x46_2).f2) _ _ ((rd_T28 l2_4 x46_2).f3) _ _ ((rd_T28 l2_4 x46_2).f4) (a3 ++ a4) a4 false t420 w0 _ ?side1 ?side2 ?side3 ?side4 ?side5 ?side6 A102.out).mono ?_); (case side1 => exact bl_ HB); (case side2 => exact Kd.R_tight rfl HO403.out); (case side3 => exact HR419_3.out); (case side4 => exact HC419_3.out); (case side5 => exact HR419_4.out); (case side6 => exact HC419_4.out); rintro e w108 ⟨v421, rfl, ho0, hb, hkp⟩; refine ⟨_, rfl, ?_⟩; replace BK344 := a_ (blk_kept (bk_ BK344) hkp (fun hs_ => (fun e_ => (Kd.R_ne HO403.out BK344.out (by decide)) e_) hs_)); have HO422 := a_ (Kd.R_mono (ok' := fun k_ => (P0_ k_ ∨ w.heap.size ≤ k_)) ho0 (fun k_ hk_ => Or.elim hk_ (fun hs_ => (HO403.out.1 k_ (hs_).symm)) (fun hn_ => (.inr (Nat.le_trans (kz_ HK) hn_))))); replace HK := a_ (Kept.then_ (S := (fun k_ => P0_ k_)) (kp_ HK) hkp (fun k_ hs_ => (fun e_ => (HO403.out.1 k_ e_.symm)) hs_)); replace HB := a_ hb; clear HO403; (try clear hb); (try clear hkp); (try clear ho0)))
        go_roundg k2
        case measure => have := HJ22.out; have := HK2.out; omega
        case rel => exact ⟨(t420), (wrap64 (x46_2 + 1)), rl_, H', ⟨by have := HJ22.out; have := HK2.out; omega⟩, ⟨rp_ HO422⟩, ⟨bk_ BK344⟩, ⟨kp_ HK⟩, ⟨bl_ HB⟩⟩
       rw [if_pos c75] at H
       have c75b0 : (a2_0 == 6) = true := beq_iff_eq.mpr c75
       have c75b1 : (a2_0 != 6) = false := bne_eq_false_iff_eq.mpr c75
       clear c75
       by_cases c76 : 0 ≤ x46_2
       rotate_left
       ·
        rw [if_neg c76] at H
        exact absurd H (by simp)
       rw [if_pos c76] at H
       have c76b0 : decide (0 ≤ x46_2) = true := decide_eq_true c76
       clear c76
       by_cases c77 : x46_2 < (l2_3.length : Int)
       rotate_left
       ·
        rw [if_neg c77] at H
        exact absurd H (by simp)
       rw [if_pos c77] at H
       have c77b0 : decide (x46_2 < (l2_3.length : Int)) = true := decide_eq_true c77
       clear c77
       by_cases c78 : 0 ≤ ((rd_T54 l2_3 x46_2).f0)
       rotate_left
       ·
        rw [if_neg c78] at H
        exact absurd H (by simp)
       rw [if_pos c78] at H
       have c78b0 := eq_true c78
       have c78b1 : decide (0 ≤ ((rd_T54 l2_3 x46_2).f0)) = true := decide_eq_true c78
       clear c78
       by_cases c79 : ((rd_T54 l2_3 x46_2).f0) ≤ ((rd_T54 l2_3 x46_2).f1)
       rotate_left
       ·
        rw [if_neg c79] at H
        exact absurd H (by simp)
       rw [if_pos c79] at H
       have c79b0 := eq_true c79
       have c79b1 : decide (((rd_T54 l2_3 x46_2).f0) ≤ ((rd_T54 l2_3 x46_2).f1)) = true := decide_eq_true c79
       clear c79
       by_cases c80 : ((rd_T54 l2_3 x46_2).f1) ≤ (a1.size : Int)
       rotate_left
       ·
        rw [if_neg c80] at H
        exact absurd H (by simp)
       rw [if_pos c80] at H
       have c80b0 := eq_true c80
       have c80b1 : decide (((rd_T54 l2_3 x46_2).f1) ≤ (a1.size : Int)) = true := decide_eq_true c80
       clear c80
       by_cases c81 : y401.length + (a1.extract (((rd_T54 l2_3 x46_2).f0) : Int).toNat (((rd_T54 l2_3 x46_2).f1) : Int).toNat).size < 140737488355328
       rotate_left
       ·
        rw [if_neg c81] at H
        exact absurd H (by simp)
       rw [if_pos c81] at H
       have LMc81 := a_ c81
       clear c81
       obtain ⟨y406, hy406⟩ : ∃ y_ : List Int, y_ = (y401 ++ bytesOf (a1.extract (((rd_T54 l2_3 x46_2).f0) : Int).toNat (((rd_T54 l2_3 x46_2).f1) : Int).toNat)) := ⟨_, rfl⟩
       replace H := lt_ H hy406
       have Ny406 := a_ hy406
       clear hy406
       obtain ⟨y409, hy409⟩ : ∃ y_ : List Int, y_ = (([58, 32] : List Int)) := ⟨_, rfl⟩
       replace H := lt_ H hy409
       have Ny409 := a_ hy409
       clear hy409
       by_cases c82 : y406.length + y409.length < 140737488355328
       rotate_left
       ·
        rw [if_neg c82] at H
        exact absurd H (by simp)
       rw [if_pos c82] at H
       have LMc82 := a_ c82
       clear c82
       obtain ⟨y412, hy412⟩ : ∃ y_ : List Int, y_ = (y406 ++ y409) := ⟨_, rfl⟩
       replace H : (if x46_2 < (l2_4.length : Int) then (if a3.size + a4.size ≤ 9223372036854775807 then ((sLa.f k2 y412 a1 ((rd_T28 l2_4 x46_2).f0) ((rd_T28 l2_4 x46_2).f1) ((rd_T28 l2_4 x46_2).f2) ((rd_T28 l2_4 x46_2).f3) ((rd_T28 l2_4 x46_2).f4) (a3 ++ a4) a4 false).bind fun t416 => (sLa.l0 k2 t416 a1 a3 a4 false x14_22 (l2_4.length : Int) (wrap64 (x46_2 + 1)) a2_0 a2_1 a2_2 l2_3 l2_4)) else (none)) else (none)) = some r := by first | exact lt_ H hy412 | (rw [hy412]; exact H) | exact H
       have Ny412 := a_ hy412
       clear hy412
       by_cases c83 : x46_2 < (l2_4.length : Int)
       rotate_left
       ·
        rw [if_neg c83] at H
        exact absurd H (by simp)
       rw [if_pos c83] at H
       have c83b0 : decide (x46_2 < (l2_4.length : Int)) = true := decide_eq_true c83
       clear c83
       by_cases c84 : a3.size + a4.size ≤ 9223372036854775807
       rotate_left
       ·
        rw [if_neg c84] at H
        exact absurd H (by simp)
       rw [if_pos c84] at H
       have c84b0 := eq_true c84
       have c84b1 : decide (a3.size + a4.size ≤ 9223372036854775807) = true := decide_eq_true c84
       try have c84b2 : (9223372036854775807 < a3.size + a4.size) = False := eq_false (Nat.not_lt.2 c84)
       replace H := Option.bind_eq_some_iff.mp H
       obtain ⟨t416, A850, H⟩ := H
       replace H : (sLa.l0 k2 t416 a1 a3 a4 false x14_22 (l2_4.length : Int) (wrap64 (x46_2 + 1)) a2_0 a2_1 a2_2 l2_3 l2_4) = some r := H
       have A85 := a_ A850
       clear A850
       have H' := a_ H
       clear H
       try go_wp2_with (first | ((with_reducible refine gate_builtin (b := .append) (xs := #[.tmp 54, .tmp 55]) rfl ?_); at_builtin; refine Kd.R_append (Kd.int .u8) (w0 := w0) w0.heap.size rfl (.tmp 54) (.tmp 55) 40 5 (.int .u8 0) 1 rfl Try.underlying40 info5 rfl (by decide) (by omega) u0 x0_2 10 [.int .u8 10] (fun k_ => (P0_ k_ ∨ w.heap.size ≤ k_)) (fun _ => False) rfl rfl ?aP (fun _ hk => hk.elim) ?aF ?aO ?aB ?aS ?aL ?_; (case aP => exact rfl); (case aB => exact (bl_ HB)); (case aF => exact (ki_ (kz_ HK))); (case aO => exact (rp_ HO_0)); (case aS => exact (below_size (bl_ HB))); (case aL => have := LMc72.out; omega); intro v396 w86 ho hb hg hat; rw [← Ny395.out] at ho; replace BK344 := a_ (blk_grown (g := gb344) (o := .cells #[.int .i64 a2_0, .int .i64 a2_1, .int .i64 a2_2, .slice A2_3 l2_3.length c2_3, .slice A2_4 l2_4.length c2_4] 28 (0, 0)) (bk_ BK344) hg (Kd.R_ne HO_0.out BK344.out (by decide))); replace HB := a_ hb; replace HK := a_ (Kept.of_grown (S := (fun k_ => P0_ k_)) hg (kp_ HK) (fun k_ e_ => (HO_0.out.1 k_ e_))); have HO397 := a_ ho; clear HO_0; clear ho hb hg hat) | (at_builtin; refine Kd.R_append_str (w0 := w0) w0.heap.size rfl (.tmp 57) _ 40 9 5 rfl Try.underlying40 Try.underlying9 info5 v396 y395 a3 (fun k_ => (P0_ k_ ∨ w.heap.size ≤ k_)) rfl rfl ?aF ?aO ?aB ?aS ?aL ?_; (case aB => exact (bl_ HB)); (case aF => exact (ki_ (kz_ HK))); (case aO => exact (rp_ HO397)); (case aS => exact (below_size (bl_ HB))); (case aL => have := LMc73.out; omega); intro v399 w87 ho hb hg hat; rw [← Ny398.out] at ho; replace BK344 := a_ (blk_grown (g := gb344) (o := .cells #[.int .i64 a2_0, .int .i64 a2_1, .int .i64 a2_2, .slice A2_3 l2_3.length c2_3, .slice A2_4 l2_4.length c2_4] 28 (0, 0)) (bk_ BK344) hg (Kd.R_ne HO397.out BK344.out (by decide))); replace HB := a_ hb; replace HK := a_ (Kept.of_grown (S := (fun k_ => P0_ k_)) hg (kp_ HK) (fun k_ e_ => (HO397.out.1 k_ e_))); have HO400 := a_ ho; clear HO397; clear ho hb hg hat) | (at_builtin; refine Kd.R_append_str (w0 := w0) w0.heap.size rfl (.tmp 60) _ 40 9 5 rfl Try.underlying40 Try.underlying9 info5 v399 y398 a4 (fun k_ => (P0_ k_ ∨ w.heap.size ≤ k_)) rfl rfl ?aF ?aO ?aB ?aS ?aL ?_; (case aB => exact (bl_ HB)); (case aF => exact (ki_ (kz_ HK))); (case aO => exact (rp_ HO400)); (case aS => exact (below_size (bl_ HB))); (case aL => have := LMc74.out; omega); intro v402 w88 ho hb hg hat; rw [← Ny401.out] at ho; replace BK344 := a_ (blk_grown (g := gb344) (o := .cells #[.int .i64 a2_0, .int .i64 a2_1, .int .i64 a2_2, .slice A2_3 l2_3.length c2_3, .slice A2_4 l2_4.length c2_4] 28 (0, 0)) (bk_ BK344) hg (Kd.R_ne HO400.out BK344.out (by decide))); replace HB := a_ hb; replace HK := a_ (Kept.of_grown (S := (fun k_ => P0_ k_)) hg (kp_ HK) (fun k_ e_ => (HO400.out.1 k_ e_))); have HO403 := a_ ho; clear HO400; clear ho hb hg hat; obtain ⟨hcz89_0, hcz89_1, hcz89_2, hcz89_3, hcz89_4, hfz89_0, hfz89_1, hfz89_2, hfz89_3, hfz89_4⟩ := b5_ BK344))
       have n0_ := a_ (Kd.R_drew HO403.out)
       have n1_ := a_ (blk_drew BK344.out)
       have n2_ := a_ (Kept.drew HK.out)
       have n3_ := a_ (below_drew1 HB.out)
       clear HO403
       clear BK344
       clear HK
       clear HB
       have HO403 := n0_
       have BK344 := n1_
       have HK := n2_
       have HB := n3_
       clear n0_ n1_ n2_ n3_
       have p404 : 0 ≤ (x46_2 : Int) := of_decide_eq_true as_
       have q404 : x46_2 < (l2_3.length : Int) := of_decide_eq_true as_
       obtain ⟨ad404, e404, hx404_0, hx404_1⟩ := at_T54_w0 HR2_3.out HB.out x46_2 p404 q404
       have hw404_1 := hx404_1
       have hw404_0 := hx404_0
       cases e404
       replace p404 := eq_true p404
       replace q404 := eq_true q404
       have p405 : 0 ≤ (x46_2 : Int) := of_decide_eq_true as_
       have q405 : x46_2 < (l2_3.length : Int) := of_decide_eq_true as_
       obtain ⟨ad405, e405, hx405_0, hx405_1⟩ := at_T54_w0 HR2_3.out HB.out x46_2 p405 q405
       have hw405_1 := hx405_1
       have hw405_0 := hx405_0
       obtain rfl : ad404 = ad405 := (by injection e405)
       replace p405 := eq_true p405
       replace q405 := eq_true q405
       refine start_ (n := 17) (S := fun w' => w'.cell? ⟨gb344, 0, none⟩ = some (.int .i64 a2_0) ∧ w'.cell? ⟨gb344, 1, none⟩ = some (.int .i64 a2_1) ∧ w'.cell? ⟨gb344, 2, none⟩ = some (.int .i64 a2_2) ∧ w'.cell? ⟨gb344, 3, none⟩ = some (.slice (some ad404) l2_3.length c2_3) ∧ w'.cell? ⟨gb344, 4, none⟩ = some (.slice A2_4 l2_4.length c2_4) ∧ w'.cell? (ad404.add ((x46_2).toNat * 2)) = some (.int .i64 ((rd_T54 l2_3 x46_2).f0)) ∧ w'.cell? ⟨(ad404.add ((x46_2).toNat * 2)).block, (ad404.add ((x46_2).toNat * 2)).off + 1, none⟩ = some (.int .i64 ((rd_T54 l2_3 x46_2).f1)) ∧ w'.cell? (ad404.add ((x46_2).toNat * 2)) = some (.int .i64 ((rd_T54 l2_3 x46_2).f0)) ∧ w'.cell? ⟨(ad404.add ((x46_2).toNat * 2)).block, (ad404.add ((x46_2).toNat * 2)).off + 1, none⟩ = some (.int .i64 ((rd_T54 l2_3 x46_2).f1))) (ds := [15]) #[false, false, false, false, false, false, false, false, false, false, false, false, false, false, false, false, false] (by kernel_rfl) rfl rfl ⟨(blk_cell BK344.out 0).trans rfl, (blk_cell BK344.out 1).trans rfl, (blk_cell BK344.out 2).trans rfl, (blk_cell BK344.out 3).trans rfl, (blk_cell BK344.out 4).trans rfl, hx404_0, hx404_1, hx405_0, hx405_1⟩ (fun hHeld => ?_); refine with_tabW sLa.tab18 sLa.bits18 (fun HT_ HW_ => ?_)
       generalize w88.drew = w90 at HO403 BK344 HK HB hx404_0 hx404_1 hx405_0 hx405_1 hHeld ⊢
       refine pure_ (i := 0) (N := some 66) (v := ?_) (a' := ?_) #[true, false, false, false, false, false, false, false, false, false, false, false, false, false, false, false, false] rfl rfl (any_of HT_.out (by kernel_rfl)) (fun _ _ _ h => h) (Or.inl ⟨by rfl, ?_⟩) ?_ ?_
       rotate_left
       ·
        intro w'
        go_simp
        with_reducible rfl
       rotate_left
       ·
        simp only [Act.put, List.setIfInBounds_toArray, List.set_cons_zero, List.set_cons_succ, i64_w, i32_w]
        rfl
       refine pure_ (i := 1) (N := some 67) (v := ?_) (a' := ?_) #[true, true, false, false, false, false, false, false, false, false, false, false, false, false, false, false, false] rfl rfl (any_of HT_.out (by kernel_rfl)) (fun _ _ _ h => h) (Or.inl ⟨by rfl, ?_⟩) ?_ ?_
       rotate_left
       ·
        intro w'
        go_simp
        with_reducible rfl
       rotate_left
       ·
        simp only [Act.put, List.setIfInBounds_toArray, List.set_cons_zero, List.set_cons_succ, i64_w, i32_w]
        rfl
       refine pure_ (i := 2) (N := some 68) (v := ?_) (a' := ?_) #[true, true, true, false, false, false, false, false, false, false, false, false, false, false, false, false, false] rfl rfl (any_of HT_.out (by kernel_rfl)) (fun _ _ _ h => h) (Or.inl ⟨by rfl, ?_⟩) ?_ ?_
       rotate_left
       ·
        intro w'
        go_simp
        with_reducible rfl
       rotate_left
       ·
        simp only [Act.put, List.setIfInBounds_toArray, List.set_cons_zero, List.set_cons_succ, i64_w, i32_w]
        rfl
       refine pure_ (i := 4) (N := some 70) (v := ?_) (a' := ?_) #[true, true, true, false, true, false, false, false, false, false, false, false, false, false, false, false, false] rfl rfl (any_of HT_.out (by kernel_rfl)) (fun _ _ _ h => h) (Or.inl ⟨by rfl, ?_⟩) ?_ ?_
       rotate_left
       ·
        intro w'
        go_simp
        with_reducible rfl
       rotate_left
       ·
        simp only [Act.put, List.setIfInBounds_toArray, List.set_cons_zero, List.set_cons_succ, i64_w, i32_w]
        rfl
       refine pure_ (i := 8) (N := some 74) (v := ?_) (a' := ?_) #[true, true, true, false, true, false, false, false, true, false, false, false, false, false, false, false, false] rfl rfl (any_of HT_.out (by kernel_rfl)) (fun _ _ _ h => h) (Or.inl ⟨by rfl, ?_⟩) ?_ ?_
       rotate_left
       ·
        intro w'
        go_simp
        with_reducible rfl
       rotate_left
       ·
        simp only [Act.put, List.setIfInBounds_toArray, List.set_cons_zero, List.set_cons_succ, i64_w, i32_w]
        rfl
       refine pure_ (i := 10) (N := some 76) (v := ?_) (a' := ?_) #[true, true, true, false, true, false, false, false, true, false, true, false, false, false, false, false, false] rfl rfl (any_of HT_.out (by kernel_rfl)) (fun _ _ _ h => h) (Or.inl ⟨by rfl, ?_⟩) ?_ ?_
       rotate_left
       ·
        intro w'
        go_simp
        with_reducible rfl
       rotate_left
       ·
        simp only [Act.put, List.setIfInBounds_toArray, List.set_cons_zero, List.set_cons_succ, i64_w, i32_w]
        rfl
       refine take_ (i := 3) (N := some 69) (v := ?_) (a' := ?_) #[true, true, true, true, true, false, false, false, true, false, true, false, false, false, false, false, false] rfl rfl (take_ofW HT_.out HW_.out (by kernel_rfl)) (fun _ _ _ h => h) (Or.inl ⟨by rfl, ?_⟩) hHeld ?_ ?_
       rotate_left
       ·
        rintro w' ⟨s0, s1, s2, s3, s4, s5, s6, s7, s8⟩
        go_simp
        with_reducible rfl
       rotate_left
       ·
        simp only [Act.put, List.setIfInBounds_toArray, List.set_cons_zero, List.set_cons_succ, i64_w, i32_w]
        rfl
       refine pure_ (i := 5) (N := some 71) (v := ?_) (a' := ?_) #[true, true, true, true, true, true, false, false, true, false, true, false, false, false, false, false, false] rfl rfl (any_of HT_.out (by kernel_rfl)) (fun _ _ _ h => h) (Or.inl ⟨by rfl, ?_⟩) ?_ ?_
       rotate_left
       ·
        intro w'
        go_simp
        with_reducible rfl
       rotate_left
       ·
        simp only [Act.put, List.setIfInBounds_toArray, List.set_cons_zero, List.set_cons_succ, i64_w, i32_w]
        rfl
       refine pure_ (i := 6) (N := some 72) (v := ?_) (a' := ?_) #[true, true, true, true, true, true, true, false, true, false, true, false, false, false, false, false, false] rfl rfl (any_of HT_.out (by kernel_rfl)) (fun _ _ _ h => h) (Or.inl ⟨by rfl, ?_⟩) ?_ ?_
       rotate_left
       ·
        intro w'
        go_simp
        with_reducible rfl
       rotate_left
       ·
        simp only [Act.put, List.setIfInBounds_toArray, List.set_cons_zero, List.set_cons_succ, i64_w, i32_w]
        rfl
       refine take_ (i := 7) (N := some 73) (v := ?_) (a' := ?_) #[true, true, true, true, true, true, true, true, true, false, true, false, false, false, false, false, false] rfl rfl (take_ofW HT_.out HW_.out (by kernel_rfl)) (fun _ _ _ h => h) (Or.inl ⟨by rfl, ?_⟩) hHeld ?_ ?_
       rotate_left
       ·
        rintro w' ⟨s0, s1, s2, s3, s4, s5, s6, s7, s8⟩
        go_simp
        with_reducible rfl
       rotate_left
       ·
        simp only [Act.put, List.setIfInBounds_toArray, List.set_cons_zero, List.set_cons_succ, i64_w, i32_w]
        rfl
       refine take_ (i := 9) (N := some 75) (v := ?_) (a' := ?_) #[true, true, true, true, true, true, true, true, true, true, true, false, false, false, false, false, false] rfl rfl (take_ofW HT_.out HW_.out (by kernel_rfl)) (fun _ _ _ h => h) (Or.inl ⟨by rfl, ?_⟩) hHeld ?_ ?_
       rotate_left
       ·
        rintro w' ⟨s0, s1, s2, s3, s4, s5, s6, s7, s8⟩
        go_simp
        with_reducible rfl
       rotate_left
       ·
        simp only [Act.put, List.setIfInBounds_toArray, List.set_cons_zero, List.set_cons_succ, i64_w, i32_w]
        rfl
       refine pure_ (i := 11) (N := some 77) (v := ?_) (a' := ?_) #[true, true, true, true, true, true, true, true, true, true, true, true, false, false, false, false, false] rfl rfl (any_of HT_.out (by kernel_rfl)) (fun _ _ _ h => h) (Or.inl ⟨by rfl, ?_⟩) ?_ ?_
       rotate_left
       ·
        intro w'
        go_simp
        with_reducible rfl
       rotate_left
       ·
        simp only [Act.put, List.setIfInBounds_toArray, List.set_cons_zero, List.set_cons_succ, i64_w, i32_w]
        rfl
       refine pure_ (i := 12) (N := some 78) (v := ?_) (a' := ?_) #[true, true, true, true, true, true, true, true, true, true, true, true, true, false, false, false, false] rfl rfl (any_of HT_.out (by kernel_rfl)) (fun _ _ _ h => h) (Or.inl ⟨by rfl, ?_⟩) ?_ ?_
       rotate_left
       ·
        intro w'
        go_simp
        with_reducible rfl
       rotate_left
       ·
        simp only [Act.put, List.setIfInBounds_toArray, List.set_cons_zero, List.set_cons_succ, i64_w, i32_w]
        rfl
       refine take_ (i := 13) (N := some 79) (v := ?_) (a' := ?_) #[true, true, true, true, true, true, true, true, true, true, true, true, true, true, false, false, false] rfl rfl (take_ofW HT_.out HW_.out (by kernel_rfl)) (fun _ _ _ h => h) (Or.inl ⟨by rfl, ?_⟩) hHeld ?_ ?_
       rotate_left
       ·
        rintro w' ⟨s0, s1, s2, s3, s4, s5, s6, s7, s8⟩
        go_simp
        with_reducible rfl
       rotate_left
       ·
        simp only [Act.put, List.setIfInBounds_toArray, List.set_cons_zero, List.set_cons_succ, i64_w, i32_w]
        rfl
       refine pure_ (i := 14) (N := some 80) (v := ?_) (a' := ?_) #[true, true, true, true, true, true, true, true, true, true, true, true, true, true, true, false, false] rfl rfl (any_of HT_.out (by kernel_rfl)) (fun _ _ _ h => h) (Or.inl ⟨by rfl, ?_⟩) ?_ ?_
       rotate_left
       ·
        intro w'
        go_simp
        with_reducible rfl
       rotate_left
       ·
        simp only [Act.put, List.setIfInBounds_toArray, List.set_cons_zero, List.set_cons_succ, i64_w, i32_w]
        rfl
       refine last_ (i := 15) (N := some 81) #[true, true, true, true, true, true, true, true, true, true, true, true, true, true, true, true, false] rfl rfl (one_of HT_.out (by kernel_rfl)) (by decide) (fun K hK => ?_)
       refine Kd.R_append_str_step (w0 := w0) w0.heap.size (by rfl) (.tmp 66) _ 40 9 5 rfl Try.underlying40 Try.underlying9 info5 v402 y401 (a1.extract (((rd_T54 l2_3 x46_2).f0) : Int).toNat (((rd_T54 l2_3 x46_2).f1) : Int).toNat) (fun k_ => (P0_ k_ ∨ w.heap.size ≤ k_)) rfl rfl ?aF ?aO ?aB ?aS ?aL ?_
       (case aB => exact (bl_ HB))
       (case aF => exact (ki_ (kz_ HK)))
       (case aO => exact (rp_ HO403))
       (case aS => exact (below_size (bl_ HB)))
       (case aL => have := LMc81.out; omega)
       intro v407 w91 ho hb hg hat
       rw [← Ny406.out] at ho
       have n0_ := a_ (blk_grown (g := gb344) (o := .cells #[.int .i64 a2_0, .int .i64 a2_1, .int .i64 a2_2, .slice (some ad404) l2_3.length c2_3, .slice A2_4 l2_4.length c2_4] 28 (0, 0)) (bk_ BK344) hg (Kd.R_ne HO403.out BK344.out (by decide)))
       have n1_ := a_ (hb)
       have n2_ := a_ (Kept.of_grown (S := (fun k_ => P0_ k_)) hg (kp_ HK) (fun k_ e_ => (HO403.out.1 k_ e_)))
       have n3_ := a_ (ho)
       clear BK344
       clear HB
       clear HK
       clear HO403
       have BK344 := n0_
       have HB := n1_
       have HK := n2_
       have HO408 := n3_
       clear n0_ n1_ n2_ n3_
       clear ho hb hg hat
       refine hK.out _ _ ?_
       clear hK K
       refine norm_ (a' := ?_) ?_ ?_
       rotate_left
       ·
        show Act.put _ (some 81) _ = _
        simp only [Act.put, List.setIfInBounds_toArray, List.set_cons_zero, List.set_cons_succ, i64_w, i32_w]
        rfl
       refine pure_ (i := 16) (N := some 0) (v := ?_) (a' := ?_) #[true, true, true, true, true, true, true, true, true, true, true, true, true, true, true, true, true] rfl rfl (any_of HT_.out (by kernel_rfl)) (fun _ _ _ h => h) (Or.inl ⟨by rfl, ?_⟩) ?_ ?_
       rotate_left
       ·
        intro w'
        go_simp
        with_reducible rfl
       rotate_left
       ·
        simp only [Act.put, List.setIfInBounds_toArray, List.set_cons_zero, List.set_cons_succ, i64_w, i32_w]
        rfl
       refine done_ (done_of HT_.out (by kernel_rfl)) ?_
       try go_wp2_with (first | ((with_reducible refine gate_dst (N := 83) rfl ?_); refine Kd.R_lit (Kd.int .u8) _ 5 ?hg (N := 83) ?hd (xs := ([58, 32] : List Int)) (inner := [.int .u8 58, .int .u8 32]) (ok := fun _ => True) (okp := fun _ => True) ?hr ?hp (fun _ hk => hk) trivial (Below.refl _ _) (Nat.le_refl _) (by simp) ?_; (case hd => rfl); (case hg => rfl); (case hr => first | (go_simp; done) | (go_simp; rfl)); (case hp => exact (Reps.one (show Kd.M (Kd.int .u8) _ _ _ 58 [.int .u8 58] from rfl) (Reps.one (show Kd.M (Kd.int .u8) _ _ _ 32 [.int .u8 32] from rfl) (Reps.none _ _)))); intro v410 w92 ho93 hb hg_ hnew_; clear hg_ hnew_; (first | rw [← Ny409.out] at ho93 | (simp only [Int.reduceToNat] at ho93; rw [← Ny409.out] at ho93)); have HO411 := a_ (Kd.R_lower (Kd.R_new' (Kd.R_newM (M := fun k_ => (P0_ k_ ∨ w.heap.size ≤ k_)) ho93 (kz_ HK) (fun k_ h_ => .inr h_)) (Kd.R_lt (rp_ HO408))) (below_size (bl_ HB))); replace HO408 := a_ (Kd.R_elder' (rp_ HO408) (Kd.R_base ho93) hb); replace BK344 := a_ (blk_below (g := gb344) (o := .cells #[.int .i64 a2_0, .int .i64 a2_1, .int .i64 a2_2, .slice (some ad404) l2_3.length c2_3, .slice A2_4 l2_4.length c2_4] 28 (0, 0)) (bk_ BK344) hb); replace HK := a_ (Kept.below (S := (fun k_ => P0_ k_)) (kp_ HK) hb); replace HB := a_ (below_step (bl_ HB) hb); clear hb ho93; obtain ⟨Ao95, co95, eo95⟩ := Kd.R_slice HO411.out; subst eo95) | ((with_reducible refine gate_builtin (b := .append) (xs := #[.tmp 82, .tmp 83]) rfl ?_); at_builtin; refine Kd.R_append_rows (Kd.int .u8) (w0 := w0) w0.heap.size rfl (.tmp 82) (.tmp 83) 40 5 (.int .u8 0) 1 rfl Try.underlying40 info5 rfl (by decide) (by omega) v407 y406 y409 _ _ _ (fun k_ => (P0_ k_ ∨ w.heap.size ≤ k_) ∧ some k_ ≠ (.slice Ao95 y409.length co95 : Value).ownBlock) (fun _ => False) rfl rfl ?aO ?aR (fun _ _ h => h) (fun _ h => h.elim) ?aF ?aB ?aS ?aL ?_; (case aR => repeat (first | exact (Kd.R_reads' HO411.out).2.2 | (with_reducible refine Kd.C_alloc ?_ _) | (with_reducible refine Kd.C_drewN ?_ _) | (with_reducible refine Kd.C_drew ?_))); (case aB => exact (bl_ HB)); (case aF => exact (fun k_ hk => ⟨(.inr (Nat.le_trans (kz_ HK) hk)), Kd.fresh' (Kd.R_lt (rp_ HO411)) k_ hk⟩)); (case aO => exact (rp_ HO408)); (case aS => exact (below_size (bl_ HB))); (case aL => have := LMc82.out; omega); intro v413 w94 ho hb hg hat; rw [← Ny412.out] at ho; replace BK344 := a_ (blk_grown (g := gb344) (o := .cells #[.int .i64 a2_0, .int .i64 a2_1, .int .i64 a2_2, .slice (some ad404) l2_3.length c2_3, .slice A2_4 l2_4.length c2_4] 28 (0, 0)) (bk_ BK344) hg (Kd.R_ne HO408.out BK344.out (by decide))); replace HO411 := a_ (Kd.R_after (ok := (fun k_ => (P0_ k_ ∨ w.heap.size ≤ k_))) (by (with_reducible repeat (first | apply Kd.R_alloc | apply Kd.R_drewN | apply Kd.R_drew)); exact Kd.R_mono HO411.out (fun _ hk => ⟨hk.1.1, hk.2⟩)) hg hat); replace HB := a_ hb; replace HK := a_ (Kept.of_grown (S := (fun k_ => P0_ k_)) hg (kp_ HK) (fun k_ e_ => (HO408.out.1 k_ e_).1)); have HO414 := a_ ho; clear HO408; clear ho hb hg hat; obtain ⟨hcz96_0, hcz96_1, hcz96_2, hcz96_3, hcz96_4, hfz96_0, hfz96_1, hfz96_2, hfz96_3, hfz96_4⟩ := b5_ BK344; have p415 : 0 ≤ (x46_2 : Int) := of_decide_eq_true as_; have q415 : x46_2 < (l2_4.length : Int) := of_decide_eq_true as_; obtain ⟨ad415, A415_3, c415_3, A415_4, c415_4, e415, hx415_0, hx415_1, hx415_2, hx415_3, hx415_4, hl415_3, hi415_3, hl415_4, hi415_4⟩ := at_T28_w0 HR2_4.out HB.out x46_2 p415 q415; cases e415; have HR415_3 := a_ hi415_3; have HC415_3 := a_ hl415_3; clear hi415_3 hl415_3; have HR415_4 := a_ hi415_4; have HC415_4 := a_ hl415_4; clear hi415_4 hl415_4; replace p415 := eq_true p415; replace q415 := eq_true q415; obtain ⟨Ao97, co97, eo97⟩ := Kd.R_slice HO414.out; subst eo97) | ((with_reducible refine gate_callee (f := 16) rfl ?_); refine goesL_ (some 97) rfl rfl Try.func16 (by kernel_rfl) rfl #[.slice Ao97 y412.length co97, .string a1, .agg #[.int .i64 ((rd_T28 l2_4 x46_2).f0), .int .i64 ((rd_T28 l2_4 x46_2).f1), .int .i64 ((rd_T28 l2_4 x46_2).f2), .slice A415_3 ((rd_T28 l2_4 x46_2).f3).length c415_3, .slice A415_4 ((rd_T28 l2_4 x46_2).f4).length c415_4], .string (a3 ++ a4), .string a4, .bool false] rfl ar_ ?_; (with_reducible refine (ih k2 (by have := HJ22.out; have := HK2.out; omega) (fun k_ => some k_ = (.slice Ao97 y412.length co97 : Value).ownBlock) (.slice Ao97 y412.length co97) y412 a1 ((rd_T28 l2_4 x46_2).f0) ((rd_T28 l2_4 x46_2).f1) ((rd_T28 l2_4 x46_2).f2) _ _ ((rd_T28 l2_4 x46_2).f3) _ _ ((rd_T28 l2_4 x46_2).f4) (a3 ++ a4) a4 false t416 w0 _ ?side1 ?side2 ?side3 ?side4 ?side5 ?side6 A85.out).mono ?_); (case side1 => exact bl_ HB); (case side2 => exact Kd.R_tight rfl HO414.out); (case side3 => exact HR415_3.out); (case side4 => exact HC415_3.out); (case side5 => exact HR415_4.out); (case side6 => exact HC415_4.out); rintro e w98 ⟨v417, rfl, ho0, hb, hkp⟩; refine ⟨_, rfl, ?_⟩; replace BK344 := a_ (blk_kept (bk_ BK344) hkp (fun hs_ => (fun e_ => (Kd.R_ne HO414.out BK344.out (by decide)) e_) hs_)); have HO418 := a_ (Kd.R_mono (ok' := fun k_ => (P0_ k_ ∨ w.heap.size ≤ k_) ∧ some k_ ≠ (.slice Ao95 y409.length co95 : Value).ownBlock) ho0 (fun k_ hk_ => ⟨Or.elim hk_ (fun hs_ => (HO414.out.1 k_ (hs_).symm).1) (fun hn_ => (.inr (Nat.le_trans (kz_ HK) hn_))), Or.elim hk_ (fun hs_ => fun e_ => (((HO411.out).1 k_ e_.symm).2) hs_) (fun hn_ => (Kd.fresh' (Kd.R_lt (rp_ HO411)) k_ hn_))⟩)); replace HO411 := a_ (Kd.R_mono (ok' := fun k_ => (P0_ k_ ∨ w.heap.size ≤ k_) ∧ some k_ ≠ (v417 : Value).ownBlock) (Kd.R_keptB (HO411.out) hkp (fun k_ hk_ hs_ => (hk_.2) hs_)) (fun k_ hk_ => ⟨hk_.1.1, fun e_ => Or.elim (ho0.1 k_ e_.symm) (fun hs_ => hk_.2.1 hs_) (fun hn_ => Nat.not_le.2 hk_.2.2 hn_)⟩)); replace HK := a_ (Kept.then_ (S := (fun k_ => P0_ k_)) (kp_ HK) hkp (fun k_ hs_ => (fun e_ => (HO414.out.1 k_ e_.symm).1) hs_)); replace HB := a_ hb; clear HO414; (try clear hb); (try clear hkp); (try clear ho0)))
       go_roundg k2
       case measure => have := HJ22.out; have := HK2.out; omega
       case rel => exact ⟨(t416), (wrap64 (x46_2 + 1)), rl_, H', ⟨by have := HJ22.out; have := HK2.out; omega⟩, ⟨by (with_reducible repeat (first | apply Kd.R_alloc | apply Kd.R_drewN | apply Kd.R_drew)); exact Kd.R_mono HO418.out (fun _ hk => hk.1)⟩, ⟨bk_ BK344⟩, ⟨kp_ HK⟩, ⟨bl_ HB⟩⟩
      rw [if_pos c31] at H
      have c31b0 : decide (0 < x46_2) = true := decide_eq_true c31
      clear c31
      by_cases c32 : x0_2.length < 140737488355328
      rotate_left
      ·
       rw [if_neg c32] at H
       exact absurd H (by simp)
      rw [if_pos c32] at H
      have LMc32 := a_ c32
      clear c32
      obtain ⟨y364, hy364⟩ : ∃ y_ : List Int, y_ = (x0_2 ++ [44]) := ⟨_, rfl⟩
      replace H := lt_ H hy364
      have Ny364 := a_ hy364
      clear hy364
      by_cases c33 : y364.length < 140737488355328
      rotate_left
      ·
       rw [if_neg c33] at H
       exact absurd H (by simp)
      rw [if_pos c33] at H
      have LMc33 := a_ c33
      clear c33
      obtain ⟨y367, hy367⟩ : ∃ y_ : List Int, y_ = (y364 ++ [10]) := ⟨_, rfl⟩
      replace H := lt_ H hy367
      have Ny367 := a_ hy367
      clear hy367
      by_cases c34 : y367.length + a3.size < 140737488355328
      rotate_left
      ·
       rw [if_neg c34] at H
       exact absurd H (by simp)
      rw [if_pos c34] at H
      have LMc34 := a_ c34
      clear c34
      obtain ⟨y370, hy370⟩ : ∃ y_ : List Int, y_ = (y367 ++ bytesOf a3) := ⟨_, rfl⟩
      replace H := lt_ H hy370
      have Ny370 := a_ hy370
      clear hy370
      by_cases c35 : y370.length + a4.size < 140737488355328
      rotate_left
      ·
       rw [if_neg c35] at H
       exact absurd H (by simp)
      rw [if_pos c35] at H
      have LMc35 := a_ c35
      clear c35
      obtain ⟨y373, hy373⟩ : ∃ y_ : List Int, y_ = (y370 ++ bytesOf a4) := ⟨_, rfl⟩
      replace H := lt_ H hy373
      have Ny373 := a_ hy373
      clear hy373
      by_cases c36 : a2_0 = 6
      rotate_left
      ·
       rw [if_neg c36] at H
       have c36b0 : (a2_0 == 6) = false := beq_eq_false_iff_ne.mpr c36
       have c36b1 : (a2_0 != 6) = true := bne_iff_ne.mpr c36
       by_cases c61 : 0 ≤ x46_2
       rotate_left
       ·
        rw [if_neg c61] at H
        exact absurd H (by simp)
       rw [if_pos c61] at H
       have c61b0 : decide (0 ≤ x46_2) = true := decide_eq_true c61
       clear c61
       by_cases c62 : x46_2 < (l2_4.length : Int)
       rotate_left
       ·
        rw [if_neg c62] at H
        exact absurd H (by simp)
       rw [if_pos c62] at H
       have c62b0 : decide (x46_2 < (l2_4.length : Int)) = true := decide_eq_true c62
       clear c62
       by_cases c63 : a3.size + a4.size ≤ 9223372036854775807
       rotate_left
       ·
        rw [if_neg c63] at H
        exact absurd H (by simp)
       rw [if_pos c63] at H
       have c63b0 := eq_true c63
       have c63b1 : decide (a3.size + a4.size ≤ 9223372036854775807) = true := decide_eq_true c63
       try have c63b2 : (9223372036854775807 < a3.size + a4.size) = False := eq_false (Nat.not_lt.2 c63)
       replace H := Option.bind_eq_some_iff.mp H
       obtain ⟨t392, A640, H⟩ := H
       replace H : (sLa.l0 k2 t392 a1 a3 a4 false x14_22 (l2_4.length : Int) (wrap64 (x46_2 + 1)) a2_0 a2_1 a2_2 l2_3 l2_4) = some r := H
       have A64 := a_ A640
       clear A640
       have H' := a_ H
       clear H
       go_wp2_with (first | ((with_reducible refine gate_builtin (b := .append) (xs := #[.tmp 51, .tmp 52]) rfl ?_); at_builtin; refine Kd.R_append (Kd.int .u8) (w0 := w0) w0.heap.size rfl (.tmp 51) (.tmp 52) 40 5 (.int .u8 0) 1 rfl Try.underlying40 info5 rfl (by decide) (by omega) u0 x0_2 44 [.int .u8 44] (fun k_ => (P0_ k_ ∨ w.heap.size ≤ k_)) (fun _ => False) rfl rfl ?aP (fun _ hk => hk.elim) ?aF ?aO ?aB ?aS ?aL ?_; (case aP => exact rfl); (case aB => exact (bl_ HB)); (case aF => exact (ki_ (kz_ HK))); (case aO => exact (rp_ HO_0)); (case aS => exact (below_size (bl_ HB))); (case aL => have := LMc32.out; omega); intro v365 w65 ho hb hg hat; rw [← Ny364.out] at ho; replace BK344 := a_ (blk_grown (g := gb344) (o := .cells #[.int .i64 a2_0, .int .i64 a2_1, .int .i64 a2_2, .slice A2_3 l2_3.length c2_3, .slice A2_4 l2_4.length c2_4] 28 (0, 0)) (bk_ BK344) hg (Kd.R_ne HO_0.out BK344.out (by decide))); replace HB := a_ hb; replace HK := a_ (Kept.of_grown (S := (fun k_ => P0_ k_)) hg (kp_ HK) (fun k_ e_ => (HO_0.out.1 k_ e_))); have HO366 := a_ ho; clear HO_0; clear ho hb hg hat) | ((with_reducible refine gate_builtin (b := .append) (xs := #[.tmp 54, .tmp 55]) rfl ?_); at_builtin; refine Kd.R_append (Kd.int .u8) (w0 := w0) w0.heap.size rfl (.tmp 54) (.tmp 55) 40 5 (.int .u8 0) 1 rfl Try.underlying40 info5 rfl (by decide) (by omega) v365 y364 10 [.int .u8 10] (fun k_ => (P0_ k_ ∨ w.heap.size ≤ k_)) (fun _ => False) rfl rfl ?aP (fun _ hk => hk.elim) ?aF ?aO ?aB ?aS ?aL ?_; (case aP => exact rfl); (case aB => exact (bl_ HB)); (case aF => exact (ki_ (kz_ HK))); (case aO => exact (rp_ HO366)); (case aS => exact (below_size (bl_ HB))); (case aL => have := LMc33.out; omega); intro v368 w66 ho hb hg hat; rw [← Ny367.out] at ho; replace BK344 := a_ (blk_grown (g := gb344) (o := .cells #[.int .i64 a2_0, .int .i64 a2_1, .int .i64 a2_2, .slice A2_3 l2_3.length c2_3, .slice A2_4 l2_4.length c2_4] 28 (0, 0)) (bk_ BK344) hg (Kd.R_ne HO366.out BK344.out (by decide))); replace HB := a_ hb; replace HK := a_ (Kept.of_grown (S := (fun k_ => P0_ k_)) hg (kp_ HK) (fun k_ e_ => (HO366.out.1 k_ e_))); have HO369 := a_ ho; clear HO366; clear ho hb hg hat) | (at_builtin; refine Kd.R_append_str (w0 := w0) w0.heap.size rfl (.tmp 57) _ 40 9 5 rfl Try.underlying40 Try.underlying9 info5 v368 y367 a3 (fun k_ => (P0_ k_ ∨ w.heap.size ≤ k_)) rfl rfl ?aF ?aO ?aB ?aS ?aL ?_; (case aB => exact (bl_ HB)); (case aF => exact (ki_ (kz_ HK))); (case aO => exact (rp_ HO369)); (case aS => exact (below_size (bl_ HB))); (case aL => have := LMc34.out; omega); intro v371 w67 ho hb hg hat; rw [← Ny370.out] at ho; replace BK344 := a_ (blk_grown (g := gb344) (o := .cells #[.int .i64 a2_0, .int .i64 a2_1, .int .i64 a2_2, .slice A2_3 l2_3.length c2_3, .slice A2_4 l2_4.length c2_4] 28 (0, 0)) (bk_ BK344) hg (Kd.R_ne HO369.out BK344.out (by decide))); replace HB := a_ hb; replace HK := a_ (Kept.of_grown (S := (fun k_ => P0_ k_)) hg (kp_ HK) (fun k_ e_ => (HO369.out.1 k_ e_))); have HO372 := a_ ho; clear HO369; clear ho hb hg hat) | (at_builtin; refine Kd.R_append_str (w0 := w0) w0.heap.size rfl (.tmp 60) _ 40 9 5 rfl Try.underlying40 Try.underlying9 info5 v371 y370 a4 (fun k_ => (P0_ k_ ∨ w.heap.size ≤ k_)) rfl rfl ?aF ?aO ?aB ?aS ?aL ?_; (case aB => exact (bl_ HB)); (case aF => exact (ki_ (kz_ HK))); (case aO => exact (rp_ HO372)); (case aS => exact (below_size (bl_ HB))); (case aL => have := LMc35.out; omega); intro v374 w68 ho hb hg hat; rw [← Ny373.out] at ho; replace BK344 := a_ (blk_grown (g := gb344) (o := .cells #[.int .i64 a2_0, .int .i64 a2_1, .int .i64 a2_2, .slice A2_3 l2_3.length c2_3, .slice A2_4 l2_4.length c2_4] 28 (0, 0)) (bk_ BK344) hg (Kd.R_ne HO372.out BK344.out (by decide))); replace HB := a_ hb; replace HK := a_ (Kept.of_grown (S := (fun k_ => P0_ k_)) hg (kp_ HK) (fun k_ e_ => (HO372.out.1 k_ e_))); have HO375 := a_ ho; clear HO372; clear ho hb hg hat; obtain ⟨hcz69_0, hcz69_1, hcz69_2, hcz69_3, hcz69_4, hfz69_0, hfz69_1, hfz69_2, hfz69_3, hfz69_4⟩ := b5_ BK344; have p391 : 0 ≤ (x46_2 : Int) := of_decide_eq_true as_; have q391 : x46_2 < (l2_4.length : Int) := of_decide_eq_true as_; obtain ⟨ad391, A391_3, c391_3, A391_4, c391_4, e391, hx391_0, hx391_1, hx391_2, hx391_3, hx391_4, hl391_3, hi391_3, hl391_4, hi391_4⟩ := at_T28_w0 HR2_4.out HB.out x46_2 p391 q391; cases e391; have HR391_3 := a_ hi391_3; have HC391_3 := a_ hl391_3; clear hi391_3 hl391_3; have HR391_4 := a_ hi391_4; have HC391_4 := a_ hl391_4; clear hi391_4 hl391_4; replace p391 := eq_true p391; replace q391 := eq_true q391; obtain ⟨Ao70, co70, eo70⟩ := Kd.R_slice HO375.out; subst eo70) | ((with_reducible refine gate_callee (f := 16) rfl ?_); refine goesL_ (some 97) rfl rfl Try.func16 (by kernel_rfl) rfl #[.slice Ao70 y373.length co70, .string a1, .agg #[.int .i64 ((rd_T28 l2_4 x46_2).f0), .int .i64 ((rd_T28 l2_4 x46_2).f1), .int .i64 ((rd_T28 l2_4 x46_2).f2), .slice A391_3 ((rd_T28 l2_4 x46_2).f3).length c391_3, .slice A391_4 ((rd_T28 l2_4 x46_2).f4).length c391_4], .string (a3 ++ a4), .string a4, .bool false] rfl ar_ ?_; (with_reducible refine (ih k2 (by have := HJ22.out; have := HK2.out; omega) (fun k_ => some k_ = (.slice Ao70 y373.length co70 : Value).ownBlock) (.slice Ao70 y373.length co70) y373 a1 ((rd_T28 l2_4 x46_2).f0) ((rd_T28 l2_4 x46_2).f1) ((rd_T28 l2_4 x46_2).f2) _ _ ((rd_T28 l2_4 x46_2).f3) _ _ ((rd_T28 l2_4 x46_2).f4) (a3 ++ a4) a4 false t392 w0 _ ?side1 ?side2 ?side3 ?side4 ?side5 ?side6 A64.out).mono ?_); (case side1 => exact bl_ HB); (case side2 => exact Kd.R_tight rfl HO375.out); (case side3 => exact HR391_3.out); (case side4 => exact HC391_3.out); (case side5 => exact HR391_4.out); (case side6 => exact HC391_4.out); rintro e w71 ⟨v393, rfl, ho0, hb, hkp⟩; refine ⟨_, rfl, ?_⟩; replace BK344 := a_ (blk_kept (bk_ BK344) hkp (fun hs_ => (fun e_ => (Kd.R_ne HO375.out BK344.out (by decide)) e_) hs_)); have HO394 := a_ (Kd.R_mono (ok' := fun k_ => (P0_ k_ ∨ w.heap.size ≤ k_)) ho0 (fun k_ hk_ => Or.elim hk_ (fun hs_ => (HO375.out.1 k_ (hs_).symm)) (fun hn_ => (.inr (Nat.le_trans (kz_ HK) hn_))))); replace HK := a_ (Kept.then_ (S := (fun k_ => P0_ k_)) (kp_ HK) hkp (fun k_ hs_ => (fun e_ => (HO375.out.1 k_ e_.symm)) hs_)); replace HB := a_ hb; clear HO375; (try clear hb); (try clear hkp); (try clear ho0)))
       go_roundg k2
       case measure => have := HJ22.out; have := HK2.out; omega
       case rel => exact ⟨(t392), (wrap64 (x46_2 + 1)), rl_, H', ⟨by have := HJ22.out; have := HK2.out; omega⟩, ⟨rp_ HO394⟩, ⟨bk_ BK344⟩, ⟨kp_ HK⟩, ⟨bl_ HB⟩⟩
      rw [if_pos c36] at H
      have c36b0 : (a2_0 == 6) = true := beq_iff_eq.mpr c36
      have c36b1 : (a2_0 != 6) = false := bne_eq_false_iff_eq.mpr c36
      clear c36
      by_cases c37 : 0 ≤ x46_2
      rotate_left
      ·
       rw [if_neg c37] at H
       exact absurd H (by simp)
      rw [if_pos c37] at H
      have c37b0 : decide (0 ≤ x46_2) = true := decide_eq_true c37
      clear c37
      by_cases c38 : x46_2 < (l2_3.length : Int)
      rotate_left
      ·
       rw [if_neg c38] at H
       exact absurd H (by simp)
      rw [if_pos c38] at H
      have c38b0 : decide (x46_2 < (l2_3.length : Int)) = true := decide_eq_true c38
      clear c38
      by_cases c39 : 0 ≤ ((rd_T54 l2_3 x46_2).f0)
      rotate_left
      ·
       rw [if_neg c39] at H
       exact absurd H (by simp)
      rw [if_pos c39] at H
      have c39b0 := eq_true c39
      have c39b1 : decide (0 ≤ ((rd_T54 l2_3 x46_2).f0)) = true := decide_eq_true c39
      clear c39
      by_cases c40 : ((rd_T54 l2_3 x46_2).f0) ≤ ((rd_T54 l2_3 x46_2).f1)
      rotate_left
      ·
       rw [if_neg c40] at H
       exact absurd H (by simp)
      rw [if_pos c40] at H
      have c40b0 := eq_true c40
      have c40b1 : decide (((rd_T54 l2_3 x46_2).f0) ≤ ((rd_T54 l2_3 x46_2).f1)) = true := decide_eq_true c40
      clear c40
      by_cases c41 : ((rd_T54 l2_3 x46_2).f1) ≤ (a1.size : Int)
      rotate_left
      ·
       rw [if_neg c41] at H
       exact absurd H (by simp)
      rw [if_pos c41] at H
      have c41b0 := eq_true c41
      have c41b1 : decide (((rd_T54 l2_3 x46_2).f1) ≤ (a1.size : Int)) = true := decide_eq_true c41
      clear c41
      by_cases c42 : y373.length + (a1.extract (((rd_T54 l2_3 x46_2).f0) : Int).toNat (((rd_T54 l2_3 x46_2).f1) : Int).toNat).size < 140737488355328
      rotate_left
      ·
       rw [if_neg c42] at H
       exact absurd H (by simp)
      rw [if_pos c42] at H
      have LMc42 := a_ c42
      clear c42
      obtain ⟨y378, hy378⟩ : ∃ y_ : List Int, y_ = (y373 ++ bytesOf (a1.extract (((rd_T54 l2_3 x46_2).f0) : Int).toNat (((rd_T54 l2_3 x46_2).f1) : Int).toNat)) := ⟨_, rfl⟩
      replace H := lt_ H hy378
      have Ny378 := a_ hy378
      clear hy378
      obtain ⟨y381, hy381⟩ : ∃ y_ : List Int, y_ = (([58, 32] : List Int)) := ⟨_, rfl⟩
      replace H := lt_ H hy381
      have Ny381 := a_ hy381
      clear hy381
      by_cases c43 : y378.length + y381.length < 140737488355328
      rotate_left
      ·
       rw [if_neg c43] at H
       exact absurd H (by simp)
      rw [if_pos c43] at H
      have LMc43 := a_ c43
      clear c43
      obtain ⟨y384, hy384⟩ : ∃ y_ : List Int, y_ = (y378 ++ y381) := ⟨_, rfl⟩
      replace H : (if x46_2 < (l2_4.length : Int) then (if a3.size + a4.size ≤ 9223372036854775807 then ((sLa.f k2 y384 a1 ((rd_T28 l2_4 x46_2).f0) ((rd_T28 l2_4 x46_2).f1) ((rd_T28 l2_4 x46_2).f2) ((rd_T28 l2_4 x46_2).f3) ((rd_T28 l2_4 x46_2).f4) (a3 ++ a4) a4 false).bind fun t388 => (sLa.l0 k2 t388 a1 a3 a4 false x14_22 (l2_4.length : Int) (wrap64 (x46_2 + 1)) a2_0 a2_1 a2_2 l2_3 l2_4)) else (none)) else (none)) = some r := by first | exact lt_ H hy384 | (rw [hy384]; exact H) | exact H
      have Ny384 := a_ hy384
      clear hy384
      by_cases c44 : x46_2 < (l2_4.length : Int)
      rotate_left
      ·
       rw [if_neg c44] at H
       exact absurd H (by simp)
      rw [if_pos c44] at H
      have c44b0 : decide (x46_2 < (l2_4.length : Int)) = true := decide_eq_true c44
      clear c44
      by_cases c45 : a3.size + a4.size ≤ 9223372036854775807
      rotate_left
      ·
       rw [if_neg c45] at H
       exact absurd H (by simp)
      rw [if_pos c45] at H
      have c45b0 := eq_true c45
      have c45b1 : decide (a3.size + a4.size ≤ 9223372036854775807) = true := decide_eq_true c45
      try have c45b2 : (9223372036854775807 < a3.size + a4.size) = False := eq_false (Nat.not_lt.2 c45)
      replace H := Option.bind_eq_some_iff.mp H
      obtain ⟨t388, A460, H⟩ := H
      replace H : (sLa.l0 k2 t388 a1 a3 a4 false x14_22 (l2_4.length : Int) (wrap64 (x46_2 + 1)) a2_0 a2_1 a2_2 l2_3 l2_4) = some r := H
      have A46 := a_ A460
      clear A460
      have H' := a_ H
      clear H
      try go_wp2_with (first | ((with_reducible refine gate_builtin (b := .append) (xs := #[.tmp 51, .tmp 52]) rfl ?_); at_builtin; refine Kd.R_append (Kd.int .u8) (w0 := w0) w0.heap.size rfl (.tmp 51) (.tmp 52) 40 5 (.int .u8 0) 1 rfl Try.underlying40 info5 rfl (by decide) (by omega) u0 x0_2 44 [.int .u8 44] (fun k_ => (P0_ k_ ∨ w.heap.size ≤ k_)) (fun _ => False) rfl rfl ?aP (fun _ hk => hk.elim) ?aF ?aO ?aB ?aS ?aL ?_; (case aP => exact rfl); (case aB => exact (bl_ HB)); (case aF => exact (ki_ (kz_ HK))); (case aO => exact (rp_ HO_0)); (case aS => exact (below_size (bl_ HB))); (case aL => have := LMc32.out; omega); intro v365 w47 ho hb hg hat; rw [← Ny364.out] at ho; replace BK344 := a_ (blk_grown (g := gb344) (o := .cells #[.int .i64 a2_0, .int .i64 a2_1, .int .i64 a2_2, .slice A2_3 l2_3.length c2_3, .slice A2_4 l2_4.length c2_4] 28 (0, 0)) (bk_ BK344) hg (Kd.R_ne HO_0.out BK344.out (by decide))); replace HB := a_ hb; replace HK := a_ (Kept.of_grown (S := (fun k_ => P0_ k_)) hg (kp_ HK) (fun k_ e_ => (HO_0.out.1 k_ e_))); have HO366 := a_ ho; clear HO_0; clear ho hb hg hat) | ((with_reducible refine gate_builtin (b := .append) (xs := #[.tmp 54, .tmp 55]) rfl ?_); at_builtin; refine Kd.R_append (Kd.int .u8) (w0 := w0) w0.heap.size rfl (.tmp 54) (.tmp 55) 40 5 (.int .u8 0) 1 rfl Try.underlying40 info5 rfl (by decide) (by omega) v365 y364 10 [.int .u8 10] (fun k_ => (P0_ k_ ∨ w.heap.size ≤ k_)) (fun _ => False) rfl rfl ?aP (fun _ hk => hk.elim) ?aF ?aO ?aB ?aS ?aL ?_; (case aP => exact rfl); (case aB => exact (bl_ HB)); (case aF => exact (ki_ (kz_ HK))); (case aO => exact (rp_ HO366)); (case aS => exact (below_size (bl_ HB))); (case aL => have := LMc33.out; omega); intro v368 w48 ho hb hg hat; rw [← Ny367.out] at ho; replace BK344 := a_ (blk_grown (g := gb344) (o := .cells #[.int .i64 a2_0, .int .i64 a2_1, .int .i64 a2_2, .slice A2_3 l2_3.length c2_3, .slice A2_4 l2_4.length c2_4] 28 (0, 0)) (bk_ BK344) hg (Kd.R_ne HO366.out BK344.out (by decide))); replace HB := a_ hb; replace HK := a_ (Kept.of_grown (S := (fun k_ => P0_ k_)) hg (kp_ HK) (fun k_ e_ => (HO366.out.1 k_ e_))); have HO369 := a_ ho; clear HO366; clear ho hb hg hat) | (at_builtin; refine Kd.R_append_str (w0 := w0) w0.heap.size rfl (.tmp 57) _ 40 9 5 rfl Try.underlying40 Try.underlying9 info5 v368 y367 a3 (fun k_ => (P0_ k_ ∨ w.heap.size ≤ k_)) rfl rfl ?aF ?aO ?aB ?aS ?aL ?_; (case aB => exact (bl_ HB)); (case aF => exact (ki_ (kz_ HK))); (case aO => exact (rp_ HO369)); (case aS => exact (below_size (bl_ HB))); (case aL => have := LMc34.out; omega); intro v371 w49 ho hb hg hat; rw [← Ny370.out] at ho; replace BK344 := a_ (blk_grown (g := gb344) (o := .cells #[.int .i64 a2_0, .int .i64 a2_1, .int .i64 a2_2, .slice A2_3 l2_3.length c2_3, .slice A2_4 l2_4.length c2_4] 28 (0, 0)) (bk_ BK344) hg (Kd.R_ne HO369.out BK344.out (by decide))); replace HB := a_ hb; replace HK := a_ (Kept.of_grown (S := (fun k_ => P0_ k_)) hg (kp_ HK) (fun k_ e_ => (HO369.out.1 k_ e_))); have HO372 := a_ ho; clear HO369; clear ho hb hg hat) | (at_builtin; refine Kd.R_append_str (w0 := w0) w0.heap.size rfl (.tmp 60) _ 40 9 5 rfl Try.underlying40 Try.underlying9 info5 v371 y370 a4 (fun k_ => (P0_ k_ ∨ w.heap.size ≤ k_)) rfl rfl ?aF ?aO ?aB ?aS ?aL ?_; (case aB => exact (bl_ HB)); (case aF => exact (ki_ (kz_ HK))); (case aO => exact (rp_ HO372)); (case aS => exact (below_size (bl_ HB))); (case aL => have := LMc35.out; omega); intro v374 w50 ho hb hg hat; rw [← Ny373.out] at ho; replace BK344 := a_ (blk_grown (g := gb344) (o := .cells #[.int .i64 a2_0, .int .i64 a2_1, .int .i64 a2_2, .slice A2_3 l2_3.length c2_3, .slice A2_4 l2_4.length c2_4] 28 (0, 0)) (bk_ BK344) hg (Kd.R_ne HO372.out BK344.out (by decide))); replace HB := a_ hb; replace HK := a_ (Kept.of_grown (S := (fun k_ => P0_ k_)) hg (kp_ HK) (fun k_ e_ => (HO372.out.1 k_ e_))); have HO375 := a_ ho; clear HO372; clear ho hb hg hat; obtain ⟨hcz51_0, hcz51_1, hcz51_2, hcz51_3, hcz51_4, hfz51_0, hfz51_1, hfz51_2, hfz51_3, hfz51_4⟩ := b5_ BK344))
      have n0_ := a_ (Kd.R_drew HO375.out)
      have n1_ := a_ (blk_drew BK344.out)
      have n2_ := a_ (Kept.drew HK.out)
      have n3_ := a_ (below_drew1 HB.out)
      clear HO375
      clear BK344
      clear HK
      clear HB
      have HO375 := n0_
      have BK344 := n1_
      have HK := n2_
      have HB := n3_
      clear n0_ n1_ n2_ n3_
      have p376 : 0 ≤ (x46_2 : Int) := of_decide_eq_true as_
      have q376 : x46_2 < (l2_3.length : Int) := of_decide_eq_true as_
      obtain ⟨ad376, e376, hx376_0, hx376_1⟩ := at_T54_w0 HR2_3.out HB.out x46_2 p376 q376
      have hw376_1 := hx376_1
      have hw376_0 := hx376_0
      cases e376
      replace p376 := eq_true p376
      replace q376 := eq_true q376
      have p377 : 0 ≤ (x46_2 : Int) := of_decide_eq_true as_
      have q377 : x46_2 < (l2_3.length : Int) := of_decide_eq_true as_
      obtain ⟨ad377, e377, hx377_0, hx377_1⟩ := at_T54_w0 HR2_3.out HB.out x46_2 p377 q377
      have hw377_1 := hx377_1
      have hw377_0 := hx377_0
      obtain rfl : ad376 = ad377 := (by injection e377)
      replace p377 := eq_true p377
      replace q377 := eq_true q377
      refine start_ (n := 17) (S := fun w' => w'.cell? ⟨gb344, 0, none⟩ = some (.int .i64 a2_0) ∧ w'.cell? ⟨gb344, 1, none⟩ = some (.int .i64 a2_1) ∧ w'.cell? ⟨gb344, 2, none⟩ = some (.int .i64 a2_2) ∧ w'.cell? ⟨gb344, 3, none⟩ = some (.slice (some ad376) l2_3.length c2_3) ∧ w'.cell? ⟨gb344, 4, none⟩ = some (.slice A2_4 l2_4.length c2_4) ∧ w'.cell? (ad376.add ((x46_2).toNat * 2)) = some (.int .i64 ((rd_T54 l2_3 x46_2).f0)) ∧ w'.cell? ⟨(ad376.add ((x46_2).toNat * 2)).block, (ad376.add ((x46_2).toNat * 2)).off + 1, none⟩ = some (.int .i64 ((rd_T54 l2_3 x46_2).f1)) ∧ w'.cell? (ad376.add ((x46_2).toNat * 2)) = some (.int .i64 ((rd_T54 l2_3 x46_2).f0)) ∧ w'.cell? ⟨(ad376.add ((x46_2).toNat * 2)).block, (ad376.add ((x46_2).toNat * 2)).off + 1, none⟩ = some (.int .i64 ((rd_T54 l2_3 x46_2).f1))) (ds := [15]) #[false, false, false, false, false, false, false, false, false, false, false, false, false, false, false, false, false] (by kernel_rfl) rfl rfl ⟨(blk_cell BK344.out 0).trans rfl, (blk_cell BK344.out 1).trans rfl, (blk_cell BK344.out 2).trans rfl, (blk_cell BK344.out 3).trans rfl, (blk_cell BK344.out 4).trans rfl, hx376_0, hx376_1, hx377_0, hx377_1⟩ (fun hHeld => ?_); refine with_tabW sLa.tab18 sLa.bits18 (fun HT_ HW_ => ?_)
      generalize w50.drew = w52 at HO375 BK344 HK HB hx376_0 hx376_1 hx377_0 hx377_1 hHeld ⊢
      refine pure_ (i := 0) (N := some 66) (v := ?_) (a' := ?_) #[true, false, false, false, false, false, false, false, false, false, false, false, false, false, false, false, false] rfl rfl (any_of HT_.out (by kernel_rfl)) (fun _ _ _ h => h) (Or.inl ⟨by rfl, ?_⟩) ?_ ?_
      rotate_left
      ·
       intro w'
       go_simp
       with_reducible rfl
      rotate_left
      ·
       simp only [Act.put, List.setIfInBounds_toArray, List.set_cons_zero, List.set_cons_succ, i64_w, i32_w]
       rfl
      refine pure_ (i := 1) (N := some 67) (v := ?_) (a' := ?_) #[true, true, false, false, false, false, false, false, false, false, false, false, false, false, false, false, false] rfl rfl (any_of HT_.out (by kernel_rfl)) (fun _ _ _ h => h) (Or.inl ⟨by rfl, ?_⟩) ?_ ?_
      rotate_left
      ·
       intro w'
       go_simp
       with_reducible rfl
      rotate_left
      ·
       simp only [Act.put, List.setIfInBounds_toArray, List.set_cons_zero, List.set_cons_succ, i64_w, i32_w]
       rfl
      refine pure_ (i := 2) (N := some 68) (v := ?_) (a' := ?_) #[true, true, true, false, false, false, false, false, false, false, false, false, false, false, false, false, false] rfl rfl (any_of HT_.out (by kernel_rfl)) (fun _ _ _ h => h) (Or.inl ⟨by rfl, ?_⟩) ?_ ?_
      rotate_left
      ·
       intro w'
       go_simp
       with_reducible rfl
      rotate_left
      ·
       simp only [Act.put, List.setIfInBounds_toArray, List.set_cons_zero, List.set_cons_succ, i64_w, i32_w]
       rfl
      refine pure_ (i := 4) (N := some 70) (v := ?_) (a' := ?_) #[true, true, true, false, true, false, false, false, false, false, false, false, false, false, false, false, false] rfl rfl (any_of HT_.out (by kernel_rfl)) (fun _ _ _ h => h) (Or.inl ⟨by rfl, ?_⟩) ?_ ?_
      rotate_left
      ·
       intro w'
       go_simp
       with_reducible rfl
      rotate_left
      ·
       simp only [Act.put, List.setIfInBounds_toArray, List.set_cons_zero, List.set_cons_succ, i64_w, i32_w]
       rfl
      refine pure_ (i := 8) (N := some 74) (v := ?_) (a' := ?_) #[true, true, true, false, true, false, false, false, true, false, false, false, false, false, false, false, false] rfl rfl (any_of HT_.out (by kernel_rfl)) (fun _ _ _ h => h) (Or.inl ⟨by rfl, ?_⟩) ?_ ?_
      rotate_left
      ·
       intro w'
       go_simp
       with_reducible rfl
      rotate_left
      ·
       simp only [Act.put, List.setIfInBounds_toArray, List.set_cons_zero, List.set_cons_succ, i64_w, i32_w]
       rfl
      refine pure_ (i := 10) (N := some 76) (v := ?_) (a' := ?_) #[true, true, true, false, true, false, false, false, true, false, true, false, false, false, false, false, false] rfl rfl (any_of HT_.out (by kernel_rfl)) (fun _ _ _ h => h) (Or.inl ⟨by rfl, ?_⟩) ?_ ?_
      rotate_left
      ·
       intro w'
       go_simp
       with_reducible rfl
      rotate_left
      ·
       simp only [Act.put, List.setIfInBounds_toArray, List.set_cons_zero, List.set_cons_succ, i64_w, i32_w]
       rfl
      refine take_ (i := 3) (N := some 69) (v := ?_) (a' := ?_) #[true, true, true, true, true, false, false, false, true, false, true, false, false, false, false, false, false] rfl rfl (take_ofW HT_.out HW_.out (by kernel_rfl)) (fun _ _ _ h => h) (Or.inl ⟨by rfl, ?_⟩) hHeld ?_ ?_
      rotate_left
      ·
       rintro w' ⟨s0, s1, s2, s3, s4, s5, s6, s7, s8⟩
       go_simp
       with_reducible rfl
      rotate_left
      ·
       simp only [Act.put, List.setIfInBounds_toArray, List.set_cons_zero, List.set_cons_succ, i64_w, i32_w]
       rfl
      refine pure_ (i := 5) (N := some 71) (v := ?_) (a' := ?_) #[true, true, true, true, true, true, false, false, true, false, true, false, false, false, false, false, false] rfl rfl (any_of HT_.out (by kernel_rfl)) (fun _ _ _ h => h) (Or.inl ⟨by rfl, ?_⟩) ?_ ?_
      rotate_left
      ·
       intro w'
       go_simp
       with_reducible rfl
      rotate_left
      ·
       simp only [Act.put, List.setIfInBounds_toArray, List.set_cons_zero, List.set_cons_succ, i64_w, i32_w]
       rfl
      refine pure_ (i := 6) (N := some 72) (v := ?_) (a' := ?_) #[true, true, true, true, true, true, true, false, true, false, true, false, false, false, false, false, false] rfl rfl (any_of HT_.out (by kernel_rfl)) (fun _ _ _ h => h) (Or.inl ⟨by rfl, ?_⟩) ?_ ?_
      rotate_left
      ·
       intro w'
       go_simp
       with_reducible rfl
      rotate_left
      ·
       simp only [Act.put, List.setIfInBounds_toArray, List.set_cons_zero, List.set_cons_succ, i64_w, i32_w]
       rfl
      refine take_ (i := 7) (N := some 73) (v := ?_) (a' := ?_) #[true, true, true, true, true, true, true, true, true, false, true, false, false, false, false, false, false] rfl rfl (take_ofW HT_.out HW_.out (by kernel_rfl)) (fun _ _ _ h => h) (Or.inl ⟨by rfl, ?_⟩) hHeld ?_ ?_
      rotate_left
      ·
       rintro w' ⟨s0, s1, s2, s3, s4, s5, s6, s7, s8⟩
       go_simp
       with_reducible rfl
      rotate_left
      ·
       simp only [Act.put, List.setIfInBounds_toArray, List.set_cons_zero, List.set_cons_succ, i64_w, i32_w]
       rfl
      refine take_ (i := 9) (N := some 75) (v := ?_) (a' := ?_) #[true, true, true, true, true, true, true, true, true, true, true, false, false, false, false, false, false] rfl rfl (take_ofW HT_.out HW_.out (by kernel_rfl)) (fun _ _ _ h => h) (Or.inl ⟨by rfl, ?_⟩) hHeld ?_ ?_
      rotate_left
      ·
       rintro w' ⟨s0, s1, s2, s3, s4, s5, s6, s7, s8⟩
       go_simp
       with_reducible rfl
      rotate_left
      ·
       simp only [Act.put, List.setIfInBounds_toArray, List.set_cons_zero, List.set_cons_succ, i64_w, i32_w]
       rfl
      refine pure_ (i := 11) (N := some 77) (v := ?_) (a' := ?_) #[true, true, true, true, true, true, true, true, true, true, true, true, false, false, false, false, false] rfl rfl (any_of HT_.out (by kernel_rfl)) (fun _ _ _ h => h) (Or.inl ⟨by rfl, ?_⟩) ?_ ?_
      rotate_left
      ·
       intro w'
       go_simp
       with_reducible rfl
      rotate_left
      ·
       simp only [Act.put, List.setIfInBounds_toArray, List.set_cons_zero, List.set_cons_succ, i64_w, i32_w]
       rfl
      refine pure_ (i := 12) (N := some 78) (v := ?_) (a' := ?_) #[true, true, true, true, true, true, true, true, true, true, true, true, true, false, false, false, false] rfl rfl (any_of HT_.out (by kernel_rfl)) (fun _ _ _ h => h) (Or.inl ⟨by rfl, ?_⟩) ?_ ?_
      rotate_left
      ·
       intro w'
       go_simp
       with_reducible rfl
      rotate_left
      ·
       simp only [Act.put, List.setIfInBounds_toArray, List.set_cons_zero, List.set_cons_succ, i64_w, i32_w]
       rfl
      refine take_ (i := 13) (N := some 79) (v := ?_) (a' := ?_) #[true, true, true, true, true, true, true, true, true, true, true, true, true, true, false, false, false] rfl rfl (take_ofW HT_.out HW_.out (by kernel_rfl)) (fun _ _ _ h => h) (Or.inl ⟨by rfl, ?_⟩) hHeld ?_ ?_
      rotate_left
      ·
       rintro w' ⟨s0, s1, s2, s3, s4, s5, s6, s7, s8⟩
       go_simp
       with_reducible rfl
      rotate_left
      ·
       simp only [Act.put, List.setIfInBounds_toArray, List.set_cons_zero, List.set_cons_succ, i64_w, i32_w]
       rfl
      refine pure_ (i := 14) (N := some 80) (v := ?_) (a' := ?_) #[true, true, true, true, true, true, true, true, true, true, true, true, true, true, true, false, false] rfl rfl (any_of HT_.out (by kernel_rfl)) (fun _ _ _ h => h) (Or.inl ⟨by rfl, ?_⟩) ?_ ?_
      rotate_left
      ·
       intro w'
       go_simp
       with_reducible rfl
      rotate_left
      ·
       simp only [Act.put, List.setIfInBounds_toArray, List.set_cons_zero, List.set_cons_succ, i64_w, i32_w]
       rfl
      refine last_ (i := 15) (N := some 81) #[true, true, true, true, true, true, true, true, true, true, true, true, true, true, true, true, false] rfl rfl (one_of HT_.out (by kernel_rfl)) (by decide) (fun K hK => ?_)
      refine Kd.R_append_str_step (w0 := w0) w0.heap.size (by rfl) (.tmp 66) _ 40 9 5 rfl Try.underlying40 Try.underlying9 info5 v374 y373 (a1.extract (((rd_T54 l2_3 x46_2).f0) : Int).toNat (((rd_T54 l2_3 x46_2).f1) : Int).toNat) (fun k_ => (P0_ k_ ∨ w.heap.size ≤ k_)) rfl rfl ?aF ?aO ?aB ?aS ?aL ?_
      (case aB => exact (bl_ HB))
      (case aF => exact (ki_ (kz_ HK)))
      (case aO => exact (rp_ HO375))
      (case aS => exact (below_size (bl_ HB)))
      (case aL => have := LMc42.out; omega)
      intro v379 w53 ho hb hg hat
      rw [← Ny378.out] at ho
      have n0_ := a_ (blk_grown (g := gb344) (o := .cells #[.int .i64 a2_0, .int .i64 a2_1, .int .i64 a2_2, .slice (some ad376) l2_3.length c2_3, .slice A2_4 l2_4.length c2_4] 28 (0, 0)) (bk_ BK344) hg (Kd.R_ne HO375.out BK344.out (by decide)))
      have n1_ := a_ (hb)
      have n2_ := a_ (Kept.of_grown (S := (fun k_ => P0_ k_)) hg (kp_ HK) (fun k_ e_ => (HO375.out.1 k_ e_)))
      have n3_ := a_ (ho)
      clear BK344
      clear HB
      clear HK
      clear HO375
      have BK344 := n0_
      have HB := n1_
      have HK := n2_
      have HO380 := n3_
      clear n0_ n1_ n2_ n3_
      clear ho hb hg hat
      refine hK.out _ _ ?_
      clear hK K
      refine norm_ (a' := ?_) ?_ ?_
      rotate_left
      ·
       show Act.put _ (some 81) _ = _
       simp only [Act.put, List.setIfInBounds_toArray, List.set_cons_zero, List.set_cons_succ, i64_w, i32_w]
       rfl
      refine pure_ (i := 16) (N := some 0) (v := ?_) (a' := ?_) #[true, true, true, true, true, true, true, true, true, true, true, true, true, true, true, true, true] rfl rfl (any_of HT_.out (by kernel_rfl)) (fun _ _ _ h => h) (Or.inl ⟨by rfl, ?_⟩) ?_ ?_
      rotate_left
      ·
       intro w'
       go_simp
       with_reducible rfl
      rotate_left
      ·
       simp only [Act.put, List.setIfInBounds_toArray, List.set_cons_zero, List.set_cons_succ, i64_w, i32_w]
       rfl
      refine done_ (done_of HT_.out (by kernel_rfl)) ?_
      try go_wp2_with (first | ((with_reducible refine gate_dst (N := 83) rfl ?_); refine Kd.R_lit (Kd.int .u8) _ 5 ?hg (N := 83) ?hd (xs := ([58, 32] : List Int)) (inner := [.int .u8 58, .int .u8 32]) (ok := fun _ => True) (okp := fun _ => True) ?hr ?hp (fun _ hk => hk) trivial (Below.refl _ _) (Nat.le_refl _) (by simp) ?_; (case hd => rfl); (case hg => rfl); (case hr => first | (go_simp; done) | (go_simp; rfl)); (case hp => exact (Reps.one (show Kd.M (Kd.int .u8) _ _ _ 58 [.int .u8 58] from rfl) (Reps.one (show Kd.M (Kd.int .u8) _ _ _ 32 [.int .u8 32] from rfl) (Reps.none _ _)))); intro v382 w54 ho55 hb hg_ hnew_; clear hg_ hnew_; (first | rw [← Ny381.out] at ho55 | (simp only [Int.reduceToNat] at ho55; rw [← Ny381.out] at ho55)); have HO383 := a_ (Kd.R_lower (Kd.R_new' (Kd.R_newM (M := fun k_ => (P0_ k_ ∨ w.heap.size ≤ k_)) ho55 (kz_ HK) (fun k_ h_ => .inr h_)) (Kd.R_lt (rp_ HO380))) (below_size (bl_ HB))); replace HO380 := a_ (Kd.R_elder' (rp_ HO380) (Kd.R_base ho55) hb); replace BK344 := a_ (blk_below (g := gb344) (o := .cells #[.int .i64 a2_0, .int .i64 a2_1, .int .i64 a2_2, .slice (some ad376) l2_3.length c2_3, .slice A2_4 l2_4.length c2_4] 28 (0, 0)) (bk_ BK344) hb); replace HK := a_ (Kept.below (S := (fun k_ => P0_ k_)) (kp_ HK) hb); replace HB := a_ (below_step (bl_ HB) hb); clear hb ho55; obtain ⟨Ao57, co57, eo57⟩ := Kd.R_slice HO383.out; subst eo57) | ((with_reducible refine gate_builtin (b := .append) (xs := #[.tmp 82, .tmp 83]) rfl ?_); at_builtin; refine Kd.R_append_rows (Kd.int .u8) (w0 := w0) w0.heap.size rfl (.tmp 82) (.tmp 83) 40 5 (.int .u8 0) 1 rfl Try.underlying40 info5 rfl (by decide) (by omega) v379 y378 y381 _ _ _ (fun k_ => (P0_ k_ ∨ w.heap.size ≤ k_) ∧ some k_ ≠ (.slice Ao57 y381.length co57 : Value).ownBlock) (fun _ => False) rfl rfl ?aO ?aR (fun _ _ h => h) (fun _ h => h.elim) ?aF ?aB ?aS ?aL ?_; (case aR => repeat (first | exact (Kd.R_reads' HO383.out).2.2 | (with_reducible refine Kd.C_alloc ?_ _) | (with_reducible refine Kd.C_drewN ?_ _) | (with_reducible refine Kd.C_drew ?_))); (case aB => exact (bl_ HB)); (case aF => exact (fun k_ hk => ⟨(.inr (Nat.le_trans (kz_ HK) hk)), Kd.fresh' (Kd.R_lt (rp_ HO383)) k_ hk⟩)); (case aO => exact (rp_ HO380)); (case aS => exact (below_size (bl_ HB))); (case aL => have := LMc43.out; omega); intro v385 w56 ho hb hg hat; rw [← Ny384.out] at ho; replace BK344 := a_ (blk_grown (g := gb344) (o := .cells #[.int .i64 a2_0, .int .i64 a2_1, .int .i64 a2_2, .slice (some ad376) l2_3.length c2_3, .slice A2_4 l2_4.length c2_4] 28 (0, 0)) (bk_ BK344) hg (Kd.R_ne HO380.out BK344.out (by decide))); replace HO383 := a_ (Kd.R_after (ok := (fun k_ => (P0_ k_ ∨ w.heap.size ≤ k_))) (by (with_reducible repeat (first | apply Kd.R_alloc | apply Kd.R_drewN | apply Kd.R_drew)); exact Kd.R_mono HO383.out (fun _ hk => ⟨hk.1.1, hk.2⟩)) hg hat); replace HB := a_ hb; replace HK := a_ (Kept.of_grown (S := (fun k_ => P0_ k_)) hg (kp_ HK) (fun k_ e_ => (HO380.out.1 k_ e_).1)); have HO386 := a_ ho; clear HO380; clear ho hb hg hat; obtain ⟨hcz58_0, hcz58_1, hcz58_2, hcz58_3, hcz58_4, hfz58_0, hfz58_1, hfz58_2, hfz58_3, hfz58_4⟩ := b5_ BK344; have p387 : 0 ≤ (x46_2 : Int) := of_decide_eq_true as_; have q387 : x46_2 < (l2_4.length : Int) := of_decide_eq_true as_; obtain ⟨ad387, A387_3, c387_3, A387_4, c387_4, e387, hx387_0, hx387_1, hx387_2, hx387_3, hx387_4, hl387_3, hi387_3, hl387_4, hi387_4⟩ := at_T28_w0 HR2_4.out HB.out x46_2 p387 q387; cases e387; have HR387_3 := a_ hi387_3; have HC387_3 := a_ hl387_3; clear hi387_3 hl387_3; have HR387_4 := a_ hi387_4; have HC387_4 := a_ hl387_4; clear hi387_4 hl387_4; replace p387 := eq_true p387; replace q387 := eq_true q387; obtain ⟨Ao59, co59, eo59⟩ := Kd.R_slice HO386.out; subst eo59) | ((with_reducible refine gate_callee (f := 16) rfl ?_); refine goesL_ (some 97) rfl rfl Try.func16 (by kernel_rfl) rfl #[.slice Ao59 y384.length co59, .string a1, .agg #[.int .i64 ((rd_T28 l2_4 x46_2).f0), .int .i64 ((rd_T28 l2_4 x46_2).f1), .int .i64 ((rd_T28 l2_4 x46_2).f2), .slice A387_3 ((rd_T28 l2_4 x46_2).f3).length c387_3, .slice A387_4 ((rd_T28 l2_4 x46_2).f4).length c387_4], .string (a3 ++ a4), .string a4, .bool false] rfl ar_ ?_; (with_reducible refine (ih k2 (by have := HJ22.out; have := HK2.out; omega) (fun k_ => some k_ = (.slice Ao59 y384.length co59 : Value).ownBlock) (.slice Ao59 y384.length co59) y384 a1 ((rd_T28 l2_4 x46_2).f0) ((rd_T28 l2_4 x46_2).f1) ((rd_T28 l2_4 x46_2).f2) _ _ ((rd_T28 l2_4 x46_2).f3) _ _ ((rd_T28 l2_4 x46_2).f4) (a3 ++ a4) a4 false t388 w0 _ ?side1 ?side2 ?side3 ?side4 ?side5 ?side6 A46.out).mono ?_); (case side1 => exact bl_ HB); (case side2 => exact Kd.R_tight rfl HO386.out); (case side3 => exact HR387_3.out); (case side4 => exact HC387_3.out); (case side5 => exact HR387_4.out); (case side6 => exact HC387_4.out); rintro e w60 ⟨v389, rfl, ho0, hb, hkp⟩; refine ⟨_, rfl, ?_⟩; replace BK344 := a_ (blk_kept (bk_ BK344) hkp (fun hs_ => (fun e_ => (Kd.R_ne HO386.out BK344.out (by decide)) e_) hs_)); have HO390 := a_ (Kd.R_mono (ok' := fun k_ => (P0_ k_ ∨ w.heap.size ≤ k_) ∧ some k_ ≠ (.slice Ao57 y381.length co57 : Value).ownBlock) ho0 (fun k_ hk_ => ⟨Or.elim hk_ (fun hs_ => (HO386.out.1 k_ (hs_).symm).1) (fun hn_ => (.inr (Nat.le_trans (kz_ HK) hn_))), Or.elim hk_ (fun hs_ => fun e_ => (((HO383.out).1 k_ e_.symm).2) hs_) (fun hn_ => (Kd.fresh' (Kd.R_lt (rp_ HO383)) k_ hn_))⟩)); replace HO383 := a_ (Kd.R_mono (ok' := fun k_ => (P0_ k_ ∨ w.heap.size ≤ k_) ∧ some k_ ≠ (v389 : Value).ownBlock) (Kd.R_keptB (HO383.out) hkp (fun k_ hk_ hs_ => (hk_.2) hs_)) (fun k_ hk_ => ⟨hk_.1.1, fun e_ => Or.elim (ho0.1 k_ e_.symm) (fun hs_ => hk_.2.1 hs_) (fun hn_ => Nat.not_le.2 hk_.2.2 hn_)⟩)); replace HK := a_ (Kept.then_ (S := (fun k_ => P0_ k_)) (kp_ HK) hkp (fun k_ hs_ => (fun e_ => (HO386.out.1 k_ e_.symm).1) hs_)); replace HB := a_ hb; clear HO386; (try clear hb); (try clear hkp); (try clear ho0)))
      go_roundg k2
      case measure => have := HJ22.out; have := HK2.out; omega
      case rel => exact ⟨(t388), (wrap64 (x46_2 + 1)), rl_, H', ⟨by have := HJ22.out; have := HK2.out; omega⟩, ⟨by (with_reducible repeat (first | apply Kd.R_alloc | apply Kd.R_drewN | apply Kd.R_drew)); exact Kd.R_mono HO390.out (fun _ hk => hk.1)⟩, ⟨bk_ BK344⟩, ⟨kp_ HK⟩, ⟨bl_ HB⟩⟩
end Go.Proofs.Ytnilbkfhfnofgaa.PFnPrWidthMember
