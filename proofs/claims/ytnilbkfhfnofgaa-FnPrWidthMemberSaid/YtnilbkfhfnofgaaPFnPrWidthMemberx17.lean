/- Contracts of Go functions of this seat: a Lean function over numbers and lists for each, and a proof that the Go function returns what it gives. Made by program. -/
import Derived.Test.YtnilbkfhfnofgaaPFnPrWidthMemberx0
import Derived.Test.YtnilbkfhfnofgaaPFnPrWidthMemberx1
import Derived.Test.YtnilbkfhfnofgaaPFnPrWidthMemberx10
import Derived.Test.YtnilbkfhfnofgaaPFnPrWidthMemberx5
import Derived.Test.YtnilbkfhfnofgaaPFnPrWidthMemberx6
import Derived.Test.YtnilbkfhfnofgaaPFnPrWidthMemberx7
import Derived.Test.YtnilbkfhfnofgaaPFnPrWidthMemberxhPlaces
import Derived.Test.YtnilbkfhfnofgaaPFnPrWidthMemberxhPrWidth
namespace Go.Proofs.Ytnilbkfhfnofgaa.PFnPrWidthMember
open Go.RowKit Go.Proofs.YtnilbkfhfnofgaaW.PrintWords Go.Proofs.YtnilbkfhfnofgaaW.PrintLast Go.Proofs.YtnilbkfhfnofgaaW.PrintMore
attribute [local go_sem] max2_int min2_int max_two min_two max_three min_three max_four min_four   -- for this text's walks alone
set_option linter.unusedVariables false
set_option linter.unusedSimpArgs false
theorem zl_123 : (⟨#[123]⟩ : ByteArray).size = 1 := rfl
theorem zl_123_10 : (⟨#[123, 10]⟩ : ByteArray).size = 2 := rfl
theorem zl_125 : (⟨#[125]⟩ : ByteArray).size = 1 := rfl
theorem zl_125_10 : (⟨#[125, 10]⟩ : ByteArray).size = 2 := rfl
theorem zl_58 : (⟨#[58]⟩ : ByteArray).size = 1 := rfl
theorem zl_58_32 : (⟨#[58, 32]⟩ : ByteArray).size = 2 := rfl
/-! ### lFn: function 3 -/
mutual
def lFn.j0 : Nat → ByteArray → ByteArray → Bool → Int → ByteArray → ByteArray → Bool → Option (Bool)
  | 0, _, _, _, _, _, _, _ => none
  | k + 1, x0, x1, x27, x689000, x689001, x689002, x689003 => if x27 = true then (some true) else ((laws_prPlaces.f k x1).bind fun bt690 => (if bt690.2.2.2.2.2 = true then ((lFa.f k bt690.1 bt690.2.1 bt690.2.2.1 bt690.2.2.2.1 bt690.2.2.2.2.1).bind fun t701 => (if t701 = true then ((lBl.f k x689000 x689001 x689002 x689003).bind fun t702 => (if t702 = true then (if x689003 = true then (lFn.j1 k x0 x1 true x689000 x689001 x689002 x689003 bt690.1 bt690.2.1 bt690.2.2.1 bt690.2.2.2.1 bt690.2.2.2.2.1) else (if x689000 > 1073741824 then (lFn.j1 k x0 x1 true x689000 x689001 x689002 x689003 bt690.1 bt690.2.1 bt690.2.2.1 bt690.2.2.2.1 bt690.2.2.2.2.1) else (if x689000 < 0 then (lFn.j1 k x0 x1 true x689000 x689001 x689002 x689003 bt690.1 bt690.2.1 bt690.2.2.1 bt690.2.2.2.1 bt690.2.2.2.2.1) else (if (x0.size : Int) > 1024 then (lFn.j1 k x0 x1 true x689000 x689001 x689002 x689003 bt690.1 bt690.2.1 bt690.2.2.1 bt690.2.2.2.1 bt690.2.2.2.2.1) else ((sUt.f k x0).bind fun t703 => (lFn.j1 k x0 x1 (!t703) x689000 x689001 x689002 x689003 bt690.1 bt690.2.1 bt690.2.2.1 bt690.2.2.2.1 bt690.2.2.2.2.1)))))) else (lFn.j1 k x0 x1 true x689000 x689001 x689002 x689003 bt690.1 bt690.2.1 bt690.2.2.1 bt690.2.2.2.1 bt690.2.2.2.2.1))) else (lFn.j1 k x0 x1 true x689000 x689001 x689002 x689003 bt690.1 bt690.2.1 bt690.2.2.1 bt690.2.2.2.1 bt690.2.2.2.2.1))) else (lFn.j1 k x0 x1 true x689000 x689001 x689002 x689003 bt690.1 bt690.2.1 bt690.2.2.1 bt690.2.2.2.1 bt690.2.2.2.2.1)))
def lFn.j1 : Nat → ByteArray → ByteArray → Bool → Int → ByteArray → ByteArray → Bool → Int → Int → Int → List (S54) → List (S28) → Option (Bool)
  | 0, _, _, _, _, _, _, _, _, _, _, _, _ => none
  | k + 1, x0, x1, x68, x689000, x689001, x689002, x689003, x701000, x701001, x701002, x701003, x701004 => if x68 = true then (some true) else ((sQu.f k x0).bind fun t704 => ((spec_Laid.f k x1 x701000 x701001 x701002 x701003 x701004 (⟨#[]⟩ : ByteArray) (⟨#[]⟩ : ByteArray) true).bind fun t705 => (if 1 + t704.size ≤ 9223372036854775807 then (if ((⟨#[123]⟩ : ByteArray) ++ t704).size + 1 ≤ 9223372036854775807 then (if (((⟨#[123]⟩ : ByteArray) ++ t704) ++ (⟨#[58]⟩ : ByteArray)).size + x1.size ≤ 9223372036854775807 then (if ((((⟨#[123]⟩ : ByteArray) ++ t704) ++ (⟨#[58]⟩ : ByteArray)) ++ x1).size + 1 ≤ 9223372036854775807 then (if (wrap64 ((wrap64 ((wrap64 ((wrap64 (x689000 - (x689001.size : Int))) - (x689002.size : Int))) - (t704.size : Int))) - 3)) > 3 then (lFn.j2 k t704 t705 (((((⟨#[123]⟩ : ByteArray) ++ t704) ++ (⟨#[58]⟩ : ByteArray)) ++ x1) ++ (⟨#[125]⟩ : ByteArray)) (decide ((wrap64 ((t705.size : Int) - 1)) ≤ (wrap64 ((wrap64 ((wrap64 ((wrap64 (x689000 - (x689001.size : Int))) - (x689002.size : Int))) - (t704.size : Int))) - 3)))) x689000 x689001 x689002 x689003) else (lFn.j2 k t704 t705 (((((⟨#[123]⟩ : ByteArray) ++ t704) ++ (⟨#[58]⟩ : ByteArray)) ++ x1) ++ (⟨#[125]⟩ : ByteArray)) false x689000 x689001 x689002 x689003)) else (none)) else (none)) else (none)) else (none))))
def lFn.j2 : Nat → ByteArray → ByteArray → ByteArray → Bool → Int → ByteArray → ByteArray → Bool → Option (Bool)
  | 0, _, _, _, _, _, _, _, _ => none
  | k + 1, x9, x11, x12, x102, x689000, x689001, x689002, x689003 => if x102 = true then ((impl_PrPretty.f k x12 x689000 x689001 x689002 x689003).bind fun t706 => (if x689001.size + 2 ≤ 9223372036854775807 then (if (x689001 ++ (⟨#[123, 10]⟩ : ByteArray)).size + x689001.size ≤ 9223372036854775807 then (if ((x689001 ++ (⟨#[123, 10]⟩ : ByteArray)) ++ x689001).size + x689002.size ≤ 9223372036854775807 then (if (((x689001 ++ (⟨#[123, 10]⟩ : ByteArray)) ++ x689001) ++ x689002).size + x9.size ≤ 9223372036854775807 then (if ((((x689001 ++ (⟨#[123, 10]⟩ : ByteArray)) ++ x689001) ++ x689002) ++ x9).size + 2 ≤ 9223372036854775807 then (if (((((x689001 ++ (⟨#[123, 10]⟩ : ByteArray)) ++ x689001) ++ x689002) ++ x9) ++ (⟨#[58, 32]⟩ : ByteArray)).size + x11.size ≤ 9223372036854775807 then (if ((((((x689001 ++ (⟨#[123, 10]⟩ : ByteArray)) ++ x689001) ++ x689002) ++ x9) ++ (⟨#[58, 32]⟩ : ByteArray)) ++ x11).size + x689001.size ≤ 9223372036854775807 then (if (((((((x689001 ++ (⟨#[123, 10]⟩ : ByteArray)) ++ x689001) ++ x689002) ++ x9) ++ (⟨#[58, 32]⟩ : ByteArray)) ++ x11) ++ x689001).size + 2 ≤ 9223372036854775807 then (some (t706.toList == ((((((((x689001 ++ (⟨#[123, 10]⟩ : ByteArray)) ++ x689001) ++ x689002) ++ x9) ++ (⟨#[58, 32]⟩ : ByteArray)) ++ x11) ++ x689001) ++ (⟨#[125, 10]⟩ : ByteArray)).toList)) else (none)) else (none)) else (none)) else (none)) else (none)) else (none)) else (none)) else (none))) else ((spec_Places.f k x12).bind fun bt707 => ((impl_PrPretty.f k x12 x689000 x689001 x689002 x689003).bind fun t718 => ((spec_Laid.f k x12 bt707.1 bt707.2.1 bt707.2.2.1 bt707.2.2.2.1 bt707.2.2.2.2.1 x689001 x689002 false).bind fun t719 => (some (t718.toList == t719.toList)))))
end
def lFn.f (k : Nat) (a0 : ByteArray) (a1 : ByteArray) (a2_0 : Int) (a2_1 : ByteArray) (a2_2 : ByteArray) (a2_3 : Bool) : Option (Bool) := if (a0.size : Int) > 2147483647 then (lFn.j0 k a0 a1 true a2_0 a2_1 a2_2 a2_3) else (if (a1.size : Int) > 2147483647 then (lFn.j0 k a0 a1 true a2_0 a2_1 a2_2 a2_3) else ((laws_zzFits7.f a2_0 a2_1 a2_2 a2_3).bind fun t689 => (lFn.j0 k a0 a1 (!t689) a2_0 a2_1 a2_2 a2_3)))
theorem lFn.mono_l : ∀ k, (∀ y0 y1 y2 y3 y4 y5 y6, LeO (lFn.j0 k y0 y1 y2 y3 y4 y5 y6) (lFn.j0 (k + 1) y0 y1 y2 y3 y4 y5 y6)) ∧ (∀ y0 y1 y2 y3 y4 y5 y6 y7 y8 y9 y10 y11, LeO (lFn.j1 k y0 y1 y2 y3 y4 y5 y6 y7 y8 y9 y10 y11) (lFn.j1 (k + 1) y0 y1 y2 y3 y4 y5 y6 y7 y8 y9 y10 y11)) ∧ (∀ y0 y1 y2 y3 y4 y5 y6 y7, LeO (lFn.j2 k y0 y1 y2 y3 y4 y5 y6 y7) (lFn.j2 (k + 1) y0 y1 y2 y3 y4 y5 y6 y7))
 | 0 => ⟨fun _ _ _ _ _ _ _ r h => by simp [lFn.j0] at h, fun _ _ _ _ _ _ _ _ _ _ _ _ r h => by simp [lFn.j1] at h, fun _ _ _ _ _ _ _ _ r h => by simp [lFn.j2] at h⟩
 | k + 1 => by
  obtain ⟨ih0, ih1, ih2⟩ := lFn.mono_l k
  refine ⟨?_, ?_, ?_⟩
  all_goals intros
  all_goals (first | unfold lFn.j0 | unfold lFn.j1 | unfold lFn.j2)
  all_goals repeat' first | (with_reducible first | apply ih0 | apply ih1 | apply ih2 | apply impl_PrPretty.mono | apply lBl.mono | apply lFa.mono | apply laws_prPlaces.mono | apply spec_Laid.mono | apply spec_Places.mono | apply sQu.mono | apply sUt.mono | apply LeO.refl | apply LeO.none | refine LeO.ite ?_ ?_ | refine LeO.bind ?_ (fun _ => ?_)) | apply ih0 | apply ih1 | apply ih2 | apply impl_PrPretty.mono | apply lBl.mono | apply lFa.mono | apply laws_prPlaces.mono | apply spec_Laid.mono | apply spec_Places.mono | apply sQu.mono | apply sUt.mono | apply LeO.none | refine LeO.ite ?_ ?_ | refine LeO.bind ?_ (fun _ => ?_)
theorem lFn.mono : ∀ a0 a1 a2 a3 a4 a5 k, LeO (lFn.f k a0 a1 a2 a3 a4 a5) (lFn.f (k + 1) a0 a1 a2 a3 a4 a5) := by
 intro a0 a1 a2 a3 a4 a5 k
 obtain ⟨ih0, ih1, ih2⟩ := lFn.mono_l k
 unfold lFn.f
 repeat' first | (with_reducible first | apply ih0 | apply ih1 | apply ih2 | apply impl_PrPretty.mono | apply lBl.mono | apply lFa.mono | apply laws_prPlaces.mono | apply spec_Laid.mono | apply spec_Places.mono | apply sQu.mono | apply sUt.mono | apply LeO.refl | apply LeO.none | refine LeO.ite ?_ ?_ | refine LeO.bind ?_ (fun _ => ?_)) | apply ih0 | apply ih1 | apply ih2 | apply impl_PrPretty.mono | apply lBl.mono | apply lFa.mono | apply laws_prPlaces.mono | apply spec_Laid.mono | apply spec_Places.mono | apply sQu.mono | apply sUt.mono | apply LeO.none | refine LeO.ite ?_ ?_ | refine LeO.bind ?_ (fun _ => ?_)
def lFn.T11 : Bool × List (List Nat × List Nat) := (true, [([], []), ([], []), ([0, 1], [0, 1]), ([], []), ([3], [3]), ([4], [4]), ([], []), ([6], [6]), ([5, 7], [5, 7]), ([], []), ([9], [9]), ([8, 10], [8, 10]), ([], []), ([11, 12], [11, 12]), ([13], [13]), ([], []), ([14, 15], [14, 15]), ([], []), ([17], [17]), ([16, 18], [16, 18]), ([19], [19]), ([2, 20], [2, 20]), ([21, 2, 0, 1, 2, 3, 4, 5, 6, 7, 8, 9, 10, 11, 12, 13, 14, 15, 16, 17, 18, 19, 20, 21], [21])])
def lFn.B11 : List Nat := [0, 0, 3, 0, 8, 24, 0, 64, 248, 0, 512, 2040, 0, 8184, 16376, 0, 65528, 0, 131072, 524280, 1048568, 2097151, 4194303]
theorem lFn.tab11 : rtab .any (opsOf Try.f3 11) = lFn.T11 := by kernel_rfl
theorem lFn.bits11 : waitsOk lFn.T11.2 lFn.B11 = true := by kernel_rfl
def lFn.T13 : Bool × List (List Nat × List Nat) := (true, [([], []), ([], []), ([0, 1], [0, 1]), ([], []), ([], []), ([], []), ([5], [5]), ([], []), ([7], [7]), ([3, 4, 6, 8, 2], [3, 4, 6, 8]), ([2, 9], [2, 9]), ([10, 9, 0, 1, 2, 3, 4, 5, 6, 7, 8, 9, 10], [10])])
def lFn.B13 : List Nat := [0, 0, 3, 0, 0, 0, 32, 0, 128, 511, 1023, 2047]
theorem lFn.tab13 : rtab .any (opsOf Try.f3 13) = lFn.T13 := by kernel_rfl
theorem lFn.bits13 : waitsOk lFn.T13.2 lFn.B13 = true := by kernel_rfl
set_option maxHeartbeats 8000000 in
set_option maxRecDepth 100000 in
theorem lFn.calls (k : Nat) (a0 : ByteArray) (a1 : ByteArray) (a2_0 : Int) (a2_1 : ByteArray) (a2_2 : ByteArray) (a2_3 : Bool) (r : Bool) (w : World) (h : lFn.f k a0 a1 a2_0 a2_1 a2_2 a2_3 = some r) :
  Calls Try.prog 3 #[.string a0, .string a1, .agg #[.int .i64 a2_0, .string a2_1, .string a2_2, .bool a2_3]] w fun e w' => e = .returned (.bool r) ∧ Below w.heap.size w w' := by
 have hu23 := Try.underlying23
 have hu28 := Try.underlying28
 have HB := a_ (Below.refl w.heap.size w)
 have H : (if (a0.size : Int) > 2147483647 then (lFn.j0 k a0 a1 true a2_0 a2_1 a2_2 a2_3) else (if (a1.size : Int) > 2147483647 then (lFn.j0 k a0 a1 true a2_0 a2_1 a2_2 a2_3) else ((laws_zzFits7.f a2_0 a2_1 a2_2 a2_3).bind fun t689 => (lFn.j0 k a0 a1 (!t689) a2_0 a2_1 a2_2 a2_3)))) = some r := h
 clear h
 have HC4 := a_ H
 clear H
 go_enter Try.func3, Try.ntmps3
 go_upto_region 1 with (first | ((with_reducible refine gate_dst (N := 5) rfl ?_); (try (refine gate_guard (by rfl) ?_; dsimp only)); refine box_event ?hg (N := 5) ?hd (cs := #[.int .i64 a2_0, .string a2_1, .string a2_2, .bool a2_3]) (t := 23) ?hr ?_; (case hd => rfl); (case hg => rfl); (case hr => first | (go_simp; done) | (go_simp; rfl)); intro gb688 hg w5 hbox hb; have BK688 := a_ hbox; have GW688 := a_ ((by rw [hg]; exact (below_size (bl_ HB)) : w.heap.size ≤ gb688)); have GE688 := a_ ((by rw [hg]; exact (below_size (bl_ HB)) : w.heap.size ≤ gb688)); replace HB := a_ (below_step (bl_ HB) hb); clear hb hbox hg))
 (try simp only [Act.put, List.setIfInBounds_toArray, List.set_cons_zero, List.set_cons_succ])
 go_cut [27] (fun v27 wc => ∃ (kq : Nat) (x27_3 : Bool), v27 = .bool x27_3 ∧ Aside0 (lFn.j0 kq a0 a1 x27_3 a2_0 a2_1 a2_2 a2_3 = some r) ∧ Aside0 (kq ≤ k) ∧ Aside0 (wc.heap[gb688]? = some (.cells #[.int .i64 a2_0, .string a2_1, .string a2_2, .bool a2_3] 23 (0, 0))) ∧ Aside0 (Below w.heap.size w wc))
 case first =>
  have H := HC4.out
  clear HC4
  by_cases c6 : (a0.size : Int) > 2147483647
  ·
   rw [if_pos c6] at H
   have c6b0 : decide (2147483647 < (a0.size : Int)) = true := decide_eq_true c6
   have c6b1 : decide (2147483647 < a0.size) = true := decide_eq_true (by omega)
   clear c6
   (first | rw [c6b0] | (simp only [i64_w, i32_w]; rw [c6b0]) | skip)
   have H' := a_ H
   clear H
   go_wp2
   go_meet
   case rel => exact ⟨_, (true), rl_, H', ⟨by first | omega | exact Nat.le_refl _⟩, ⟨bk_ BK688⟩, ⟨bl_ HB⟩⟩
  rw [if_neg c6] at H
  have c6b0 : decide (2147483647 < (a0.size : Int)) = false := decide_eq_false c6
  have c6b1 : decide (2147483647 < a0.size) = false := decide_eq_false (by omega)
  clear c6
  (first | rw [c6b0] | (simp only [i64_w, i32_w]; rw [c6b0]) | skip)
  by_cases c7 : (a1.size : Int) > 2147483647
  ·
   rw [if_pos c7] at H
   have c7b0 : decide (2147483647 < (a1.size : Int)) = true := decide_eq_true c7
   have c7b1 : decide (2147483647 < a1.size) = true := decide_eq_true (by omega)
   clear c7
   have H' := a_ H
   clear H
   go_wp2
   go_meet
   case rel => exact ⟨_, (true), rl_, H', ⟨by first | omega | exact Nat.le_refl _⟩, ⟨bk_ BK688⟩, ⟨bl_ HB⟩⟩
  rw [if_neg c7] at H
  have c7b0 : decide (2147483647 < (a1.size : Int)) = false := decide_eq_false c7
  have c7b1 : decide (2147483647 < a1.size) = false := decide_eq_false (by omega)
  clear c7
  replace H := Option.bind_eq_some_iff.mp H
  obtain ⟨t689, A80, H⟩ := H
  replace H : (lFn.j0 k a0 a1 (!t689) a2_0 a2_1 a2_2 a2_3) = some r := H
  have A8 := a_ A80
  clear A80
  have H' := a_ H
  clear H
  have hcz9_0 := bc_ BK688 0 (.int .i64 a2_0)
  have hcz9_1 := bc_ BK688 1 (.string a2_1)
  have hcz9_2 := bc_ BK688 2 (.string a2_2)
  have hcz9_3 := bc_ BK688 3 (.bool a2_3)
  have hfz9_0 := blk_frozen BK688.out 0
  have hfz9_1 := blk_frozen BK688.out 1
  have hfz9_2 := blk_frozen BK688.out 2
  have hfz9_3 := blk_frozen BK688.out 3
  go_wp2_with (first | (go_at_call 4; (with_reducible refine (laws_zzFits7.calls a2_0 a2_1 a2_2 a2_3 t689 _ A8.out).mono ?_); rintro e w10 ⟨rfl, hb⟩; replace BK688 := a_ (blk_below (g := gb688) (o := .cells #[.int .i64 a2_0, .string a2_1, .string a2_2, .bool a2_3] 23 (0, 0)) (bk_ BK688) hb); replace HB := a_ (below_step (bl_ HB) hb); (try clear hb); (try clear hb2); (try clear hk); (try clear hi)))
  go_meet
  case rel => exact ⟨_, (!t689), rl_, H', ⟨by first | omega | exact Nat.le_refl _⟩, ⟨bk_ BK688⟩, ⟨bl_ HB⟩⟩
 clear HC4
 (try clear p2); (try clear c3); (try clear c6); (try clear c6b0); (try clear c6b1); (try clear c7); (try clear c7b0); (try clear c7b1); (try clear hcz9_0); (try clear hcz9_1); (try clear hcz9_2); (try clear hcz9_3); (try clear hfz9_0); (try clear hfz9_1); (try clear hfz9_2); (try clear hfz9_3)
 as_aux_lemma =>
  obtain ⟨kq, x27_3, rfl, HA, HJ3, BK688, HB⟩ := hcut
  cases kq with
  | zero => exact absurd HA.out (by simp [lFn.j0])
  | succ kj3 =>
   have H := HA.out
   clear HA
   simp only [lFn.j0] at H
   by_cases c11 : x27_3 = true
   ·
    subst c11
    rw [if_pos (by trivial)] at H
    obtain rfl := Option.some.inj H
    go_wp2
    go_ret
    exact ⟨by first | rfl | (simp [errW_none, errW_some] <;> rfl) | (simp [*, errW_none, errW_some] <;> rfl), bl_ HB⟩
   replace c11 := Bool.eq_false_iff.mpr c11
   subst c11
   rw [if_neg (show ¬ (false = true) by decide)] at H
   replace H := Option.bind_eq_some_iff.mp H
   obtain ⟨⟨t690, t691, t692, t693, t696, t699⟩, A120, H⟩ := H
   replace H : (if t699 = true then ((lFa.f kj3 t690 t691 t692 t693 t696).bind fun t701 => (if t701 = true then ((lBl.f kj3 a2_0 a2_1 a2_2 a2_3).bind fun t702 => (if t702 = true then (if a2_3 = true then (lFn.j1 kj3 a0 a1 true a2_0 a2_1 a2_2 a2_3 t690 t691 t692 t693 t696) else (if a2_0 > 1073741824 then (lFn.j1 kj3 a0 a1 true a2_0 a2_1 a2_2 a2_3 t690 t691 t692 t693 t696) else (if a2_0 < 0 then (lFn.j1 kj3 a0 a1 true a2_0 a2_1 a2_2 a2_3 t690 t691 t692 t693 t696) else (if (a0.size : Int) > 1024 then (lFn.j1 kj3 a0 a1 true a2_0 a2_1 a2_2 a2_3 t690 t691 t692 t693 t696) else ((sUt.f kj3 a0).bind fun t703 => (lFn.j1 kj3 a0 a1 (!t703) a2_0 a2_1 a2_2 a2_3 t690 t691 t692 t693 t696)))))) else (lFn.j1 kj3 a0 a1 true a2_0 a2_1 a2_2 a2_3 t690 t691 t692 t693 t696))) else (lFn.j1 kj3 a0 a1 true a2_0 a2_1 a2_2 a2_3 t690 t691 t692 t693 t696))) else (lFn.j1 kj3 a0 a1 true a2_0 a2_1 a2_2 a2_3 t690 t691 t692 t693 t696)) = some r := H
   have A12 := a_ A120
   clear A120
   have HC13 := a_ H
   clear H
   go_upto_region 4 with (first | ((with_reducible refine gate_callee (f := 5) rfl ?_); refine goesL_ (some 30) rfl rfl Try.func5 (by kernel_rfl) rfl #[.string a1] rfl ar_ ?_; (with_reducible refine (laws_prPlaces.calls kj3 a1 t690 t691 t692 t693 t696 t699 _ A12.out).mono ?_); rintro e w14 ⟨v694, v697, rfl, ho0, ho1, hb⟩; refine ⟨_, rfl, ?_⟩; have HO695 := a_ (Kd.R_lower ho0 (below_size (bl_ HB))); have HO698 := a_ (Kd.R_lower ho1 (below_size (bl_ HB))); replace BK688 := a_ (blk_below (g := gb688) (o := .cells #[.int .i64 a2_0, .string a2_1, .string a2_2, .bool a2_3] 23 (0, 0)) (bk_ BK688) hb); replace HB := a_ (below_step (bl_ HB) hb); (try clear hb); (try clear hb2); (try clear hk); (try clear hi); (try clear ho0); (try clear ho1)) | ((with_reducible refine gate_dst (N := 7) rfl ?_); (try (refine gate_guard (by rfl) ?_; dsimp only)); refine box_event ?hg (N := 7) ?hd (cs := #[.int .i64 0, .int .i64 0, .int .i64 0, .slice none 0 0, .slice none 0 0]) (t := 28) ?hr ?_; (case hd => rfl); (case hg => rfl); (case hr => first | (go_simp; done) | (go_simp; rfl)); intro gb700 hg w15 hbox hb; replace HO695 := a_ (Kd.R_below (rp_ HO695) hb); replace HO698 := a_ (Kd.R_below (Kd.R_elderB (rp_ HO698) gb700 (Nat.le_of_eq hg.symm)) hb); have BK700 := a_ hbox; have GW700 := a_ ((by rw [hg]; exact (below_size (bl_ HB)) : w.heap.size ≤ gb700)); have GE700 := a_ ((by rw [hg]; exact (below_size (bl_ HB)) : w.heap.size ≤ gb700)); replace HB := a_ (below_step (bl_ HB) hb); have NB688_700 := a_ ((by rw [hg]; exact Nat.ne_of_lt (blk_lt (g := gb688) (o := .cells #[.int .i64 a2_0, .string a2_1, .string a2_2, .bool a2_3] 23 (0, 0)) (bk_ BK688)) : gb688 ≠ gb700)); have NB700_688 := a_ ((by rw [hg]; exact Nat.ne_of_gt (blk_lt (g := gb688) (o := .cells #[.int .i64 a2_0, .string a2_1, .string a2_2, .bool a2_3] 23 (0, 0)) (bk_ BK688)) : gb700 ≠ gb688)); replace BK688 := a_ (blk_below (g := gb688) (o := .cells #[.int .i64 a2_0, .string a2_1, .string a2_2, .bool a2_3] 23 (0, 0)) (bk_ BK688) hb); clear hb hbox hg; have hnb16 := NB700_688.out; have hnc16 := NB688_700.out; obtain ⟨hcz17_0, hcz17_1, hcz17_2, hcz17_3, hcz17_4, hfz17_0, hfz17_1, hfz17_2, hfz17_3, hfz17_4⟩ := b5_ BK700; obtain ⟨Ao18, co18, eo18⟩ := Kd.R_slice HO695.out; subst eo18; obtain ⟨Ao19, co19, eo19⟩ := Kd.R_slice HO698.out; subst eo19))
   (try simp only [Act.put, List.setIfInBounds_toArray, List.set_cons_zero, List.set_cons_succ])
   go_cut [68] (fun v68 wc => ∃ (kq : Nat) (x68_12 : Bool), v68 = .bool x68_12 ∧ Aside0 (lFn.j1 kq a0 a1 x68_12 a2_0 a2_1 a2_2 a2_3 t690 t691 t692 t693 t696 = some r) ∧ Aside0 (kq ≤ kj3) ∧ Aside0 (Kd.R k54 54 wc w.heap.size (fun _ => True) (.slice Ao18 t693.length co18) t693) ∧ Aside0 (Kd.R k28 28 wc w.heap.size (fun k_ => some k_ ≠ ((.slice Ao18 t693.length co18) : Value).ownBlock ∧ k_ ≠ gb700) (.slice Ao19 t696.length co19) t696) ∧ Aside0 (wc.heap[gb688]? = some (.cells #[.int .i64 a2_0, .string a2_1, .string a2_2, .bool a2_3] 23 (0, 0))) ∧ Aside0 (wc.heap[gb700]? = some (.cells #[.int .i64 t690, .int .i64 t691, .int .i64 t692, (.slice Ao18 t693.length co18), (.slice Ao19 t696.length co19)] 28 (0, 0))) ∧ Aside0 (Below w.heap.size w wc))
   case first =>
    have H := HC13.out
    clear HC13
    by_cases c20 : t699 = true
    rotate_left
    ·
     replace c20 := Bool.eq_false_iff.mpr c20
     subst c20
     rw [if_neg (show ¬ (false = true) by decide)] at H
     have H' := a_ H
     clear H
     go_wp2
     go_meet
     case rel => exact ⟨_, (true), rl_, H', ⟨by have := HJ3.out; first | omega | exact Nat.le_refl _⟩, ⟨by (with_reducible repeat (first | apply Kd.R_alloc | apply Kd.R_drewN | apply Kd.R_drew)); exact Kd.R_mono (Kd.R_far (p := ⟨gb700, 4, none⟩) (Kd.R_far (p := ⟨gb700, 3, none⟩) (Kd.R_far (p := ⟨gb700, 2, none⟩) (Kd.R_far (p := ⟨gb700, 1, none⟩) (Kd.R_far (p := ⟨gb700, 0, none⟩) (Kd.R_types HO695.out BK700.out (by decide)) (fun _ hk => hk.2) (.int .i64 t690)) (fun _ hk => hk.2) (.int .i64 t691)) (fun _ hk => hk.2) (.int .i64 t692)) (fun _ hk => hk.2) (.slice Ao18 t693.length co18)) (fun _ hk => hk.2) (.slice Ao19 t696.length co19)) (fun _ hk => trivial)⟩, ⟨by (with_reducible repeat (first | apply Kd.R_alloc | apply Kd.R_drewN | apply Kd.R_drew)); exact Kd.R_mono (Kd.R_far (p := ⟨gb700, 4, none⟩) (Kd.R_far (p := ⟨gb700, 3, none⟩) (Kd.R_far (p := ⟨gb700, 2, none⟩) (Kd.R_far (p := ⟨gb700, 1, none⟩) (Kd.R_far (p := ⟨gb700, 0, none⟩) (Kd.R_mono HO698.out (fun k_ hk => (⟨hk, hk.2⟩ : _ ∧ k_ ≠ gb700))) (fun _ hk => hk.2) (.int .i64 t690)) (fun _ hk => hk.2) (.int .i64 t691)) (fun _ hk => hk.2) (.int .i64 t692)) (fun _ hk => hk.2) (.slice Ao18 t693.length co18)) (fun _ hk => hk.2) (.slice Ao19 t696.length co19)) (fun _ hk => ⟨hk.1.1, hk.1.2⟩)⟩, ⟨by (with_reducible repeat (first | refine blk_drewN ?_ _ | refine blk_drew ?_ | refine blk_alloc ?_ _)); refine blk_far ?_ NB688_700.out _; (with_reducible repeat (first | refine blk_drewN ?_ _ | refine blk_drew ?_ | refine blk_alloc ?_ _)); refine blk_far ?_ NB688_700.out _; (with_reducible repeat (first | refine blk_drewN ?_ _ | refine blk_drew ?_ | refine blk_alloc ?_ _)); refine blk_far ?_ NB688_700.out _; (with_reducible repeat (first | refine blk_drewN ?_ _ | refine blk_drew ?_ | refine blk_alloc ?_ _)); refine blk_far ?_ NB688_700.out _; (with_reducible repeat (first | refine blk_drewN ?_ _ | refine blk_drew ?_ | refine blk_alloc ?_ _)); refine blk_far ?_ NB688_700.out _; (with_reducible repeat (first | refine blk_drewN ?_ _ | refine blk_drew ?_ | refine blk_alloc ?_ _)); exact BK688.out⟩, ⟨by (with_reducible repeat (first | refine blk_drewN ?_ _ | refine blk_drew ?_ | refine blk_alloc ?_ _)); refine blk_put (cs := #[.int .i64 t690, .int .i64 t691, .int .i64 t692, .slice Ao18 t693.length co18, .slice none 0 0]) ?_ 4 _ rfl; (with_reducible repeat (first | refine blk_drewN ?_ _ | refine blk_drew ?_ | refine blk_alloc ?_ _)); refine blk_put (cs := #[.int .i64 t690, .int .i64 t691, .int .i64 t692, .slice none 0 0, .slice none 0 0]) ?_ 3 _ rfl; (with_reducible repeat (first | refine blk_drewN ?_ _ | refine blk_drew ?_ | refine blk_alloc ?_ _)); refine blk_put (cs := #[.int .i64 t690, .int .i64 t691, .int .i64 0, .slice none 0 0, .slice none 0 0]) ?_ 2 _ rfl; (with_reducible repeat (first | refine blk_drewN ?_ _ | refine blk_drew ?_ | refine blk_alloc ?_ _)); refine blk_put (cs := #[.int .i64 t690, .int .i64 0, .int .i64 0, .slice none 0 0, .slice none 0 0]) ?_ 1 _ rfl; (with_reducible repeat (first | refine blk_drewN ?_ _ | refine blk_drew ?_ | refine blk_alloc ?_ _)); refine blk_put (cs := #[.int .i64 0, .int .i64 0, .int .i64 0, .slice none 0 0, .slice none 0 0]) ?_ 0 _ rfl; (with_reducible repeat (first | refine blk_drewN ?_ _ | refine blk_drew ?_ | refine blk_alloc ?_ _)); exact BK700.out⟩, ⟨bl_ HB⟩⟩
    subst c20
    rw [if_pos (by trivial)] at H
    replace H := Option.bind_eq_some_iff.mp H
    obtain ⟨t701, A210, H⟩ := H
    replace H : (if t701 = true then ((lBl.f kj3 a2_0 a2_1 a2_2 a2_3).bind fun t702 => (if t702 = true then (if a2_3 = true then (lFn.j1 kj3 a0 a1 true a2_0 a2_1 a2_2 a2_3 t690 t691 t692 t693 t696) else (if a2_0 > 1073741824 then (lFn.j1 kj3 a0 a1 true a2_0 a2_1 a2_2 a2_3 t690 t691 t692 t693 t696) else (if a2_0 < 0 then (lFn.j1 kj3 a0 a1 true a2_0 a2_1 a2_2 a2_3 t690 t691 t692 t693 t696) else (if (a0.size : Int) > 1024 then (lFn.j1 kj3 a0 a1 true a2_0 a2_1 a2_2 a2_3 t690 t691 t692 t693 t696) else ((sUt.f kj3 a0).bind fun t703 => (lFn.j1 kj3 a0 a1 (!t703) a2_0 a2_1 a2_2 a2_3 t690 t691 t692 t693 t696)))))) else (lFn.j1 kj3 a0 a1 true a2_0 a2_1 a2_2 a2_3 t690 t691 t692 t693 t696))) else (lFn.j1 kj3 a0 a1 true a2_0 a2_1 a2_2 a2_3 t690 t691 t692 t693 t696)) = some r := H
    have A21 := a_ A210
    clear A210
    by_cases c22 : t701 = true
    rotate_left
    ·
     replace c22 := Bool.eq_false_iff.mpr c22
     subst c22
     rw [if_neg (show ¬ (false = true) by decide)] at H
     have H' := a_ H
     clear H
     have hnb65 := NB700_688.out
     have hnc65 := NB688_700.out
     have hcz66_0 := bc_ BK700 0 (.int .i64 0)
     have hcz66_1 := bc_ BK700 1 (.int .i64 0)
     have hcz66_2 := bc_ BK700 2 (.int .i64 0)
     have hcz66_3 := bc_ BK700 3 (.slice none 0 0)
     have hcz66_4 := bc_ BK700 4 (.slice none 0 0)
     have hfz66_0 := blk_frozen BK700.out 0
     have hfz66_1 := blk_frozen BK700.out 1
     have hfz66_2 := blk_frozen BK700.out 2
     have hfz66_3 := blk_frozen BK700.out 3
     have hfz66_4 := blk_frozen BK700.out 4
     go_wp2_with (first | (go_at_call 6; (with_reducible refine (lFa.calls kj3 t690 t691 t692 _ _ t693 _ _ t696 false _ ?side1 ?side2 ?side3 ?side4 A21.out).mono ?_); (case side1 => refine (Kd.R_reads' (e := 54) (base := w.heap.size) (ok := fun k_ => True) (n := t693.length) (c := co18) ?_).2.2; exact (by (with_reducible repeat (first | apply Kd.R_alloc | apply Kd.R_drewN | apply Kd.R_drew)); exact (Kd.R_mono (Kd.R_far (p := ⟨gb700, 4, none⟩) (Kd.R_far (p := ⟨gb700, 3, none⟩) (Kd.R_far (p := ⟨gb700, 2, none⟩) (Kd.R_far (p := ⟨gb700, 1, none⟩) (Kd.R_far (p := ⟨gb700, 0, none⟩) (Kd.R_types HO695.out BK700.out (by decide)) (fun _ hk => hk.2) (.int .i64 t690)) (fun _ hk => hk.2) (.int .i64 t691)) (fun _ hk => hk.2) (.int .i64 t692)) (fun _ hk => hk.2) (.slice Ao18 t693.length co18)) (fun _ hk => hk.2) (.slice Ao19 t696.length co19)) (fun _ h_ => h_.1)))); (case side2 => exact (Kd.R_reads' HO695.out).2.1); (case side3 => refine (Kd.R_reads' (e := 28) (base := w.heap.size) (ok := fun k_ => (some k_ ≠ (.slice Ao18 t693.length co18 : Value).ownBlock ∧ k_ ≠ gb700)) (n := t696.length) (c := co19) ?_).2.2; exact (by (with_reducible repeat (first | apply Kd.R_alloc | apply Kd.R_drewN | apply Kd.R_drew)); exact (Kd.R_mono (Kd.R_far (p := ⟨gb700, 4, none⟩) (Kd.R_far (p := ⟨gb700, 3, none⟩) (Kd.R_far (p := ⟨gb700, 2, none⟩) (Kd.R_far (p := ⟨gb700, 1, none⟩) (Kd.R_far (p := ⟨gb700, 0, none⟩) (Kd.R_mono HO698.out (fun k_ hk => (⟨hk, hk.2⟩ : _ ∧ k_ ≠ gb700))) (fun _ hk => hk.2) (.int .i64 t690)) (fun _ hk => hk.2) (.int .i64 t691)) (fun _ hk => hk.2) (.int .i64 t692)) (fun _ hk => hk.2) (.slice Ao18 t693.length co18)) (fun _ hk => hk.2) (.slice Ao19 t696.length co19)) (fun _ h_ => h_.1)))); (case side4 => exact (Kd.R_reads' HO698.out).2.1); rintro e w67 ⟨rfl, hb⟩; replace HO695 := a_ (Kd.R_below (by (with_reducible repeat (first | apply Kd.R_alloc | apply Kd.R_drewN | apply Kd.R_drew)); exact (Kd.R_mono (Kd.R_far (p := ⟨gb700, 4, none⟩) (Kd.R_far (p := ⟨gb700, 3, none⟩) (Kd.R_far (p := ⟨gb700, 2, none⟩) (Kd.R_far (p := ⟨gb700, 1, none⟩) (Kd.R_far (p := ⟨gb700, 0, none⟩) (Kd.R_types HO695.out BK700.out (by decide)) (fun _ hk => hk.2) (.int .i64 t690)) (fun _ hk => hk.2) (.int .i64 t691)) (fun _ hk => hk.2) (.int .i64 t692)) (fun _ hk => hk.2) (.slice Ao18 t693.length co18)) (fun _ hk => hk.2) (.slice Ao19 t696.length co19)) (fun _ h_ => h_.1))) hb); replace HO698 := a_ (Kd.R_below (by (with_reducible repeat (first | apply Kd.R_alloc | apply Kd.R_drewN | apply Kd.R_drew)); exact (Kd.R_mono (Kd.R_far (p := ⟨gb700, 4, none⟩) (Kd.R_far (p := ⟨gb700, 3, none⟩) (Kd.R_far (p := ⟨gb700, 2, none⟩) (Kd.R_far (p := ⟨gb700, 1, none⟩) (Kd.R_far (p := ⟨gb700, 0, none⟩) (Kd.R_mono HO698.out (fun k_ hk => (⟨hk, hk.2⟩ : _ ∧ k_ ≠ gb700))) (fun _ hk => hk.2) (.int .i64 t690)) (fun _ hk => hk.2) (.int .i64 t691)) (fun _ hk => hk.2) (.int .i64 t692)) (fun _ hk => hk.2) (.slice Ao18 t693.length co18)) (fun _ hk => hk.2) (.slice Ao19 t696.length co19)) (fun _ h_ => h_.1))) hb); replace BK688 := a_ (blk_below (g := gb688) (o := .cells #[.int .i64 a2_0, .string a2_1, .string a2_2, .bool a2_3] 23 (0, 0)) (by (with_reducible repeat (first | refine blk_drewN ?_ _ | refine blk_drew ?_ | refine blk_alloc ?_ _)); refine blk_far ?_ NB688_700.out _; (with_reducible repeat (first | refine blk_drewN ?_ _ | refine blk_drew ?_ | refine blk_alloc ?_ _)); refine blk_far ?_ NB688_700.out _; (with_reducible repeat (first | refine blk_drewN ?_ _ | refine blk_drew ?_ | refine blk_alloc ?_ _)); refine blk_far ?_ NB688_700.out _; (with_reducible repeat (first | refine blk_drewN ?_ _ | refine blk_drew ?_ | refine blk_alloc ?_ _)); refine blk_far ?_ NB688_700.out _; (with_reducible repeat (first | refine blk_drewN ?_ _ | refine blk_drew ?_ | refine blk_alloc ?_ _)); refine blk_far ?_ NB688_700.out _; (with_reducible repeat (first | refine blk_drewN ?_ _ | refine blk_drew ?_ | refine blk_alloc ?_ _)); exact BK688.out) hb); replace BK700 := a_ (blk_below (g := gb700) (o := .cells #[.int .i64 t690, .int .i64 t691, .int .i64 t692, .slice Ao18 t693.length co18, .slice Ao19 t696.length co19] 28 (0, 0)) (by (with_reducible repeat (first | refine blk_drewN ?_ _ | refine blk_drew ?_ | refine blk_alloc ?_ _)); refine blk_put (cs := #[.int .i64 t690, .int .i64 t691, .int .i64 t692, .slice Ao18 t693.length co18, .slice none 0 0]) ?_ 4 _ rfl; (with_reducible repeat (first | refine blk_drewN ?_ _ | refine blk_drew ?_ | refine blk_alloc ?_ _)); refine blk_put (cs := #[.int .i64 t690, .int .i64 t691, .int .i64 t692, .slice none 0 0, .slice none 0 0]) ?_ 3 _ rfl; (with_reducible repeat (first | refine blk_drewN ?_ _ | refine blk_drew ?_ | refine blk_alloc ?_ _)); refine blk_put (cs := #[.int .i64 t690, .int .i64 t691, .int .i64 0, .slice none 0 0, .slice none 0 0]) ?_ 2 _ rfl; (with_reducible repeat (first | refine blk_drewN ?_ _ | refine blk_drew ?_ | refine blk_alloc ?_ _)); refine blk_put (cs := #[.int .i64 t690, .int .i64 0, .int .i64 0, .slice none 0 0, .slice none 0 0]) ?_ 1 _ rfl; (with_reducible repeat (first | refine blk_drewN ?_ _ | refine blk_drew ?_ | refine blk_alloc ?_ _)); refine blk_put (cs := #[.int .i64 0, .int .i64 0, .int .i64 0, .slice none 0 0, .slice none 0 0]) ?_ 0 _ rfl; (with_reducible repeat (first | refine blk_drewN ?_ _ | refine blk_drew ?_ | refine blk_alloc ?_ _)); exact BK700.out) hb); replace HB := a_ (below_step (bl_ HB) hb); (try clear hb); (try clear hb2); (try clear hk); (try clear hi)))
     go_meet
     case rel => exact ⟨_, (true), rl_, H', ⟨by have := HJ3.out; first | omega | exact Nat.le_refl _⟩, ⟨rp_ HO695⟩, ⟨rp_ HO698⟩, ⟨bk_ BK688⟩, ⟨bk_ BK700⟩, ⟨bl_ HB⟩⟩
    subst c22
    rw [if_pos (by trivial)] at H
    replace H := Option.bind_eq_some_iff.mp H
    obtain ⟨t702, A230, H⟩ := H
    replace H : (if t702 = true then (if a2_3 = true then (lFn.j1 kj3 a0 a1 true a2_0 a2_1 a2_2 a2_3 t690 t691 t692 t693 t696) else (if a2_0 > 1073741824 then (lFn.j1 kj3 a0 a1 true a2_0 a2_1 a2_2 a2_3 t690 t691 t692 t693 t696) else (if a2_0 < 0 then (lFn.j1 kj3 a0 a1 true a2_0 a2_1 a2_2 a2_3 t690 t691 t692 t693 t696) else (if (a0.size : Int) > 1024 then (lFn.j1 kj3 a0 a1 true a2_0 a2_1 a2_2 a2_3 t690 t691 t692 t693 t696) else ((sUt.f kj3 a0).bind fun t703 => (lFn.j1 kj3 a0 a1 (!t703) a2_0 a2_1 a2_2 a2_3 t690 t691 t692 t693 t696)))))) else (lFn.j1 kj3 a0 a1 true a2_0 a2_1 a2_2 a2_3 t690 t691 t692 t693 t696)) = some r := H
    have A23 := a_ A230
    clear A230
    by_cases c24 : t702 = true
    rotate_left
    ·
     replace c24 := Bool.eq_false_iff.mpr c24
     subst c24
     rw [if_neg (show ¬ (false = true) by decide)] at H
     have H' := a_ H
     clear H
     have hnb60 := NB700_688.out
     have hnc60 := NB688_700.out
     have hcz61_0 := bc_ BK700 0 (.int .i64 0)
     have hcz61_1 := bc_ BK700 1 (.int .i64 0)
     have hcz61_2 := bc_ BK700 2 (.int .i64 0)
     have hcz61_3 := bc_ BK700 3 (.slice none 0 0)
     have hcz61_4 := bc_ BK700 4 (.slice none 0 0)
     have hfz61_0 := blk_frozen BK700.out 0
     have hfz61_1 := blk_frozen BK700.out 1
     have hfz61_2 := blk_frozen BK700.out 2
     have hfz61_3 := blk_frozen BK700.out 3
     have hfz61_4 := blk_frozen BK700.out 4
     go_wp2_with (first | (go_at_call 6; (with_reducible refine (lFa.calls kj3 t690 t691 t692 _ _ t693 _ _ t696 true _ ?side1 ?side2 ?side3 ?side4 A21.out).mono ?_); (case side1 => refine (Kd.R_reads' (e := 54) (base := w.heap.size) (ok := fun k_ => True) (n := t693.length) (c := co18) ?_).2.2; exact (by (with_reducible repeat (first | apply Kd.R_alloc | apply Kd.R_drewN | apply Kd.R_drew)); exact (Kd.R_mono (Kd.R_far (p := ⟨gb700, 4, none⟩) (Kd.R_far (p := ⟨gb700, 3, none⟩) (Kd.R_far (p := ⟨gb700, 2, none⟩) (Kd.R_far (p := ⟨gb700, 1, none⟩) (Kd.R_far (p := ⟨gb700, 0, none⟩) (Kd.R_types HO695.out BK700.out (by decide)) (fun _ hk => hk.2) (.int .i64 t690)) (fun _ hk => hk.2) (.int .i64 t691)) (fun _ hk => hk.2) (.int .i64 t692)) (fun _ hk => hk.2) (.slice Ao18 t693.length co18)) (fun _ hk => hk.2) (.slice Ao19 t696.length co19)) (fun _ h_ => h_.1)))); (case side2 => exact (Kd.R_reads' HO695.out).2.1); (case side3 => refine (Kd.R_reads' (e := 28) (base := w.heap.size) (ok := fun k_ => (some k_ ≠ (.slice Ao18 t693.length co18 : Value).ownBlock ∧ k_ ≠ gb700)) (n := t696.length) (c := co19) ?_).2.2; exact (by (with_reducible repeat (first | apply Kd.R_alloc | apply Kd.R_drewN | apply Kd.R_drew)); exact (Kd.R_mono (Kd.R_far (p := ⟨gb700, 4, none⟩) (Kd.R_far (p := ⟨gb700, 3, none⟩) (Kd.R_far (p := ⟨gb700, 2, none⟩) (Kd.R_far (p := ⟨gb700, 1, none⟩) (Kd.R_far (p := ⟨gb700, 0, none⟩) (Kd.R_mono HO698.out (fun k_ hk => (⟨hk, hk.2⟩ : _ ∧ k_ ≠ gb700))) (fun _ hk => hk.2) (.int .i64 t690)) (fun _ hk => hk.2) (.int .i64 t691)) (fun _ hk => hk.2) (.int .i64 t692)) (fun _ hk => hk.2) (.slice Ao18 t693.length co18)) (fun _ hk => hk.2) (.slice Ao19 t696.length co19)) (fun _ h_ => h_.1)))); (case side4 => exact (Kd.R_reads' HO698.out).2.1); rintro e w62 ⟨rfl, hb⟩; replace HO695 := a_ (Kd.R_below (by (with_reducible repeat (first | apply Kd.R_alloc | apply Kd.R_drewN | apply Kd.R_drew)); exact (Kd.R_mono (Kd.R_far (p := ⟨gb700, 4, none⟩) (Kd.R_far (p := ⟨gb700, 3, none⟩) (Kd.R_far (p := ⟨gb700, 2, none⟩) (Kd.R_far (p := ⟨gb700, 1, none⟩) (Kd.R_far (p := ⟨gb700, 0, none⟩) (Kd.R_types HO695.out BK700.out (by decide)) (fun _ hk => hk.2) (.int .i64 t690)) (fun _ hk => hk.2) (.int .i64 t691)) (fun _ hk => hk.2) (.int .i64 t692)) (fun _ hk => hk.2) (.slice Ao18 t693.length co18)) (fun _ hk => hk.2) (.slice Ao19 t696.length co19)) (fun _ h_ => h_.1))) hb); replace HO698 := a_ (Kd.R_below (by (with_reducible repeat (first | apply Kd.R_alloc | apply Kd.R_drewN | apply Kd.R_drew)); exact (Kd.R_mono (Kd.R_far (p := ⟨gb700, 4, none⟩) (Kd.R_far (p := ⟨gb700, 3, none⟩) (Kd.R_far (p := ⟨gb700, 2, none⟩) (Kd.R_far (p := ⟨gb700, 1, none⟩) (Kd.R_far (p := ⟨gb700, 0, none⟩) (Kd.R_mono HO698.out (fun k_ hk => (⟨hk, hk.2⟩ : _ ∧ k_ ≠ gb700))) (fun _ hk => hk.2) (.int .i64 t690)) (fun _ hk => hk.2) (.int .i64 t691)) (fun _ hk => hk.2) (.int .i64 t692)) (fun _ hk => hk.2) (.slice Ao18 t693.length co18)) (fun _ hk => hk.2) (.slice Ao19 t696.length co19)) (fun _ h_ => h_.1))) hb); replace BK688 := a_ (blk_below (g := gb688) (o := .cells #[.int .i64 a2_0, .string a2_1, .string a2_2, .bool a2_3] 23 (0, 0)) (by (with_reducible repeat (first | refine blk_drewN ?_ _ | refine blk_drew ?_ | refine blk_alloc ?_ _)); refine blk_far ?_ NB688_700.out _; (with_reducible repeat (first | refine blk_drewN ?_ _ | refine blk_drew ?_ | refine blk_alloc ?_ _)); refine blk_far ?_ NB688_700.out _; (with_reducible repeat (first | refine blk_drewN ?_ _ | refine blk_drew ?_ | refine blk_alloc ?_ _)); refine blk_far ?_ NB688_700.out _; (with_reducible repeat (first | refine blk_drewN ?_ _ | refine blk_drew ?_ | refine blk_alloc ?_ _)); refine blk_far ?_ NB688_700.out _; (with_reducible repeat (first | refine blk_drewN ?_ _ | refine blk_drew ?_ | refine blk_alloc ?_ _)); refine blk_far ?_ NB688_700.out _; (with_reducible repeat (first | refine blk_drewN ?_ _ | refine blk_drew ?_ | refine blk_alloc ?_ _)); exact BK688.out) hb); replace BK700 := a_ (blk_below (g := gb700) (o := .cells #[.int .i64 t690, .int .i64 t691, .int .i64 t692, .slice Ao18 t693.length co18, .slice Ao19 t696.length co19] 28 (0, 0)) (by (with_reducible repeat (first | refine blk_drewN ?_ _ | refine blk_drew ?_ | refine blk_alloc ?_ _)); refine blk_put (cs := #[.int .i64 t690, .int .i64 t691, .int .i64 t692, .slice Ao18 t693.length co18, .slice none 0 0]) ?_ 4 _ rfl; (with_reducible repeat (first | refine blk_drewN ?_ _ | refine blk_drew ?_ | refine blk_alloc ?_ _)); refine blk_put (cs := #[.int .i64 t690, .int .i64 t691, .int .i64 t692, .slice none 0 0, .slice none 0 0]) ?_ 3 _ rfl; (with_reducible repeat (first | refine blk_drewN ?_ _ | refine blk_drew ?_ | refine blk_alloc ?_ _)); refine blk_put (cs := #[.int .i64 t690, .int .i64 t691, .int .i64 0, .slice none 0 0, .slice none 0 0]) ?_ 2 _ rfl; (with_reducible repeat (first | refine blk_drewN ?_ _ | refine blk_drew ?_ | refine blk_alloc ?_ _)); refine blk_put (cs := #[.int .i64 t690, .int .i64 0, .int .i64 0, .slice none 0 0, .slice none 0 0]) ?_ 1 _ rfl; (with_reducible repeat (first | refine blk_drewN ?_ _ | refine blk_drew ?_ | refine blk_alloc ?_ _)); refine blk_put (cs := #[.int .i64 0, .int .i64 0, .int .i64 0, .slice none 0 0, .slice none 0 0]) ?_ 0 _ rfl; (with_reducible repeat (first | refine blk_drewN ?_ _ | refine blk_drew ?_ | refine blk_alloc ?_ _)); exact BK700.out) hb); replace HB := a_ (below_step (bl_ HB) hb); (try clear hb); (try clear hb2); (try clear hk); (try clear hi); obtain ⟨hcz63_0, hcz63_1, hcz63_2, hcz63_3, hfz63_0, hfz63_1, hfz63_2, hfz63_3⟩ := b4_ BK688) | (go_at_call 7; (with_reducible refine (lBl.calls kj3 a2_0 a2_1 a2_2 a2_3 false _ A23.out).mono ?_); rintro e w64 ⟨rfl, hb⟩; replace HO695 := a_ (Kd.R_below (rp_ HO695) hb); replace HO698 := a_ (Kd.R_below (rp_ HO698) hb); replace BK688 := a_ (blk_below (g := gb688) (o := .cells #[.int .i64 a2_0, .string a2_1, .string a2_2, .bool a2_3] 23 (0, 0)) (bk_ BK688) hb); replace BK700 := a_ (blk_below (g := gb700) (o := .cells #[.int .i64 t690, .int .i64 t691, .int .i64 t692, .slice Ao18 t693.length co18, .slice Ao19 t696.length co19] 28 (0, 0)) (bk_ BK700) hb); replace HB := a_ (below_step (bl_ HB) hb); (try clear hb); (try clear hb2); (try clear hk); (try clear hi)))
     go_meet
     case rel => exact ⟨_, (true), rl_, H', ⟨by have := HJ3.out; first | omega | exact Nat.le_refl _⟩, ⟨rp_ HO695⟩, ⟨rp_ HO698⟩, ⟨bk_ BK688⟩, ⟨bk_ BK700⟩, ⟨bl_ HB⟩⟩
    subst c24
    rw [if_pos (by trivial)] at H
    by_cases c25 : a2_3 = true
    ·
     subst c25
     rw [if_pos (by trivial)] at H
     have H' := a_ H
     clear H
     have hnb26 := NB700_688.out
     have hnc26 := NB688_700.out
     have hcz27_0 := bc_ BK700 0 (.int .i64 0)
     have hcz27_1 := bc_ BK700 1 (.int .i64 0)
     have hcz27_2 := bc_ BK700 2 (.int .i64 0)
     have hcz27_3 := bc_ BK700 3 (.slice none 0 0)
     have hcz27_4 := bc_ BK700 4 (.slice none 0 0)
     have hfz27_0 := blk_frozen BK700.out 0
     have hfz27_1 := blk_frozen BK700.out 1
     have hfz27_2 := blk_frozen BK700.out 2
     have hfz27_3 := blk_frozen BK700.out 3
     have hfz27_4 := blk_frozen BK700.out 4
     go_wp2_with (first | (go_at_call 6; (with_reducible refine (lFa.calls kj3 t690 t691 t692 _ _ t693 _ _ t696 true _ ?side1 ?side2 ?side3 ?side4 A21.out).mono ?_); (case side1 => refine (Kd.R_reads' (e := 54) (base := w.heap.size) (ok := fun k_ => True) (n := t693.length) (c := co18) ?_).2.2; exact (by (with_reducible repeat (first | apply Kd.R_alloc | apply Kd.R_drewN | apply Kd.R_drew)); exact (Kd.R_mono (Kd.R_far (p := ⟨gb700, 4, none⟩) (Kd.R_far (p := ⟨gb700, 3, none⟩) (Kd.R_far (p := ⟨gb700, 2, none⟩) (Kd.R_far (p := ⟨gb700, 1, none⟩) (Kd.R_far (p := ⟨gb700, 0, none⟩) (Kd.R_types HO695.out BK700.out (by decide)) (fun _ hk => hk.2) (.int .i64 t690)) (fun _ hk => hk.2) (.int .i64 t691)) (fun _ hk => hk.2) (.int .i64 t692)) (fun _ hk => hk.2) (.slice Ao18 t693.length co18)) (fun _ hk => hk.2) (.slice Ao19 t696.length co19)) (fun _ h_ => h_.1)))); (case side2 => exact (Kd.R_reads' HO695.out).2.1); (case side3 => refine (Kd.R_reads' (e := 28) (base := w.heap.size) (ok := fun k_ => (some k_ ≠ (.slice Ao18 t693.length co18 : Value).ownBlock ∧ k_ ≠ gb700)) (n := t696.length) (c := co19) ?_).2.2; exact (by (with_reducible repeat (first | apply Kd.R_alloc | apply Kd.R_drewN | apply Kd.R_drew)); exact (Kd.R_mono (Kd.R_far (p := ⟨gb700, 4, none⟩) (Kd.R_far (p := ⟨gb700, 3, none⟩) (Kd.R_far (p := ⟨gb700, 2, none⟩) (Kd.R_far (p := ⟨gb700, 1, none⟩) (Kd.R_far (p := ⟨gb700, 0, none⟩) (Kd.R_mono HO698.out (fun k_ hk => (⟨hk, hk.2⟩ : _ ∧ k_ ≠ gb700))) (fun _ hk => hk.2) (.int .i64 t690)) (fun _ hk => hk.2) (.int .i64 t691)) (fun _ hk => hk.2) (.int .i64 t692)) (fun _ hk => hk.2) (.slice Ao18 t693.length co18)) (fun _ hk => hk.2) (.slice Ao19 t696.length co19)) (fun _ h_ => h_.1)))); (case side4 => exact (Kd.R_reads' HO698.out).2.1); rintro e w28 ⟨rfl, hb⟩; replace HO695 := a_ (Kd.R_below (by (with_reducible repeat (first | apply Kd.R_alloc | apply Kd.R_drewN | apply Kd.R_drew)); exact (Kd.R_mono (Kd.R_far (p := ⟨gb700, 4, none⟩) (Kd.R_far (p := ⟨gb700, 3, none⟩) (Kd.R_far (p := ⟨gb700, 2, none⟩) (Kd.R_far (p := ⟨gb700, 1, none⟩) (Kd.R_far (p := ⟨gb700, 0, none⟩) (Kd.R_types HO695.out BK700.out (by decide)) (fun _ hk => hk.2) (.int .i64 t690)) (fun _ hk => hk.2) (.int .i64 t691)) (fun _ hk => hk.2) (.int .i64 t692)) (fun _ hk => hk.2) (.slice Ao18 t693.length co18)) (fun _ hk => hk.2) (.slice Ao19 t696.length co19)) (fun _ h_ => h_.1))) hb); replace HO698 := a_ (Kd.R_below (by (with_reducible repeat (first | apply Kd.R_alloc | apply Kd.R_drewN | apply Kd.R_drew)); exact (Kd.R_mono (Kd.R_far (p := ⟨gb700, 4, none⟩) (Kd.R_far (p := ⟨gb700, 3, none⟩) (Kd.R_far (p := ⟨gb700, 2, none⟩) (Kd.R_far (p := ⟨gb700, 1, none⟩) (Kd.R_far (p := ⟨gb700, 0, none⟩) (Kd.R_mono HO698.out (fun k_ hk => (⟨hk, hk.2⟩ : _ ∧ k_ ≠ gb700))) (fun _ hk => hk.2) (.int .i64 t690)) (fun _ hk => hk.2) (.int .i64 t691)) (fun _ hk => hk.2) (.int .i64 t692)) (fun _ hk => hk.2) (.slice Ao18 t693.length co18)) (fun _ hk => hk.2) (.slice Ao19 t696.length co19)) (fun _ h_ => h_.1))) hb); replace BK688 := a_ (blk_below (g := gb688) (o := .cells #[.int .i64 a2_0, .string a2_1, .string a2_2, .bool true] 23 (0, 0)) (by (with_reducible repeat (first | refine blk_drewN ?_ _ | refine blk_drew ?_ | refine blk_alloc ?_ _)); refine blk_far ?_ NB688_700.out _; (with_reducible repeat (first | refine blk_drewN ?_ _ | refine blk_drew ?_ | refine blk_alloc ?_ _)); refine blk_far ?_ NB688_700.out _; (with_reducible repeat (first | refine blk_drewN ?_ _ | refine blk_drew ?_ | refine blk_alloc ?_ _)); refine blk_far ?_ NB688_700.out _; (with_reducible repeat (first | refine blk_drewN ?_ _ | refine blk_drew ?_ | refine blk_alloc ?_ _)); refine blk_far ?_ NB688_700.out _; (with_reducible repeat (first | refine blk_drewN ?_ _ | refine blk_drew ?_ | refine blk_alloc ?_ _)); refine blk_far ?_ NB688_700.out _; (with_reducible repeat (first | refine blk_drewN ?_ _ | refine blk_drew ?_ | refine blk_alloc ?_ _)); exact BK688.out) hb); replace BK700 := a_ (blk_below (g := gb700) (o := .cells #[.int .i64 t690, .int .i64 t691, .int .i64 t692, .slice Ao18 t693.length co18, .slice Ao19 t696.length co19] 28 (0, 0)) (by (with_reducible repeat (first | refine blk_drewN ?_ _ | refine blk_drew ?_ | refine blk_alloc ?_ _)); refine blk_put (cs := #[.int .i64 t690, .int .i64 t691, .int .i64 t692, .slice Ao18 t693.length co18, .slice none 0 0]) ?_ 4 _ rfl; (with_reducible repeat (first | refine blk_drewN ?_ _ | refine blk_drew ?_ | refine blk_alloc ?_ _)); refine blk_put (cs := #[.int .i64 t690, .int .i64 t691, .int .i64 t692, .slice none 0 0, .slice none 0 0]) ?_ 3 _ rfl; (with_reducible repeat (first | refine blk_drewN ?_ _ | refine blk_drew ?_ | refine blk_alloc ?_ _)); refine blk_put (cs := #[.int .i64 t690, .int .i64 t691, .int .i64 0, .slice none 0 0, .slice none 0 0]) ?_ 2 _ rfl; (with_reducible repeat (first | refine blk_drewN ?_ _ | refine blk_drew ?_ | refine blk_alloc ?_ _)); refine blk_put (cs := #[.int .i64 t690, .int .i64 0, .int .i64 0, .slice none 0 0, .slice none 0 0]) ?_ 1 _ rfl; (with_reducible repeat (first | refine blk_drewN ?_ _ | refine blk_drew ?_ | refine blk_alloc ?_ _)); refine blk_put (cs := #[.int .i64 0, .int .i64 0, .int .i64 0, .slice none 0 0, .slice none 0 0]) ?_ 0 _ rfl; (with_reducible repeat (first | refine blk_drewN ?_ _ | refine blk_drew ?_ | refine blk_alloc ?_ _)); exact BK700.out) hb); replace HB := a_ (below_step (bl_ HB) hb); (try clear hb); (try clear hb2); (try clear hk); (try clear hi); obtain ⟨hcz29_0, hcz29_1, hcz29_2, hcz29_3, hfz29_0, hfz29_1, hfz29_2, hfz29_3⟩ := b4_ BK688) | (go_at_call 7; (with_reducible refine (lBl.calls kj3 a2_0 a2_1 a2_2 true true _ A23.out).mono ?_); rintro e w30 ⟨rfl, hb⟩; replace HO695 := a_ (Kd.R_below (rp_ HO695) hb); replace HO698 := a_ (Kd.R_below (rp_ HO698) hb); replace BK688 := a_ (blk_below (g := gb688) (o := .cells #[.int .i64 a2_0, .string a2_1, .string a2_2, .bool true] 23 (0, 0)) (bk_ BK688) hb); replace BK700 := a_ (blk_below (g := gb700) (o := .cells #[.int .i64 t690, .int .i64 t691, .int .i64 t692, .slice Ao18 t693.length co18, .slice Ao19 t696.length co19] 28 (0, 0)) (bk_ BK700) hb); replace HB := a_ (below_step (bl_ HB) hb); (try clear hb); (try clear hb2); (try clear hk); (try clear hi); obtain ⟨hcz31_0, hcz31_1, hcz31_2, hcz31_3, hfz31_0, hfz31_1, hfz31_2, hfz31_3⟩ := b4_ BK688))
     go_meet
     case rel => exact ⟨_, (true), rl_, H', ⟨by have := HJ3.out; first | omega | exact Nat.le_refl _⟩, ⟨rp_ HO695⟩, ⟨rp_ HO698⟩, ⟨bk_ BK688⟩, ⟨bk_ BK700⟩, ⟨bl_ HB⟩⟩
    replace c25 := Bool.eq_false_iff.mpr c25
    subst c25
    rw [if_neg (show ¬ (false = true) by decide)] at H
    by_cases c32 : a2_0 > 1073741824
    ·
     rw [if_pos c32] at H
     have c32b0 : decide (1073741824 < a2_0) = true := decide_eq_true c32
     clear c32
     (first | rw [c32b0] | (simp only [i64_w, i32_w]; rw [c32b0]) | skip)
     have H' := a_ H
     clear H
     have hnb33 := NB700_688.out
     have hnc33 := NB688_700.out
     have hcz34_0 := bc_ BK700 0 (.int .i64 0)
     have hcz34_1 := bc_ BK700 1 (.int .i64 0)
     have hcz34_2 := bc_ BK700 2 (.int .i64 0)
     have hcz34_3 := bc_ BK700 3 (.slice none 0 0)
     have hcz34_4 := bc_ BK700 4 (.slice none 0 0)
     have hfz34_0 := blk_frozen BK700.out 0
     have hfz34_1 := blk_frozen BK700.out 1
     have hfz34_2 := blk_frozen BK700.out 2
     have hfz34_3 := blk_frozen BK700.out 3
     have hfz34_4 := blk_frozen BK700.out 4
     go_wp2_with (first | (go_at_call 6; (with_reducible refine (lFa.calls kj3 t690 t691 t692 _ _ t693 _ _ t696 true _ ?side1 ?side2 ?side3 ?side4 A21.out).mono ?_); (case side1 => refine (Kd.R_reads' (e := 54) (base := w.heap.size) (ok := fun k_ => True) (n := t693.length) (c := co18) ?_).2.2; exact (by (with_reducible repeat (first | apply Kd.R_alloc | apply Kd.R_drewN | apply Kd.R_drew)); exact (Kd.R_mono (Kd.R_far (p := ⟨gb700, 4, none⟩) (Kd.R_far (p := ⟨gb700, 3, none⟩) (Kd.R_far (p := ⟨gb700, 2, none⟩) (Kd.R_far (p := ⟨gb700, 1, none⟩) (Kd.R_far (p := ⟨gb700, 0, none⟩) (Kd.R_types HO695.out BK700.out (by decide)) (fun _ hk => hk.2) (.int .i64 t690)) (fun _ hk => hk.2) (.int .i64 t691)) (fun _ hk => hk.2) (.int .i64 t692)) (fun _ hk => hk.2) (.slice Ao18 t693.length co18)) (fun _ hk => hk.2) (.slice Ao19 t696.length co19)) (fun _ h_ => h_.1)))); (case side2 => exact (Kd.R_reads' HO695.out).2.1); (case side3 => refine (Kd.R_reads' (e := 28) (base := w.heap.size) (ok := fun k_ => (some k_ ≠ (.slice Ao18 t693.length co18 : Value).ownBlock ∧ k_ ≠ gb700)) (n := t696.length) (c := co19) ?_).2.2; exact (by (with_reducible repeat (first | apply Kd.R_alloc | apply Kd.R_drewN | apply Kd.R_drew)); exact (Kd.R_mono (Kd.R_far (p := ⟨gb700, 4, none⟩) (Kd.R_far (p := ⟨gb700, 3, none⟩) (Kd.R_far (p := ⟨gb700, 2, none⟩) (Kd.R_far (p := ⟨gb700, 1, none⟩) (Kd.R_far (p := ⟨gb700, 0, none⟩) (Kd.R_mono HO698.out (fun k_ hk => (⟨hk, hk.2⟩ : _ ∧ k_ ≠ gb700))) (fun _ hk => hk.2) (.int .i64 t690)) (fun _ hk => hk.2) (.int .i64 t691)) (fun _ hk => hk.2) (.int .i64 t692)) (fun _ hk => hk.2) (.slice Ao18 t693.length co18)) (fun _ hk => hk.2) (.slice Ao19 t696.length co19)) (fun _ h_ => h_.1)))); (case side4 => exact (Kd.R_reads' HO698.out).2.1); rintro e w35 ⟨rfl, hb⟩; replace HO695 := a_ (Kd.R_below (by (with_reducible repeat (first | apply Kd.R_alloc | apply Kd.R_drewN | apply Kd.R_drew)); exact (Kd.R_mono (Kd.R_far (p := ⟨gb700, 4, none⟩) (Kd.R_far (p := ⟨gb700, 3, none⟩) (Kd.R_far (p := ⟨gb700, 2, none⟩) (Kd.R_far (p := ⟨gb700, 1, none⟩) (Kd.R_far (p := ⟨gb700, 0, none⟩) (Kd.R_types HO695.out BK700.out (by decide)) (fun _ hk => hk.2) (.int .i64 t690)) (fun _ hk => hk.2) (.int .i64 t691)) (fun _ hk => hk.2) (.int .i64 t692)) (fun _ hk => hk.2) (.slice Ao18 t693.length co18)) (fun _ hk => hk.2) (.slice Ao19 t696.length co19)) (fun _ h_ => h_.1))) hb); replace HO698 := a_ (Kd.R_below (by (with_reducible repeat (first | apply Kd.R_alloc | apply Kd.R_drewN | apply Kd.R_drew)); exact (Kd.R_mono (Kd.R_far (p := ⟨gb700, 4, none⟩) (Kd.R_far (p := ⟨gb700, 3, none⟩) (Kd.R_far (p := ⟨gb700, 2, none⟩) (Kd.R_far (p := ⟨gb700, 1, none⟩) (Kd.R_far (p := ⟨gb700, 0, none⟩) (Kd.R_mono HO698.out (fun k_ hk => (⟨hk, hk.2⟩ : _ ∧ k_ ≠ gb700))) (fun _ hk => hk.2) (.int .i64 t690)) (fun _ hk => hk.2) (.int .i64 t691)) (fun _ hk => hk.2) (.int .i64 t692)) (fun _ hk => hk.2) (.slice Ao18 t693.length co18)) (fun _ hk => hk.2) (.slice Ao19 t696.length co19)) (fun _ h_ => h_.1))) hb); replace BK688 := a_ (blk_below (g := gb688) (o := .cells #[.int .i64 a2_0, .string a2_1, .string a2_2, .bool false] 23 (0, 0)) (by (with_reducible repeat (first | refine blk_drewN ?_ _ | refine blk_drew ?_ | refine blk_alloc ?_ _)); refine blk_far ?_ NB688_700.out _; (with_reducible repeat (first | refine blk_drewN ?_ _ | refine blk_drew ?_ | refine blk_alloc ?_ _)); refine blk_far ?_ NB688_700.out _; (with_reducible repeat (first | refine blk_drewN ?_ _ | refine blk_drew ?_ | refine blk_alloc ?_ _)); refine blk_far ?_ NB688_700.out _; (with_reducible repeat (first | refine blk_drewN ?_ _ | refine blk_drew ?_ | refine blk_alloc ?_ _)); refine blk_far ?_ NB688_700.out _; (with_reducible repeat (first | refine blk_drewN ?_ _ | refine blk_drew ?_ | refine blk_alloc ?_ _)); refine blk_far ?_ NB688_700.out _; (with_reducible repeat (first | refine blk_drewN ?_ _ | refine blk_drew ?_ | refine blk_alloc ?_ _)); exact BK688.out) hb); replace BK700 := a_ (blk_below (g := gb700) (o := .cells #[.int .i64 t690, .int .i64 t691, .int .i64 t692, .slice Ao18 t693.length co18, .slice Ao19 t696.length co19] 28 (0, 0)) (by (with_reducible repeat (first | refine blk_drewN ?_ _ | refine blk_drew ?_ | refine blk_alloc ?_ _)); refine blk_put (cs := #[.int .i64 t690, .int .i64 t691, .int .i64 t692, .slice Ao18 t693.length co18, .slice none 0 0]) ?_ 4 _ rfl; (with_reducible repeat (first | refine blk_drewN ?_ _ | refine blk_drew ?_ | refine blk_alloc ?_ _)); refine blk_put (cs := #[.int .i64 t690, .int .i64 t691, .int .i64 t692, .slice none 0 0, .slice none 0 0]) ?_ 3 _ rfl; (with_reducible repeat (first | refine blk_drewN ?_ _ | refine blk_drew ?_ | refine blk_alloc ?_ _)); refine blk_put (cs := #[.int .i64 t690, .int .i64 t691, .int .i64 0, .slice none 0 0, .slice none 0 0]) ?_ 2 _ rfl; (with_reducible repeat (first | refine blk_drewN ?_ _ | refine blk_drew ?_ | refine blk_alloc ?_ _)); refine blk_put (cs := #[.int .i64 t690, .int .i64 0, .int .i64 0, .slice none 0 0, .slice none 0 0]) ?_ 1 _ rfl; (with_reducible repeat (first | refine blk_drewN ?_ _ | refine blk_drew ?_ | refine blk_alloc ?_ _)); refine blk_put (cs := #[.int .i64 0, .int .i64 0, .int .i64 0, .slice none 0 0, .slice none 0 0]) ?_ 0 _ rfl; (with_reducible repeat (first | refine blk_drewN ?_ _ | refine blk_drew ?_ | refine blk_alloc ?_ _)); exact BK700.out) hb); replace HB := a_ (below_step (bl_ HB) hb); (try clear hb); (try clear hb2); (try clear hk); (try clear hi); obtain ⟨hcz36_0, hcz36_1, hcz36_2, hcz36_3, hfz36_0, hfz36_1, hfz36_2, hfz36_3⟩ := b4_ BK688) | (go_at_call 7; (with_reducible refine (lBl.calls kj3 a2_0 a2_1 a2_2 false true _ A23.out).mono ?_); rintro e w37 ⟨rfl, hb⟩; replace HO695 := a_ (Kd.R_below (rp_ HO695) hb); replace HO698 := a_ (Kd.R_below (rp_ HO698) hb); replace BK688 := a_ (blk_below (g := gb688) (o := .cells #[.int .i64 a2_0, .string a2_1, .string a2_2, .bool false] 23 (0, 0)) (bk_ BK688) hb); replace BK700 := a_ (blk_below (g := gb700) (o := .cells #[.int .i64 t690, .int .i64 t691, .int .i64 t692, .slice Ao18 t693.length co18, .slice Ao19 t696.length co19] 28 (0, 0)) (bk_ BK700) hb); replace HB := a_ (below_step (bl_ HB) hb); (try clear hb); (try clear hb2); (try clear hk); (try clear hi); obtain ⟨hcz38_0, hcz38_1, hcz38_2, hcz38_3, hfz38_0, hfz38_1, hfz38_2, hfz38_3⟩ := b4_ BK688))
     go_meet
     case rel => exact ⟨_, (true), rl_, H', ⟨by have := HJ3.out; first | omega | exact Nat.le_refl _⟩, ⟨rp_ HO695⟩, ⟨rp_ HO698⟩, ⟨bk_ BK688⟩, ⟨bk_ BK700⟩, ⟨bl_ HB⟩⟩
    rw [if_neg c32] at H
    have c32b0 : decide (1073741824 < a2_0) = false := decide_eq_false c32
    clear c32
    (first | rw [c32b0] | (simp only [i64_w, i32_w]; rw [c32b0]) | skip)
    by_cases c39 : a2_0 < 0
    ·
     rw [if_pos c39] at H
     have c39b0 : decide (a2_0 < 0) = true := decide_eq_true c39
     clear c39
     have H' := a_ H
     clear H
     have hnb40 := NB700_688.out
     have hnc40 := NB688_700.out
     have hcz41_0 := bc_ BK700 0 (.int .i64 0)
     have hcz41_1 := bc_ BK700 1 (.int .i64 0)
     have hcz41_2 := bc_ BK700 2 (.int .i64 0)
     have hcz41_3 := bc_ BK700 3 (.slice none 0 0)
     have hcz41_4 := bc_ BK700 4 (.slice none 0 0)
     have hfz41_0 := blk_frozen BK700.out 0
     have hfz41_1 := blk_frozen BK700.out 1
     have hfz41_2 := blk_frozen BK700.out 2
     have hfz41_3 := blk_frozen BK700.out 3
     have hfz41_4 := blk_frozen BK700.out 4
     go_wp2_with (first | (go_at_call 6; (with_reducible refine (lFa.calls kj3 t690 t691 t692 _ _ t693 _ _ t696 true _ ?side1 ?side2 ?side3 ?side4 A21.out).mono ?_); (case side1 => refine (Kd.R_reads' (e := 54) (base := w.heap.size) (ok := fun k_ => True) (n := t693.length) (c := co18) ?_).2.2; exact (by (with_reducible repeat (first | apply Kd.R_alloc | apply Kd.R_drewN | apply Kd.R_drew)); exact (Kd.R_mono (Kd.R_far (p := ⟨gb700, 4, none⟩) (Kd.R_far (p := ⟨gb700, 3, none⟩) (Kd.R_far (p := ⟨gb700, 2, none⟩) (Kd.R_far (p := ⟨gb700, 1, none⟩) (Kd.R_far (p := ⟨gb700, 0, none⟩) (Kd.R_types HO695.out BK700.out (by decide)) (fun _ hk => hk.2) (.int .i64 t690)) (fun _ hk => hk.2) (.int .i64 t691)) (fun _ hk => hk.2) (.int .i64 t692)) (fun _ hk => hk.2) (.slice Ao18 t693.length co18)) (fun _ hk => hk.2) (.slice Ao19 t696.length co19)) (fun _ h_ => h_.1)))); (case side2 => exact (Kd.R_reads' HO695.out).2.1); (case side3 => refine (Kd.R_reads' (e := 28) (base := w.heap.size) (ok := fun k_ => (some k_ ≠ (.slice Ao18 t693.length co18 : Value).ownBlock ∧ k_ ≠ gb700)) (n := t696.length) (c := co19) ?_).2.2; exact (by (with_reducible repeat (first | apply Kd.R_alloc | apply Kd.R_drewN | apply Kd.R_drew)); exact (Kd.R_mono (Kd.R_far (p := ⟨gb700, 4, none⟩) (Kd.R_far (p := ⟨gb700, 3, none⟩) (Kd.R_far (p := ⟨gb700, 2, none⟩) (Kd.R_far (p := ⟨gb700, 1, none⟩) (Kd.R_far (p := ⟨gb700, 0, none⟩) (Kd.R_mono HO698.out (fun k_ hk => (⟨hk, hk.2⟩ : _ ∧ k_ ≠ gb700))) (fun _ hk => hk.2) (.int .i64 t690)) (fun _ hk => hk.2) (.int .i64 t691)) (fun _ hk => hk.2) (.int .i64 t692)) (fun _ hk => hk.2) (.slice Ao18 t693.length co18)) (fun _ hk => hk.2) (.slice Ao19 t696.length co19)) (fun _ h_ => h_.1)))); (case side4 => exact (Kd.R_reads' HO698.out).2.1); rintro e w42 ⟨rfl, hb⟩; replace HO695 := a_ (Kd.R_below (by (with_reducible repeat (first | apply Kd.R_alloc | apply Kd.R_drewN | apply Kd.R_drew)); exact (Kd.R_mono (Kd.R_far (p := ⟨gb700, 4, none⟩) (Kd.R_far (p := ⟨gb700, 3, none⟩) (Kd.R_far (p := ⟨gb700, 2, none⟩) (Kd.R_far (p := ⟨gb700, 1, none⟩) (Kd.R_far (p := ⟨gb700, 0, none⟩) (Kd.R_types HO695.out BK700.out (by decide)) (fun _ hk => hk.2) (.int .i64 t690)) (fun _ hk => hk.2) (.int .i64 t691)) (fun _ hk => hk.2) (.int .i64 t692)) (fun _ hk => hk.2) (.slice Ao18 t693.length co18)) (fun _ hk => hk.2) (.slice Ao19 t696.length co19)) (fun _ h_ => h_.1))) hb); replace HO698 := a_ (Kd.R_below (by (with_reducible repeat (first | apply Kd.R_alloc | apply Kd.R_drewN | apply Kd.R_drew)); exact (Kd.R_mono (Kd.R_far (p := ⟨gb700, 4, none⟩) (Kd.R_far (p := ⟨gb700, 3, none⟩) (Kd.R_far (p := ⟨gb700, 2, none⟩) (Kd.R_far (p := ⟨gb700, 1, none⟩) (Kd.R_far (p := ⟨gb700, 0, none⟩) (Kd.R_mono HO698.out (fun k_ hk => (⟨hk, hk.2⟩ : _ ∧ k_ ≠ gb700))) (fun _ hk => hk.2) (.int .i64 t690)) (fun _ hk => hk.2) (.int .i64 t691)) (fun _ hk => hk.2) (.int .i64 t692)) (fun _ hk => hk.2) (.slice Ao18 t693.length co18)) (fun _ hk => hk.2) (.slice Ao19 t696.length co19)) (fun _ h_ => h_.1))) hb); replace BK688 := a_ (blk_below (g := gb688) (o := .cells #[.int .i64 a2_0, .string a2_1, .string a2_2, .bool false] 23 (0, 0)) (by (with_reducible repeat (first | refine blk_drewN ?_ _ | refine blk_drew ?_ | refine blk_alloc ?_ _)); refine blk_far ?_ NB688_700.out _; (with_reducible repeat (first | refine blk_drewN ?_ _ | refine blk_drew ?_ | refine blk_alloc ?_ _)); refine blk_far ?_ NB688_700.out _; (with_reducible repeat (first | refine blk_drewN ?_ _ | refine blk_drew ?_ | refine blk_alloc ?_ _)); refine blk_far ?_ NB688_700.out _; (with_reducible repeat (first | refine blk_drewN ?_ _ | refine blk_drew ?_ | refine blk_alloc ?_ _)); refine blk_far ?_ NB688_700.out _; (with_reducible repeat (first | refine blk_drewN ?_ _ | refine blk_drew ?_ | refine blk_alloc ?_ _)); refine blk_far ?_ NB688_700.out _; (with_reducible repeat (first | refine blk_drewN ?_ _ | refine blk_drew ?_ | refine blk_alloc ?_ _)); exact BK688.out) hb); replace BK700 := a_ (blk_below (g := gb700) (o := .cells #[.int .i64 t690, .int .i64 t691, .int .i64 t692, .slice Ao18 t693.length co18, .slice Ao19 t696.length co19] 28 (0, 0)) (by (with_reducible repeat (first | refine blk_drewN ?_ _ | refine blk_drew ?_ | refine blk_alloc ?_ _)); refine blk_put (cs := #[.int .i64 t690, .int .i64 t691, .int .i64 t692, .slice Ao18 t693.length co18, .slice none 0 0]) ?_ 4 _ rfl; (with_reducible repeat (first | refine blk_drewN ?_ _ | refine blk_drew ?_ | refine blk_alloc ?_ _)); refine blk_put (cs := #[.int .i64 t690, .int .i64 t691, .int .i64 t692, .slice none 0 0, .slice none 0 0]) ?_ 3 _ rfl; (with_reducible repeat (first | refine blk_drewN ?_ _ | refine blk_drew ?_ | refine blk_alloc ?_ _)); refine blk_put (cs := #[.int .i64 t690, .int .i64 t691, .int .i64 0, .slice none 0 0, .slice none 0 0]) ?_ 2 _ rfl; (with_reducible repeat (first | refine blk_drewN ?_ _ | refine blk_drew ?_ | refine blk_alloc ?_ _)); refine blk_put (cs := #[.int .i64 t690, .int .i64 0, .int .i64 0, .slice none 0 0, .slice none 0 0]) ?_ 1 _ rfl; (with_reducible repeat (first | refine blk_drewN ?_ _ | refine blk_drew ?_ | refine blk_alloc ?_ _)); refine blk_put (cs := #[.int .i64 0, .int .i64 0, .int .i64 0, .slice none 0 0, .slice none 0 0]) ?_ 0 _ rfl; (with_reducible repeat (first | refine blk_drewN ?_ _ | refine blk_drew ?_ | refine blk_alloc ?_ _)); exact BK700.out) hb); replace HB := a_ (below_step (bl_ HB) hb); (try clear hb); (try clear hb2); (try clear hk); (try clear hi); obtain ⟨hcz43_0, hcz43_1, hcz43_2, hcz43_3, hfz43_0, hfz43_1, hfz43_2, hfz43_3⟩ := b4_ BK688) | (go_at_call 7; (with_reducible refine (lBl.calls kj3 a2_0 a2_1 a2_2 false true _ A23.out).mono ?_); rintro e w44 ⟨rfl, hb⟩; replace HO695 := a_ (Kd.R_below (rp_ HO695) hb); replace HO698 := a_ (Kd.R_below (rp_ HO698) hb); replace BK688 := a_ (blk_below (g := gb688) (o := .cells #[.int .i64 a2_0, .string a2_1, .string a2_2, .bool false] 23 (0, 0)) (bk_ BK688) hb); replace BK700 := a_ (blk_below (g := gb700) (o := .cells #[.int .i64 t690, .int .i64 t691, .int .i64 t692, .slice Ao18 t693.length co18, .slice Ao19 t696.length co19] 28 (0, 0)) (bk_ BK700) hb); replace HB := a_ (below_step (bl_ HB) hb); (try clear hb); (try clear hb2); (try clear hk); (try clear hi); obtain ⟨hcz45_0, hcz45_1, hcz45_2, hcz45_3, hfz45_0, hfz45_1, hfz45_2, hfz45_3⟩ := b4_ BK688))
     go_meet
     case rel => exact ⟨_, (true), rl_, H', ⟨by have := HJ3.out; first | omega | exact Nat.le_refl _⟩, ⟨rp_ HO695⟩, ⟨rp_ HO698⟩, ⟨bk_ BK688⟩, ⟨bk_ BK700⟩, ⟨bl_ HB⟩⟩
    rw [if_neg c39] at H
    have c39b0 : decide (a2_0 < 0) = false := decide_eq_false c39
    clear c39
    by_cases c46 : (a0.size : Int) > 1024
    ·
     rw [if_pos c46] at H
     have c46b0 : decide (1024 < (a0.size : Int)) = true := decide_eq_true c46
     have c46b1 : decide (1024 < a0.size) = true := decide_eq_true (by omega)
     clear c46
     have H' := a_ H
     clear H
     have hnb47 := NB700_688.out
     have hnc47 := NB688_700.out
     have hcz48_0 := bc_ BK700 0 (.int .i64 0)
     have hcz48_1 := bc_ BK700 1 (.int .i64 0)
     have hcz48_2 := bc_ BK700 2 (.int .i64 0)
     have hcz48_3 := bc_ BK700 3 (.slice none 0 0)
     have hcz48_4 := bc_ BK700 4 (.slice none 0 0)
     have hfz48_0 := blk_frozen BK700.out 0
     have hfz48_1 := blk_frozen BK700.out 1
     have hfz48_2 := blk_frozen BK700.out 2
     have hfz48_3 := blk_frozen BK700.out 3
     have hfz48_4 := blk_frozen BK700.out 4
     go_wp2_with (first | (go_at_call 6; (with_reducible refine (lFa.calls kj3 t690 t691 t692 _ _ t693 _ _ t696 true _ ?side1 ?side2 ?side3 ?side4 A21.out).mono ?_); (case side1 => refine (Kd.R_reads' (e := 54) (base := w.heap.size) (ok := fun k_ => True) (n := t693.length) (c := co18) ?_).2.2; exact (by (with_reducible repeat (first | apply Kd.R_alloc | apply Kd.R_drewN | apply Kd.R_drew)); exact (Kd.R_mono (Kd.R_far (p := ⟨gb700, 4, none⟩) (Kd.R_far (p := ⟨gb700, 3, none⟩) (Kd.R_far (p := ⟨gb700, 2, none⟩) (Kd.R_far (p := ⟨gb700, 1, none⟩) (Kd.R_far (p := ⟨gb700, 0, none⟩) (Kd.R_types HO695.out BK700.out (by decide)) (fun _ hk => hk.2) (.int .i64 t690)) (fun _ hk => hk.2) (.int .i64 t691)) (fun _ hk => hk.2) (.int .i64 t692)) (fun _ hk => hk.2) (.slice Ao18 t693.length co18)) (fun _ hk => hk.2) (.slice Ao19 t696.length co19)) (fun _ h_ => h_.1)))); (case side2 => exact (Kd.R_reads' HO695.out).2.1); (case side3 => refine (Kd.R_reads' (e := 28) (base := w.heap.size) (ok := fun k_ => (some k_ ≠ (.slice Ao18 t693.length co18 : Value).ownBlock ∧ k_ ≠ gb700)) (n := t696.length) (c := co19) ?_).2.2; exact (by (with_reducible repeat (first | apply Kd.R_alloc | apply Kd.R_drewN | apply Kd.R_drew)); exact (Kd.R_mono (Kd.R_far (p := ⟨gb700, 4, none⟩) (Kd.R_far (p := ⟨gb700, 3, none⟩) (Kd.R_far (p := ⟨gb700, 2, none⟩) (Kd.R_far (p := ⟨gb700, 1, none⟩) (Kd.R_far (p := ⟨gb700, 0, none⟩) (Kd.R_mono HO698.out (fun k_ hk => (⟨hk, hk.2⟩ : _ ∧ k_ ≠ gb700))) (fun _ hk => hk.2) (.int .i64 t690)) (fun _ hk => hk.2) (.int .i64 t691)) (fun _ hk => hk.2) (.int .i64 t692)) (fun _ hk => hk.2) (.slice Ao18 t693.length co18)) (fun _ hk => hk.2) (.slice Ao19 t696.length co19)) (fun _ h_ => h_.1)))); (case side4 => exact (Kd.R_reads' HO698.out).2.1); rintro e w49 ⟨rfl, hb⟩; replace HO695 := a_ (Kd.R_below (by (with_reducible repeat (first | apply Kd.R_alloc | apply Kd.R_drewN | apply Kd.R_drew)); exact (Kd.R_mono (Kd.R_far (p := ⟨gb700, 4, none⟩) (Kd.R_far (p := ⟨gb700, 3, none⟩) (Kd.R_far (p := ⟨gb700, 2, none⟩) (Kd.R_far (p := ⟨gb700, 1, none⟩) (Kd.R_far (p := ⟨gb700, 0, none⟩) (Kd.R_types HO695.out BK700.out (by decide)) (fun _ hk => hk.2) (.int .i64 t690)) (fun _ hk => hk.2) (.int .i64 t691)) (fun _ hk => hk.2) (.int .i64 t692)) (fun _ hk => hk.2) (.slice Ao18 t693.length co18)) (fun _ hk => hk.2) (.slice Ao19 t696.length co19)) (fun _ h_ => h_.1))) hb); replace HO698 := a_ (Kd.R_below (by (with_reducible repeat (first | apply Kd.R_alloc | apply Kd.R_drewN | apply Kd.R_drew)); exact (Kd.R_mono (Kd.R_far (p := ⟨gb700, 4, none⟩) (Kd.R_far (p := ⟨gb700, 3, none⟩) (Kd.R_far (p := ⟨gb700, 2, none⟩) (Kd.R_far (p := ⟨gb700, 1, none⟩) (Kd.R_far (p := ⟨gb700, 0, none⟩) (Kd.R_mono HO698.out (fun k_ hk => (⟨hk, hk.2⟩ : _ ∧ k_ ≠ gb700))) (fun _ hk => hk.2) (.int .i64 t690)) (fun _ hk => hk.2) (.int .i64 t691)) (fun _ hk => hk.2) (.int .i64 t692)) (fun _ hk => hk.2) (.slice Ao18 t693.length co18)) (fun _ hk => hk.2) (.slice Ao19 t696.length co19)) (fun _ h_ => h_.1))) hb); replace BK688 := a_ (blk_below (g := gb688) (o := .cells #[.int .i64 a2_0, .string a2_1, .string a2_2, .bool false] 23 (0, 0)) (by (with_reducible repeat (first | refine blk_drewN ?_ _ | refine blk_drew ?_ | refine blk_alloc ?_ _)); refine blk_far ?_ NB688_700.out _; (with_reducible repeat (first | refine blk_drewN ?_ _ | refine blk_drew ?_ | refine blk_alloc ?_ _)); refine blk_far ?_ NB688_700.out _; (with_reducible repeat (first | refine blk_drewN ?_ _ | refine blk_drew ?_ | refine blk_alloc ?_ _)); refine blk_far ?_ NB688_700.out _; (with_reducible repeat (first | refine blk_drewN ?_ _ | refine blk_drew ?_ | refine blk_alloc ?_ _)); refine blk_far ?_ NB688_700.out _; (with_reducible repeat (first | refine blk_drewN ?_ _ | refine blk_drew ?_ | refine blk_alloc ?_ _)); refine blk_far ?_ NB688_700.out _; (with_reducible repeat (first | refine blk_drewN ?_ _ | refine blk_drew ?_ | refine blk_alloc ?_ _)); exact BK688.out) hb); replace BK700 := a_ (blk_below (g := gb700) (o := .cells #[.int .i64 t690, .int .i64 t691, .int .i64 t692, .slice Ao18 t693.length co18, .slice Ao19 t696.length co19] 28 (0, 0)) (by (with_reducible repeat (first | refine blk_drewN ?_ _ | refine blk_drew ?_ | refine blk_alloc ?_ _)); refine blk_put (cs := #[.int .i64 t690, .int .i64 t691, .int .i64 t692, .slice Ao18 t693.length co18, .slice none 0 0]) ?_ 4 _ rfl; (with_reducible repeat (first | refine blk_drewN ?_ _ | refine blk_drew ?_ | refine blk_alloc ?_ _)); refine blk_put (cs := #[.int .i64 t690, .int .i64 t691, .int .i64 t692, .slice none 0 0, .slice none 0 0]) ?_ 3 _ rfl; (with_reducible repeat (first | refine blk_drewN ?_ _ | refine blk_drew ?_ | refine blk_alloc ?_ _)); refine blk_put (cs := #[.int .i64 t690, .int .i64 t691, .int .i64 0, .slice none 0 0, .slice none 0 0]) ?_ 2 _ rfl; (with_reducible repeat (first | refine blk_drewN ?_ _ | refine blk_drew ?_ | refine blk_alloc ?_ _)); refine blk_put (cs := #[.int .i64 t690, .int .i64 0, .int .i64 0, .slice none 0 0, .slice none 0 0]) ?_ 1 _ rfl; (with_reducible repeat (first | refine blk_drewN ?_ _ | refine blk_drew ?_ | refine blk_alloc ?_ _)); refine blk_put (cs := #[.int .i64 0, .int .i64 0, .int .i64 0, .slice none 0 0, .slice none 0 0]) ?_ 0 _ rfl; (with_reducible repeat (first | refine blk_drewN ?_ _ | refine blk_drew ?_ | refine blk_alloc ?_ _)); exact BK700.out) hb); replace HB := a_ (below_step (bl_ HB) hb); (try clear hb); (try clear hb2); (try clear hk); (try clear hi); obtain ⟨hcz50_0, hcz50_1, hcz50_2, hcz50_3, hfz50_0, hfz50_1, hfz50_2, hfz50_3⟩ := b4_ BK688) | (go_at_call 7; (with_reducible refine (lBl.calls kj3 a2_0 a2_1 a2_2 false true _ A23.out).mono ?_); rintro e w51 ⟨rfl, hb⟩; replace HO695 := a_ (Kd.R_below (rp_ HO695) hb); replace HO698 := a_ (Kd.R_below (rp_ HO698) hb); replace BK688 := a_ (blk_below (g := gb688) (o := .cells #[.int .i64 a2_0, .string a2_1, .string a2_2, .bool false] 23 (0, 0)) (bk_ BK688) hb); replace BK700 := a_ (blk_below (g := gb700) (o := .cells #[.int .i64 t690, .int .i64 t691, .int .i64 t692, .slice Ao18 t693.length co18, .slice Ao19 t696.length co19] 28 (0, 0)) (bk_ BK700) hb); replace HB := a_ (below_step (bl_ HB) hb); (try clear hb); (try clear hb2); (try clear hk); (try clear hi); obtain ⟨hcz52_0, hcz52_1, hcz52_2, hcz52_3, hfz52_0, hfz52_1, hfz52_2, hfz52_3⟩ := b4_ BK688))
     go_meet
     case rel => exact ⟨_, (true), rl_, H', ⟨by have := HJ3.out; first | omega | exact Nat.le_refl _⟩, ⟨rp_ HO695⟩, ⟨rp_ HO698⟩, ⟨bk_ BK688⟩, ⟨bk_ BK700⟩, ⟨bl_ HB⟩⟩
    rw [if_neg c46] at H
    have c46b0 : decide (1024 < (a0.size : Int)) = false := decide_eq_false c46
    have c46b1 : decide (1024 < a0.size) = false := decide_eq_false (by omega)
    clear c46
    replace H := Option.bind_eq_some_iff.mp H
    obtain ⟨t703, A530, H⟩ := H
    replace H : (lFn.j1 kj3 a0 a1 (!t703) a2_0 a2_1 a2_2 false t690 t691 t692 t693 t696) = some r := H
    have A53 := a_ A530
    clear A530
    have H' := a_ H
    clear H
    have hnb54 := NB700_688.out
    have hnc54 := NB688_700.out
    have hcz55_0 := bc_ BK700 0 (.int .i64 0)
    have hcz55_1 := bc_ BK700 1 (.int .i64 0)
    have hcz55_2 := bc_ BK700 2 (.int .i64 0)
    have hcz55_3 := bc_ BK700 3 (.slice none 0 0)
    have hcz55_4 := bc_ BK700 4 (.slice none 0 0)
    have hfz55_0 := blk_frozen BK700.out 0
    have hfz55_1 := blk_frozen BK700.out 1
    have hfz55_2 := blk_frozen BK700.out 2
    have hfz55_3 := blk_frozen BK700.out 3
    have hfz55_4 := blk_frozen BK700.out 4
    go_wp2_with (first | (go_at_call 6; (with_reducible refine (lFa.calls kj3 t690 t691 t692 _ _ t693 _ _ t696 true _ ?side1 ?side2 ?side3 ?side4 A21.out).mono ?_); (case side1 => refine (Kd.R_reads' (e := 54) (base := w.heap.size) (ok := fun k_ => True) (n := t693.length) (c := co18) ?_).2.2; exact (by (with_reducible repeat (first | apply Kd.R_alloc | apply Kd.R_drewN | apply Kd.R_drew)); exact (Kd.R_mono (Kd.R_far (p := ⟨gb700, 4, none⟩) (Kd.R_far (p := ⟨gb700, 3, none⟩) (Kd.R_far (p := ⟨gb700, 2, none⟩) (Kd.R_far (p := ⟨gb700, 1, none⟩) (Kd.R_far (p := ⟨gb700, 0, none⟩) (Kd.R_types HO695.out BK700.out (by decide)) (fun _ hk => hk.2) (.int .i64 t690)) (fun _ hk => hk.2) (.int .i64 t691)) (fun _ hk => hk.2) (.int .i64 t692)) (fun _ hk => hk.2) (.slice Ao18 t693.length co18)) (fun _ hk => hk.2) (.slice Ao19 t696.length co19)) (fun _ h_ => h_.1)))); (case side2 => exact (Kd.R_reads' HO695.out).2.1); (case side3 => refine (Kd.R_reads' (e := 28) (base := w.heap.size) (ok := fun k_ => (some k_ ≠ (.slice Ao18 t693.length co18 : Value).ownBlock ∧ k_ ≠ gb700)) (n := t696.length) (c := co19) ?_).2.2; exact (by (with_reducible repeat (first | apply Kd.R_alloc | apply Kd.R_drewN | apply Kd.R_drew)); exact (Kd.R_mono (Kd.R_far (p := ⟨gb700, 4, none⟩) (Kd.R_far (p := ⟨gb700, 3, none⟩) (Kd.R_far (p := ⟨gb700, 2, none⟩) (Kd.R_far (p := ⟨gb700, 1, none⟩) (Kd.R_far (p := ⟨gb700, 0, none⟩) (Kd.R_mono HO698.out (fun k_ hk => (⟨hk, hk.2⟩ : _ ∧ k_ ≠ gb700))) (fun _ hk => hk.2) (.int .i64 t690)) (fun _ hk => hk.2) (.int .i64 t691)) (fun _ hk => hk.2) (.int .i64 t692)) (fun _ hk => hk.2) (.slice Ao18 t693.length co18)) (fun _ hk => hk.2) (.slice Ao19 t696.length co19)) (fun _ h_ => h_.1)))); (case side4 => exact (Kd.R_reads' HO698.out).2.1); rintro e w56 ⟨rfl, hb⟩; replace HO695 := a_ (Kd.R_below (by (with_reducible repeat (first | apply Kd.R_alloc | apply Kd.R_drewN | apply Kd.R_drew)); exact (Kd.R_mono (Kd.R_far (p := ⟨gb700, 4, none⟩) (Kd.R_far (p := ⟨gb700, 3, none⟩) (Kd.R_far (p := ⟨gb700, 2, none⟩) (Kd.R_far (p := ⟨gb700, 1, none⟩) (Kd.R_far (p := ⟨gb700, 0, none⟩) (Kd.R_types HO695.out BK700.out (by decide)) (fun _ hk => hk.2) (.int .i64 t690)) (fun _ hk => hk.2) (.int .i64 t691)) (fun _ hk => hk.2) (.int .i64 t692)) (fun _ hk => hk.2) (.slice Ao18 t693.length co18)) (fun _ hk => hk.2) (.slice Ao19 t696.length co19)) (fun _ h_ => h_.1))) hb); replace HO698 := a_ (Kd.R_below (by (with_reducible repeat (first | apply Kd.R_alloc | apply Kd.R_drewN | apply Kd.R_drew)); exact (Kd.R_mono (Kd.R_far (p := ⟨gb700, 4, none⟩) (Kd.R_far (p := ⟨gb700, 3, none⟩) (Kd.R_far (p := ⟨gb700, 2, none⟩) (Kd.R_far (p := ⟨gb700, 1, none⟩) (Kd.R_far (p := ⟨gb700, 0, none⟩) (Kd.R_mono HO698.out (fun k_ hk => (⟨hk, hk.2⟩ : _ ∧ k_ ≠ gb700))) (fun _ hk => hk.2) (.int .i64 t690)) (fun _ hk => hk.2) (.int .i64 t691)) (fun _ hk => hk.2) (.int .i64 t692)) (fun _ hk => hk.2) (.slice Ao18 t693.length co18)) (fun _ hk => hk.2) (.slice Ao19 t696.length co19)) (fun _ h_ => h_.1))) hb); replace BK688 := a_ (blk_below (g := gb688) (o := .cells #[.int .i64 a2_0, .string a2_1, .string a2_2, .bool false] 23 (0, 0)) (by (with_reducible repeat (first | refine blk_drewN ?_ _ | refine blk_drew ?_ | refine blk_alloc ?_ _)); refine blk_far ?_ NB688_700.out _; (with_reducible repeat (first | refine blk_drewN ?_ _ | refine blk_drew ?_ | refine blk_alloc ?_ _)); refine blk_far ?_ NB688_700.out _; (with_reducible repeat (first | refine blk_drewN ?_ _ | refine blk_drew ?_ | refine blk_alloc ?_ _)); refine blk_far ?_ NB688_700.out _; (with_reducible repeat (first | refine blk_drewN ?_ _ | refine blk_drew ?_ | refine blk_alloc ?_ _)); refine blk_far ?_ NB688_700.out _; (with_reducible repeat (first | refine blk_drewN ?_ _ | refine blk_drew ?_ | refine blk_alloc ?_ _)); refine blk_far ?_ NB688_700.out _; (with_reducible repeat (first | refine blk_drewN ?_ _ | refine blk_drew ?_ | refine blk_alloc ?_ _)); exact BK688.out) hb); replace BK700 := a_ (blk_below (g := gb700) (o := .cells #[.int .i64 t690, .int .i64 t691, .int .i64 t692, .slice Ao18 t693.length co18, .slice Ao19 t696.length co19] 28 (0, 0)) (by (with_reducible repeat (first | refine blk_drewN ?_ _ | refine blk_drew ?_ | refine blk_alloc ?_ _)); refine blk_put (cs := #[.int .i64 t690, .int .i64 t691, .int .i64 t692, .slice Ao18 t693.length co18, .slice none 0 0]) ?_ 4 _ rfl; (with_reducible repeat (first | refine blk_drewN ?_ _ | refine blk_drew ?_ | refine blk_alloc ?_ _)); refine blk_put (cs := #[.int .i64 t690, .int .i64 t691, .int .i64 t692, .slice none 0 0, .slice none 0 0]) ?_ 3 _ rfl; (with_reducible repeat (first | refine blk_drewN ?_ _ | refine blk_drew ?_ | refine blk_alloc ?_ _)); refine blk_put (cs := #[.int .i64 t690, .int .i64 t691, .int .i64 0, .slice none 0 0, .slice none 0 0]) ?_ 2 _ rfl; (with_reducible repeat (first | refine blk_drewN ?_ _ | refine blk_drew ?_ | refine blk_alloc ?_ _)); refine blk_put (cs := #[.int .i64 t690, .int .i64 0, .int .i64 0, .slice none 0 0, .slice none 0 0]) ?_ 1 _ rfl; (with_reducible repeat (first | refine blk_drewN ?_ _ | refine blk_drew ?_ | refine blk_alloc ?_ _)); refine blk_put (cs := #[.int .i64 0, .int .i64 0, .int .i64 0, .slice none 0 0, .slice none 0 0]) ?_ 0 _ rfl; (with_reducible repeat (first | refine blk_drewN ?_ _ | refine blk_drew ?_ | refine blk_alloc ?_ _)); exact BK700.out) hb); replace HB := a_ (below_step (bl_ HB) hb); (try clear hb); (try clear hb2); (try clear hk); (try clear hi); obtain ⟨hcz57_0, hcz57_1, hcz57_2, hcz57_3, hfz57_0, hfz57_1, hfz57_2, hfz57_3⟩ := b4_ BK688) | (go_at_call 7; (with_reducible refine (lBl.calls kj3 a2_0 a2_1 a2_2 false true _ A23.out).mono ?_); rintro e w58 ⟨rfl, hb⟩; replace HO695 := a_ (Kd.R_below (rp_ HO695) hb); replace HO698 := a_ (Kd.R_below (rp_ HO698) hb); replace BK688 := a_ (blk_below (g := gb688) (o := .cells #[.int .i64 a2_0, .string a2_1, .string a2_2, .bool false] 23 (0, 0)) (bk_ BK688) hb); replace BK700 := a_ (blk_below (g := gb700) (o := .cells #[.int .i64 t690, .int .i64 t691, .int .i64 t692, .slice Ao18 t693.length co18, .slice Ao19 t696.length co19] 28 (0, 0)) (bk_ BK700) hb); replace HB := a_ (below_step (bl_ HB) hb); (try clear hb); (try clear hb2); (try clear hk); (try clear hi); obtain ⟨hcz59_0, hcz59_1, hcz59_2, hcz59_3, hfz59_0, hfz59_1, hfz59_2, hfz59_3⟩ := b4_ BK688) | (go_at_call 8; (with_reducible refine (sUt.calls kj3 a0 t703 _ A53.out).mono ?_); rintro e w' ⟨rfl, ⟨nd, rfl⟩⟩))
    go_meet
    case rel => exact ⟨_, (!t703), rl_, H', ⟨by have := HJ3.out; first | omega | exact Nat.le_refl _⟩, ⟨rp_ HO695⟩, ⟨rp_ HO698⟩, ⟨bk_ BK688⟩, ⟨bk_ BK700⟩, ⟨bl_ HB⟩⟩
   clear HC13
   (try clear c1); (try clear c2); (try clear p2); (try clear c3); (try clear c4); (try clear c5); (try clear c6); (try clear c6b0); (try clear c6b1); (try clear c7); (try clear c7b0); (try clear c7b1); (try clear c11); (try clear c16); (try clear c20); (try clear c22); (try clear c24); (try clear c25); (try clear c26); (try clear c32); (try clear c32b0); (try clear c33); (try clear c39); (try clear c39b0); (try clear c40); (try clear c46); (try clear c46b0); (try clear c46b1); (try clear c47); (try clear c54); (try clear c60); (try clear c65); (try clear hcz17_0); (try clear hcz17_1); (try clear hcz17_2); (try clear hcz17_3); (try clear hcz17_4); (try clear hcz27_0); (try clear hcz27_1); (try clear hcz27_2); (try clear hcz27_3); (try clear hcz27_4); (try clear hcz29_0); (try clear hcz29_1); (try clear hcz29_2); (try clear hcz29_3); (try clear hcz31_0); (try clear hcz31_1); (try clear hcz31_2); (try clear hcz31_3); (try clear hcz34_0); (try clear hcz34_1); (try clear hcz34_2); (try clear hcz34_3); (try clear hcz34_4); (try clear hcz36_0); (try clear hcz36_1); (try clear hcz36_2); (try clear hcz36_3); (try clear hcz38_0); (try clear hcz38_1); (try clear hcz38_2); (try clear hcz38_3); (try clear hcz41_0); (try clear hcz41_1); (try clear hcz41_2); (try clear hcz41_3); (try clear hcz41_4); (try clear hcz43_0); (try clear hcz43_1); (try clear hcz43_2); (try clear hcz43_3); (try clear hcz45_0); (try clear hcz45_1); (try clear hcz45_2); (try clear hcz45_3); (try clear hcz48_0); (try clear hcz48_1)
   (try clear hcz48_2); (try clear hcz48_3); (try clear hcz48_4); (try clear hcz50_0); (try clear hcz50_1); (try clear hcz50_2); (try clear hcz50_3); (try clear hcz52_0); (try clear hcz52_1); (try clear hcz52_2); (try clear hcz52_3); (try clear hcz55_0); (try clear hcz55_1); (try clear hcz55_2); (try clear hcz55_3); (try clear hcz55_4); (try clear hcz57_0); (try clear hcz57_1); (try clear hcz57_2); (try clear hcz57_3); (try clear hcz59_0); (try clear hcz59_1); (try clear hcz59_2); (try clear hcz59_3); (try clear hcz61_0); (try clear hcz61_1); (try clear hcz61_2); (try clear hcz61_3); (try clear hcz61_4); (try clear hcz63_0); (try clear hcz63_1); (try clear hcz63_2); (try clear hcz63_3); (try clear hcz66_0); (try clear hcz66_1); (try clear hcz66_2); (try clear hcz66_3); (try clear hcz66_4); (try clear hcz9_0); (try clear hcz9_1); (try clear hcz9_2); (try clear hcz9_3); (try clear hfz17_0); (try clear hfz17_1); (try clear hfz17_2); (try clear hfz17_3); (try clear hfz17_4); (try clear hfz27_0); (try clear hfz27_1); (try clear hfz27_2); (try clear hfz27_3); (try clear hfz27_4); (try clear hfz29_0); (try clear hfz29_1); (try clear hfz29_2); (try clear hfz29_3); (try clear hfz31_0); (try clear hfz31_1); (try clear hfz31_2); (try clear hfz31_3); (try clear hfz34_0); (try clear hfz34_1); (try clear hfz34_2); (try clear hfz34_3); (try clear hfz34_4); (try clear hfz36_0); (try clear hfz36_1); (try clear hfz36_2); (try clear hfz36_3); (try clear hfz38_0); (try clear hfz38_1); (try clear hfz38_2)
   (try clear hfz38_3); (try clear hfz41_0); (try clear hfz41_1); (try clear hfz41_2); (try clear hfz41_3); (try clear hfz41_4); (try clear hfz43_0); (try clear hfz43_1); (try clear hfz43_2); (try clear hfz43_3); (try clear hfz45_0); (try clear hfz45_1); (try clear hfz45_2); (try clear hfz45_3); (try clear hfz48_0); (try clear hfz48_1); (try clear hfz48_2); (try clear hfz48_3); (try clear hfz48_4); (try clear hfz50_0); (try clear hfz50_1); (try clear hfz50_2); (try clear hfz50_3); (try clear hfz52_0); (try clear hfz52_1); (try clear hfz52_2); (try clear hfz52_3); (try clear hfz55_0); (try clear hfz55_1); (try clear hfz55_2); (try clear hfz55_3); (try clear hfz55_4); (try clear hfz57_0); (try clear hfz57_1); (try clear hfz57_2); (try clear hfz57_3); (try clear hfz59_0); (try clear hfz59_1); (try clear hfz59_2); (try clear hfz59_3); (try clear hfz61_0); (try clear hfz61_1); (try clear hfz61_2); (try clear hfz61_3); (try clear hfz61_4); (try clear hfz63_0); (try clear hfz63_1); (try clear hfz63_2); (try clear hfz63_3); (try clear hfz66_0); (try clear hfz66_1); (try clear hfz66_2); (try clear hfz66_3); (try clear hfz66_4); (try clear hfz9_0); (try clear hfz9_1); (try clear hfz9_2); (try clear hfz9_3); (try clear p2)
   as_aux_lemma =>
    obtain ⟨kq, x68_12, rfl, HA, HJ12, HO_701003, HO_701004, BK688, BK700, HB⟩ := hcut
    cases kq with
    | zero => exact absurd HA.out (by simp [lFn.j1])
    | succ kj12 =>
     have H := HA.out
     clear HA
     simp only [lFn.j1] at H
     by_cases c68 : x68_12 = true
     ·
      subst c68
      rw [if_pos (by trivial)] at H
      obtain rfl := Option.some.inj H
      go_wp2
      go_ret
      exact ⟨by first | rfl | (simp [errW_none, errW_some] <;> rfl) | (simp [*, errW_none, errW_some] <;> rfl), bl_ HB⟩
     replace c68 := Bool.eq_false_iff.mpr c68
     subst c68
     rw [if_neg (show ¬ (false = true) by decide)] at H
     replace H := Option.bind_eq_some_iff.mp H
     obtain ⟨t704, A690, H⟩ := H
     replace H : ((spec_Laid.f kj12 a1 t690 t691 t692 t693 t696 (⟨#[]⟩ : ByteArray) (⟨#[]⟩ : ByteArray) true).bind fun t705 => (if 1 + t704.size ≤ 9223372036854775807 then (if ((⟨#[123]⟩ : ByteArray) ++ t704).size + 1 ≤ 9223372036854775807 then (if (((⟨#[123]⟩ : ByteArray) ++ t704) ++ (⟨#[58]⟩ : ByteArray)).size + a1.size ≤ 9223372036854775807 then (if ((((⟨#[123]⟩ : ByteArray) ++ t704) ++ (⟨#[58]⟩ : ByteArray)) ++ a1).size + 1 ≤ 9223372036854775807 then (if (wrap64 ((wrap64 ((wrap64 ((wrap64 (a2_0 - (a2_1.size : Int))) - (a2_2.size : Int))) - (t704.size : Int))) - 3)) > 3 then (lFn.j2 kj12 t704 t705 (((((⟨#[123]⟩ : ByteArray) ++ t704) ++ (⟨#[58]⟩ : ByteArray)) ++ a1) ++ (⟨#[125]⟩ : ByteArray)) (decide ((wrap64 ((t705.size : Int) - 1)) ≤ (wrap64 ((wrap64 ((wrap64 ((wrap64 (a2_0 - (a2_1.size : Int))) - (a2_2.size : Int))) - (t704.size : Int))) - 3)))) a2_0 a2_1 a2_2 a2_3) else (lFn.j2 kj12 t704 t705 (((((⟨#[123]⟩ : ByteArray) ++ t704) ++ (⟨#[58]⟩ : ByteArray)) ++ a1) ++ (⟨#[125]⟩ : ByteArray)) false a2_0 a2_1 a2_2 a2_3)) else (none)) else (none)) else (none)) else (none))) = some r := H
     have A69 := a_ A690
     clear A690
     replace H := Option.bind_eq_some_iff.mp H
     obtain ⟨t705, A700, H⟩ := H
     replace H : (if 1 + t704.size ≤ 9223372036854775807 then (if ((⟨#[123]⟩ : ByteArray) ++ t704).size + 1 ≤ 9223372036854775807 then (if (((⟨#[123]⟩ : ByteArray) ++ t704) ++ (⟨#[58]⟩ : ByteArray)).size + a1.size ≤ 9223372036854775807 then (if ((((⟨#[123]⟩ : ByteArray) ++ t704) ++ (⟨#[58]⟩ : ByteArray)) ++ a1).size + 1 ≤ 9223372036854775807 then (if (wrap64 ((wrap64 ((wrap64 ((wrap64 (a2_0 - (a2_1.size : Int))) - (a2_2.size : Int))) - (t704.size : Int))) - 3)) > 3 then (lFn.j2 kj12 t704 t705 (((((⟨#[123]⟩ : ByteArray) ++ t704) ++ (⟨#[58]⟩ : ByteArray)) ++ a1) ++ (⟨#[125]⟩ : ByteArray)) (decide ((wrap64 ((t705.size : Int) - 1)) ≤ (wrap64 ((wrap64 ((wrap64 ((wrap64 (a2_0 - (a2_1.size : Int))) - (a2_2.size : Int))) - (t704.size : Int))) - 3)))) a2_0 a2_1 a2_2 a2_3) else (lFn.j2 kj12 t704 t705 (((((⟨#[123]⟩ : ByteArray) ++ t704) ++ (⟨#[58]⟩ : ByteArray)) ++ a1) ++ (⟨#[125]⟩ : ByteArray)) false a2_0 a2_1 a2_2 a2_3)) else (none)) else (none)) else (none)) else (none)) = some r := H
     have A70 := a_ A700
     clear A700
     by_cases c71 : 1 + t704.size ≤ 9223372036854775807
     rotate_left
     ·
      rw [if_neg c71] at H
      exact absurd H (by simp)
     rw [if_pos c71] at H
     have c71b0 := eq_true c71
     have c71b1 : decide (1 + t704.size ≤ 9223372036854775807) = true := decide_eq_true c71
     try have c71b2 : (9223372036854775807 < 1 + t704.size) = False := eq_false (Nat.not_lt.2 c71)
     by_cases c72 : ((⟨#[123]⟩ : ByteArray) ++ t704).size + 1 ≤ 9223372036854775807
     rotate_left
     ·
      rw [if_neg c72] at H
      exact absurd H (by simp)
     rw [if_pos c72] at H
     have c72b0 := eq_true c72
     have c72b1 : decide (((⟨#[123]⟩ : ByteArray) ++ t704).size + 1 ≤ 9223372036854775807) = true := decide_eq_true c72
     try have c72b2 : (9223372036854775807 < ((⟨#[123]⟩ : ByteArray) ++ t704).size + 1) = False := eq_false (Nat.not_lt.2 c72)
     try (have c72b3 := c72b2; simp only [ByteArray.size_append, zl_123, zl_123_10, zl_125, zl_125_10, zl_58, zl_58_32] at c72b3)
     by_cases c73 : (((⟨#[123]⟩ : ByteArray) ++ t704) ++ (⟨#[58]⟩ : ByteArray)).size + a1.size ≤ 9223372036854775807
     rotate_left
     ·
      rw [if_neg c73] at H
      exact absurd H (by simp)
     rw [if_pos c73] at H
     have c73b0 := eq_true c73
     have c73b1 : decide ((((⟨#[123]⟩ : ByteArray) ++ t704) ++ (⟨#[58]⟩ : ByteArray)).size + a1.size ≤ 9223372036854775807) = true := decide_eq_true c73
     try have c73b2 : (9223372036854775807 < (((⟨#[123]⟩ : ByteArray) ++ t704) ++ (⟨#[58]⟩ : ByteArray)).size + a1.size) = False := eq_false (Nat.not_lt.2 c73)
     try (have c73b3 := c73b2; simp only [ByteArray.size_append, zl_123, zl_123_10, zl_125, zl_125_10, zl_58, zl_58_32] at c73b3)
     by_cases c74 : ((((⟨#[123]⟩ : ByteArray) ++ t704) ++ (⟨#[58]⟩ : ByteArray)) ++ a1).size + 1 ≤ 9223372036854775807
     rotate_left
     ·
      rw [if_neg c74] at H
      exact absurd H (by simp)
     rw [if_pos c74] at H
     have c74b0 := eq_true c74
     have c74b1 : decide (((((⟨#[123]⟩ : ByteArray) ++ t704) ++ (⟨#[58]⟩ : ByteArray)) ++ a1).size + 1 ≤ 9223372036854775807) = true := decide_eq_true c74
     try have c74b2 : (9223372036854775807 < ((((⟨#[123]⟩ : ByteArray) ++ t704) ++ (⟨#[58]⟩ : ByteArray)) ++ a1).size + 1) = False := eq_false (Nat.not_lt.2 c74)
     try (have c74b3 := c74b2; simp only [ByteArray.size_append, zl_123, zl_123_10, zl_125, zl_125_10, zl_58, zl_58_32] at c74b3)
     have HC75 := a_ H
     clear H
     go_upto_region 10 with (first | ((with_reducible refine gate_callee (f := 9) rfl ?_); refine goesL_ (some 70) rfl rfl Try.func9 (by kernel_rfl) rfl #[.string a0] rfl ar_ ?_; (with_reducible refine (sQu.calls kj12 a0 t704 _ A69.out).mono ?_); rintro e w76 ⟨rfl, hb⟩; refine ⟨_, rfl, ?_⟩; replace HO_701003 := a_ (Kd.R_below (rp_ HO_701003) hb); replace HO_701004 := a_ (Kd.R_below (rp_ HO_701004) hb); replace BK688 := a_ (blk_below (g := gb688) (o := .cells #[.int .i64 a2_0, .string a2_1, .string a2_2, .bool a2_3] 23 (0, 0)) (bk_ BK688) hb); replace BK700 := a_ (blk_below (g := gb700) (o := .cells #[.int .i64 t690, .int .i64 t691, .int .i64 t692, .slice Ao18 t693.length co18, .slice Ao19 t696.length co19] 28 (0, 0)) (bk_ BK700) hb); replace HB := a_ (below_step (bl_ HB) hb); (try clear hb); (try clear hb2); (try clear hk); (try clear hi); have hnb77 := NB688_700.out; have hnc77 := NB700_688.out; obtain ⟨hcz78_0, hcz78_1, hcz78_2, hcz78_3, hfz78_0, hfz78_1, hfz78_2, hfz78_3⟩ := b4_ BK688; obtain ⟨hcz79_0, hcz79_1, hcz79_2, hcz79_3, hcz79_4, hfz79_0, hfz79_1, hfz79_2, hfz79_3, hfz79_4⟩ := b5_ BK700) | ((with_reducible refine gate_callee (f := 10) rfl ?_); refine goesL_ (some 87) rfl rfl Try.func10 (by kernel_rfl) rfl #[.string a1, .agg #[.int .i64 t690, .int .i64 t691, .int .i64 t692, .slice Ao18 t693.length co18, .slice Ao19 t696.length co19], .string (⟨#[]⟩ : ByteArray), .string (⟨#[]⟩ : ByteArray), .bool true] rfl ar_ ?_; (with_reducible refine (spec_Laid.calls kj12 a1 t690 t691 t692 _ _ t693 _ _ t696 (⟨#[]⟩ : ByteArray) (⟨#[]⟩ : ByteArray) true t705 _ ?side1 ?side2 ?side3 ?side4 A70.out).mono ?_); (case side1 => repeat (first | exact (Kd.R_reads' HO_701003.out).2.2 | (with_reducible refine Kd.C_alloc ?_ _) | (with_reducible refine Kd.C_drewN ?_ _) | (with_reducible refine Kd.C_drew ?_))); (case side2 => exact (Kd.R_reads' HO_701003.out).2.1); (case side3 => repeat (first | exact (Kd.R_reads' HO_701004.out).2.2 | (with_reducible refine Kd.C_alloc ?_ _) | (with_reducible refine Kd.C_drewN ?_ _) | (with_reducible refine Kd.C_drew ?_))); (case side4 => exact (Kd.R_reads' HO_701004.out).2.1); rintro e w80 ⟨rfl, hb⟩; refine ⟨_, rfl, ?_⟩; replace HO_701003 := a_ (Kd.R_below (rp_ HO_701003) hb); replace HO_701004 := a_ (Kd.R_below (rp_ HO_701004) hb); replace BK688 := a_ (blk_below (g := gb688) (o := .cells #[.int .i64 a2_0, .string a2_1, .string a2_2, .bool a2_3] 23 (0, 0)) (bk_ BK688) hb); replace BK700 := a_ (blk_below (g := gb700) (o := .cells #[.int .i64 t690, .int .i64 t691, .int .i64 t692, .slice Ao18 t693.length co18, .slice Ao19 t696.length co19] 28 (0, 0)) (bk_ BK700) hb); replace HB := a_ (below_step (bl_ HB) hb); (try clear hb); (try clear hb2); (try clear hk); (try clear hi)))
     (try simp only [Act.put, List.setIfInBounds_toArray, List.set_cons_zero, List.set_cons_succ])
     go_cut [102] (fun v102 wc => ∃ (kq : Nat) (x102_74 : Bool), v102 = .bool x102_74 ∧ Aside0 (lFn.j2 kq t704 t705 (((((⟨#[123]⟩ : ByteArray) ++ t704) ++ (⟨#[58]⟩ : ByteArray)) ++ a1) ++ (⟨#[125]⟩ : ByteArray)) x102_74 a2_0 a2_1 a2_2 a2_3 = some r) ∧ Aside0 (kq ≤ kj12) ∧ Aside0 (Kd.R k54 54 wc w.heap.size (fun _ => True) (.slice Ao18 t693.length co18) t693) ∧ Aside0 (Kd.R k28 28 wc w.heap.size (fun k_ => some k_ ≠ ((.slice Ao18 t693.length co18) : Value).ownBlock ∧ k_ ≠ gb700) (.slice Ao19 t696.length co19) t696) ∧ Aside0 (wc.heap[gb688]? = some (.cells #[.int .i64 a2_0, .string a2_1, .string a2_2, .bool a2_3] 23 (0, 0))) ∧ Aside0 (wc.heap[gb700]? = some (.cells #[.int .i64 t690, .int .i64 t691, .int .i64 t692, (.slice Ao18 t693.length co18), (.slice Ao19 t696.length co19)] 28 (0, 0))) ∧ Aside0 (Below w.heap.size w wc))
     case first =>
      have H := HC75.out
      clear HC75
      by_cases c81 : (wrap64 ((wrap64 ((wrap64 ((wrap64 (a2_0 - (a2_1.size : Int))) - (a2_2.size : Int))) - (t704.size : Int))) - 3)) > 3
      rotate_left
      ·
       rw [if_neg c81] at H
       have c81b0 : decide (3 < (wrap64 ((wrap64 ((wrap64 ((wrap64 (a2_0 - (a2_1.size : Int))) - (a2_2.size : Int))) - (t704.size : Int))) - 3))) = false := decide_eq_false c81
       clear c81
       (first | rw [c81b0] | (simp only [i64_w, i32_w]; rw [c81b0]) | skip)
       have H' := a_ H
       clear H
       go_wp2
       go_meet
       case rel => exact ⟨_, (false), rl_, H', ⟨by have := HJ3.out; have := HJ12.out; first | omega | exact Nat.le_refl _⟩, ⟨rp_ HO_701003⟩, ⟨rp_ HO_701004⟩, ⟨bk_ BK688⟩, ⟨bk_ BK700⟩, ⟨bl_ HB⟩⟩
      rw [if_pos c81] at H
      have c81b0 : decide (3 < (wrap64 ((wrap64 ((wrap64 ((wrap64 (a2_0 - (a2_1.size : Int))) - (a2_2.size : Int))) - (t704.size : Int))) - 3))) = true := decide_eq_true c81
      clear c81
      (first | rw [c81b0] | (simp only [i64_w, i32_w]; rw [c81b0]) | skip)
      have H' := a_ H
      clear H
      go_wp2
      go_meet
      case rel => exact ⟨_, (decide ((wrap64 ((t705.size : Int) - 1)) ≤ (wrap64 ((wrap64 ((wrap64 ((wrap64 (a2_0 - (a2_1.size : Int))) - (a2_2.size : Int))) - (t704.size : Int))) - 3)))), rl_, H', ⟨by have := HJ3.out; have := HJ12.out; first | omega | exact Nat.le_refl _⟩, ⟨rp_ HO_701003⟩, ⟨rp_ HO_701004⟩, ⟨bk_ BK688⟩, ⟨bk_ BK700⟩, ⟨bl_ HB⟩⟩
     clear HC75
     (try clear c1); (try clear c2); (try clear p2); (try clear c3); (try clear c4); (try clear c5); (try clear c6); (try clear c6b0); (try clear c6b1); (try clear p6); (try clear c7); (try clear c7b0); (try clear c7b1); (try clear c8); (try clear c9); (try clear c10); (try clear c11); (try clear c16); (try clear c20); (try clear c22); (try clear c24); (try clear c25); (try clear c26); (try clear c32); (try clear c32b0); (try clear c33); (try clear c39); (try clear c39b0); (try clear c40); (try clear c46); (try clear c46b0); (try clear c46b1); (try clear c47); (try clear c54); (try clear c60); (try clear p64); (try clear c65); (try clear c68); (try clear c71); (try clear c71b0); (try clear c71b1); (try clear c71b2); (try clear c72); (try clear c72b0); (try clear c72b1); (try clear c72b2); (try clear c73); (try clear c73b0); (try clear c73b1); (try clear c73b2); (try clear c74); (try clear c74b0); (try clear c74b1); (try clear c74b2); (try clear c77); (try clear c81); (try clear c81b0); (try clear hcz17_0); (try clear hcz17_1); (try clear hcz17_2); (try clear hcz17_3); (try clear hcz17_4); (try clear hcz27_0); (try clear hcz27_1); (try clear hcz27_2); (try clear hcz27_3); (try clear hcz27_4); (try clear hcz29_0); (try clear hcz29_1); (try clear hcz29_2); (try clear hcz29_3); (try clear hcz31_0); (try clear hcz31_1); (try clear hcz31_2); (try clear hcz31_3); (try clear hcz34_0); (try clear hcz34_1); (try clear hcz34_2); (try clear hcz34_3); (try clear hcz34_4); (try clear hcz36_0)
     (try clear hcz36_1); (try clear hcz36_2); (try clear hcz36_3); (try clear hcz38_0); (try clear hcz38_1); (try clear hcz38_2); (try clear hcz38_3); (try clear hcz41_0); (try clear hcz41_1); (try clear hcz41_2); (try clear hcz41_3); (try clear hcz41_4); (try clear hcz43_0); (try clear hcz43_1); (try clear hcz43_2); (try clear hcz43_3); (try clear hcz45_0); (try clear hcz45_1); (try clear hcz45_2); (try clear hcz45_3); (try clear hcz48_0); (try clear hcz48_1); (try clear hcz48_2); (try clear hcz48_3); (try clear hcz48_4); (try clear hcz50_0); (try clear hcz50_1); (try clear hcz50_2); (try clear hcz50_3); (try clear hcz52_0); (try clear hcz52_1); (try clear hcz52_2); (try clear hcz52_3); (try clear hcz55_0); (try clear hcz55_1); (try clear hcz55_2); (try clear hcz55_3); (try clear hcz55_4); (try clear hcz57_0); (try clear hcz57_1); (try clear hcz57_2); (try clear hcz57_3); (try clear hcz59_0); (try clear hcz59_1); (try clear hcz59_2); (try clear hcz59_3); (try clear hcz61_0); (try clear hcz61_1); (try clear hcz61_2); (try clear hcz61_3); (try clear hcz61_4); (try clear hcz63_0); (try clear hcz63_1); (try clear hcz63_2); (try clear hcz63_3); (try clear hcz66_0); (try clear hcz66_1); (try clear hcz66_2); (try clear hcz66_3); (try clear hcz66_4); (try clear hcz78_0); (try clear hcz78_1); (try clear hcz78_2); (try clear hcz78_3); (try clear hcz79_0); (try clear hcz79_1); (try clear hcz79_2); (try clear hcz79_3); (try clear hcz79_4); (try clear hcz9_0); (try clear hcz9_1); (try clear hcz9_2)
     (try clear hcz9_3); (try clear hfz17_0); (try clear hfz17_1); (try clear hfz17_2); (try clear hfz17_3); (try clear hfz17_4); (try clear hfz27_0); (try clear hfz27_1); (try clear hfz27_2); (try clear hfz27_3); (try clear hfz27_4); (try clear hfz29_0); (try clear hfz29_1); (try clear hfz29_2); (try clear hfz29_3); (try clear hfz31_0); (try clear hfz31_1); (try clear hfz31_2); (try clear hfz31_3); (try clear hfz34_0); (try clear hfz34_1); (try clear hfz34_2); (try clear hfz34_3); (try clear hfz34_4); (try clear hfz36_0); (try clear hfz36_1); (try clear hfz36_2); (try clear hfz36_3); (try clear hfz38_0); (try clear hfz38_1); (try clear hfz38_2); (try clear hfz38_3); (try clear hfz41_0); (try clear hfz41_1); (try clear hfz41_2); (try clear hfz41_3); (try clear hfz41_4); (try clear hfz43_0); (try clear hfz43_1); (try clear hfz43_2); (try clear hfz43_3); (try clear hfz45_0); (try clear hfz45_1); (try clear hfz45_2); (try clear hfz45_3); (try clear hfz48_0); (try clear hfz48_1); (try clear hfz48_2); (try clear hfz48_3); (try clear hfz48_4); (try clear hfz50_0); (try clear hfz50_1); (try clear hfz50_2); (try clear hfz50_3); (try clear hfz52_0); (try clear hfz52_1); (try clear hfz52_2); (try clear hfz52_3); (try clear hfz55_0); (try clear hfz55_1); (try clear hfz55_2); (try clear hfz55_3); (try clear hfz55_4); (try clear hfz57_0); (try clear hfz57_1); (try clear hfz57_2); (try clear hfz57_3); (try clear hfz59_0); (try clear hfz59_1); (try clear hfz59_2); (try clear hfz59_3)
     (try clear hfz61_0); (try clear hfz61_1); (try clear hfz61_2); (try clear hfz61_3); (try clear hfz61_4); (try clear hfz63_0); (try clear hfz63_1); (try clear hfz63_2); (try clear hfz63_3); (try clear hfz66_0); (try clear hfz66_1); (try clear hfz66_2); (try clear hfz66_3); (try clear hfz66_4); (try clear hfz78_0); (try clear hfz78_1); (try clear hfz78_2); (try clear hfz78_3); (try clear hfz79_0); (try clear hfz79_1); (try clear hfz79_2); (try clear hfz79_3); (try clear hfz79_4); (try clear hfz9_0); (try clear hfz9_1); (try clear hfz9_2); (try clear hfz9_3); (try clear p2)
     as_aux_lemma =>
      obtain ⟨kq, x102_74, rfl, HA, HJ74, HO_701003, HO_701004, BK688, BK700, HB⟩ := hcut
      cases kq with
      | zero => exact absurd HA.out (by simp [lFn.j2])
      | succ kj74 =>
       have H := HA.out
       clear HA
       simp only [lFn.j2] at H
       by_cases c82 : x102_74 = true
       ·
        subst c82
        rw [if_pos (by trivial)] at H
        replace H := Option.bind_eq_some_iff.mp H
        obtain ⟨t706, A830, H⟩ := H
        replace H : (if a2_1.size + 2 ≤ 9223372036854775807 then (if (a2_1 ++ (⟨#[123, 10]⟩ : ByteArray)).size + a2_1.size ≤ 9223372036854775807 then (if ((a2_1 ++ (⟨#[123, 10]⟩ : ByteArray)) ++ a2_1).size + a2_2.size ≤ 9223372036854775807 then (if (((a2_1 ++ (⟨#[123, 10]⟩ : ByteArray)) ++ a2_1) ++ a2_2).size + t704.size ≤ 9223372036854775807 then (if ((((a2_1 ++ (⟨#[123, 10]⟩ : ByteArray)) ++ a2_1) ++ a2_2) ++ t704).size + 2 ≤ 9223372036854775807 then (if (((((a2_1 ++ (⟨#[123, 10]⟩ : ByteArray)) ++ a2_1) ++ a2_2) ++ t704) ++ (⟨#[58, 32]⟩ : ByteArray)).size + t705.size ≤ 9223372036854775807 then (if ((((((a2_1 ++ (⟨#[123, 10]⟩ : ByteArray)) ++ a2_1) ++ a2_2) ++ t704) ++ (⟨#[58, 32]⟩ : ByteArray)) ++ t705).size + a2_1.size ≤ 9223372036854775807 then (if (((((((a2_1 ++ (⟨#[123, 10]⟩ : ByteArray)) ++ a2_1) ++ a2_2) ++ t704) ++ (⟨#[58, 32]⟩ : ByteArray)) ++ t705) ++ a2_1).size + 2 ≤ 9223372036854775807 then (some (t706.toList == ((((((((a2_1 ++ (⟨#[123, 10]⟩ : ByteArray)) ++ a2_1) ++ a2_2) ++ t704) ++ (⟨#[58, 32]⟩ : ByteArray)) ++ t705) ++ a2_1) ++ (⟨#[125, 10]⟩ : ByteArray)).toList)) else (none)) else (none)) else (none)) else (none)) else (none)) else (none)) else (none)) else (none)) = some r := H
        have A83 := a_ A830
        clear A830
        by_cases c84 : a2_1.size + 2 ≤ 9223372036854775807
        rotate_left
        ·
         rw [if_neg c84] at H
         exact absurd H (by simp)
        rw [if_pos c84] at H
        have c84b0 := eq_true c84
        have c84b1 : decide (a2_1.size + 2 ≤ 9223372036854775807) = true := decide_eq_true c84
        try have c84b2 : (9223372036854775807 < a2_1.size + 2) = False := eq_false (Nat.not_lt.2 c84)
        by_cases c85 : (a2_1 ++ (⟨#[123, 10]⟩ : ByteArray)).size + a2_1.size ≤ 9223372036854775807
        rotate_left
        ·
         rw [if_neg c85] at H
         exact absurd H (by simp)
        rw [if_pos c85] at H
        have c85b0 := eq_true c85
        have c85b1 : decide ((a2_1 ++ (⟨#[123, 10]⟩ : ByteArray)).size + a2_1.size ≤ 9223372036854775807) = true := decide_eq_true c85
        try have c85b2 : (9223372036854775807 < (a2_1 ++ (⟨#[123, 10]⟩ : ByteArray)).size + a2_1.size) = False := eq_false (Nat.not_lt.2 c85)
        try (have c85b3 := c85b2; simp only [ByteArray.size_append, zl_123, zl_123_10, zl_125, zl_125_10, zl_58, zl_58_32] at c85b3)
        by_cases c86 : ((a2_1 ++ (⟨#[123, 10]⟩ : ByteArray)) ++ a2_1).size + a2_2.size ≤ 9223372036854775807
        rotate_left
        ·
         rw [if_neg c86] at H
         exact absurd H (by simp)
        rw [if_pos c86] at H
        have c86b0 := eq_true c86
        have c86b1 : decide (((a2_1 ++ (⟨#[123, 10]⟩ : ByteArray)) ++ a2_1).size + a2_2.size ≤ 9223372036854775807) = true := decide_eq_true c86
        try have c86b2 : (9223372036854775807 < ((a2_1 ++ (⟨#[123, 10]⟩ : ByteArray)) ++ a2_1).size + a2_2.size) = False := eq_false (Nat.not_lt.2 c86)
        try (have c86b3 := c86b2; simp only [ByteArray.size_append, zl_123, zl_123_10, zl_125, zl_125_10, zl_58, zl_58_32] at c86b3)
        by_cases c87 : (((a2_1 ++ (⟨#[123, 10]⟩ : ByteArray)) ++ a2_1) ++ a2_2).size + t704.size ≤ 9223372036854775807
        rotate_left
        ·
         rw [if_neg c87] at H
         exact absurd H (by simp)
        rw [if_pos c87] at H
        have c87b0 := eq_true c87
        have c87b1 : decide ((((a2_1 ++ (⟨#[123, 10]⟩ : ByteArray)) ++ a2_1) ++ a2_2).size + t704.size ≤ 9223372036854775807) = true := decide_eq_true c87
        try have c87b2 : (9223372036854775807 < (((a2_1 ++ (⟨#[123, 10]⟩ : ByteArray)) ++ a2_1) ++ a2_2).size + t704.size) = False := eq_false (Nat.not_lt.2 c87)
        try (have c87b3 := c87b2; simp only [ByteArray.size_append, zl_123, zl_123_10, zl_125, zl_125_10, zl_58, zl_58_32] at c87b3)
        by_cases c88 : ((((a2_1 ++ (⟨#[123, 10]⟩ : ByteArray)) ++ a2_1) ++ a2_2) ++ t704).size + 2 ≤ 9223372036854775807
        rotate_left
        ·
         rw [if_neg c88] at H
         exact absurd H (by simp)
        rw [if_pos c88] at H
        have c88b0 := eq_true c88
        have c88b1 : decide (((((a2_1 ++ (⟨#[123, 10]⟩ : ByteArray)) ++ a2_1) ++ a2_2) ++ t704).size + 2 ≤ 9223372036854775807) = true := decide_eq_true c88
        try have c88b2 : (9223372036854775807 < ((((a2_1 ++ (⟨#[123, 10]⟩ : ByteArray)) ++ a2_1) ++ a2_2) ++ t704).size + 2) = False := eq_false (Nat.not_lt.2 c88)
        try (have c88b3 := c88b2; simp only [ByteArray.size_append, zl_123, zl_123_10, zl_125, zl_125_10, zl_58, zl_58_32] at c88b3)
        by_cases c89 : (((((a2_1 ++ (⟨#[123, 10]⟩ : ByteArray)) ++ a2_1) ++ a2_2) ++ t704) ++ (⟨#[58, 32]⟩ : ByteArray)).size + t705.size ≤ 9223372036854775807
        rotate_left
        ·
         rw [if_neg c89] at H
         exact absurd H (by simp)
        rw [if_pos c89] at H
        have c89b0 := eq_true c89
        have c89b1 : decide ((((((a2_1 ++ (⟨#[123, 10]⟩ : ByteArray)) ++ a2_1) ++ a2_2) ++ t704) ++ (⟨#[58, 32]⟩ : ByteArray)).size + t705.size ≤ 9223372036854775807) = true := decide_eq_true c89
        try have c89b2 : (9223372036854775807 < (((((a2_1 ++ (⟨#[123, 10]⟩ : ByteArray)) ++ a2_1) ++ a2_2) ++ t704) ++ (⟨#[58, 32]⟩ : ByteArray)).size + t705.size) = False := eq_false (Nat.not_lt.2 c89)
        try (have c89b3 := c89b2; simp only [ByteArray.size_append, zl_123, zl_123_10, zl_125, zl_125_10, zl_58, zl_58_32] at c89b3)
        by_cases c90 : ((((((a2_1 ++ (⟨#[123, 10]⟩ : ByteArray)) ++ a2_1) ++ a2_2) ++ t704) ++ (⟨#[58, 32]⟩ : ByteArray)) ++ t705).size + a2_1.size ≤ 9223372036854775807
        rotate_left
        ·
         rw [if_neg c90] at H
         exact absurd H (by simp)
        rw [if_pos c90] at H
        have c90b0 := eq_true c90
        have c90b1 : decide (((((((a2_1 ++ (⟨#[123, 10]⟩ : ByteArray)) ++ a2_1) ++ a2_2) ++ t704) ++ (⟨#[58, 32]⟩ : ByteArray)) ++ t705).size + a2_1.size ≤ 9223372036854775807) = true := decide_eq_true c90
        try have c90b2 : (9223372036854775807 < ((((((a2_1 ++ (⟨#[123, 10]⟩ : ByteArray)) ++ a2_1) ++ a2_2) ++ t704) ++ (⟨#[58, 32]⟩ : ByteArray)) ++ t705).size + a2_1.size) = False := eq_false (Nat.not_lt.2 c90)
        try (have c90b3 := c90b2; simp only [ByteArray.size_append, zl_123, zl_123_10, zl_125, zl_125_10, zl_58, zl_58_32] at c90b3)
        by_cases c91 : (((((((a2_1 ++ (⟨#[123, 10]⟩ : ByteArray)) ++ a2_1) ++ a2_2) ++ t704) ++ (⟨#[58, 32]⟩ : ByteArray)) ++ t705) ++ a2_1).size + 2 ≤ 9223372036854775807
        rotate_left
        ·
         rw [if_neg c91] at H
         exact absurd H (by simp)
        rw [if_pos c91] at H
        have c91b0 := eq_true c91
        have c91b1 : decide ((((((((a2_1 ++ (⟨#[123, 10]⟩ : ByteArray)) ++ a2_1) ++ a2_2) ++ t704) ++ (⟨#[58, 32]⟩ : ByteArray)) ++ t705) ++ a2_1).size + 2 ≤ 9223372036854775807) = true := decide_eq_true c91
        try have c91b2 : (9223372036854775807 < (((((((a2_1 ++ (⟨#[123, 10]⟩ : ByteArray)) ++ a2_1) ++ a2_2) ++ t704) ++ (⟨#[58, 32]⟩ : ByteArray)) ++ t705) ++ a2_1).size + 2) = False := eq_false (Nat.not_lt.2 c91)
        try (have c91b3 := c91b2; simp only [ByteArray.size_append, zl_123, zl_123_10, zl_125, zl_125_10, zl_58, zl_58_32] at c91b3)
        obtain rfl := Option.some.inj H
        try go_wp2
        have n0_ := a_ (Kd.R_drew HO_701003.out)
        have n1_ := a_ (Kd.R_drew HO_701004.out)
        have n2_ := a_ (blk_drew BK688.out)
        have n3_ := a_ (blk_drew BK700.out)
        have n4_ := a_ (below_drew1 HB.out)
        clear HO_701003
        clear HO_701004
        clear BK688
        clear BK700
        clear HB
        have HO_701003 := n0_
        have HO_701004 := n1_
        have BK688 := n2_
        have BK700 := n3_
        have HB := n4_
        clear n0_ n1_ n2_ n3_ n4_
        refine start_ (n := 23) (S := fun w' => w'.cell? ⟨gb688, 0, none⟩ = some (.int .i64 a2_0) ∧ w'.cell? ⟨gb688, 1, none⟩ = some (.string a2_1) ∧ w'.cell? ⟨gb688, 2, none⟩ = some (.string a2_2) ∧ w'.cell? ⟨gb688, 3, none⟩ = some (.bool a2_3)) (ds := []) #[false, false, false, false, false, false, false, false, false, false, false, false, false, false, false, false, false, false, false, false, false, false, false] (by kernel_rfl) rfl rfl ⟨(blk_cell BK688.out 0).trans rfl, (blk_cell BK688.out 1).trans rfl, (blk_cell BK688.out 2).trans rfl, (blk_cell BK688.out 3).trans rfl⟩ (fun hHeld => ?_); refine with_tabW lFn.tab11 lFn.bits11 (fun HT_ HW_ => ?_)
        generalize wc.drew = w92 at HO_701003 HO_701004 BK688 BK700 HB hHeld ⊢
        refine pure_ (i := 0) (N := some 103) (v := ?_) (a' := ?_) #[true, false, false, false, false, false, false, false, false, false, false, false, false, false, false, false, false, false, false, false, false, false, false] rfl rfl (any_of HT_.out (by kernel_rfl)) (fun _ _ _ h => h) (Or.inl ⟨by rfl, ?_⟩) ?_ ?_
        rotate_left
        ·
         intro w'
         go_simp
         with_reducible rfl
        rotate_left
        ·
         simp only [Act.put, List.setIfInBounds_toArray, List.set_cons_zero, List.set_cons_succ, i64_w, i32_w]
         rfl
        refine pure_ (i := 3) (N := some 106) (v := ?_) (a' := ?_) #[true, false, false, true, false, false, false, false, false, false, false, false, false, false, false, false, false, false, false, false, false, false, false] rfl rfl (any_of HT_.out (by kernel_rfl)) (fun _ _ _ h => h) (Or.inl ⟨by rfl, ?_⟩) ?_ ?_
        rotate_left
        ·
         intro w'
         go_simp
         with_reducible rfl
        rotate_left
        ·
         simp only [Act.put, List.setIfInBounds_toArray, List.set_cons_zero, List.set_cons_succ, i64_w, i32_w]
         rfl
        refine pure_ (i := 6) (N := some 109) (v := ?_) (a' := ?_) #[true, false, false, true, false, false, true, false, false, false, false, false, false, false, false, false, false, false, false, false, false, false, false] rfl rfl (any_of HT_.out (by kernel_rfl)) (fun _ _ _ h => h) (Or.inl ⟨by rfl, ?_⟩) ?_ ?_
        rotate_left
        ·
         intro w'
         go_simp
         with_reducible rfl
        rotate_left
        ·
         simp only [Act.put, List.setIfInBounds_toArray, List.set_cons_zero, List.set_cons_succ, i64_w, i32_w]
         rfl
        refine pure_ (i := 9) (N := some 112) (v := ?_) (a' := ?_) #[true, false, false, true, false, false, true, false, false, true, false, false, false, false, false, false, false, false, false, false, false, false, false] rfl rfl (any_of HT_.out (by kernel_rfl)) (fun _ _ _ h => h) (Or.inl ⟨by rfl, ?_⟩) ?_ ?_
        rotate_left
        ·
         intro w'
         go_simp
         with_reducible rfl
        rotate_left
        ·
         simp only [Act.put, List.setIfInBounds_toArray, List.set_cons_zero, List.set_cons_succ, i64_w, i32_w]
         rfl
        refine pure_ (i := 12) (N := some 115) (v := ?_) (a' := ?_) #[true, false, false, true, false, false, true, false, false, true, false, false, true, false, false, false, false, false, false, false, false, false, false] rfl rfl (any_of HT_.out (by kernel_rfl)) (fun _ _ _ h => h) (Or.inl ⟨by rfl, ?_⟩) ?_ ?_
        rotate_left
        ·
         intro w'
         go_simp
         with_reducible rfl
        rotate_left
        ·
         simp only [Act.put, List.setIfInBounds_toArray, List.set_cons_zero, List.set_cons_succ, i64_w, i32_w]
         rfl
        refine pure_ (i := 15) (N := some 118) (v := ?_) (a' := ?_) #[true, false, false, true, false, false, true, false, false, true, false, false, true, false, false, true, false, false, false, false, false, false, false] rfl rfl (any_of HT_.out (by kernel_rfl)) (fun _ _ _ h => h) (Or.inl ⟨by rfl, ?_⟩) ?_ ?_
        rotate_left
        ·
         intro w'
         go_simp
         with_reducible rfl
        rotate_left
        ·
         simp only [Act.put, List.setIfInBounds_toArray, List.set_cons_zero, List.set_cons_succ, i64_w, i32_w]
         rfl
        refine pure_ (i := 17) (N := some 120) (v := ?_) (a' := ?_) #[true, false, false, true, false, false, true, false, false, true, false, false, true, false, false, true, false, true, false, false, false, false, false] rfl rfl (any_of HT_.out (by kernel_rfl)) (fun _ _ _ h => h) (Or.inl ⟨by rfl, ?_⟩) ?_ ?_
        rotate_left
        ·
         intro w'
         go_simp
         with_reducible rfl
        rotate_left
        ·
         simp only [Act.put, List.setIfInBounds_toArray, List.set_cons_zero, List.set_cons_succ, i64_w, i32_w]
         rfl
        refine take_ (i := 1) (N := some 104) (v := ?_) (a' := ?_) #[true, true, false, true, false, false, true, false, false, true, false, false, true, false, false, true, false, true, false, false, false, false, false] rfl rfl (take_ofW HT_.out HW_.out (by kernel_rfl)) (fun _ _ _ h => h) (Or.inl ⟨by rfl, ?_⟩) hHeld ?_ ?_
        rotate_left
        ·
         rintro w' ⟨s0, s1, s2, s3⟩
         go_simp
         with_reducible rfl
        rotate_left
        ·
         simp only [Act.put, List.setIfInBounds_toArray, List.set_cons_zero, List.set_cons_succ, i64_w, i32_w]
         rfl
        refine take_ (i := 4) (N := some 107) (v := ?_) (a' := ?_) #[true, true, false, true, true, false, true, false, false, true, false, false, true, false, false, true, false, true, false, false, false, false, false] rfl rfl (take_ofW HT_.out HW_.out (by kernel_rfl)) (fun _ _ _ h => h) (Or.inl ⟨by rfl, ?_⟩) hHeld ?_ ?_
        rotate_left
        ·
         rintro w' ⟨s0, s1, s2, s3⟩
         go_simp
         with_reducible rfl
        rotate_left
        ·
         simp only [Act.put, List.setIfInBounds_toArray, List.set_cons_zero, List.set_cons_succ, i64_w, i32_w]
         rfl
        refine pure_ (i := 5) (N := some 108) (v := ?_) (a' := ?_) #[true, true, false, true, true, true, true, false, false, true, false, false, true, false, false, true, false, true, false, false, false, false, false] rfl rfl (any_of HT_.out (by kernel_rfl)) (fun _ _ _ h => h) (Or.inl ⟨by rfl, ?_⟩) ?_ ?_
        rotate_left
        ·
         intro w'
         go_simp
         with_reducible rfl
        rotate_left
        ·
         simp only [Act.put, List.setIfInBounds_toArray, List.set_cons_zero, List.set_cons_succ, i64_w, i32_w]
         rfl
        refine take_ (i := 7) (N := some 110) (v := ?_) (a' := ?_) #[true, true, false, true, true, true, true, true, false, true, false, false, true, false, false, true, false, true, false, false, false, false, false] rfl rfl (take_ofW HT_.out HW_.out (by kernel_rfl)) (fun _ _ _ h => h) (Or.inl ⟨by rfl, ?_⟩) hHeld ?_ ?_
        rotate_left
        ·
         rintro w' ⟨s0, s1, s2, s3⟩
         go_simp
         with_reducible rfl
        rotate_left
        ·
         simp only [Act.put, List.setIfInBounds_toArray, List.set_cons_zero, List.set_cons_succ, i64_w, i32_w]
         rfl
        refine pure_ (i := 8) (N := some 111) (v := ?_) (a' := ?_) #[true, true, false, true, true, true, true, true, true, true, false, false, true, false, false, true, false, true, false, false, false, false, false] rfl rfl (any_of HT_.out (by kernel_rfl)) (fun _ _ _ h => h) (Or.inl ⟨by rfl, ?_⟩) ?_ ?_
        rotate_left
        ·
         intro w'
         go_simp
         with_reducible rfl
        rotate_left
        ·
         simp only [Act.put, List.setIfInBounds_toArray, List.set_cons_zero, List.set_cons_succ, i64_w, i32_w]
         rfl
        refine take_ (i := 10) (N := some 113) (v := ?_) (a' := ?_) #[true, true, false, true, true, true, true, true, true, true, true, false, true, false, false, true, false, true, false, false, false, false, false] rfl rfl (take_ofW HT_.out HW_.out (by kernel_rfl)) (fun _ _ _ h => h) (Or.inl ⟨by rfl, ?_⟩) hHeld ?_ ?_
        rotate_left
        ·
         rintro w' ⟨s0, s1, s2, s3⟩
         go_simp
         with_reducible rfl
        rotate_left
        ·
         simp only [Act.put, List.setIfInBounds_toArray, List.set_cons_zero, List.set_cons_succ, i64_w, i32_w]
         rfl
        refine pure_ (i := 11) (N := some 114) (v := ?_) (a' := ?_) #[true, true, false, true, true, true, true, true, true, true, true, true, true, false, false, true, false, true, false, false, false, false, false] rfl rfl (any_of HT_.out (by kernel_rfl)) (fun _ _ _ h => h) (Or.inl ⟨by rfl, ?_⟩) ?_ ?_
        rotate_left
        ·
         intro w'
         go_simp
         with_reducible rfl
        rotate_left
        ·
         simp only [Act.put, List.setIfInBounds_toArray, List.set_cons_zero, List.set_cons_succ, i64_w, i32_w]
         rfl
        refine pure_ (i := 13) (N := some 116) (v := ?_) (a' := ?_) #[true, true, false, true, true, true, true, true, true, true, true, true, true, true, false, true, false, true, false, false, false, false, false] rfl rfl (any_of HT_.out (by kernel_rfl)) (fun _ _ _ h => h) (Or.inl ⟨by rfl, ?_⟩) ?_ ?_
        rotate_left
        ·
         intro w'
         go_simp
         with_reducible rfl
        rotate_left
        ·
         simp only [Act.put, List.setIfInBounds_toArray, List.set_cons_zero, List.set_cons_succ, i64_w, i32_w]
         rfl
        refine pure_ (i := 14) (N := some 117) (v := ?_) (a' := ?_) #[true, true, false, true, true, true, true, true, true, true, true, true, true, true, true, true, false, true, false, false, false, false, false] rfl rfl (any_of HT_.out (by kernel_rfl)) (fun _ _ _ h => h) (Or.inl ⟨by rfl, ?_⟩) ?_ ?_
        rotate_left
        ·
         intro w'
         go_simp
         with_reducible rfl
        rotate_left
        ·
         simp only [Act.put, List.setIfInBounds_toArray, List.set_cons_zero, List.set_cons_succ, i64_w, i32_w]
         rfl
        refine pure_ (i := 16) (N := some 119) (v := ?_) (a' := ?_) #[true, true, false, true, true, true, true, true, true, true, true, true, true, true, true, true, true, true, false, false, false, false, false] rfl rfl (any_of HT_.out (by kernel_rfl)) (fun _ _ _ h => h) (Or.inl ⟨by rfl, ?_⟩) ?_ ?_
        rotate_left
        ·
         intro w'
         go_simp
         with_reducible rfl
        rotate_left
        ·
         simp only [Act.put, List.setIfInBounds_toArray, List.set_cons_zero, List.set_cons_succ, i64_w, i32_w]
         rfl
        refine take_ (i := 18) (N := some 121) (v := ?_) (a' := ?_) #[true, true, false, true, true, true, true, true, true, true, true, true, true, true, true, true, true, true, true, false, false, false, false] rfl rfl (take_ofW HT_.out HW_.out (by kernel_rfl)) (fun _ _ _ h => h) (Or.inl ⟨by rfl, ?_⟩) hHeld ?_ ?_
        rotate_left
        ·
         rintro w' ⟨s0, s1, s2, s3⟩
         go_simp
         with_reducible rfl
        rotate_left
        ·
         simp only [Act.put, List.setIfInBounds_toArray, List.set_cons_zero, List.set_cons_succ, i64_w, i32_w]
         rfl
        refine pure_ (i := 19) (N := some 122) (v := ?_) (a' := ?_) #[true, true, false, true, true, true, true, true, true, true, true, true, true, true, true, true, true, true, true, true, false, false, false] rfl rfl (any_of HT_.out (by kernel_rfl)) (fun _ _ _ h => h) (Or.inl ⟨by rfl, ?_⟩) ?_ ?_
        rotate_left
        ·
         intro w'
         go_simp
         with_reducible rfl
        rotate_left
        ·
         simp only [Act.put, List.setIfInBounds_toArray, List.set_cons_zero, List.set_cons_succ, i64_w, i32_w]
         rfl
        refine pure_ (i := 20) (N := some 123) (v := ?_) (a' := ?_) #[true, true, false, true, true, true, true, true, true, true, true, true, true, true, true, true, true, true, true, true, true, false, false] rfl rfl (any_of HT_.out (by kernel_rfl)) (fun _ _ _ h => h) (Or.inl ⟨by rfl, ?_⟩) ?_ ?_
        rotate_left
        ·
         intro w'
         go_simp
         with_reducible rfl
        rotate_left
        ·
         simp only [Act.put, List.setIfInBounds_toArray, List.set_cons_zero, List.set_cons_succ, i64_w, i32_w]
         rfl
        refine one_ (i := 2) (N := some 105) #[true, true, true, true, true, true, true, true, true, true, true, true, true, true, true, true, true, true, true, true, true, false, false] rfl rfl (one_of HT_.out (by kernel_rfl)) (by decide) (fun K hK => ?_)
        refine goes_ Try.func11 (by kernel_rfl) rfl #[.string (((((⟨#[123]⟩ : ByteArray) ++ t704) ++ (⟨#[58]⟩ : ByteArray)) ++ a1) ++ (⟨#[125]⟩ : ByteArray)), .agg #[.int .i64 a2_0, .string a2_1, .string a2_2, .bool a2_3]] (by rfl) rfl rfl ar_ ?_
        with_reducible refine (impl_PrPretty.calls kj74 (((((⟨#[123]⟩ : ByteArray) ++ t704) ++ (⟨#[58]⟩ : ByteArray)) ++ a1) ++ (⟨#[125]⟩ : ByteArray)) a2_0 a2_1 a2_2 a2_3 t706 _ A83.out).mono ?_
        rintro e w93 ⟨rfl, hb⟩
        refine ⟨_, rfl, ?_⟩
        have n0_ := a_ (Kd.R_below (rp_ HO_701003) hb)
        have n1_ := a_ (Kd.R_below (rp_ HO_701004) hb)
        have n2_ := a_ (blk_below (g := gb688) (o := .cells #[.int .i64 a2_0, .string a2_1, .string a2_2, .bool a2_3] 23 (0, 0)) (bk_ BK688) hb)
        have n3_ := a_ (blk_below (g := gb700) (o := .cells #[.int .i64 t690, .int .i64 t691, .int .i64 t692, .slice Ao18 t693.length co18, .slice Ao19 t696.length co19] 28 (0, 0)) (bk_ BK700) hb)
        have n4_ := a_ (below_step (bl_ HB) hb)
        clear HO_701003
        clear HO_701004
        clear BK688
        clear BK700
        clear HB
        have HO_701003 := n0_
        have HO_701004 := n1_
        have BK688 := n2_
        have BK700 := n3_
        have HB := n4_
        clear n0_ n1_ n2_ n3_ n4_
        (try clear hb)
        (try clear hb2)
        (try clear hk)
        (try clear hi)
        refine hK.out _ _ ⟨(blk_cell BK688.out 0).trans rfl, (blk_cell BK688.out 1).trans rfl, (blk_cell BK688.out 2).trans rfl, (blk_cell BK688.out 3).trans rfl⟩ (fun hHeld => ?_)
        clear hK K
        refine norm_ (a' := ?_) ?_ ?_
        rotate_left
        ·
         show Act.put _ (some 105) _ = _
         simp only [Act.put, List.setIfInBounds_toArray, List.set_cons_zero, List.set_cons_succ, i64_w, i32_w]
         rfl
        refine pure_ (i := 21) (N := some 124) (v := ?_) (a' := ?_) #[true, true, true, true, true, true, true, true, true, true, true, true, true, true, true, true, true, true, true, true, true, true, false] rfl rfl (any_of HT_.out (by kernel_rfl)) (fun _ _ _ h => h) (Or.inl ⟨by rfl, ?_⟩) ?_ ?_
        rotate_left
        ·
         intro w'
         go_simp
         with_reducible rfl
        rotate_left
        ·
         simp only [Act.put, List.setIfInBounds_toArray, List.set_cons_zero, List.set_cons_succ, i64_w, i32_w]
         rfl
        refine pure_ (i := 22) (N := some 6) (v := ?_) (a' := ?_) #[true, true, true, true, true, true, true, true, true, true, true, true, true, true, true, true, true, true, true, true, true, true, true] rfl rfl (any_of HT_.out (by kernel_rfl)) (fun _ _ _ h => h) (Or.inl ⟨by rfl, ?_⟩) ?_ ?_
        rotate_left
        ·
         intro w'
         go_simp
         with_reducible rfl
        rotate_left
        ·
         simp only [Act.put, List.setIfInBounds_toArray, List.set_cons_zero, List.set_cons_succ, i64_w, i32_w]
         rfl
        refine done_ (done_of HT_.out (by kernel_rfl)) ?_
        try go_wp2
        go_ret
        exact ⟨by first | rfl | (simp [errW_none, errW_some] <;> rfl) | (simp [*, errW_none, errW_some] <;> rfl), bl_ HB⟩
       replace c82 := Bool.eq_false_iff.mpr c82
       subst c82
       rw [if_neg (show ¬ (false = true) by decide)] at H
       replace H := Option.bind_eq_some_iff.mp H
       obtain ⟨⟨t707, t708, t709, t710, t713, t716⟩, A940, H⟩ := H
       replace H : ((impl_PrPretty.f kj74 (((((⟨#[123]⟩ : ByteArray) ++ t704) ++ (⟨#[58]⟩ : ByteArray)) ++ a1) ++ (⟨#[125]⟩ : ByteArray)) a2_0 a2_1 a2_2 a2_3).bind fun t718 => ((spec_Laid.f kj74 (((((⟨#[123]⟩ : ByteArray) ++ t704) ++ (⟨#[58]⟩ : ByteArray)) ++ a1) ++ (⟨#[125]⟩ : ByteArray)) t707 t708 t709 t710 t713 a2_1 a2_2 false).bind fun t719 => (some (t718.toList == t719.toList)))) = some r := H
       have A94 := a_ A940
       clear A940
       replace H := Option.bind_eq_some_iff.mp H
       obtain ⟨t718, A950, H⟩ := H
       replace H : ((spec_Laid.f kj74 (((((⟨#[123]⟩ : ByteArray) ++ t704) ++ (⟨#[58]⟩ : ByteArray)) ++ a1) ++ (⟨#[125]⟩ : ByteArray)) t707 t708 t709 t710 t713 a2_1 a2_2 false).bind fun t719 => (some (t718.toList == t719.toList))) = some r := H
       have A95 := a_ A950
       clear A950
       replace H := Option.bind_eq_some_iff.mp H
       obtain ⟨t719, A960, H⟩ := H
       replace H : (some (t718.toList == t719.toList)) = some r := H
       have A96 := a_ A960
       clear A960
       obtain rfl := Option.some.inj H
       try go_wp2_with (first | ((with_reducible refine gate_callee (f := 12) rfl ?_); refine goesL_ (some 127) rfl rfl Try.func12 (by kernel_rfl) rfl #[.string (((((⟨#[123]⟩ : ByteArray) ++ t704) ++ (⟨#[58]⟩ : ByteArray)) ++ a1) ++ (⟨#[125]⟩ : ByteArray))] rfl ar_ ?_; (with_reducible refine (spec_Places.calls kj74 (((((⟨#[123]⟩ : ByteArray) ++ t704) ++ (⟨#[58]⟩ : ByteArray)) ++ a1) ++ (⟨#[125]⟩ : ByteArray)) t707 t708 t709 t710 t713 t716 _ A94.out).mono ?_); rintro e w97 ⟨v711, v714, rfl, ho0, ho1, hb⟩; refine ⟨_, rfl, ?_⟩; have HO712 := a_ (Kd.R_lower (Kd.R_new' ho0 (Kd.R_lt (rp_ HO_701003))) (below_size (bl_ HB))); have HO715 := a_ (Kd.R_lower (Kd.R_newB (Kd.R_new' (Kd.R_new' ho1 (Kd.R_lt (rp_ HO_701003))) (Kd.R_lt (rp_ HO_701004))) (g := gb700) (o := .cells #[.int .i64 t690, .int .i64 t691, .int .i64 t692, .slice Ao18 t693.length co18, .slice Ao19 t696.length co19] 28 (0, 0)) (bk_ BK700)) (below_size (bl_ HB))); replace HO_701003 := a_ (Kd.R_elder' (rp_ HO_701003) (Kd.R_base ho0) hb); replace HO_701004 := a_ (Kd.R_mono (Kd.R_told (Kd.R_told (Kd.R_old (rp_ HO_701004) hb) (Kd.R_base ho0)) (Kd.R_base ho1)) (fun _ h_ => h_.1)); replace BK688 := a_ (blk_below (g := gb688) (o := .cells #[.int .i64 a2_0, .string a2_1, .string a2_2, .bool a2_3] 23 (0, 0)) (bk_ BK688) hb); replace BK700 := a_ (blk_below (g := gb700) (o := .cells #[.int .i64 t690, .int .i64 t691, .int .i64 t692, .slice Ao18 t693.length co18, .slice Ao19 t696.length co19] 28 (0, 0)) (bk_ BK700) hb); replace HB := a_ (below_step (bl_ HB) hb); (try clear hb); (try clear hb2); (try clear hk); (try clear hi); (try clear ho0); (try clear ho1)) | ((with_reducible refine gate_dst (N := 13) rfl ?_); (try (refine gate_guard (by rfl) ?_; dsimp only)); refine box_event ?hg (N := 13) ?hd (cs := #[.int .i64 0, .int .i64 0, .int .i64 0, .slice none 0 0, .slice none 0 0]) (t := 28) ?hr ?_; (case hd => rfl); (case hg => rfl); (case hr => first | (go_simp; done) | (go_simp; rfl)); intro gb717 hg w98 hbox hb; replace HO_701003 := a_ (Kd.R_below (rp_ HO_701003) hb); replace HO_701004 := a_ (Kd.R_below (Kd.R_elderB (rp_ HO_701004) gb717 (Nat.le_of_eq hg.symm)) hb); replace HO712 := a_ (Kd.R_below (rp_ HO712) hb); replace HO715 := a_ (Kd.R_below (Kd.R_elderB (rp_ HO715) gb717 (Nat.le_of_eq hg.symm)) hb); have BK717 := a_ hbox; have GW717 := a_ ((by rw [hg]; exact (below_size (bl_ HB)) : w.heap.size ≤ gb717)); have GE717 := a_ ((by rw [hg]; exact (below_size (bl_ HB)) : w.heap.size ≤ gb717)); replace HB := a_ (below_step (bl_ HB) hb); have NB688_717 := a_ ((by rw [hg]; exact Nat.ne_of_lt (blk_lt (g := gb688) (o := .cells #[.int .i64 a2_0, .string a2_1, .string a2_2, .bool a2_3] 23 (0, 0)) (bk_ BK688)) : gb688 ≠ gb717)); have NB717_688 := a_ ((by rw [hg]; exact Nat.ne_of_gt (blk_lt (g := gb688) (o := .cells #[.int .i64 a2_0, .string a2_1, .string a2_2, .bool a2_3] 23 (0, 0)) (bk_ BK688)) : gb717 ≠ gb688)); replace BK688 := a_ (blk_below (g := gb688) (o := .cells #[.int .i64 a2_0, .string a2_1, .string a2_2, .bool a2_3] 23 (0, 0)) (bk_ BK688) hb); have NB700_717 := a_ ((by rw [hg]; exact Nat.ne_of_lt (blk_lt (g := gb700) (o := .cells #[.int .i64 t690, .int .i64 t691, .int .i64 t692, .slice Ao18 t693.length co18, .slice Ao19 t696.length co19] 28 (0, 0)) (bk_ BK700)) : gb700 ≠ gb717)); have NB717_700 := a_ ((by rw [hg]; exact Nat.ne_of_gt (blk_lt (g := gb700) (o := .cells #[.int .i64 t690, .int .i64 t691, .int .i64 t692, .slice Ao18 t693.length co18, .slice Ao19 t696.length co19] 28 (0, 0)) (bk_ BK700)) : gb717 ≠ gb700)); replace BK700 := a_ (blk_below (g := gb700) (o := .cells #[.int .i64 t690, .int .i64 t691, .int .i64 t692, .slice Ao18 t693.length co18, .slice Ao19 t696.length co19] 28 (0, 0)) (bk_ BK700) hb); clear hb hbox hg; have hnb99 := NB717_688.out; have hnc99 := NB688_717.out; have hnb100 := NB717_700.out; have hnc100 := NB700_717.out; obtain ⟨hcz101_0, hcz101_1, hcz101_2, hcz101_3, hcz101_4, hfz101_0, hfz101_1, hfz101_2, hfz101_3, hfz101_4⟩ := b5_ BK717; obtain ⟨Ao102, co102, eo102⟩ := Kd.R_slice HO712.out; subst eo102; obtain ⟨Ao103, co103, eo103⟩ := Kd.R_slice HO715.out; subst eo103))
       have n0_ : Aside0 (Kd.R k54 54 (((((w98.setCell ⟨gb717, 0, none⟩ (.int .i64 t707)).setCell ⟨gb717, 1, none⟩ (.int .i64 t708)).setCell ⟨gb717, 2, none⟩ (.int .i64 t709)).setCell ⟨gb717, 3, none⟩ (.slice Ao102 t710.length co102)).setCell ⟨gb717, 4, none⟩ (.slice Ao103 t713.length co103)) w.heap.size (fun k_ => some k_ ≠ (.slice Ao102 t710.length co102 : Value).ownBlock) (.slice Ao18 t693.length co18) t693) := ⟨by (with_reducible repeat (first | apply Kd.R_alloc | apply Kd.R_drewN | apply Kd.R_drew)); exact Kd.R_mono (Kd.R_far (p := ⟨gb717, 4, none⟩) (Kd.R_far (p := ⟨gb717, 3, none⟩) (Kd.R_far (p := ⟨gb717, 2, none⟩) (Kd.R_far (p := ⟨gb717, 1, none⟩) (Kd.R_far (p := ⟨gb717, 0, none⟩) (Kd.R_types HO_701003.out BK717.out (by decide)) (fun _ hk => hk.2) (.int .i64 t707)) (fun _ hk => hk.2) (.int .i64 t708)) (fun _ hk => hk.2) (.int .i64 t709)) (fun _ hk => hk.2) (.slice Ao102 t710.length co102)) (fun _ hk => hk.2) (.slice Ao103 t713.length co103)) (fun _ hk => hk.1.2)⟩
       have n1_ : Aside0 (Kd.R k28 28 (((((w98.setCell ⟨gb717, 0, none⟩ (.int .i64 t707)).setCell ⟨gb717, 1, none⟩ (.int .i64 t708)).setCell ⟨gb717, 2, none⟩ (.int .i64 t709)).setCell ⟨gb717, 3, none⟩ (.slice Ao102 t710.length co102)).setCell ⟨gb717, 4, none⟩ (.slice Ao103 t713.length co103)) w.heap.size (fun k_ => some k_ ≠ (.slice Ao18 t693.length co18 : Value).ownBlock ∧ some k_ ≠ (.slice Ao102 t710.length co102 : Value).ownBlock ∧ some k_ ≠ (.slice Ao103 t713.length co103 : Value).ownBlock ∧ k_ ≠ gb700 ∧ k_ ≠ gb717) (.slice Ao19 t696.length co19) t696) := ⟨by (with_reducible repeat (first | apply Kd.R_alloc | apply Kd.R_drewN | apply Kd.R_drew)); exact Kd.R_mono (Kd.R_far (p := ⟨gb717, 4, none⟩) (Kd.R_far (p := ⟨gb717, 3, none⟩) (Kd.R_far (p := ⟨gb717, 2, none⟩) (Kd.R_far (p := ⟨gb717, 1, none⟩) (Kd.R_far (p := ⟨gb717, 0, none⟩) (Kd.R_mono HO_701004.out (fun k_ hk => (⟨hk, hk.2⟩ : _ ∧ k_ ≠ gb717))) (fun _ hk => hk.2) (.int .i64 t707)) (fun _ hk => hk.2) (.int .i64 t708)) (fun _ hk => hk.2) (.int .i64 t709)) (fun _ hk => hk.2) (.slice Ao102 t710.length co102)) (fun _ hk => hk.2) (.slice Ao103 t713.length co103)) (fun _ hk => ⟨hk.1.1.1.1.1, ⟨hk.1.1.1.2, ⟨hk.1.1.2, ⟨hk.1.1.1.1.2, hk.1.2⟩⟩⟩⟩)⟩
       have n2_ : Aside0 (Kd.R k54 54 (((((w98.setCell ⟨gb717, 0, none⟩ (.int .i64 t707)).setCell ⟨gb717, 1, none⟩ (.int .i64 t708)).setCell ⟨gb717, 2, none⟩ (.int .i64 t709)).setCell ⟨gb717, 3, none⟩ (.slice Ao102 t710.length co102)).setCell ⟨gb717, 4, none⟩ (.slice Ao103 t713.length co103)) w.heap.size (fun k_ => some k_ ≠ (.slice Ao18 t693.length co18 : Value).ownBlock) (.slice Ao102 t710.length co102) t710) := ⟨by (with_reducible repeat (first | apply Kd.R_alloc | apply Kd.R_drewN | apply Kd.R_drew)); exact Kd.R_mono (Kd.R_far (p := ⟨gb717, 4, none⟩) (Kd.R_far (p := ⟨gb717, 3, none⟩) (Kd.R_far (p := ⟨gb717, 2, none⟩) (Kd.R_far (p := ⟨gb717, 1, none⟩) (Kd.R_far (p := ⟨gb717, 0, none⟩) (Kd.R_types HO712.out BK717.out (by decide)) (fun _ hk => hk.2) (.int .i64 t707)) (fun _ hk => hk.2) (.int .i64 t708)) (fun _ hk => hk.2) (.int .i64 t709)) (fun _ hk => hk.2) (.slice Ao102 t710.length co102)) (fun _ hk => hk.2) (.slice Ao103 t713.length co103)) (fun _ hk => hk.1.2)⟩
       have n3_ : Aside0 (Kd.R k28 28 (((((w98.setCell ⟨gb717, 0, none⟩ (.int .i64 t707)).setCell ⟨gb717, 1, none⟩ (.int .i64 t708)).setCell ⟨gb717, 2, none⟩ (.int .i64 t709)).setCell ⟨gb717, 3, none⟩ (.slice Ao102 t710.length co102)).setCell ⟨gb717, 4, none⟩ (.slice Ao103 t713.length co103)) w.heap.size (fun k_ => some k_ ≠ (.slice Ao18 t693.length co18 : Value).ownBlock ∧ some k_ ≠ (.slice Ao19 t696.length co19 : Value).ownBlock ∧ some k_ ≠ (.slice Ao102 t710.length co102 : Value).ownBlock ∧ k_ ≠ gb700 ∧ k_ ≠ gb717) (.slice Ao103 t713.length co103) t713) := ⟨by (with_reducible repeat (first | apply Kd.R_alloc | apply Kd.R_drewN | apply Kd.R_drew)); exact Kd.R_mono (Kd.R_far (p := ⟨gb717, 4, none⟩) (Kd.R_far (p := ⟨gb717, 3, none⟩) (Kd.R_far (p := ⟨gb717, 2, none⟩) (Kd.R_far (p := ⟨gb717, 1, none⟩) (Kd.R_far (p := ⟨gb717, 0, none⟩) (Kd.R_mono HO715.out (fun k_ hk => (⟨hk, hk.2⟩ : _ ∧ k_ ≠ gb717))) (fun _ hk => hk.2) (.int .i64 t707)) (fun _ hk => hk.2) (.int .i64 t708)) (fun _ hk => hk.2) (.int .i64 t709)) (fun _ hk => hk.2) (.slice Ao102 t710.length co102)) (fun _ hk => hk.2) (.slice Ao103 t713.length co103)) (fun _ hk => ⟨hk.1.1.1.1.2, ⟨hk.1.1.1.2, ⟨hk.1.1.1.1.1, ⟨hk.1.1.2, hk.1.2⟩⟩⟩⟩)⟩
       have n4_ : Aside0 ((((((w98.setCell ⟨gb717, 0, none⟩ (.int .i64 t707)).setCell ⟨gb717, 1, none⟩ (.int .i64 t708)).setCell ⟨gb717, 2, none⟩ (.int .i64 t709)).setCell ⟨gb717, 3, none⟩ (.slice Ao102 t710.length co102)).setCell ⟨gb717, 4, none⟩ (.slice Ao103 t713.length co103)).heap[gb688]? = some (.cells #[.int .i64 a2_0, .string a2_1, .string a2_2, .bool a2_3] 23 (0, 0))) := ⟨by (with_reducible repeat (first | refine blk_drewN ?_ _ | refine blk_drew ?_ | refine blk_alloc ?_ _)); refine blk_far ?_ NB688_717.out _; (with_reducible repeat (first | refine blk_drewN ?_ _ | refine blk_drew ?_ | refine blk_alloc ?_ _)); refine blk_far ?_ NB688_717.out _; (with_reducible repeat (first | refine blk_drewN ?_ _ | refine blk_drew ?_ | refine blk_alloc ?_ _)); refine blk_far ?_ NB688_717.out _; (with_reducible repeat (first | refine blk_drewN ?_ _ | refine blk_drew ?_ | refine blk_alloc ?_ _)); refine blk_far ?_ NB688_717.out _; (with_reducible repeat (first | refine blk_drewN ?_ _ | refine blk_drew ?_ | refine blk_alloc ?_ _)); refine blk_far ?_ NB688_717.out _; (with_reducible repeat (first | refine blk_drewN ?_ _ | refine blk_drew ?_ | refine blk_alloc ?_ _)); exact BK688.out⟩
       have n5_ : Aside0 ((((((w98.setCell ⟨gb717, 0, none⟩ (.int .i64 t707)).setCell ⟨gb717, 1, none⟩ (.int .i64 t708)).setCell ⟨gb717, 2, none⟩ (.int .i64 t709)).setCell ⟨gb717, 3, none⟩ (.slice Ao102 t710.length co102)).setCell ⟨gb717, 4, none⟩ (.slice Ao103 t713.length co103)).heap[gb700]? = some (.cells #[.int .i64 t690, .int .i64 t691, .int .i64 t692, .slice Ao18 t693.length co18, .slice Ao19 t696.length co19] 28 (0, 0))) := ⟨by (with_reducible repeat (first | refine blk_drewN ?_ _ | refine blk_drew ?_ | refine blk_alloc ?_ _)); refine blk_far ?_ NB700_717.out _; (with_reducible repeat (first | refine blk_drewN ?_ _ | refine blk_drew ?_ | refine blk_alloc ?_ _)); refine blk_far ?_ NB700_717.out _; (with_reducible repeat (first | refine blk_drewN ?_ _ | refine blk_drew ?_ | refine blk_alloc ?_ _)); refine blk_far ?_ NB700_717.out _; (with_reducible repeat (first | refine blk_drewN ?_ _ | refine blk_drew ?_ | refine blk_alloc ?_ _)); refine blk_far ?_ NB700_717.out _; (with_reducible repeat (first | refine blk_drewN ?_ _ | refine blk_drew ?_ | refine blk_alloc ?_ _)); refine blk_far ?_ NB700_717.out _; (with_reducible repeat (first | refine blk_drewN ?_ _ | refine blk_drew ?_ | refine blk_alloc ?_ _)); exact BK700.out⟩
       have n6_ : Aside0 ((((((w98.setCell ⟨gb717, 0, none⟩ (.int .i64 t707)).setCell ⟨gb717, 1, none⟩ (.int .i64 t708)).setCell ⟨gb717, 2, none⟩ (.int .i64 t709)).setCell ⟨gb717, 3, none⟩ (.slice Ao102 t710.length co102)).setCell ⟨gb717, 4, none⟩ (.slice Ao103 t713.length co103)).heap[gb717]? = some (.cells #[.int .i64 t707, .int .i64 t708, .int .i64 t709, .slice Ao102 t710.length co102, .slice Ao103 t713.length co103] 28 (0, 0))) := ⟨by (with_reducible repeat (first | refine blk_drewN ?_ _ | refine blk_drew ?_ | refine blk_alloc ?_ _)); refine blk_put (cs := #[.int .i64 t707, .int .i64 t708, .int .i64 t709, .slice Ao102 t710.length co102, .slice none 0 0]) ?_ 4 _ rfl; (with_reducible repeat (first | refine blk_drewN ?_ _ | refine blk_drew ?_ | refine blk_alloc ?_ _)); refine blk_put (cs := #[.int .i64 t707, .int .i64 t708, .int .i64 t709, .slice none 0 0, .slice none 0 0]) ?_ 3 _ rfl; (with_reducible repeat (first | refine blk_drewN ?_ _ | refine blk_drew ?_ | refine blk_alloc ?_ _)); refine blk_put (cs := #[.int .i64 t707, .int .i64 t708, .int .i64 0, .slice none 0 0, .slice none 0 0]) ?_ 2 _ rfl; (with_reducible repeat (first | refine blk_drewN ?_ _ | refine blk_drew ?_ | refine blk_alloc ?_ _)); refine blk_put (cs := #[.int .i64 t707, .int .i64 0, .int .i64 0, .slice none 0 0, .slice none 0 0]) ?_ 1 _ rfl; (with_reducible repeat (first | refine blk_drewN ?_ _ | refine blk_drew ?_ | refine blk_alloc ?_ _)); refine blk_put (cs := #[.int .i64 0, .int .i64 0, .int .i64 0, .slice none 0 0, .slice none 0 0]) ?_ 0 _ rfl; (with_reducible repeat (first | refine blk_drewN ?_ _ | refine blk_drew ?_ | refine blk_alloc ?_ _)); exact BK717.out⟩
       have n7_ : Aside0 (Below w.heap.size w (((((w98.setCell ⟨gb717, 0, none⟩ (.int .i64 t707)).setCell ⟨gb717, 1, none⟩ (.int .i64 t708)).setCell ⟨gb717, 2, none⟩ (.int .i64 t709)).setCell ⟨gb717, 3, none⟩ (.slice Ao102 t710.length co102)).setCell ⟨gb717, 4, none⟩ (.slice Ao103 t713.length co103))) := ⟨bl_ HB⟩
       (try clear HO_701003)
       (try clear HO_701004)
       (try clear HO712)
       (try clear HO715)
       (try clear BK688)
       (try clear BK700)
       (try clear BK717)
       (try clear HB)
       generalize (((((w98.setCell ⟨gb717, 0, none⟩ (.int .i64 t707)).setCell ⟨gb717, 1, none⟩ (.int .i64 t708)).setCell ⟨gb717, 2, none⟩ (.int .i64 t709)).setCell ⟨gb717, 3, none⟩ (.slice Ao102 t710.length co102)).setCell ⟨gb717, 4, none⟩ (.slice Ao103 t713.length co103)) = w104 at n0_ n1_ n2_ n3_ n4_ n5_ n6_ n7_ ⊢
       have HO_701003 := n0_
       have HO_701004 := n1_
       have HO712 := n2_
       have HO715 := n3_
       have BK688 := n4_
       have BK700 := n5_
       have BK717 := n6_
       have HB := n7_
       clear n0_ n1_ n2_ n3_ n4_ n5_ n6_ n7_
       have n0_ := a_ (Kd.R_drew HO_701003.out)
       have n1_ := a_ (Kd.R_drew HO_701004.out)
       have n2_ := a_ (Kd.R_drew HO712.out)
       have n3_ := a_ (Kd.R_drew HO715.out)
       have n4_ := a_ (blk_drew BK688.out)
       have n5_ := a_ (blk_drew BK700.out)
       have n6_ := a_ (blk_drew BK717.out)
       have n7_ := a_ (below_drew1 HB.out)
       clear HO_701003
       clear HO_701004
       clear HO712
       clear HO715
       clear BK688
       clear BK700
       clear BK717
       clear HB
       have HO_701003 := n0_
       have HO_701004 := n1_
       have HO712 := n2_
       have HO715 := n3_
       have BK688 := n4_
       have BK700 := n5_
       have BK717 := n6_
       have HB := n7_
       clear n0_ n1_ n2_ n3_ n4_ n5_ n6_ n7_
       refine start_ (n := 12) (S := fun w' => w'.cell? ⟨gb688, 0, none⟩ = some (.int .i64 a2_0) ∧ w'.cell? ⟨gb688, 1, none⟩ = some (.string a2_1) ∧ w'.cell? ⟨gb688, 2, none⟩ = some (.string a2_2) ∧ w'.cell? ⟨gb688, 3, none⟩ = some (.bool a2_3) ∧ w'.cell? ⟨gb717, 0, none⟩ = some (.int .i64 t707) ∧ w'.cell? ⟨gb717, 1, none⟩ = some (.int .i64 t708) ∧ w'.cell? ⟨gb717, 2, none⟩ = some (.int .i64 t709) ∧ w'.cell? ⟨gb717, 3, none⟩ = some (.slice Ao102 t710.length co102) ∧ w'.cell? ⟨gb717, 4, none⟩ = some (.slice Ao103 t713.length co103)) (ds := []) #[false, false, false, false, false, false, false, false, false, false, false, false] (by kernel_rfl) rfl rfl ⟨(blk_cell BK688.out 0).trans rfl, (blk_cell BK688.out 1).trans rfl, (blk_cell BK688.out 2).trans rfl, (blk_cell BK688.out 3).trans rfl, (blk_cell BK717.out 0).trans rfl, (blk_cell BK717.out 1).trans rfl, (blk_cell BK717.out 2).trans rfl, (blk_cell BK717.out 3).trans rfl, (blk_cell BK717.out 4).trans rfl⟩ (fun hHeld => ?_); refine with_tabW lFn.tab13 lFn.bits13 (fun HT_ HW_ => ?_)
       generalize w104.drew = w105 at HO_701003 HO_701004 HO712 HO715 BK688 BK700 BK717 HB hHeld ⊢
       refine pure_ (i := 0) (N := some 130) (v := ?_) (a' := ?_) #[true, false, false, false, false, false, false, false, false, false, false, false] rfl rfl (any_of HT_.out (by kernel_rfl)) (fun _ _ _ h => h) (Or.inl ⟨by rfl, ?_⟩) ?_ ?_
       rotate_left
       ·
        intro w'
        go_simp
        with_reducible rfl
       rotate_left
       ·
        simp only [Act.put, List.setIfInBounds_toArray, List.set_cons_zero, List.set_cons_succ, i64_w, i32_w]
        rfl
       refine pure_ (i := 3) (N := some 133) (v := ?_) (a' := ?_) #[true, false, false, true, false, false, false, false, false, false, false, false] rfl rfl (any_of HT_.out (by kernel_rfl)) (fun _ _ _ h => h) (Or.inl ⟨by rfl, ?_⟩) ?_ ?_
       rotate_left
       ·
        intro w'
        go_simp
        with_reducible rfl
       rotate_left
       ·
        simp only [Act.put, List.setIfInBounds_toArray, List.set_cons_zero, List.set_cons_succ, i64_w, i32_w]
        rfl
       refine pure_ (i := 5) (N := some 135) (v := ?_) (a' := ?_) #[true, false, false, true, false, true, false, false, false, false, false, false] rfl rfl (any_of HT_.out (by kernel_rfl)) (fun _ _ _ h => h) (Or.inl ⟨by rfl, ?_⟩) ?_ ?_
       rotate_left
       ·
        intro w'
        go_simp
        with_reducible rfl
       rotate_left
       ·
        simp only [Act.put, List.setIfInBounds_toArray, List.set_cons_zero, List.set_cons_succ, i64_w, i32_w]
        rfl
       refine pure_ (i := 7) (N := some 137) (v := ?_) (a' := ?_) #[true, false, false, true, false, true, false, true, false, false, false, false] rfl rfl (any_of HT_.out (by kernel_rfl)) (fun _ _ _ h => h) (Or.inl ⟨by rfl, ?_⟩) ?_ ?_
       rotate_left
       ·
        intro w'
        go_simp
        with_reducible rfl
       rotate_left
       ·
        simp only [Act.put, List.setIfInBounds_toArray, List.set_cons_zero, List.set_cons_succ, i64_w, i32_w]
        rfl
       refine take_ (i := 1) (N := some 131) (v := ?_) (a' := ?_) #[true, true, false, true, false, true, false, true, false, false, false, false] rfl rfl (take_ofW HT_.out HW_.out (by kernel_rfl)) (fun _ _ _ h => h) (Or.inl ⟨by rfl, ?_⟩) hHeld ?_ ?_
       rotate_left
       ·
        rintro w' ⟨s0, s1, s2, s3, s4, s5, s6, s7, s8⟩
        go_simp
        with_reducible rfl
       rotate_left
       ·
        simp only [Act.put, List.setIfInBounds_toArray, List.set_cons_zero, List.set_cons_succ, i64_w, i32_w]
        rfl
       refine take_ (i := 4) (N := some 134) (v := ?_) (a' := ?_) #[true, true, false, true, true, true, false, true, false, false, false, false] rfl rfl (take_ofW HT_.out HW_.out (by kernel_rfl)) (fun _ _ _ h => h) (Or.inl ⟨by rfl, ?_⟩) hHeld ?_ ?_
       rotate_left
       ·
        rintro w' ⟨s0, s1, s2, s3, s4, s5, s6, s7, s8⟩
        go_simp
        with_reducible rfl
       rotate_left
       ·
        simp only [Act.put, List.setIfInBounds_toArray, List.set_cons_zero, List.set_cons_succ, i64_w, i32_w]
        rfl
       refine take_ (i := 6) (N := some 136) (v := ?_) (a' := ?_) #[true, true, false, true, true, true, true, true, false, false, false, false] rfl rfl (take_ofW HT_.out HW_.out (by kernel_rfl)) (fun _ _ _ h => h) (Or.inl ⟨by rfl, ?_⟩) hHeld ?_ ?_
       rotate_left
       ·
        rintro w' ⟨s0, s1, s2, s3, s4, s5, s6, s7, s8⟩
        go_simp
        with_reducible rfl
       rotate_left
       ·
        simp only [Act.put, List.setIfInBounds_toArray, List.set_cons_zero, List.set_cons_succ, i64_w, i32_w]
        rfl
       refine take_ (i := 8) (N := some 138) (v := ?_) (a' := ?_) #[true, true, false, true, true, true, true, true, true, false, false, false] rfl rfl (take_ofW HT_.out HW_.out (by kernel_rfl)) (fun _ _ _ h => h) (Or.inl ⟨by rfl, ?_⟩) hHeld ?_ ?_
       rotate_left
       ·
        rintro w' ⟨s0, s1, s2, s3, s4, s5, s6, s7, s8⟩
        go_simp
        with_reducible rfl
       rotate_left
       ·
        simp only [Act.put, List.setIfInBounds_toArray, List.set_cons_zero, List.set_cons_succ, i64_w, i32_w]
        rfl
       refine one_ (i := 2) (N := some 132) #[true, true, true, true, true, true, true, true, true, false, false, false] rfl rfl (one_of HT_.out (by kernel_rfl)) (by decide) (fun K hK => ?_)
       refine goes_ Try.func11 (by kernel_rfl) rfl #[.string (((((⟨#[123]⟩ : ByteArray) ++ t704) ++ (⟨#[58]⟩ : ByteArray)) ++ a1) ++ (⟨#[125]⟩ : ByteArray)), .agg #[.int .i64 a2_0, .string a2_1, .string a2_2, .bool a2_3]] (by rfl) rfl rfl ar_ ?_
       with_reducible refine (impl_PrPretty.calls kj74 (((((⟨#[123]⟩ : ByteArray) ++ t704) ++ (⟨#[58]⟩ : ByteArray)) ++ a1) ++ (⟨#[125]⟩ : ByteArray)) a2_0 a2_1 a2_2 a2_3 t718 _ A95.out).mono ?_
       rintro e w106 ⟨rfl, hb⟩
       refine ⟨_, rfl, ?_⟩
       have n0_ := a_ (Kd.R_below (rp_ HO_701003) hb)
       have n1_ := a_ (Kd.R_below (rp_ HO_701004) hb)
       have n2_ := a_ (Kd.R_below (rp_ HO712) hb)
       have n3_ := a_ (Kd.R_below (rp_ HO715) hb)
       have n4_ := a_ (blk_below (g := gb688) (o := .cells #[.int .i64 a2_0, .string a2_1, .string a2_2, .bool a2_3] 23 (0, 0)) (bk_ BK688) hb)
       have n5_ := a_ (blk_below (g := gb700) (o := .cells #[.int .i64 t690, .int .i64 t691, .int .i64 t692, .slice Ao18 t693.length co18, .slice Ao19 t696.length co19] 28 (0, 0)) (bk_ BK700) hb)
       have n6_ := a_ (blk_below (g := gb717) (o := .cells #[.int .i64 t707, .int .i64 t708, .int .i64 t709, .slice Ao102 t710.length co102, .slice Ao103 t713.length co103] 28 (0, 0)) (bk_ BK717) hb)
       have n7_ := a_ (below_step (bl_ HB) hb)
       clear HO_701003
       clear HO_701004
       clear HO712
       clear HO715
       clear BK688
       clear BK700
       clear BK717
       clear HB
       have HO_701003 := n0_
       have HO_701004 := n1_
       have HO712 := n2_
       have HO715 := n3_
       have BK688 := n4_
       have BK700 := n5_
       have BK717 := n6_
       have HB := n7_
       clear n0_ n1_ n2_ n3_ n4_ n5_ n6_ n7_
       (try clear hb)
       (try clear hb2)
       (try clear hk)
       (try clear hi)
       refine hK.out _ _ ⟨(blk_cell BK688.out 0).trans rfl, (blk_cell BK688.out 1).trans rfl, (blk_cell BK688.out 2).trans rfl, (blk_cell BK688.out 3).trans rfl, (blk_cell BK717.out 0).trans rfl, (blk_cell BK717.out 1).trans rfl, (blk_cell BK717.out 2).trans rfl, (blk_cell BK717.out 3).trans rfl, (blk_cell BK717.out 4).trans rfl⟩ (fun hHeld => ?_)
       clear hK K
       refine norm_ (a' := ?_) ?_ ?_
       rotate_left
       ·
        show Act.put _ (some 132) _ = _
        simp only [Act.put, List.setIfInBounds_toArray, List.set_cons_zero, List.set_cons_succ, i64_w, i32_w]
        rfl
       refine one_ (i := 9) (N := some 139) #[true, true, true, true, true, true, true, true, true, true, false, false] rfl rfl (one_of HT_.out (by kernel_rfl)) (by decide) (fun K hK => ?_)
       refine goes_ Try.func10 (by kernel_rfl) rfl #[.string (((((⟨#[123]⟩ : ByteArray) ++ t704) ++ (⟨#[58]⟩ : ByteArray)) ++ a1) ++ (⟨#[125]⟩ : ByteArray)), .agg #[.int .i64 t707, .int .i64 t708, .int .i64 t709, .slice Ao102 t710.length co102, .slice Ao103 t713.length co103], .string a2_1, .string a2_2, .bool false] (by rfl) rfl rfl ar_ ?_
       with_reducible refine (spec_Laid.calls kj74 (((((⟨#[123]⟩ : ByteArray) ++ t704) ++ (⟨#[58]⟩ : ByteArray)) ++ a1) ++ (⟨#[125]⟩ : ByteArray)) t707 t708 t709 _ _ t710 _ _ t713 a2_1 a2_2 false t719 _ ?side1 ?side2 ?side3 ?side4 A96.out).mono ?_
       (case side1 => repeat (first | exact (Kd.R_reads' HO712.out).2.2 | (with_reducible refine Kd.C_alloc ?_ _) | (with_reducible refine Kd.C_drewN ?_ _) | (with_reducible refine Kd.C_drew ?_)))
       (case side2 => exact (Kd.R_reads' HO712.out).2.1)
       (case side3 => repeat (first | exact (Kd.R_reads' HO715.out).2.2 | (with_reducible refine Kd.C_alloc ?_ _) | (with_reducible refine Kd.C_drewN ?_ _) | (with_reducible refine Kd.C_drew ?_)))
       (case side4 => exact (Kd.R_reads' HO715.out).2.1)
       rintro e w107 ⟨rfl, hb⟩
       refine ⟨_, rfl, ?_⟩
       have n0_ := a_ (Kd.R_below (rp_ HO_701003) hb)
       have n1_ := a_ (Kd.R_below (rp_ HO_701004) hb)
       have n2_ := a_ (Kd.R_below (rp_ HO712) hb)
       have n3_ := a_ (Kd.R_below (rp_ HO715) hb)
       have n4_ := a_ (blk_below (g := gb688) (o := .cells #[.int .i64 a2_0, .string a2_1, .string a2_2, .bool a2_3] 23 (0, 0)) (bk_ BK688) hb)
       have n5_ := a_ (blk_below (g := gb700) (o := .cells #[.int .i64 t690, .int .i64 t691, .int .i64 t692, .slice Ao18 t693.length co18, .slice Ao19 t696.length co19] 28 (0, 0)) (bk_ BK700) hb)
       have n6_ := a_ (blk_below (g := gb717) (o := .cells #[.int .i64 t707, .int .i64 t708, .int .i64 t709, .slice Ao102 t710.length co102, .slice Ao103 t713.length co103] 28 (0, 0)) (bk_ BK717) hb)
       have n7_ := a_ (below_step (bl_ HB) hb)
       clear HO_701003
       clear HO_701004
       clear HO712
       clear HO715
       clear BK688
       clear BK700
       clear BK717
       clear HB
       have HO_701003 := n0_
       have HO_701004 := n1_
       have HO712 := n2_
       have HO715 := n3_
       have BK688 := n4_
       have BK700 := n5_
       have BK717 := n6_
       have HB := n7_
       clear n0_ n1_ n2_ n3_ n4_ n5_ n6_ n7_
       (try clear hb)
       (try clear hb2)
       (try clear hk)
       (try clear hi)
       refine hK.out _ _ ⟨(blk_cell BK688.out 0).trans rfl, (blk_cell BK688.out 1).trans rfl, (blk_cell BK688.out 2).trans rfl, (blk_cell BK688.out 3).trans rfl, (blk_cell BK717.out 0).trans rfl, (blk_cell BK717.out 1).trans rfl, (blk_cell BK717.out 2).trans rfl, (blk_cell BK717.out 3).trans rfl, (blk_cell BK717.out 4).trans rfl⟩ (fun hHeld => ?_)
       clear hK K
       refine norm_ (a' := ?_) ?_ ?_
       rotate_left
       ·
        show Act.put _ (some 139) _ = _
        simp only [Act.put, List.setIfInBounds_toArray, List.set_cons_zero, List.set_cons_succ, i64_w, i32_w]
        rfl
       refine pure_ (i := 10) (N := some 140) (v := ?_) (a' := ?_) #[true, true, true, true, true, true, true, true, true, true, true, false] rfl rfl (any_of HT_.out (by kernel_rfl)) (fun _ _ _ h => h) (Or.inl ⟨by rfl, ?_⟩) ?_ ?_
       rotate_left
       ·
        intro w'
        go_simp
        with_reducible rfl
       rotate_left
       ·
        simp only [Act.put, List.setIfInBounds_toArray, List.set_cons_zero, List.set_cons_succ, i64_w, i32_w]
        rfl
       refine pure_ (i := 11) (N := some 6) (v := ?_) (a' := ?_) #[true, true, true, true, true, true, true, true, true, true, true, true] rfl rfl (any_of HT_.out (by kernel_rfl)) (fun _ _ _ h => h) (Or.inl ⟨by rfl, ?_⟩) ?_ ?_
       rotate_left
       ·
        intro w'
        go_simp
        with_reducible rfl
       rotate_left
       ·
        simp only [Act.put, List.setIfInBounds_toArray, List.set_cons_zero, List.set_cons_succ, i64_w, i32_w]
        rfl
       refine done_ (done_of HT_.out (by kernel_rfl)) ?_
       try go_wp2
       go_ret
       exact ⟨by first | rfl | (simp [errW_none, errW_some] <;> rfl) | (simp [*, errW_none, errW_some] <;> rfl), bl_ HB⟩
end Go.Proofs.Ytnilbkfhfnofgaa.PFnPrWidthMember
