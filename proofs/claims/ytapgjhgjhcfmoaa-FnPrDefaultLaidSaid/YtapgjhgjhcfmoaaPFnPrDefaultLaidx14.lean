/- Contracts of Go functions of this seat: for each a Lean function over numbers and lists and a proof that the Go function, called in any memory, returns what it gives. Made by program. -/
import Derived.Test.YtapgjhgjhcfmoaaPFnPrDefaultLaidx0
import Derived.Test.YtapgjhgjhcfmoaaPFnPrDefaultLaidx13
import Derived.Test.YtapgjhgjhcfmoaaPFnPrDefaultLaidx5
import Derived.Test.YtapgjhgjhcfmoaaPFnPrDefaultLaidxhPrDefault
namespace Go.Proofs.Ytapgjhgjhcfmoaa.PFnPrDefaultLaid
open Go.RowKit Go.Proofs.YtapgjhgjhcfmoaaW.PrintWords Go.Proofs.YtapgjhgjhcfmoaaW.PrintLast Go.Proofs.YtapgjhgjhcfmoaaW.PrintMore
attribute [local go_sem] max2_int min2_int max_two min_two max_three min_three max_four min_four   -- for this text's walks alone
set_option linter.unusedVariables false
set_option linter.unusedSimpArgs false
/-! ### spec_Laid: function 7 -/
def spec_Laid.f (k : Nat) (a0 : ByteArray) (a1_0 : Int) (a1_1 : Int) (a1_2 : Int) (l1_3 : List (S41)) (l1_4 : List (S25)) (a2 : ByteArray) (a3 : ByteArray) (a4 : Bool) : Option (ByteArray) := (spec_laidTo.f k ([] : List Int) a0 a1_0 a1_1 a1_2 l1_3 l1_4 a2 a3 a4).bind fun t691 => (if a2.size + (strOfNums t691).size ≤ 9223372036854775807 then (if (a2 ++ (strOfNums t691)).size + 1 ≤ 9223372036854775807 then (some ((a2 ++ (strOfNums t691)) ++ (⟨#[10]⟩ : ByteArray))) else (none)) else (none))
theorem spec_Laid.mono : ∀ a0 a1 a2 a3 a4 a5 a6 a7 a8 k, LeO (spec_Laid.f k a0 a1 a2 a3 a4 a5 a6 a7 a8) (spec_Laid.f (k + 1) a0 a1 a2 a3 a4 a5 a6 a7 a8) := by
 intro a0 a1 a2 a3 a4 a5 a6 a7 a8 k
 unfold spec_Laid.f
 repeat' first
  | (with_reducible exact spec_laidTo.mono _ _ _ _ _ _ _ _ _ _ _)
  | (with_reducible exact LeO.refl _)
  | (with_reducible exact LeO.none _)
  | (with_reducible refine LeO.ite ?_ ?_)
  | (with_reducible refine LeO.bind ?_ (fun _ => ?_))
  | exact spec_laidTo.mono _ _ _ _ _ _ _ _ _ _ _
  | exact LeO.none _
  | refine LeO.ite ?_ ?_
  | refine LeO.bind ?_ (fun _ => ?_)
set_option maxHeartbeats 8000000 in
set_option maxRecDepth 100000 in
theorem spec_Laid.calls (k : Nat) (a0 : ByteArray) (a1_0 : Int) (a1_1 : Int) (a1_2 : Int) (A1_3 : Option Addr) (c1_3 : Nat) (l1_3 : List (S41)) (A1_4 : Option Addr) (c1_4 : Nat) (l1_4 : List (S25)) (a2 : ByteArray) (a3 : ByteArray) (a4 : Bool) (r : ByteArray) (w : World) (hr1_3 : Kd.C k41 w A1_3 l1_3.length l1_3) (hc1_3 : l1_3.length ≤ c1_3) (hr1_4 : Kd.C k25 w A1_4 l1_4.length l1_4) (hc1_4 : l1_4.length ≤ c1_4) (h : spec_Laid.f k a0 a1_0 a1_1 a1_2 l1_3 l1_4 a2 a3 a4 = some r) :
  Calls Try.prog 7 #[.string a0, .agg #[.int .i64 a1_0, .int .i64 a1_1, .int .i64 a1_2, .slice A1_3 l1_3.length c1_3, .slice A1_4 l1_4.length c1_4], .string a2, .string a3, .bool a4] w fun e w' => e = .returned (.string r) ∧ Below w.heap.size w w' := by
 have hu25 := Try.underlying25
 have HR1_3 := a_ hr1_3
 have HC1_3 := a_ hc1_3
 clear hr1_3 hc1_3
 have HR1_4 := a_ hr1_4
 have HC1_4 := a_ hc1_4
 clear hr1_4 hc1_4
 have HB := a_ (Below.refl w.heap.size w)
 have H : ((spec_laidTo.f k ([] : List Int) a0 a1_0 a1_1 a1_2 l1_3 l1_4 a2 a3 a4).bind fun t691 => (if a2.size + (strOfNums t691).size ≤ 9223372036854775807 then (if (a2 ++ (strOfNums t691)).size + 1 ≤ 9223372036854775807 then (some ((a2 ++ (strOfNums t691)) ++ (⟨#[10]⟩ : ByteArray))) else (none)) else (none))) = some r := h
 clear h
 replace H := Option.bind_eq_some_iff.mp H
 obtain ⟨t691, A60, H⟩ := H
 replace H : (if a2.size + (strOfNums t691).size ≤ 9223372036854775807 then (if (a2 ++ (strOfNums t691)).size + 1 ≤ 9223372036854775807 then (some ((a2 ++ (strOfNums t691)) ++ (⟨#[10]⟩ : ByteArray))) else (none)) else (none)) = some r := H
 have A6 := a_ A60
 clear A60
 by_cases c7 : a2.size + (strOfNums t691).size ≤ 9223372036854775807
 rotate_left
 ·
  rw [if_neg c7] at H
  exact absurd H (by simp)
 rw [if_pos c7] at H
 have c7b0 := eq_true c7
 have c7b1 : decide (a2.size + (strOfNums t691).size ≤ 9223372036854775807) = true := decide_eq_true c7
 try have c7b2 : (9223372036854775807 < a2.size + (strOfNums t691).size) = False := eq_false (Nat.not_lt.2 c7)
 by_cases c8 : (a2 ++ (strOfNums t691)).size + 1 ≤ 9223372036854775807
 rotate_left
 ·
  rw [if_neg c8] at H
  exact absurd H (by simp)
 rw [if_pos c8] at H
 have c8b0 := eq_true c8
 have c8b1 : decide ((a2 ++ (strOfNums t691)).size + 1 ≤ 9223372036854775807) = true := decide_eq_true c8
 try have c8b2 : (9223372036854775807 < (a2 ++ (strOfNums t691)).size + 1) = False := eq_false (Nat.not_lt.2 c8)
 try (have c8b3 := c8b2; simp only [ByteArray.size_append] at c8b3)
 obtain rfl := Option.some.inj H
 go_enter Try.func7, Try.ntmps7
 go_wp2_with (first | ((with_reducible refine gate_dst (N := 6) rfl ?_); refine box_event ?hg (N := 6) ?hd (cs := #[.int .i64 a1_0, .int .i64 a1_1, .int .i64 a1_2, .slice A1_3 l1_3.length c1_3, .slice A1_4 l1_4.length c1_4]) (t := 25) ?hr ?_; (case hd => rfl); (case hg => rfl); (case hr => first | (go_simp; done) | (go_simp; rfl)); intro gb690 hg w9 hbox hb; have n0_ := a_ (below_step (bl_ HB) hb); have n1_ := a_ (hbox); have n2_ := a_ ((by rw [hg]; exact (below_size (bl_ HB)) : w.heap.size ≤ gb690)); have n3_ := a_ ((by rw [hg]; exact (below_size (bl_ HB)) : w.heap.size ≤ gb690)); clear HB; have HB := n0_; have BK690 := n1_; have GW690 := n2_; have GE690 := n3_; clear n0_ n1_ n2_ n3_; clear hb hbox hg; have hcz10_0 := bc_ BK690 0 (.int .i64 a1_0); have hcz10_1 := bc_ BK690 1 (.int .i64 a1_1); have hcz10_2 := bc_ BK690 2 (.int .i64 a1_2); have hcz10_3 := bc_ BK690 3 (.slice A1_3 l1_3.length c1_3); have hcz10_4 := bc_ BK690 4 (.slice A1_4 l1_4.length c1_4); have hfz10_0 := blk_frozen BK690.out 0; have hfz10_1 := blk_frozen BK690.out 1; have hfz10_2 := blk_frozen BK690.out 2; have hfz10_3 := blk_frozen BK690.out 3; have hfz10_4 := blk_frozen BK690.out 4) | ((with_reducible refine gate_callee (f := 10) rfl ?_); refine goesL_ (some 17) rfl rfl Try.func10 (by kernel_rfl) rfl #[.slice none 0 0, .string a0, .agg #[.int .i64 a1_0, .int .i64 a1_1, .int .i64 a1_2, .slice A1_3 l1_3.length c1_3, .slice A1_4 l1_4.length c1_4], .string a2, .string a3, .bool a4] rfl ar_ ?_; (refine (spec_laidTo.calls k (fun k_ => some k_ = (.slice none 0 0 : Value).ownBlock) (.slice none 0 0) ([] : List Int) a0 a1_0 a1_1 a1_2 _ _ l1_3 _ _ l1_4 a2 a3 a4 t691 w _ ?side1 ?side2 ?side3 ?side4 ?side5 ?side6 A6.out).mono ?_); (case side1 => exact bl_ HB); (case side2 => exact Kd.R_nil _ _ _ _ _); (case side3 => exact HR1_3.out); (case side4 => exact HC1_3.out); (case side5 => exact HR1_4.out); (case side6 => exact HC1_4.out); rintro e w11 ⟨v692, rfl, ho0, hb, hkp⟩; refine ⟨_, rfl, ?_⟩; have n0_ := a_ (blk_kept (bk_ BK690) hkp (fun hs_ => (fun e_ => by simp [Value.ownBlock] at e_) hs_)); have n1_ := a_ (Kd.R_mono (ok' := fun k_ => True) ho0 (fun k_ hk_ => trivial)); have n2_ := a_ (hb); clear BK690 HB; have BK690 := n0_; have HO693 := n1_; have HB := n2_; clear n0_ n1_ n2_; (try clear hb); (try clear hkp); (try clear ho0); have hcv12 := own_string (P := Try.prog) Try.underlying32 Try.underlying5 Try.underlying9 (Kd.own_of_R HO693.out)))
 go_ret
 exact ⟨by first | rfl | (simp [errW_none, errW_some] <;> rfl) | (simp [*, errW_none, errW_some] <;> rfl), bl_ HB⟩
/-! ### laws_FnPrDefaultLaid: function 3 -/
def laws_FnPrDefaultLaid.f (k : Nat) (a0 : ByteArray) : Option (Bool) := if (a0.size : Int) > 2147483647 then (some true) else ((laws_prPlaces.f k a0).bind fun bt694 => (if bt694.2.2.2.2.2 = true then ((laws_prArrays.f k bt694.1 bt694.2.1 bt694.2.2.1 bt694.2.2.2.1 bt694.2.2.2.2.1).bind fun t705 => (if t705 = true then (some true) else ((impl_PrDefault.f k a0).bind fun t706 => ((spec_Laid.f k a0 bt694.1 bt694.2.1 bt694.2.2.1 bt694.2.2.2.1 bt694.2.2.2.2.1 (⟨#[]⟩ : ByteArray) (⟨#[32, 32]⟩ : ByteArray) false).bind fun t707 => (some (t706.toList == t707.toList)))))) else (some true)))
theorem laws_FnPrDefaultLaid.mono : ∀ a0 k, LeO (laws_FnPrDefaultLaid.f k a0) (laws_FnPrDefaultLaid.f (k + 1) a0) := by
 intro a0 k
 unfold laws_FnPrDefaultLaid.f
 repeat' first
  | (with_reducible exact impl_PrDefault.mono _ _)
  | (with_reducible exact laws_prArrays.mono _ _ _ _ _ _)
  | (with_reducible exact laws_prPlaces.mono _ _)
  | (with_reducible exact spec_Laid.mono _ _ _ _ _ _ _ _ _ _)
  | (with_reducible exact LeO.refl _)
  | (with_reducible exact LeO.none _)
  | (with_reducible refine LeO.ite ?_ ?_)
  | (with_reducible refine LeO.bind ?_ (fun _ => ?_))
  | exact impl_PrDefault.mono _ _
  | exact laws_prArrays.mono _ _ _ _ _ _
  | exact laws_prPlaces.mono _ _
  | exact spec_Laid.mono _ _ _ _ _ _ _ _ _ _
  | exact LeO.none _
  | refine LeO.ite ?_ ?_
  | refine LeO.bind ?_ (fun _ => ?_)
def laws_FnPrDefaultLaid.T4 : Bool × List (List Nat × List Nat) := (true, [([], []), ([0], [0]), ([1], [1]), ([2], [2]), ([3, 2, 2], [2, 3]), ([2, 4], [2, 4]), ([5, 4], [5]), ([6], [6]), ([7, 6, 6], [6, 7]), ([6], [6]), ([6], [6]), ([9, 10, 8, 6], [6, 9, 10]), ([8, 11, 6], [6, 8, 11]), ([6, 12], [6, 12]), ([13, 11, 0, 1, 2, 3, 4, 5, 6, 7, 8, 9, 10, 11, 12, 13], [13])])
def laws_FnPrDefaultLaid.B4 : List Nat := [0, 1, 3, 7, 15, 31, 63, 127, 255, 127, 127, 2047, 4095, 8191, 16383]
theorem laws_FnPrDefaultLaid.tab4 : rtab .any (opsOf Try.f3 4) = laws_FnPrDefaultLaid.T4 := by kernel_rfl
theorem laws_FnPrDefaultLaid.bits4 : waitsOk laws_FnPrDefaultLaid.T4.2 laws_FnPrDefaultLaid.B4 = true := by kernel_rfl
set_option maxHeartbeats 8000000 in
set_option maxRecDepth 100000 in
theorem laws_FnPrDefaultLaid.calls (k : Nat) (a0 : ByteArray) (r : Bool) (w : World) (h : laws_FnPrDefaultLaid.f k a0 = some r) :
  Calls Try.prog 3 #[.string a0] w fun e w' => e = .returned (.bool r) ∧ Below w.heap.size w w' := by
 have hu25 := Try.underlying25
 have HB := a_ (Below.refl w.heap.size w)
 have H : (if (a0.size : Int) > 2147483647 then (some true) else ((laws_prPlaces.f k a0).bind fun bt694 => (if bt694.2.2.2.2.2 = true then ((laws_prArrays.f k bt694.1 bt694.2.1 bt694.2.2.1 bt694.2.2.2.1 bt694.2.2.2.2.1).bind fun t705 => (if t705 = true then (some true) else ((impl_PrDefault.f k a0).bind fun t706 => ((spec_Laid.f k a0 bt694.1 bt694.2.1 bt694.2.2.1 bt694.2.2.2.1 bt694.2.2.2.2.1 (⟨#[]⟩ : ByteArray) (⟨#[32, 32]⟩ : ByteArray) false).bind fun t707 => (some (t706.toList == t707.toList)))))) else (some true)))) = some r := h
 clear h
 by_cases c2 : (a0.size : Int) > 2147483647
 ·
  rw [if_pos c2] at H
  have c2b0 : decide (2147483647 < (a0.size : Int)) = true := decide_eq_true c2
  have c2b1 : decide (2147483647 < a0.size) = true := decide_eq_true (by omega)
  clear c2
  obtain rfl := Option.some.inj H
  go_enter Try.func3, Try.ntmps3
  go_wp2
  go_ret
  exact ⟨by first | rfl | (simp [errW_none, errW_some] <;> rfl) | (simp [*, errW_none, errW_some] <;> rfl), bl_ HB⟩
 rw [if_neg c2] at H
 have c2b0 : decide (2147483647 < (a0.size : Int)) = false := decide_eq_false c2
 have c2b1 : decide (2147483647 < a0.size) = false := decide_eq_false (by omega)
 clear c2
 replace H := Option.bind_eq_some_iff.mp H
 obtain ⟨⟨t694, t695, t696, t697, t700, t703⟩, A30, H⟩ := H
 replace H : (if t703 = true then ((laws_prArrays.f k t694 t695 t696 t697 t700).bind fun t705 => (if t705 = true then (some true) else ((impl_PrDefault.f k a0).bind fun t706 => ((spec_Laid.f k a0 t694 t695 t696 t697 t700 (⟨#[]⟩ : ByteArray) (⟨#[32, 32]⟩ : ByteArray) false).bind fun t707 => (some (t706.toList == t707.toList)))))) else (some true)) = some r := H
 have A3 := a_ A30
 clear A30
 by_cases c4 : t703 = true
 rotate_left
 ·
  replace c4 := Bool.eq_false_iff.mpr c4
  subst c4
  have H1 : (some true) = some r := by rw [if_neg (show ¬ (false = true) by decide)] at H; exact H
  clear H
  have H := H1
  clear H1
  obtain rfl := Option.some.inj H
  go_enter Try.func3, Try.ntmps3
  try go_wp2_with (first | ((with_reducible refine gate_callee (f := 4) rfl ?_); refine goesL_ (some 10) rfl rfl Try.func4 (by kernel_rfl) rfl #[.string a0] rfl ar_ ?_; (with_reducible refine (laws_prPlaces.calls k a0 t694 t695 t696 t697 t700 false _ A3.out).mono ?_); rintro e w27 ⟨v698, v701, rfl, ho0, ho1, hb⟩; refine ⟨_, rfl, ?_⟩; have n0_ := a_ (Kd.R_lower ho0 (below_size (bl_ HB))); have n1_ := a_ (Kd.R_lower ho1 (below_size (bl_ HB))); have n2_ := a_ (below_step (bl_ HB) hb); clear HB; have HO699 := n0_; have HO702 := n1_; have HB := n2_; clear n0_ n1_ n2_; (try clear hb); (try clear hb2); (try clear hk); (try clear hi); (try clear ho0); (try clear ho1)) | ((with_reducible refine gate_dst (N := 3) rfl ?_); refine box_event ?hg (N := 3) ?hd (cs := #[.int .i64 0, .int .i64 0, .int .i64 0, .slice none 0 0, .slice none 0 0]) (t := 25) ?hr ?_; (case hd => rfl); (case hg => rfl); (case hr => first | (go_simp; done) | (go_simp; rfl)); intro gb704 hg w28 hbox hb; have n0_ := a_ (Kd.R_below (rp_ HO699) hb); have n1_ := a_ (Kd.R_below (Kd.R_elderB (rp_ HO702) gb704 (Nat.le_of_eq hg.symm)) hb); have n2_ := a_ (below_step (bl_ HB) hb); have n3_ := a_ (hbox); have n4_ := a_ ((by rw [hg]; exact (below_size (bl_ HB)) : w.heap.size ≤ gb704)); have n5_ := a_ ((by rw [hg]; exact (below_size (bl_ HB)) : w.heap.size ≤ gb704)); clear HO699 HO702 HB; have HO699 := n0_; have HO702 := n1_; have HB := n2_; have BK704 := n3_; have GW704 := n4_; have GE704 := n5_; clear n0_ n1_ n2_ n3_ n4_ n5_; clear hb hbox hg; have hcz29_0 := bc_ BK704 0 (.int .i64 0); have hcz29_1 := bc_ BK704 1 (.int .i64 0); have hcz29_2 := bc_ BK704 2 (.int .i64 0); have hcz29_3 := bc_ BK704 3 (.slice none 0 0); have hcz29_4 := bc_ BK704 4 (.slice none 0 0); have hfz29_0 := blk_frozen BK704.out 0; have hfz29_1 := blk_frozen BK704.out 1; have hfz29_2 := blk_frozen BK704.out 2; have hfz29_3 := blk_frozen BK704.out 3; have hfz29_4 := blk_frozen BK704.out 4; obtain ⟨Ao30, co30, eo30⟩ := Kd.R_slice HO699.out; subst eo30; obtain ⟨Ao31, co31, eo31⟩ := Kd.R_slice HO702.out; subst eo31))
  have n0_ : Aside0 (Kd.R k41 41 (((((w28.setCell ⟨gb704, 0, none⟩ (.int .i64 t694)).setCell ⟨gb704, 1, none⟩ (.int .i64 t695)).setCell ⟨gb704, 2, none⟩ (.int .i64 t696)).setCell ⟨gb704, 3, none⟩ (.slice Ao30 t697.length co30)).setCell ⟨gb704, 4, none⟩ (.slice Ao31 t700.length co31)) w.heap.size (fun _ => True) (.slice Ao30 t697.length co30) t697) := ⟨by (with_reducible repeat (first | apply Kd.R_alloc | apply Kd.R_drewN | apply Kd.R_drew)); exact Kd.R_mono (Kd.R_far (p := ⟨gb704, 4, none⟩) (Kd.R_far (p := ⟨gb704, 3, none⟩) (Kd.R_far (p := ⟨gb704, 2, none⟩) (Kd.R_far (p := ⟨gb704, 1, none⟩) (Kd.R_far (p := ⟨gb704, 0, none⟩) (Kd.R_types HO699.out BK704.out (by decide)) (fun _ hk => hk.2) (.int .i64 t694)) (fun _ hk => hk.2) (.int .i64 t695)) (fun _ hk => hk.2) (.int .i64 t696)) (fun _ hk => hk.2) (.slice Ao30 t697.length co30)) (fun _ hk => hk.2) (.slice Ao31 t700.length co31)) (fun _ hk => trivial)⟩
  have n1_ : Aside0 (Kd.R k25 25 (((((w28.setCell ⟨gb704, 0, none⟩ (.int .i64 t694)).setCell ⟨gb704, 1, none⟩ (.int .i64 t695)).setCell ⟨gb704, 2, none⟩ (.int .i64 t696)).setCell ⟨gb704, 3, none⟩ (.slice Ao30 t697.length co30)).setCell ⟨gb704, 4, none⟩ (.slice Ao31 t700.length co31)) w.heap.size (fun k_ => some k_ ≠ (.slice Ao30 t697.length co30 : Value).ownBlock ∧ k_ ≠ gb704) (.slice Ao31 t700.length co31) t700) := ⟨by (with_reducible repeat (first | apply Kd.R_alloc | apply Kd.R_drewN | apply Kd.R_drew)); exact Kd.R_mono (Kd.R_far (p := ⟨gb704, 4, none⟩) (Kd.R_far (p := ⟨gb704, 3, none⟩) (Kd.R_far (p := ⟨gb704, 2, none⟩) (Kd.R_far (p := ⟨gb704, 1, none⟩) (Kd.R_far (p := ⟨gb704, 0, none⟩) (Kd.R_mono HO702.out (fun k_ hk => (⟨hk, hk.2⟩ : _ ∧ k_ ≠ gb704))) (fun _ hk => hk.2) (.int .i64 t694)) (fun _ hk => hk.2) (.int .i64 t695)) (fun _ hk => hk.2) (.int .i64 t696)) (fun _ hk => hk.2) (.slice Ao30 t697.length co30)) (fun _ hk => hk.2) (.slice Ao31 t700.length co31)) (fun _ hk => ⟨hk.1.1, hk.1.2⟩)⟩
  have n2_ : Aside0 ((((((w28.setCell ⟨gb704, 0, none⟩ (.int .i64 t694)).setCell ⟨gb704, 1, none⟩ (.int .i64 t695)).setCell ⟨gb704, 2, none⟩ (.int .i64 t696)).setCell ⟨gb704, 3, none⟩ (.slice Ao30 t697.length co30)).setCell ⟨gb704, 4, none⟩ (.slice Ao31 t700.length co31)).heap[gb704]? = some (.cells #[.int .i64 t694, .int .i64 t695, .int .i64 t696, .slice Ao30 t697.length co30, .slice Ao31 t700.length co31] 25 (0, 0))) := ⟨by (with_reducible repeat (first | refine blk_drewN ?_ _ | refine blk_drew ?_ | refine blk_alloc ?_ _)); refine blk_put (cs := #[.int .i64 t694, .int .i64 t695, .int .i64 t696, .slice Ao30 t697.length co30, .slice none 0 0]) ?_ 4 _ rfl; (with_reducible repeat (first | refine blk_drewN ?_ _ | refine blk_drew ?_ | refine blk_alloc ?_ _)); refine blk_put (cs := #[.int .i64 t694, .int .i64 t695, .int .i64 t696, .slice none 0 0, .slice none 0 0]) ?_ 3 _ rfl; (with_reducible repeat (first | refine blk_drewN ?_ _ | refine blk_drew ?_ | refine blk_alloc ?_ _)); refine blk_put (cs := #[.int .i64 t694, .int .i64 t695, .int .i64 0, .slice none 0 0, .slice none 0 0]) ?_ 2 _ rfl; (with_reducible repeat (first | refine blk_drewN ?_ _ | refine blk_drew ?_ | refine blk_alloc ?_ _)); refine blk_put (cs := #[.int .i64 t694, .int .i64 0, .int .i64 0, .slice none 0 0, .slice none 0 0]) ?_ 1 _ rfl; (with_reducible repeat (first | refine blk_drewN ?_ _ | refine blk_drew ?_ | refine blk_alloc ?_ _)); refine blk_put (cs := #[.int .i64 0, .int .i64 0, .int .i64 0, .slice none 0 0, .slice none 0 0]) ?_ 0 _ rfl; (with_reducible repeat (first | refine blk_drewN ?_ _ | refine blk_drew ?_ | refine blk_alloc ?_ _)); exact BK704.out⟩
  have n3_ : Aside0 (Below w.heap.size w (((((w28.setCell ⟨gb704, 0, none⟩ (.int .i64 t694)).setCell ⟨gb704, 1, none⟩ (.int .i64 t695)).setCell ⟨gb704, 2, none⟩ (.int .i64 t696)).setCell ⟨gb704, 3, none⟩ (.slice Ao30 t697.length co30)).setCell ⟨gb704, 4, none⟩ (.slice Ao31 t700.length co31))) := ⟨bl_ HB⟩
  (try clear HO699)
  (try clear HO702)
  (try clear BK704)
  (try clear HB)
  generalize (((((w28.setCell ⟨gb704, 0, none⟩ (.int .i64 t694)).setCell ⟨gb704, 1, none⟩ (.int .i64 t695)).setCell ⟨gb704, 2, none⟩ (.int .i64 t696)).setCell ⟨gb704, 3, none⟩ (.slice Ao30 t697.length co30)).setCell ⟨gb704, 4, none⟩ (.slice Ao31 t700.length co31)) = w32 at n0_ n1_ n2_ n3_ ⊢
  have HO699 := n0_
  have HO702 := n1_
  have BK704 := n2_
  have HB := n3_
  clear n0_ n1_ n2_ n3_
  have n0_ := a_ (Kd.R_drew HO699.out)
  have n1_ := a_ (Kd.R_drew HO702.out)
  have n2_ := a_ (blk_drew BK704.out)
  have n3_ := a_ (below_drew1 HB.out)
  clear HO699
  clear HO702
  clear BK704
  clear HB
  have HO699 := n0_
  have HO702 := n1_
  have BK704 := n2_
  have HB := n3_
  clear n0_ n1_ n2_ n3_
  refine start_ (n := 15) (S := fun w' => True) (ds := []) #[false, false, false, false, false, false, false, false, false, false, false, false, false, false, false] (by kernel_rfl) rfl rfl trivial (fun hHeld => ?_); refine with_tabW laws_FnPrDefaultLaid.tab4 laws_FnPrDefaultLaid.bits4 (fun HT_ HW_ => ?_)
  generalize w32.drew = w33 at HO699 HO702 BK704 HB hHeld ⊢
  refine pure_ (i := 0) (N := some 13) (v := ?_) (a' := ?_) #[true, false, false, false, false, false, false, false, false, false, false, false, false, false, false] rfl rfl (any_of HT_.out (by kernel_rfl)) (fun _ _ _ h => h) (Or.inl ⟨by rfl, ?_⟩) ?_ ?_
  rotate_left
  ·
   intro w'
   go_simp
   with_reducible rfl
  rotate_left
  ·
   simp only [Act.put, List.setIfInBounds_toArray, List.set_cons_zero, List.set_cons_succ, i64_w, i32_w]
   rfl
  refine pure_ (i := 1) (N := some 14) (v := ?_) (a' := ?_) #[true, true, false, false, false, false, false, false, false, false, false, false, false, false, false] rfl rfl (any_of HT_.out (by kernel_rfl)) (fun _ _ _ h => h) (Or.inl ⟨by rfl, ?_⟩) ?_ ?_
  rotate_left
  ·
   intro w'
   go_simp
   with_reducible rfl
  rotate_left
  ·
   simp only [Act.put, List.setIfInBounds_toArray, List.set_cons_zero, List.set_cons_succ, i64_w, i32_w]
   rfl
  refine pure_ (i := 2) (N := some 15) (v := ?_) (a' := ?_) #[true, true, true, false, false, false, false, false, false, false, false, false, false, false, false] rfl rfl (any_of HT_.out (by kernel_rfl)) (fun _ _ _ h => h) (Or.inl ⟨by rfl, ?_⟩) ?_ ?_
  rotate_left
  ·
   intro w'
   go_simp
   with_reducible rfl
  rotate_left
  ·
   simp only [Act.put, List.setIfInBounds_toArray, List.set_cons_zero, List.set_cons_succ, i64_w, i32_w]
   rfl
  refine pure_ (i := 3) (N := some 16) (v := undef) (a' := ?_) #[true, true, true, true, false, false, false, false, false, false, false, false, false, false, false] rfl rfl (any_of HT_.out (by kernel_rfl)) (fun _ _ _ h => h) (Or.inr ⟨by rfl, rfl⟩) ?_ ?_
  rotate_left
  ·
   simp only [Act.put, List.setIfInBounds_toArray, List.set_cons_zero, List.set_cons_succ, i64_w, i32_w]
   rfl
  refine pure_ (i := 4) (N := some 17) (v := undef) (a' := ?_) #[true, true, true, true, true, false, false, false, false, false, false, false, false, false, false] rfl rfl (any_of HT_.out (by kernel_rfl)) (fun _ _ _ h => h) (Or.inr ⟨by rfl, rfl⟩) ?_ ?_
  rotate_left
  ·
   simp only [Act.put, List.setIfInBounds_toArray, List.set_cons_zero, List.set_cons_succ, i64_w, i32_w]
   rfl
  refine pure_ (i := 5) (N := some 18) (v := ?_) (a' := ?_) #[true, true, true, true, true, true, false, false, false, false, false, false, false, false, false] rfl rfl (any_of HT_.out (by kernel_rfl)) (fun _ _ _ h => h) (Or.inl ⟨by rfl, ?_⟩) ?_ ?_
  rotate_left
  ·
   intro w'
   go_simp
   with_reducible rfl
  rotate_left
  ·
   simp only [Act.put, List.setIfInBounds_toArray, List.set_cons_zero, List.set_cons_succ, i64_w, i32_w]
   rfl
  refine pure_ (i := 6) (N := some 19) (v := ?_) (a' := ?_) #[true, true, true, true, true, true, true, false, false, false, false, false, false, false, false] rfl rfl (any_of HT_.out (by kernel_rfl)) (fun _ _ _ h => h) (Or.inl ⟨by rfl, ?_⟩) ?_ ?_
  rotate_left
  ·
   intro w'
   go_simp
   with_reducible rfl
  rotate_left
  ·
   simp only [Act.put, List.setIfInBounds_toArray, List.set_cons_zero, List.set_cons_succ, i64_w, i32_w]
   rfl
  refine pure_ (i := 7) (N := some 20) (v := undef) (a' := ?_) #[true, true, true, true, true, true, true, true, false, false, false, false, false, false, false] rfl rfl (any_of HT_.out (by kernel_rfl)) (fun _ _ _ h => h) (Or.inr ⟨by rfl, rfl⟩) ?_ ?_
  rotate_left
  ·
   simp only [Act.put, List.setIfInBounds_toArray, List.set_cons_zero, List.set_cons_succ, i64_w, i32_w]
   rfl
  refine pure_ (i := 8) (N := some 21) (v := undef) (a' := ?_) #[true, true, true, true, true, true, true, true, true, false, false, false, false, false, false] rfl rfl (any_of HT_.out (by kernel_rfl)) (fun _ _ _ h => h) (Or.inr ⟨by rfl, rfl⟩) ?_ ?_
  rotate_left
  ·
   simp only [Act.put, List.setIfInBounds_toArray, List.set_cons_zero, List.set_cons_succ, i64_w, i32_w]
   rfl
  refine pure_ (i := 9) (N := some 22) (v := undef) (a' := ?_) #[true, true, true, true, true, true, true, true, true, true, false, false, false, false, false] rfl rfl (any_of HT_.out (by kernel_rfl)) (fun _ _ _ h => h) (Or.inr ⟨by rfl, rfl⟩) ?_ ?_
  rotate_left
  ·
   simp only [Act.put, List.setIfInBounds_toArray, List.set_cons_zero, List.set_cons_succ, i64_w, i32_w]
   rfl
  refine pure_ (i := 10) (N := some 23) (v := undef) (a' := ?_) #[true, true, true, true, true, true, true, true, true, true, true, false, false, false, false] rfl rfl (any_of HT_.out (by kernel_rfl)) (fun _ _ _ h => h) (Or.inr ⟨by rfl, rfl⟩) ?_ ?_
  rotate_left
  ·
   simp only [Act.put, List.setIfInBounds_toArray, List.set_cons_zero, List.set_cons_succ, i64_w, i32_w]
   rfl
  refine pure_ (i := 11) (N := some 24) (v := undef) (a' := ?_) #[true, true, true, true, true, true, true, true, true, true, true, true, false, false, false] rfl rfl (any_of HT_.out (by kernel_rfl)) (fun _ _ _ h => h) (Or.inr ⟨by rfl, rfl⟩) ?_ ?_
  rotate_left
  ·
   simp only [Act.put, List.setIfInBounds_toArray, List.set_cons_zero, List.set_cons_succ, i64_w, i32_w]
   rfl
  refine pure_ (i := 12) (N := some 25) (v := undef) (a' := ?_) #[true, true, true, true, true, true, true, true, true, true, true, true, true, false, false] rfl rfl (any_of HT_.out (by kernel_rfl)) (fun _ _ _ h => h) (Or.inr ⟨by rfl, rfl⟩) ?_ ?_
  rotate_left
  ·
   simp only [Act.put, List.setIfInBounds_toArray, List.set_cons_zero, List.set_cons_succ, i64_w, i32_w]
   rfl
  refine pure_ (i := 13) (N := some 26) (v := ?_) (a' := ?_) #[true, true, true, true, true, true, true, true, true, true, true, true, true, true, false] rfl rfl (any_of HT_.out (by kernel_rfl)) (fun _ _ _ h => h) (Or.inl ⟨by rfl, ?_⟩) ?_ ?_
  rotate_left
  ·
   intro w'
   go_simp
   with_reducible rfl
  rotate_left
  ·
   simp only [Act.put, List.setIfInBounds_toArray, List.set_cons_zero, List.set_cons_succ, i64_w, i32_w]
   rfl
  refine pure_ (i := 14) (N := some 2) (v := ?_) (a' := ?_) #[true, true, true, true, true, true, true, true, true, true, true, true, true, true, true] rfl rfl (any_of HT_.out (by kernel_rfl)) (fun _ _ _ h => h) (Or.inl ⟨by rfl, ?_⟩) ?_ ?_
  rotate_left
  ·
   intro w'
   go_simp
   with_reducible rfl
  rotate_left
  ·
   simp only [Act.put, List.setIfInBounds_toArray, List.set_cons_zero, List.set_cons_succ, i64_w, i32_w]
   rfl
  refine done_ (done_of HT_.out (by kernel_rfl)) ?_
  try go_wp2
  go_ret
  exact ⟨by first | rfl | (simp [errW_none, errW_some] <;> rfl) | (simp [*, errW_none, errW_some] <;> rfl), bl_ HB⟩
 subst c4
 have H1 : ((laws_prArrays.f k t694 t695 t696 t697 t700).bind fun t705 => (if t705 = true then (some true) else ((impl_PrDefault.f k a0).bind fun t706 => ((spec_Laid.f k a0 t694 t695 t696 t697 t700 (⟨#[]⟩ : ByteArray) (⟨#[32, 32]⟩ : ByteArray) false).bind fun t707 => (some (t706.toList == t707.toList)))))) = some r := by rw [if_pos rfl] at H; exact H
 clear H
 have H := H1
 clear H1
 replace H := Option.bind_eq_some_iff.mp H
 obtain ⟨t705, A50, H⟩ := H
 replace H : (if t705 = true then (some true) else ((impl_PrDefault.f k a0).bind fun t706 => ((spec_Laid.f k a0 t694 t695 t696 t697 t700 (⟨#[]⟩ : ByteArray) (⟨#[32, 32]⟩ : ByteArray) false).bind fun t707 => (some (t706.toList == t707.toList))))) = some r := H
 have A5 := a_ A50
 clear A50
 by_cases c6 : t705 = true
 ·
  subst c6
  have H1 : (some true) = some r := by rw [if_pos rfl] at H; exact H
  clear H
  have H := H1
  clear H1
  obtain rfl := Option.some.inj H
  go_enter Try.func3, Try.ntmps3
  try go_wp2_with (first | ((with_reducible refine gate_callee (f := 4) rfl ?_); refine goesL_ (some 10) rfl rfl Try.func4 (by kernel_rfl) rfl #[.string a0] rfl ar_ ?_; (with_reducible refine (laws_prPlaces.calls k a0 t694 t695 t696 t697 t700 true _ A3.out).mono ?_); rintro e w7 ⟨v698, v701, rfl, ho0, ho1, hb⟩; refine ⟨_, rfl, ?_⟩; have n0_ := a_ (Kd.R_lower ho0 (below_size (bl_ HB))); have n1_ := a_ (Kd.R_lower ho1 (below_size (bl_ HB))); have n2_ := a_ (below_step (bl_ HB) hb); clear HB; have HO699 := n0_; have HO702 := n1_; have HB := n2_; clear n0_ n1_ n2_; (try clear hb); (try clear hb2); (try clear hk); (try clear hi); (try clear ho0); (try clear ho1)) | ((with_reducible refine gate_dst (N := 3) rfl ?_); refine box_event ?hg (N := 3) ?hd (cs := #[.int .i64 0, .int .i64 0, .int .i64 0, .slice none 0 0, .slice none 0 0]) (t := 25) ?hr ?_; (case hd => rfl); (case hg => rfl); (case hr => first | (go_simp; done) | (go_simp; rfl)); intro gb704 hg w8 hbox hb; have n0_ := a_ (Kd.R_below (rp_ HO699) hb); have n1_ := a_ (Kd.R_below (Kd.R_elderB (rp_ HO702) gb704 (Nat.le_of_eq hg.symm)) hb); have n2_ := a_ (below_step (bl_ HB) hb); have n3_ := a_ (hbox); have n4_ := a_ ((by rw [hg]; exact (below_size (bl_ HB)) : w.heap.size ≤ gb704)); have n5_ := a_ ((by rw [hg]; exact (below_size (bl_ HB)) : w.heap.size ≤ gb704)); clear HO699 HO702 HB; have HO699 := n0_; have HO702 := n1_; have HB := n2_; have BK704 := n3_; have GW704 := n4_; have GE704 := n5_; clear n0_ n1_ n2_ n3_ n4_ n5_; clear hb hbox hg; have hcz9_0 := bc_ BK704 0 (.int .i64 0); have hcz9_1 := bc_ BK704 1 (.int .i64 0); have hcz9_2 := bc_ BK704 2 (.int .i64 0); have hcz9_3 := bc_ BK704 3 (.slice none 0 0); have hcz9_4 := bc_ BK704 4 (.slice none 0 0); have hfz9_0 := blk_frozen BK704.out 0; have hfz9_1 := blk_frozen BK704.out 1; have hfz9_2 := blk_frozen BK704.out 2; have hfz9_3 := blk_frozen BK704.out 3; have hfz9_4 := blk_frozen BK704.out 4; obtain ⟨Ao10, co10, eo10⟩ := Kd.R_slice HO699.out; subst eo10; obtain ⟨Ao11, co11, eo11⟩ := Kd.R_slice HO702.out; subst eo11))
  have n0_ : Aside0 (Kd.R k41 41 (((((w8.setCell ⟨gb704, 0, none⟩ (.int .i64 t694)).setCell ⟨gb704, 1, none⟩ (.int .i64 t695)).setCell ⟨gb704, 2, none⟩ (.int .i64 t696)).setCell ⟨gb704, 3, none⟩ (.slice Ao10 t697.length co10)).setCell ⟨gb704, 4, none⟩ (.slice Ao11 t700.length co11)) w.heap.size (fun _ => True) (.slice Ao10 t697.length co10) t697) := ⟨by (with_reducible repeat (first | apply Kd.R_alloc | apply Kd.R_drewN | apply Kd.R_drew)); exact Kd.R_mono (Kd.R_far (p := ⟨gb704, 4, none⟩) (Kd.R_far (p := ⟨gb704, 3, none⟩) (Kd.R_far (p := ⟨gb704, 2, none⟩) (Kd.R_far (p := ⟨gb704, 1, none⟩) (Kd.R_far (p := ⟨gb704, 0, none⟩) (Kd.R_types HO699.out BK704.out (by decide)) (fun _ hk => hk.2) (.int .i64 t694)) (fun _ hk => hk.2) (.int .i64 t695)) (fun _ hk => hk.2) (.int .i64 t696)) (fun _ hk => hk.2) (.slice Ao10 t697.length co10)) (fun _ hk => hk.2) (.slice Ao11 t700.length co11)) (fun _ hk => trivial)⟩
  have n1_ : Aside0 (Kd.R k25 25 (((((w8.setCell ⟨gb704, 0, none⟩ (.int .i64 t694)).setCell ⟨gb704, 1, none⟩ (.int .i64 t695)).setCell ⟨gb704, 2, none⟩ (.int .i64 t696)).setCell ⟨gb704, 3, none⟩ (.slice Ao10 t697.length co10)).setCell ⟨gb704, 4, none⟩ (.slice Ao11 t700.length co11)) w.heap.size (fun k_ => some k_ ≠ (.slice Ao10 t697.length co10 : Value).ownBlock ∧ k_ ≠ gb704) (.slice Ao11 t700.length co11) t700) := ⟨by (with_reducible repeat (first | apply Kd.R_alloc | apply Kd.R_drewN | apply Kd.R_drew)); exact Kd.R_mono (Kd.R_far (p := ⟨gb704, 4, none⟩) (Kd.R_far (p := ⟨gb704, 3, none⟩) (Kd.R_far (p := ⟨gb704, 2, none⟩) (Kd.R_far (p := ⟨gb704, 1, none⟩) (Kd.R_far (p := ⟨gb704, 0, none⟩) (Kd.R_mono HO702.out (fun k_ hk => (⟨hk, hk.2⟩ : _ ∧ k_ ≠ gb704))) (fun _ hk => hk.2) (.int .i64 t694)) (fun _ hk => hk.2) (.int .i64 t695)) (fun _ hk => hk.2) (.int .i64 t696)) (fun _ hk => hk.2) (.slice Ao10 t697.length co10)) (fun _ hk => hk.2) (.slice Ao11 t700.length co11)) (fun _ hk => ⟨hk.1.1, hk.1.2⟩)⟩
  have n2_ : Aside0 ((((((w8.setCell ⟨gb704, 0, none⟩ (.int .i64 t694)).setCell ⟨gb704, 1, none⟩ (.int .i64 t695)).setCell ⟨gb704, 2, none⟩ (.int .i64 t696)).setCell ⟨gb704, 3, none⟩ (.slice Ao10 t697.length co10)).setCell ⟨gb704, 4, none⟩ (.slice Ao11 t700.length co11)).heap[gb704]? = some (.cells #[.int .i64 t694, .int .i64 t695, .int .i64 t696, .slice Ao10 t697.length co10, .slice Ao11 t700.length co11] 25 (0, 0))) := ⟨by (with_reducible repeat (first | refine blk_drewN ?_ _ | refine blk_drew ?_ | refine blk_alloc ?_ _)); refine blk_put (cs := #[.int .i64 t694, .int .i64 t695, .int .i64 t696, .slice Ao10 t697.length co10, .slice none 0 0]) ?_ 4 _ rfl; (with_reducible repeat (first | refine blk_drewN ?_ _ | refine blk_drew ?_ | refine blk_alloc ?_ _)); refine blk_put (cs := #[.int .i64 t694, .int .i64 t695, .int .i64 t696, .slice none 0 0, .slice none 0 0]) ?_ 3 _ rfl; (with_reducible repeat (first | refine blk_drewN ?_ _ | refine blk_drew ?_ | refine blk_alloc ?_ _)); refine blk_put (cs := #[.int .i64 t694, .int .i64 t695, .int .i64 0, .slice none 0 0, .slice none 0 0]) ?_ 2 _ rfl; (with_reducible repeat (first | refine blk_drewN ?_ _ | refine blk_drew ?_ | refine blk_alloc ?_ _)); refine blk_put (cs := #[.int .i64 t694, .int .i64 0, .int .i64 0, .slice none 0 0, .slice none 0 0]) ?_ 1 _ rfl; (with_reducible repeat (first | refine blk_drewN ?_ _ | refine blk_drew ?_ | refine blk_alloc ?_ _)); refine blk_put (cs := #[.int .i64 0, .int .i64 0, .int .i64 0, .slice none 0 0, .slice none 0 0]) ?_ 0 _ rfl; (with_reducible repeat (first | refine blk_drewN ?_ _ | refine blk_drew ?_ | refine blk_alloc ?_ _)); exact BK704.out⟩
  have n3_ : Aside0 (Below w.heap.size w (((((w8.setCell ⟨gb704, 0, none⟩ (.int .i64 t694)).setCell ⟨gb704, 1, none⟩ (.int .i64 t695)).setCell ⟨gb704, 2, none⟩ (.int .i64 t696)).setCell ⟨gb704, 3, none⟩ (.slice Ao10 t697.length co10)).setCell ⟨gb704, 4, none⟩ (.slice Ao11 t700.length co11))) := ⟨bl_ HB⟩
  (try clear HO699)
  (try clear HO702)
  (try clear BK704)
  (try clear HB)
  generalize (((((w8.setCell ⟨gb704, 0, none⟩ (.int .i64 t694)).setCell ⟨gb704, 1, none⟩ (.int .i64 t695)).setCell ⟨gb704, 2, none⟩ (.int .i64 t696)).setCell ⟨gb704, 3, none⟩ (.slice Ao10 t697.length co10)).setCell ⟨gb704, 4, none⟩ (.slice Ao11 t700.length co11)) = w12 at n0_ n1_ n2_ n3_ ⊢
  have HO699 := n0_
  have HO702 := n1_
  have BK704 := n2_
  have HB := n3_
  clear n0_ n1_ n2_ n3_
  have n0_ := a_ (Kd.R_drew HO699.out)
  have n1_ := a_ (Kd.R_drew HO702.out)
  have n2_ := a_ (blk_drew BK704.out)
  have n3_ := a_ (below_drew1 HB.out)
  clear HO699
  clear HO702
  clear BK704
  clear HB
  have HO699 := n0_
  have HO702 := n1_
  have BK704 := n2_
  have HB := n3_
  clear n0_ n1_ n2_ n3_
  refine start_ (n := 15) (S := fun w' => w'.cell? ⟨gb704, 0, none⟩ = some (.int .i64 t694) ∧ w'.cell? ⟨gb704, 1, none⟩ = some (.int .i64 t695) ∧ w'.cell? ⟨gb704, 2, none⟩ = some (.int .i64 t696) ∧ w'.cell? ⟨gb704, 3, none⟩ = some (.slice Ao10 t697.length co10) ∧ w'.cell? ⟨gb704, 4, none⟩ = some (.slice Ao11 t700.length co11)) (ds := []) #[false, false, false, false, false, false, false, false, false, false, false, false, false, false, false] (by kernel_rfl) rfl rfl ⟨(blk_cell BK704.out 0).trans rfl, (blk_cell BK704.out 1).trans rfl, (blk_cell BK704.out 2).trans rfl, (blk_cell BK704.out 3).trans rfl, (blk_cell BK704.out 4).trans rfl⟩ (fun hHeld => ?_); refine with_tabW laws_FnPrDefaultLaid.tab4 laws_FnPrDefaultLaid.bits4 (fun HT_ HW_ => ?_)
  generalize w12.drew = w13 at HO699 HO702 BK704 HB hHeld ⊢
  refine pure_ (i := 0) (N := some 13) (v := ?_) (a' := ?_) #[true, false, false, false, false, false, false, false, false, false, false, false, false, false, false] rfl rfl (any_of HT_.out (by kernel_rfl)) (fun _ _ _ h => h) (Or.inl ⟨by rfl, ?_⟩) ?_ ?_
  rotate_left
  ·
   intro w'
   go_simp
   with_reducible rfl
  rotate_left
  ·
   simp only [Act.put, List.setIfInBounds_toArray, List.set_cons_zero, List.set_cons_succ, i64_w, i32_w]
   rfl
  refine pure_ (i := 1) (N := some 14) (v := ?_) (a' := ?_) #[true, true, false, false, false, false, false, false, false, false, false, false, false, false, false] rfl rfl (any_of HT_.out (by kernel_rfl)) (fun _ _ _ h => h) (Or.inl ⟨by rfl, ?_⟩) ?_ ?_
  rotate_left
  ·
   intro w'
   go_simp
   with_reducible rfl
  rotate_left
  ·
   simp only [Act.put, List.setIfInBounds_toArray, List.set_cons_zero, List.set_cons_succ, i64_w, i32_w]
   rfl
  refine pure_ (i := 2) (N := some 15) (v := ?_) (a' := ?_) #[true, true, true, false, false, false, false, false, false, false, false, false, false, false, false] rfl rfl (any_of HT_.out (by kernel_rfl)) (fun _ _ _ h => h) (Or.inl ⟨by rfl, ?_⟩) ?_ ?_
  rotate_left
  ·
   intro w'
   go_simp
   with_reducible rfl
  rotate_left
  ·
   simp only [Act.put, List.setIfInBounds_toArray, List.set_cons_zero, List.set_cons_succ, i64_w, i32_w]
   rfl
  refine take_ (i := 3) (N := some 16) (v := ?_) (a' := ?_) #[true, true, true, true, false, false, false, false, false, false, false, false, false, false, false] rfl rfl (take_ofW HT_.out HW_.out (by kernel_rfl)) (fun _ _ _ h => h) (Or.inl ⟨by rfl, ?_⟩) hHeld ?_ ?_
  rotate_left
  ·
   rintro w' ⟨s0, s1, s2, s3, s4⟩
   go_simp
   with_reducible rfl
  rotate_left
  ·
   simp only [Act.put, List.setIfInBounds_toArray, List.set_cons_zero, List.set_cons_succ, i64_w, i32_w]
   rfl
  refine one_ (i := 4) (N := some 17) #[true, true, true, true, true, false, false, false, false, false, false, false, false, false, false] rfl rfl (one_of HT_.out (by kernel_rfl)) (by decide) (fun K hK => ?_)
  refine goes_ Try.func5 (by kernel_rfl) rfl #[.agg #[.int .i64 t694, .int .i64 t695, .int .i64 t696, .slice Ao10 t697.length co10, .slice Ao11 t700.length co11]] (by rfl) rfl rfl ar_ ?_
  with_reducible refine (laws_prArrays.calls k t694 t695 t696 _ _ t697 _ _ t700 true _ ?side1 ?side2 ?side3 ?side4 A5.out).mono ?_
  (case side1 => repeat (first | exact (Kd.R_reads' HO699.out).2.2 | (with_reducible refine Kd.C_alloc ?_ _) | (with_reducible refine Kd.C_drewN ?_ _) | (with_reducible refine Kd.C_drew ?_)))
  (case side2 => exact (Kd.R_reads' HO699.out).2.1)
  (case side3 => repeat (first | exact (Kd.R_reads' HO702.out).2.2 | (with_reducible refine Kd.C_alloc ?_ _) | (with_reducible refine Kd.C_drewN ?_ _) | (with_reducible refine Kd.C_drew ?_)))
  (case side4 => exact (Kd.R_reads' HO702.out).2.1)
  rintro e w14 ⟨rfl, hb⟩
  refine ⟨_, rfl, ?_⟩
  have n0_ := a_ (Kd.R_below (rp_ HO699) hb)
  have n1_ := a_ (Kd.R_below (rp_ HO702) hb)
  have n2_ := a_ (blk_below (g := gb704) (o := .cells #[.int .i64 t694, .int .i64 t695, .int .i64 t696, .slice Ao10 t697.length co10, .slice Ao11 t700.length co11] 25 (0, 0)) (bk_ BK704) hb)
  have n3_ := a_ (below_step (bl_ HB) hb)
  clear HO699
  clear HO702
  clear BK704
  clear HB
  have HO699 := n0_
  have HO702 := n1_
  have BK704 := n2_
  have HB := n3_
  clear n0_ n1_ n2_ n3_
  (try clear hb)
  (try clear hb2)
  (try clear hk)
  (try clear hi)
  refine hK.out _ _ ⟨(blk_cell BK704.out 0).trans rfl, (blk_cell BK704.out 1).trans rfl, (blk_cell BK704.out 2).trans rfl, (blk_cell BK704.out 3).trans rfl, (blk_cell BK704.out 4).trans rfl⟩ (fun hHeld => ?_)
  clear hK K
  refine norm_ (a' := ?_) ?_ ?_
  rotate_left
  ·
   show Act.put _ (some 17) _ = _
   simp only [Act.put, List.setIfInBounds_toArray, List.set_cons_zero, List.set_cons_succ, i64_w, i32_w]
   rfl
  refine pure_ (i := 5) (N := some 18) (v := ?_) (a' := ?_) #[true, true, true, true, true, true, false, false, false, false, false, false, false, false, false] rfl rfl (any_of HT_.out (by kernel_rfl)) (fun _ _ _ h => h) (Or.inl ⟨by rfl, ?_⟩) ?_ ?_
  rotate_left
  ·
   intro w'
   go_simp
   with_reducible rfl
  rotate_left
  ·
   simp only [Act.put, List.setIfInBounds_toArray, List.set_cons_zero, List.set_cons_succ, i64_w, i32_w]
   rfl
  refine pure_ (i := 6) (N := some 19) (v := ?_) (a' := ?_) #[true, true, true, true, true, true, true, false, false, false, false, false, false, false, false] rfl rfl (any_of HT_.out (by kernel_rfl)) (fun _ _ _ h => h) (Or.inl ⟨by rfl, ?_⟩) ?_ ?_
  rotate_left
  ·
   intro w'
   go_simp
   with_reducible rfl
  rotate_left
  ·
   simp only [Act.put, List.setIfInBounds_toArray, List.set_cons_zero, List.set_cons_succ, i64_w, i32_w]
   rfl
  refine pure_ (i := 7) (N := some 20) (v := undef) (a' := ?_) #[true, true, true, true, true, true, true, true, false, false, false, false, false, false, false] rfl rfl (any_of HT_.out (by kernel_rfl)) (fun _ _ _ h => h) (Or.inr ⟨by rfl, rfl⟩) ?_ ?_
  rotate_left
  ·
   simp only [Act.put, List.setIfInBounds_toArray, List.set_cons_zero, List.set_cons_succ, i64_w, i32_w]
   rfl
  refine pure_ (i := 8) (N := some 21) (v := undef) (a' := ?_) #[true, true, true, true, true, true, true, true, true, false, false, false, false, false, false] rfl rfl (any_of HT_.out (by kernel_rfl)) (fun _ _ _ h => h) (Or.inr ⟨by rfl, rfl⟩) ?_ ?_
  rotate_left
  ·
   simp only [Act.put, List.setIfInBounds_toArray, List.set_cons_zero, List.set_cons_succ, i64_w, i32_w]
   rfl
  refine pure_ (i := 9) (N := some 22) (v := undef) (a' := ?_) #[true, true, true, true, true, true, true, true, true, true, false, false, false, false, false] rfl rfl (any_of HT_.out (by kernel_rfl)) (fun _ _ _ h => h) (Or.inr ⟨by rfl, rfl⟩) ?_ ?_
  rotate_left
  ·
   simp only [Act.put, List.setIfInBounds_toArray, List.set_cons_zero, List.set_cons_succ, i64_w, i32_w]
   rfl
  refine pure_ (i := 10) (N := some 23) (v := undef) (a' := ?_) #[true, true, true, true, true, true, true, true, true, true, true, false, false, false, false] rfl rfl (any_of HT_.out (by kernel_rfl)) (fun _ _ _ h => h) (Or.inr ⟨by rfl, rfl⟩) ?_ ?_
  rotate_left
  ·
   simp only [Act.put, List.setIfInBounds_toArray, List.set_cons_zero, List.set_cons_succ, i64_w, i32_w]
   rfl
  refine pure_ (i := 11) (N := some 24) (v := undef) (a' := ?_) #[true, true, true, true, true, true, true, true, true, true, true, true, false, false, false] rfl rfl (any_of HT_.out (by kernel_rfl)) (fun _ _ _ h => h) (Or.inr ⟨by rfl, rfl⟩) ?_ ?_
  rotate_left
  ·
   simp only [Act.put, List.setIfInBounds_toArray, List.set_cons_zero, List.set_cons_succ, i64_w, i32_w]
   rfl
  refine pure_ (i := 12) (N := some 25) (v := undef) (a' := ?_) #[true, true, true, true, true, true, true, true, true, true, true, true, true, false, false] rfl rfl (any_of HT_.out (by kernel_rfl)) (fun _ _ _ h => h) (Or.inr ⟨by rfl, rfl⟩) ?_ ?_
  rotate_left
  ·
   simp only [Act.put, List.setIfInBounds_toArray, List.set_cons_zero, List.set_cons_succ, i64_w, i32_w]
   rfl
  refine pure_ (i := 13) (N := some 26) (v := ?_) (a' := ?_) #[true, true, true, true, true, true, true, true, true, true, true, true, true, true, false] rfl rfl (any_of HT_.out (by kernel_rfl)) (fun _ _ _ h => h) (Or.inl ⟨by rfl, ?_⟩) ?_ ?_
  rotate_left
  ·
   intro w'
   go_simp
   with_reducible rfl
  rotate_left
  ·
   simp only [Act.put, List.setIfInBounds_toArray, List.set_cons_zero, List.set_cons_succ, i64_w, i32_w]
   rfl
  refine pure_ (i := 14) (N := some 2) (v := ?_) (a' := ?_) #[true, true, true, true, true, true, true, true, true, true, true, true, true, true, true] rfl rfl (any_of HT_.out (by kernel_rfl)) (fun _ _ _ h => h) (Or.inl ⟨by rfl, ?_⟩) ?_ ?_
  rotate_left
  ·
   intro w'
   go_simp
   with_reducible rfl
  rotate_left
  ·
   simp only [Act.put, List.setIfInBounds_toArray, List.set_cons_zero, List.set_cons_succ, i64_w, i32_w]
   rfl
  refine done_ (done_of HT_.out (by kernel_rfl)) ?_
  try go_wp2
  go_ret
  exact ⟨by first | rfl | (simp [errW_none, errW_some] <;> rfl) | (simp [*, errW_none, errW_some] <;> rfl), bl_ HB⟩
 replace c6 := Bool.eq_false_iff.mpr c6
 subst c6
 have H1 : ((impl_PrDefault.f k a0).bind fun t706 => ((spec_Laid.f k a0 t694 t695 t696 t697 t700 (⟨#[]⟩ : ByteArray) (⟨#[32, 32]⟩ : ByteArray) false).bind fun t707 => (some (t706.toList == t707.toList)))) = some r := by rw [if_neg (show ¬ (false = true) by decide)] at H; exact H
 clear H
 have H := H1
 clear H1
 replace H := Option.bind_eq_some_iff.mp H
 obtain ⟨t706, A150, H⟩ := H
 replace H : ((spec_Laid.f k a0 t694 t695 t696 t697 t700 (⟨#[]⟩ : ByteArray) (⟨#[32, 32]⟩ : ByteArray) false).bind fun t707 => (some (t706.toList == t707.toList))) = some r := H
 have A15 := a_ A150
 clear A150
 replace H := Option.bind_eq_some_iff.mp H
 obtain ⟨t707, A160, H⟩ := H
 replace H : (some (t706.toList == t707.toList)) = some r := H
 have A16 := a_ A160
 clear A160
 obtain rfl := Option.some.inj H
 go_enter Try.func3, Try.ntmps3
 try go_wp2_with (first | ((with_reducible refine gate_callee (f := 4) rfl ?_); refine goesL_ (some 10) rfl rfl Try.func4 (by kernel_rfl) rfl #[.string a0] rfl ar_ ?_; (with_reducible refine (laws_prPlaces.calls k a0 t694 t695 t696 t697 t700 true _ A3.out).mono ?_); rintro e w17 ⟨v698, v701, rfl, ho0, ho1, hb⟩; refine ⟨_, rfl, ?_⟩; have n0_ := a_ (Kd.R_lower ho0 (below_size (bl_ HB))); have n1_ := a_ (Kd.R_lower ho1 (below_size (bl_ HB))); have n2_ := a_ (below_step (bl_ HB) hb); clear HB; have HO699 := n0_; have HO702 := n1_; have HB := n2_; clear n0_ n1_ n2_; (try clear hb); (try clear hb2); (try clear hk); (try clear hi); (try clear ho0); (try clear ho1)) | ((with_reducible refine gate_dst (N := 3) rfl ?_); refine box_event ?hg (N := 3) ?hd (cs := #[.int .i64 0, .int .i64 0, .int .i64 0, .slice none 0 0, .slice none 0 0]) (t := 25) ?hr ?_; (case hd => rfl); (case hg => rfl); (case hr => first | (go_simp; done) | (go_simp; rfl)); intro gb704 hg w18 hbox hb; have n0_ := a_ (Kd.R_below (rp_ HO699) hb); have n1_ := a_ (Kd.R_below (Kd.R_elderB (rp_ HO702) gb704 (Nat.le_of_eq hg.symm)) hb); have n2_ := a_ (below_step (bl_ HB) hb); have n3_ := a_ (hbox); have n4_ := a_ ((by rw [hg]; exact (below_size (bl_ HB)) : w.heap.size ≤ gb704)); have n5_ := a_ ((by rw [hg]; exact (below_size (bl_ HB)) : w.heap.size ≤ gb704)); clear HO699 HO702 HB; have HO699 := n0_; have HO702 := n1_; have HB := n2_; have BK704 := n3_; have GW704 := n4_; have GE704 := n5_; clear n0_ n1_ n2_ n3_ n4_ n5_; clear hb hbox hg; have hcz19_0 := bc_ BK704 0 (.int .i64 0); have hcz19_1 := bc_ BK704 1 (.int .i64 0); have hcz19_2 := bc_ BK704 2 (.int .i64 0); have hcz19_3 := bc_ BK704 3 (.slice none 0 0); have hcz19_4 := bc_ BK704 4 (.slice none 0 0); have hfz19_0 := blk_frozen BK704.out 0; have hfz19_1 := blk_frozen BK704.out 1; have hfz19_2 := blk_frozen BK704.out 2; have hfz19_3 := blk_frozen BK704.out 3; have hfz19_4 := blk_frozen BK704.out 4; obtain ⟨Ao20, co20, eo20⟩ := Kd.R_slice HO699.out; subst eo20; obtain ⟨Ao21, co21, eo21⟩ := Kd.R_slice HO702.out; subst eo21))
 have n0_ : Aside0 (Kd.R k41 41 (((((w18.setCell ⟨gb704, 0, none⟩ (.int .i64 t694)).setCell ⟨gb704, 1, none⟩ (.int .i64 t695)).setCell ⟨gb704, 2, none⟩ (.int .i64 t696)).setCell ⟨gb704, 3, none⟩ (.slice Ao20 t697.length co20)).setCell ⟨gb704, 4, none⟩ (.slice Ao21 t700.length co21)) w.heap.size (fun _ => True) (.slice Ao20 t697.length co20) t697) := ⟨by (with_reducible repeat (first | apply Kd.R_alloc | apply Kd.R_drewN | apply Kd.R_drew)); exact Kd.R_mono (Kd.R_far (p := ⟨gb704, 4, none⟩) (Kd.R_far (p := ⟨gb704, 3, none⟩) (Kd.R_far (p := ⟨gb704, 2, none⟩) (Kd.R_far (p := ⟨gb704, 1, none⟩) (Kd.R_far (p := ⟨gb704, 0, none⟩) (Kd.R_types HO699.out BK704.out (by decide)) (fun _ hk => hk.2) (.int .i64 t694)) (fun _ hk => hk.2) (.int .i64 t695)) (fun _ hk => hk.2) (.int .i64 t696)) (fun _ hk => hk.2) (.slice Ao20 t697.length co20)) (fun _ hk => hk.2) (.slice Ao21 t700.length co21)) (fun _ hk => trivial)⟩
 have n1_ : Aside0 (Kd.R k25 25 (((((w18.setCell ⟨gb704, 0, none⟩ (.int .i64 t694)).setCell ⟨gb704, 1, none⟩ (.int .i64 t695)).setCell ⟨gb704, 2, none⟩ (.int .i64 t696)).setCell ⟨gb704, 3, none⟩ (.slice Ao20 t697.length co20)).setCell ⟨gb704, 4, none⟩ (.slice Ao21 t700.length co21)) w.heap.size (fun k_ => some k_ ≠ (.slice Ao20 t697.length co20 : Value).ownBlock ∧ k_ ≠ gb704) (.slice Ao21 t700.length co21) t700) := ⟨by (with_reducible repeat (first | apply Kd.R_alloc | apply Kd.R_drewN | apply Kd.R_drew)); exact Kd.R_mono (Kd.R_far (p := ⟨gb704, 4, none⟩) (Kd.R_far (p := ⟨gb704, 3, none⟩) (Kd.R_far (p := ⟨gb704, 2, none⟩) (Kd.R_far (p := ⟨gb704, 1, none⟩) (Kd.R_far (p := ⟨gb704, 0, none⟩) (Kd.R_mono HO702.out (fun k_ hk => (⟨hk, hk.2⟩ : _ ∧ k_ ≠ gb704))) (fun _ hk => hk.2) (.int .i64 t694)) (fun _ hk => hk.2) (.int .i64 t695)) (fun _ hk => hk.2) (.int .i64 t696)) (fun _ hk => hk.2) (.slice Ao20 t697.length co20)) (fun _ hk => hk.2) (.slice Ao21 t700.length co21)) (fun _ hk => ⟨hk.1.1, hk.1.2⟩)⟩
 have n2_ : Aside0 ((((((w18.setCell ⟨gb704, 0, none⟩ (.int .i64 t694)).setCell ⟨gb704, 1, none⟩ (.int .i64 t695)).setCell ⟨gb704, 2, none⟩ (.int .i64 t696)).setCell ⟨gb704, 3, none⟩ (.slice Ao20 t697.length co20)).setCell ⟨gb704, 4, none⟩ (.slice Ao21 t700.length co21)).heap[gb704]? = some (.cells #[.int .i64 t694, .int .i64 t695, .int .i64 t696, .slice Ao20 t697.length co20, .slice Ao21 t700.length co21] 25 (0, 0))) := ⟨by (with_reducible repeat (first | refine blk_drewN ?_ _ | refine blk_drew ?_ | refine blk_alloc ?_ _)); refine blk_put (cs := #[.int .i64 t694, .int .i64 t695, .int .i64 t696, .slice Ao20 t697.length co20, .slice none 0 0]) ?_ 4 _ rfl; (with_reducible repeat (first | refine blk_drewN ?_ _ | refine blk_drew ?_ | refine blk_alloc ?_ _)); refine blk_put (cs := #[.int .i64 t694, .int .i64 t695, .int .i64 t696, .slice none 0 0, .slice none 0 0]) ?_ 3 _ rfl; (with_reducible repeat (first | refine blk_drewN ?_ _ | refine blk_drew ?_ | refine blk_alloc ?_ _)); refine blk_put (cs := #[.int .i64 t694, .int .i64 t695, .int .i64 0, .slice none 0 0, .slice none 0 0]) ?_ 2 _ rfl; (with_reducible repeat (first | refine blk_drewN ?_ _ | refine blk_drew ?_ | refine blk_alloc ?_ _)); refine blk_put (cs := #[.int .i64 t694, .int .i64 0, .int .i64 0, .slice none 0 0, .slice none 0 0]) ?_ 1 _ rfl; (with_reducible repeat (first | refine blk_drewN ?_ _ | refine blk_drew ?_ | refine blk_alloc ?_ _)); refine blk_put (cs := #[.int .i64 0, .int .i64 0, .int .i64 0, .slice none 0 0, .slice none 0 0]) ?_ 0 _ rfl; (with_reducible repeat (first | refine blk_drewN ?_ _ | refine blk_drew ?_ | refine blk_alloc ?_ _)); exact BK704.out⟩
 have n3_ : Aside0 (Below w.heap.size w (((((w18.setCell ⟨gb704, 0, none⟩ (.int .i64 t694)).setCell ⟨gb704, 1, none⟩ (.int .i64 t695)).setCell ⟨gb704, 2, none⟩ (.int .i64 t696)).setCell ⟨gb704, 3, none⟩ (.slice Ao20 t697.length co20)).setCell ⟨gb704, 4, none⟩ (.slice Ao21 t700.length co21))) := ⟨bl_ HB⟩
 (try clear HO699)
 (try clear HO702)
 (try clear BK704)
 (try clear HB)
 generalize (((((w18.setCell ⟨gb704, 0, none⟩ (.int .i64 t694)).setCell ⟨gb704, 1, none⟩ (.int .i64 t695)).setCell ⟨gb704, 2, none⟩ (.int .i64 t696)).setCell ⟨gb704, 3, none⟩ (.slice Ao20 t697.length co20)).setCell ⟨gb704, 4, none⟩ (.slice Ao21 t700.length co21)) = w22 at n0_ n1_ n2_ n3_ ⊢
 have HO699 := n0_
 have HO702 := n1_
 have BK704 := n2_
 have HB := n3_
 clear n0_ n1_ n2_ n3_
 have n0_ := a_ (Kd.R_drew HO699.out)
 have n1_ := a_ (Kd.R_drew HO702.out)
 have n2_ := a_ (blk_drew BK704.out)
 have n3_ := a_ (below_drew1 HB.out)
 clear HO699
 clear HO702
 clear BK704
 clear HB
 have HO699 := n0_
 have HO702 := n1_
 have BK704 := n2_
 have HB := n3_
 clear n0_ n1_ n2_ n3_
 refine start_ (n := 15) (S := fun w' => w'.cell? ⟨gb704, 0, none⟩ = some (.int .i64 t694) ∧ w'.cell? ⟨gb704, 1, none⟩ = some (.int .i64 t695) ∧ w'.cell? ⟨gb704, 2, none⟩ = some (.int .i64 t696) ∧ w'.cell? ⟨gb704, 3, none⟩ = some (.slice Ao20 t697.length co20) ∧ w'.cell? ⟨gb704, 4, none⟩ = some (.slice Ao21 t700.length co21)) (ds := []) #[false, false, false, false, false, false, false, false, false, false, false, false, false, false, false] (by kernel_rfl) rfl rfl ⟨(blk_cell BK704.out 0).trans rfl, (blk_cell BK704.out 1).trans rfl, (blk_cell BK704.out 2).trans rfl, (blk_cell BK704.out 3).trans rfl, (blk_cell BK704.out 4).trans rfl⟩ (fun hHeld => ?_); refine with_tabW laws_FnPrDefaultLaid.tab4 laws_FnPrDefaultLaid.bits4 (fun HT_ HW_ => ?_)
 generalize w22.drew = w23 at HO699 HO702 BK704 HB hHeld ⊢
 refine pure_ (i := 0) (N := some 13) (v := ?_) (a' := ?_) #[true, false, false, false, false, false, false, false, false, false, false, false, false, false, false] rfl rfl (any_of HT_.out (by kernel_rfl)) (fun _ _ _ h => h) (Or.inl ⟨by rfl, ?_⟩) ?_ ?_
 rotate_left
 ·
  intro w'
  go_simp
  with_reducible rfl
 rotate_left
 ·
  simp only [Act.put, List.setIfInBounds_toArray, List.set_cons_zero, List.set_cons_succ, i64_w, i32_w]
  rfl
 refine pure_ (i := 1) (N := some 14) (v := ?_) (a' := ?_) #[true, true, false, false, false, false, false, false, false, false, false, false, false, false, false] rfl rfl (any_of HT_.out (by kernel_rfl)) (fun _ _ _ h => h) (Or.inl ⟨by rfl, ?_⟩) ?_ ?_
 rotate_left
 ·
  intro w'
  go_simp
  with_reducible rfl
 rotate_left
 ·
  simp only [Act.put, List.setIfInBounds_toArray, List.set_cons_zero, List.set_cons_succ, i64_w, i32_w]
  rfl
 refine pure_ (i := 2) (N := some 15) (v := ?_) (a' := ?_) #[true, true, true, false, false, false, false, false, false, false, false, false, false, false, false] rfl rfl (any_of HT_.out (by kernel_rfl)) (fun _ _ _ h => h) (Or.inl ⟨by rfl, ?_⟩) ?_ ?_
 rotate_left
 ·
  intro w'
  go_simp
  with_reducible rfl
 rotate_left
 ·
  simp only [Act.put, List.setIfInBounds_toArray, List.set_cons_zero, List.set_cons_succ, i64_w, i32_w]
  rfl
 refine take_ (i := 3) (N := some 16) (v := ?_) (a' := ?_) #[true, true, true, true, false, false, false, false, false, false, false, false, false, false, false] rfl rfl (take_ofW HT_.out HW_.out (by kernel_rfl)) (fun _ _ _ h => h) (Or.inl ⟨by rfl, ?_⟩) hHeld ?_ ?_
 rotate_left
 ·
  rintro w' ⟨s0, s1, s2, s3, s4⟩
  go_simp
  with_reducible rfl
 rotate_left
 ·
  simp only [Act.put, List.setIfInBounds_toArray, List.set_cons_zero, List.set_cons_succ, i64_w, i32_w]
  rfl
 refine one_ (i := 4) (N := some 17) #[true, true, true, true, true, false, false, false, false, false, false, false, false, false, false] rfl rfl (one_of HT_.out (by kernel_rfl)) (by decide) (fun K hK => ?_)
 refine goes_ Try.func5 (by kernel_rfl) rfl #[.agg #[.int .i64 t694, .int .i64 t695, .int .i64 t696, .slice Ao20 t697.length co20, .slice Ao21 t700.length co21]] (by rfl) rfl rfl ar_ ?_
 with_reducible refine (laws_prArrays.calls k t694 t695 t696 _ _ t697 _ _ t700 false _ ?side1 ?side2 ?side3 ?side4 A5.out).mono ?_
 (case side1 => repeat (first | exact (Kd.R_reads' HO699.out).2.2 | (with_reducible refine Kd.C_alloc ?_ _) | (with_reducible refine Kd.C_drewN ?_ _) | (with_reducible refine Kd.C_drew ?_)))
 (case side2 => exact (Kd.R_reads' HO699.out).2.1)
 (case side3 => repeat (first | exact (Kd.R_reads' HO702.out).2.2 | (with_reducible refine Kd.C_alloc ?_ _) | (with_reducible refine Kd.C_drewN ?_ _) | (with_reducible refine Kd.C_drew ?_)))
 (case side4 => exact (Kd.R_reads' HO702.out).2.1)
 rintro e w24 ⟨rfl, hb⟩
 refine ⟨_, rfl, ?_⟩
 have n0_ := a_ (Kd.R_below (rp_ HO699) hb)
 have n1_ := a_ (Kd.R_below (rp_ HO702) hb)
 have n2_ := a_ (blk_below (g := gb704) (o := .cells #[.int .i64 t694, .int .i64 t695, .int .i64 t696, .slice Ao20 t697.length co20, .slice Ao21 t700.length co21] 25 (0, 0)) (bk_ BK704) hb)
 have n3_ := a_ (below_step (bl_ HB) hb)
 clear HO699
 clear HO702
 clear BK704
 clear HB
 have HO699 := n0_
 have HO702 := n1_
 have BK704 := n2_
 have HB := n3_
 clear n0_ n1_ n2_ n3_
 (try clear hb)
 (try clear hb2)
 (try clear hk)
 (try clear hi)
 refine hK.out _ _ ⟨(blk_cell BK704.out 0).trans rfl, (blk_cell BK704.out 1).trans rfl, (blk_cell BK704.out 2).trans rfl, (blk_cell BK704.out 3).trans rfl, (blk_cell BK704.out 4).trans rfl⟩ (fun hHeld => ?_)
 clear hK K
 refine norm_ (a' := ?_) ?_ ?_
 rotate_left
 ·
  show Act.put _ (some 17) _ = _
  simp only [Act.put, List.setIfInBounds_toArray, List.set_cons_zero, List.set_cons_succ, i64_w, i32_w]
  rfl
 refine pure_ (i := 5) (N := some 18) (v := ?_) (a' := ?_) #[true, true, true, true, true, true, false, false, false, false, false, false, false, false, false] rfl rfl (any_of HT_.out (by kernel_rfl)) (fun _ _ _ h => h) (Or.inl ⟨by rfl, ?_⟩) ?_ ?_
 rotate_left
 ·
  intro w'
  go_simp
  with_reducible rfl
 rotate_left
 ·
  simp only [Act.put, List.setIfInBounds_toArray, List.set_cons_zero, List.set_cons_succ, i64_w, i32_w]
  rfl
 refine pure_ (i := 6) (N := some 19) (v := ?_) (a' := ?_) #[true, true, true, true, true, true, true, false, false, false, false, false, false, false, false] rfl rfl (any_of HT_.out (by kernel_rfl)) (fun _ _ _ h => h) (Or.inl ⟨by rfl, ?_⟩) ?_ ?_
 rotate_left
 ·
  intro w'
  go_simp
  with_reducible rfl
 rotate_left
 ·
  simp only [Act.put, List.setIfInBounds_toArray, List.set_cons_zero, List.set_cons_succ, i64_w, i32_w]
  rfl
 refine pure_ (i := 7) (N := some 20) (v := ?_) (a' := ?_) #[true, true, true, true, true, true, true, true, false, false, false, false, false, false, false] rfl rfl (any_of HT_.out (by kernel_rfl)) (fun _ _ _ h => h) (Or.inl ⟨by rfl, ?_⟩) ?_ ?_
 rotate_left
 ·
  intro w'
  go_simp
  with_reducible rfl
 rotate_left
 ·
  simp only [Act.put, List.setIfInBounds_toArray, List.set_cons_zero, List.set_cons_succ, i64_w, i32_w]
  rfl
 refine pure_ (i := 9) (N := some 22) (v := ?_) (a' := ?_) #[true, true, true, true, true, true, true, true, false, true, false, false, false, false, false] rfl rfl (any_of HT_.out (by kernel_rfl)) (fun _ _ _ h => h) (Or.inl ⟨by rfl, ?_⟩) ?_ ?_
 rotate_left
 ·
  intro w'
  go_simp
  with_reducible rfl
 rotate_left
 ·
  simp only [Act.put, List.setIfInBounds_toArray, List.set_cons_zero, List.set_cons_succ, i64_w, i32_w]
  rfl
 refine take_ (i := 10) (N := some 23) (v := ?_) (a' := ?_) #[true, true, true, true, true, true, true, true, false, true, true, false, false, false, false] rfl rfl (take_ofW HT_.out HW_.out (by kernel_rfl)) (fun _ _ _ h => h) (Or.inl ⟨by rfl, ?_⟩) hHeld ?_ ?_
 rotate_left
 ·
  rintro w' ⟨s0, s1, s2, s3, s4⟩
  go_simp
  with_reducible rfl
 rotate_left
 ·
  simp only [Act.put, List.setIfInBounds_toArray, List.set_cons_zero, List.set_cons_succ, i64_w, i32_w]
  rfl
 refine one_ (i := 8) (N := some 21) #[true, true, true, true, true, true, true, true, true, true, true, false, false, false, false] rfl rfl (one_of HT_.out (by kernel_rfl)) (by decide) (fun K hK => ?_)
 refine goes_ Try.func6 (by kernel_rfl) rfl #[.string a0] (by rfl) rfl rfl ar_ ?_
 with_reducible refine (impl_PrDefault.calls k a0 t706 _ A15.out).mono ?_
 rintro e w25 ⟨rfl, hb⟩
 refine ⟨_, rfl, ?_⟩
 have n0_ := a_ (Kd.R_below (rp_ HO699) hb)
 have n1_ := a_ (Kd.R_below (rp_ HO702) hb)
 have n2_ := a_ (blk_below (g := gb704) (o := .cells #[.int .i64 t694, .int .i64 t695, .int .i64 t696, .slice Ao20 t697.length co20, .slice Ao21 t700.length co21] 25 (0, 0)) (bk_ BK704) hb)
 have n3_ := a_ (below_step (bl_ HB) hb)
 clear HO699
 clear HO702
 clear BK704
 clear HB
 have HO699 := n0_
 have HO702 := n1_
 have BK704 := n2_
 have HB := n3_
 clear n0_ n1_ n2_ n3_
 (try clear hb)
 (try clear hb2)
 (try clear hk)
 (try clear hi)
 refine hK.out _ _ ⟨(blk_cell BK704.out 0).trans rfl, (blk_cell BK704.out 1).trans rfl, (blk_cell BK704.out 2).trans rfl, (blk_cell BK704.out 3).trans rfl, (blk_cell BK704.out 4).trans rfl⟩ (fun hHeld => ?_)
 clear hK K
 refine norm_ (a' := ?_) ?_ ?_
 rotate_left
 ·
  show Act.put _ (some 21) _ = _
  simp only [Act.put, List.setIfInBounds_toArray, List.set_cons_zero, List.set_cons_succ, i64_w, i32_w]
  rfl
 refine one_ (i := 11) (N := some 24) #[true, true, true, true, true, true, true, true, true, true, true, true, false, false, false] rfl rfl (one_of HT_.out (by kernel_rfl)) (by decide) (fun K hK => ?_)
 refine goes_ Try.func7 (by kernel_rfl) rfl #[.string a0, .agg #[.int .i64 t694, .int .i64 t695, .int .i64 t696, .slice Ao20 t697.length co20, .slice Ao21 t700.length co21], .string (⟨#[]⟩ : ByteArray), .string (⟨#[32, 32]⟩ : ByteArray), .bool false] (by rfl) rfl rfl ar_ ?_
 with_reducible refine (spec_Laid.calls k a0 t694 t695 t696 _ _ t697 _ _ t700 (⟨#[]⟩ : ByteArray) (⟨#[32, 32]⟩ : ByteArray) false t707 _ ?side1 ?side2 ?side3 ?side4 A16.out).mono ?_
 (case side1 => repeat (first | exact (Kd.R_reads' HO699.out).2.2 | (with_reducible refine Kd.C_alloc ?_ _) | (with_reducible refine Kd.C_drewN ?_ _) | (with_reducible refine Kd.C_drew ?_)))
 (case side2 => exact (Kd.R_reads' HO699.out).2.1)
 (case side3 => repeat (first | exact (Kd.R_reads' HO702.out).2.2 | (with_reducible refine Kd.C_alloc ?_ _) | (with_reducible refine Kd.C_drewN ?_ _) | (with_reducible refine Kd.C_drew ?_)))
 (case side4 => exact (Kd.R_reads' HO702.out).2.1)
 rintro e w26 ⟨rfl, hb⟩
 refine ⟨_, rfl, ?_⟩
 have n0_ := a_ (Kd.R_below (rp_ HO699) hb)
 have n1_ := a_ (Kd.R_below (rp_ HO702) hb)
 have n2_ := a_ (blk_below (g := gb704) (o := .cells #[.int .i64 t694, .int .i64 t695, .int .i64 t696, .slice Ao20 t697.length co20, .slice Ao21 t700.length co21] 25 (0, 0)) (bk_ BK704) hb)
 have n3_ := a_ (below_step (bl_ HB) hb)
 clear HO699
 clear HO702
 clear BK704
 clear HB
 have HO699 := n0_
 have HO702 := n1_
 have BK704 := n2_
 have HB := n3_
 clear n0_ n1_ n2_ n3_
 (try clear hb)
 (try clear hb2)
 (try clear hk)
 (try clear hi)
 refine hK.out _ _ ⟨(blk_cell BK704.out 0).trans rfl, (blk_cell BK704.out 1).trans rfl, (blk_cell BK704.out 2).trans rfl, (blk_cell BK704.out 3).trans rfl, (blk_cell BK704.out 4).trans rfl⟩ (fun hHeld => ?_)
 clear hK K
 refine norm_ (a' := ?_) ?_ ?_
 rotate_left
 ·
  show Act.put _ (some 24) _ = _
  simp only [Act.put, List.setIfInBounds_toArray, List.set_cons_zero, List.set_cons_succ, i64_w, i32_w]
  rfl
 refine pure_ (i := 12) (N := some 25) (v := ?_) (a' := ?_) #[true, true, true, true, true, true, true, true, true, true, true, true, true, false, false] rfl rfl (any_of HT_.out (by kernel_rfl)) (fun _ _ _ h => h) (Or.inl ⟨by rfl, ?_⟩) ?_ ?_
 rotate_left
 ·
  intro w'
  go_simp
  with_reducible rfl
 rotate_left
 ·
  simp only [Act.put, List.setIfInBounds_toArray, List.set_cons_zero, List.set_cons_succ, i64_w, i32_w]
  rfl
 refine pure_ (i := 13) (N := some 26) (v := ?_) (a' := ?_) #[true, true, true, true, true, true, true, true, true, true, true, true, true, true, false] rfl rfl (any_of HT_.out (by kernel_rfl)) (fun _ _ _ h => h) (Or.inl ⟨by rfl, ?_⟩) ?_ ?_
 rotate_left
 ·
  intro w'
  go_simp
  with_reducible rfl
 rotate_left
 ·
  simp only [Act.put, List.setIfInBounds_toArray, List.set_cons_zero, List.set_cons_succ, i64_w, i32_w]
  rfl
 refine pure_ (i := 14) (N := some 2) (v := ?_) (a' := ?_) #[true, true, true, true, true, true, true, true, true, true, true, true, true, true, true] rfl rfl (any_of HT_.out (by kernel_rfl)) (fun _ _ _ h => h) (Or.inl ⟨by rfl, ?_⟩) ?_ ?_
 rotate_left
 ·
  intro w'
  go_simp
  with_reducible rfl
 rotate_left
 ·
  simp only [Act.put, List.setIfInBounds_toArray, List.set_cons_zero, List.set_cons_succ, i64_w, i32_w]
  rfl
 refine done_ (done_of HT_.out (by kernel_rfl)) ?_
 try go_wp2
 go_ret
 exact ⟨by first | rfl | (simp [errW_none, errW_some] <;> rfl) | (simp [*, errW_none, errW_some] <;> rfl), bl_ HB⟩
/-- THE ONE PURE STATEMENT of laws_FnPrDefaultLaid: yours. -/
def laws_FnPrDefaultLaid.Pure : Prop := ∀ (a0 : ByteArray), a0.size ≤ 140737488351232 → ∃ k, laws_FnPrDefaultLaid.f k a0 = some true
theorem laws_FnPrDefaultLaid.walk (P : laws_FnPrDefaultLaid.Pure) (a0 : ByteArray) (w : World) (w0 : a0.size ≤ 140737488351232) :
  Calls Try.prog 3 #[.string a0] w fun e w' => e = .returned (.bool true) ∧ Below w.heap.size w w' := by
 obtain ⟨k, h⟩ := P a0 w0
 refine (laws_FnPrDefaultLaid.calls k a0 true w h).mono ?_
 rintro e w' ⟨rfl, hd⟩
 exact ⟨rfl, hd⟩
end Go.Proofs.Ytapgjhgjhcfmoaa.PFnPrDefaultLaid
