/- Contracts of Go functions of this seat: for each a Lean function over numbers and lists and a proof that the Go function, called in any memory, returns what it gives. Made by program. -/
import Derived.Test.YtapgjhgjhcfmoaaPFnPrDefaultLaidx0
import Derived.Test.YtapgjhgjhcfmoaaPFnPrDefaultLaidxhPlaces
namespace Go.Proofs.Ytapgjhgjhcfmoaa.PFnPrDefaultLaid
open Go.RowKit Go.Proofs.YtapgjhgjhcfmoaaW.PrintWords Go.Proofs.YtapgjhgjhcfmoaaW.PrintLast Go.Proofs.YtapgjhgjhcfmoaaW.PrintMore
attribute [local go_sem] max2_int min2_int max_two min_two max_three min_three max_four min_four   -- for this text's walks alone
set_option linter.unusedVariables false
set_option linter.unusedSimpArgs false
/-! ### laws_prPlaces: function 4 -/
def laws_prPlaces.f (k : Nat) (a0 : ByteArray) : Option (Int × Int × Int × (List (S41)) × (List (S25)) × Bool) := if (a0.size : Int) > 4096 then (some (0, 0, 0, ([] : List (S41)), ([] : List (S25)), false)) else ((spec_Places.f k a0).bind fun bt266 => (some (bt266.1, bt266.2.1, bt266.2.2.1, bt266.2.2.2.1, bt266.2.2.2.2.1, bt266.2.2.2.2.2)))
theorem laws_prPlaces.mono : ∀ a0 k, LeO (laws_prPlaces.f k a0) (laws_prPlaces.f (k + 1) a0) := by
 intro a0 k
 unfold laws_prPlaces.f
 repeat' first
  | (with_reducible exact spec_Places.mono _ _)
  | (with_reducible exact LeO.refl _)
  | (with_reducible exact LeO.none _)
  | (with_reducible refine LeO.ite ?_ ?_)
  | (with_reducible refine LeO.bind ?_ (fun _ => ?_))
  | exact spec_Places.mono _ _
  | exact LeO.none _
  | refine LeO.ite ?_ ?_
  | refine LeO.bind ?_ (fun _ => ?_)
set_option maxHeartbeats 8000000 in
set_option maxRecDepth 100000 in
theorem laws_prPlaces.calls (k : Nat) (a0 : ByteArray) (r1 : Int) (r2 : Int) (r3 : Int) (r4 : List (S41)) (r5 : List (S25)) (r6 : Bool) (w : World) (h : laws_prPlaces.f k a0 = some (r1, r2, r3, r4, r5, r6)) :
  Calls Try.prog 4 #[.string a0] w fun e w' => ∃ v3_ v4_ : Value, e = .returned (.tuple #[.agg #[.int .i64 r1, .int .i64 r2, .int .i64 r3, v3_, v4_], .bool r6]) ∧ Kd.R k41 41 w' w.heap.size (fun _ => True) v3_ r4 ∧ Kd.R k25 25 w' w.heap.size (fun k_ => some k_ ≠ (v3_ : Value).ownBlock) v4_ r5 ∧ Below w.heap.size w w' := by
 have hu25 := Try.underlying25
 have HB := a_ (Below.refl w.heap.size w)
 have H : (if (a0.size : Int) > 4096 then (some (0, 0, 0, ([] : List (S41)), ([] : List (S25)), false)) else ((spec_Places.f k a0).bind fun bt266 => (some (bt266.1, bt266.2.1, bt266.2.2.1, bt266.2.2.2.1, bt266.2.2.2.2.1, bt266.2.2.2.2.2)))) = some (r1, r2, r3, r4, r5, r6) := h
 clear h
 by_cases c2 : (a0.size : Int) > 4096
 ·
  rw [if_pos c2] at H
  have c2b0 : decide (4096 < (a0.size : Int)) = true := decide_eq_true c2
  have c2b1 : decide (4096 < a0.size) = true := decide_eq_true (by omega)
  clear c2
  simp only [Option.some.injEq, Prod.mk.injEq] at H
  obtain ⟨rfl, rfl, rfl, rfl, rfl, rfl⟩ := H
  go_enter Try.func4, Try.ntmps4
  go_wp2_with (first | ((with_reducible refine gate_dst (N := 2) rfl ?_); refine box_event ?hg (N := 2) ?hd (cs := #[.int .i64 0, .int .i64 0, .int .i64 0, .slice none 0 0, .slice none 0 0]) (t := 25) ?hr ?_; (case hd => rfl); (case hg => rfl); (case hr => first | (go_simp; done) | (go_simp; rfl)); intro gb265 hg w3 hbox hb; have n0_ := a_ (below_step (bl_ HB) hb); have n1_ := a_ (hbox); have n2_ := a_ ((by rw [hg]; exact (below_size (bl_ HB)) : w.heap.size ≤ gb265)); have n3_ := a_ ((by rw [hg]; exact (below_size (bl_ HB)) : w.heap.size ≤ gb265)); clear HB; have HB := n0_; have BK265 := n1_; have GW265 := n2_; have GE265 := n3_; clear n0_ n1_ n2_ n3_ hb hbox hg; have hcz4_0 := bc_ BK265 0 (.int .i64 0); have hcz4_1 := bc_ BK265 1 (.int .i64 0); have hcz4_2 := bc_ BK265 2 (.int .i64 0); have hcz4_3 := bc_ BK265 3 (.slice none 0 0); have hcz4_4 := bc_ BK265 4 (.slice none 0 0); have hfz4_0 := blk_frozen BK265.out 0; have hfz4_1 := blk_frozen BK265.out 1; have hfz4_2 := blk_frozen BK265.out 2; have hfz4_3 := blk_frozen BK265.out 3; have hfz4_4 := blk_frozen BK265.out 4))
  refine bodyPost_ret (results_ct rfl _ _ gb265 25 #[.int .i64 0, .int .i64 0, .int .i64 0, .slice none 0 0, .slice none 0 0] (0, 0) _ rfl (by (with_reducible repeat (first | refine blk_drewN ?_ _ | refine blk_drew ?_ | refine blk_alloc ?_ _)); refine blk_put (cs := #[.int .i64 0, .int .i64 0, .int .i64 0, .slice none 0 0, .slice none 0 0]) ?_ 4 _ rfl; (with_reducible repeat (first | refine blk_drewN ?_ _ | refine blk_drew ?_ | refine blk_alloc ?_ _)); refine blk_put (cs := #[.int .i64 0, .int .i64 0, .int .i64 0, .slice none 0 0, .slice none 0 0]) ?_ 3 _ rfl; (with_reducible repeat (first | refine blk_drewN ?_ _ | refine blk_drew ?_ | refine blk_alloc ?_ _)); refine blk_put (cs := #[.int .i64 0, .int .i64 0, .int .i64 0, .slice none 0 0, .slice none 0 0]) ?_ 2 _ rfl; (with_reducible repeat (first | refine blk_drewN ?_ _ | refine blk_drew ?_ | refine blk_alloc ?_ _)); refine blk_put (cs := #[.int .i64 0, .int .i64 0, .int .i64 0, .slice none 0 0, .slice none 0 0]) ?_ 1 _ rfl; (with_reducible repeat (first | refine blk_drewN ?_ _ | refine blk_drew ?_ | refine blk_alloc ?_ _)); refine blk_put (cs := #[.int .i64 0, .int .i64 0, .int .i64 0, .slice none 0 0, .slice none 0 0]) ?_ 0 _ rfl; (with_reducible repeat (first | refine blk_drewN ?_ _ | refine blk_drew ?_ | refine blk_alloc ?_ _)); exact BK265.out) Try.underlying25 rfl (by kernel_rfl)) rfl ?_
  exact ⟨_, _, by first | rfl | (simp [errW_none, errW_some] <;> rfl) | (simp [*, errW_none, errW_some] <;> rfl), by first | exact Kd.R_nil _ _ _ _ _ | exact Kd.N_nil _ _ _ _ _ | exact Kd.V_nil _ _ _ _ _ | exact Kd.Q_nil _ _ _ _ _ | exact Kd.S_nil _ _ _ _ _, by first | exact Kd.R_nil _ _ _ _ _ | exact Kd.N_nil _ _ _ _ _ | exact Kd.V_nil _ _ _ _ _ | exact Kd.Q_nil _ _ _ _ _ | exact Kd.S_nil _ _ _ _ _, bl_ HB⟩
 rw [if_neg c2] at H
 have c2b0 : decide (4096 < (a0.size : Int)) = false := decide_eq_false c2
 have c2b1 : decide (4096 < a0.size) = false := decide_eq_false (by omega)
 clear c2
 replace H := Option.bind_eq_some_iff.mp H
 obtain ⟨⟨t266, t267, t268, t269, t272, t275⟩, A50, H⟩ := H
 replace H : (some (t266, t267, t268, t269, t272, t275)) = some (r1, r2, r3, r4, r5, r6) := H
 have A5 := a_ A50
 clear A50
 simp only [Option.some.injEq, Prod.mk.injEq] at H
 obtain ⟨rfl, rfl, rfl, rfl, rfl, rfl⟩ := H
 go_enter Try.func4, Try.ntmps4
 go_wp2_with (first | ((with_reducible refine gate_dst (N := 2) rfl ?_); refine box_event ?hg (N := 2) ?hd (cs := #[.int .i64 0, .int .i64 0, .int .i64 0, .slice none 0 0, .slice none 0 0]) (t := 25) ?hr ?_; (case hd => rfl); (case hg => rfl); (case hr => first | (go_simp; done) | (go_simp; rfl)); intro gb265 hg w6 hbox hb; have n0_ := a_ (below_step (bl_ HB) hb); have n1_ := a_ (hbox); have n2_ := a_ ((by rw [hg]; exact (below_size (bl_ HB)) : w.heap.size ≤ gb265)); have n3_ := a_ ((by rw [hg]; exact (below_size (bl_ HB)) : w.heap.size ≤ gb265)); clear HB; have HB := n0_; have BK265 := n1_; have GW265 := n2_; have GE265 := n3_; clear n0_ n1_ n2_ n3_ hb hbox hg) | ((with_reducible refine gate_callee (f := 8) rfl ?_); refine goesL_ (some 9) rfl rfl Try.func8 (by kernel_rfl) rfl #[.string a0] rfl ar_ ?_; (with_reducible refine (spec_Places.calls k a0 t266 t267 t268 t269 t272 t275 _ A5.out).mono ?_); rintro e w7 ⟨v270, v273, rfl, ho0, ho1, hb⟩; refine ⟨_, rfl, ?_⟩; have n0_ := a_ (Kd.R_lower ho0 (below_size (bl_ HB))); have n1_ := a_ (Kd.R_lower (Kd.R_newB ho1 (g := gb265) (o := .cells #[.int .i64 0, .int .i64 0, .int .i64 0, .slice none 0 0, .slice none 0 0] 25 (0, 0)) (bk_ BK265)) (below_size (bl_ HB))); have n2_ := a_ (blk_below (g := gb265) (o := .cells #[.int .i64 0, .int .i64 0, .int .i64 0, .slice none 0 0, .slice none 0 0] 25 (0, 0)) (bk_ BK265) hb); have n3_ := a_ (below_step (bl_ HB) hb); clear BK265 HB; have HO271 := n0_; have HO274 := n1_; have BK265 := n2_; have HB := n3_; clear n0_ n1_ n2_ n3_ hb ho0 ho1; have hcz8_0 := bc_ BK265 0 (.int .i64 0); have hcz8_1 := bc_ BK265 1 (.int .i64 0); have hcz8_2 := bc_ BK265 2 (.int .i64 0); have hcz8_3 := bc_ BK265 3 (.slice none 0 0); have hcz8_4 := bc_ BK265 4 (.slice none 0 0); have hfz8_0 := blk_frozen BK265.out 0; have hfz8_1 := blk_frozen BK265.out 1; have hfz8_2 := blk_frozen BK265.out 2; have hfz8_3 := blk_frozen BK265.out 3; have hfz8_4 := blk_frozen BK265.out 4; obtain ⟨Ao9, co9, eo9⟩ := Kd.R_slice HO271.out; subst eo9; obtain ⟨Ao10, co10, eo10⟩ := Kd.R_slice HO274.out; subst eo10))
 refine bodyPost_ret (results_ct rfl _ _ gb265 25 #[.int .i64 t266, .int .i64 t267, .int .i64 t268, .slice Ao9 t269.length co9, .slice Ao10 t272.length co10] (0, 0) _ rfl (by (with_reducible repeat (first | refine blk_drewN ?_ _ | refine blk_drew ?_ | refine blk_alloc ?_ _)); refine blk_put (cs := #[.int .i64 t266, .int .i64 t267, .int .i64 t268, .slice Ao9 t269.length co9, .slice none 0 0]) ?_ 4 _ rfl; (with_reducible repeat (first | refine blk_drewN ?_ _ | refine blk_drew ?_ | refine blk_alloc ?_ _)); refine blk_put (cs := #[.int .i64 t266, .int .i64 t267, .int .i64 t268, .slice none 0 0, .slice none 0 0]) ?_ 3 _ rfl; (with_reducible repeat (first | refine blk_drewN ?_ _ | refine blk_drew ?_ | refine blk_alloc ?_ _)); refine blk_put (cs := #[.int .i64 t266, .int .i64 t267, .int .i64 0, .slice none 0 0, .slice none 0 0]) ?_ 2 _ rfl; (with_reducible repeat (first | refine blk_drewN ?_ _ | refine blk_drew ?_ | refine blk_alloc ?_ _)); refine blk_put (cs := #[.int .i64 t266, .int .i64 0, .int .i64 0, .slice none 0 0, .slice none 0 0]) ?_ 1 _ rfl; (with_reducible repeat (first | refine blk_drewN ?_ _ | refine blk_drew ?_ | refine blk_alloc ?_ _)); refine blk_put (cs := #[.int .i64 0, .int .i64 0, .int .i64 0, .slice none 0 0, .slice none 0 0]) ?_ 0 _ rfl; (with_reducible repeat (first | refine blk_drewN ?_ _ | refine blk_drew ?_ | refine blk_alloc ?_ _)); exact BK265.out) Try.underlying25 rfl (by kernel_rfl)) rfl ?_
 exact ⟨_, _, by first | rfl | (simp [errW_none, errW_some] <;> rfl) | (simp [*, errW_none, errW_some] <;> rfl), by (with_reducible repeat (first | apply Kd.R_alloc | apply Kd.R_drewN | apply Kd.R_drew)); exact Kd.R_mono (Kd.R_far (p := ⟨gb265, 4, none⟩) (Kd.R_far (p := ⟨gb265, 3, none⟩) (Kd.R_far (p := ⟨gb265, 2, none⟩) (Kd.R_far (p := ⟨gb265, 1, none⟩) (Kd.R_far (p := ⟨gb265, 0, none⟩) (Kd.R_types HO271.out BK265.out (by decide)) (fun _ hk => hk.2) (.int .i64 t266)) (fun _ hk => hk.2) (.int .i64 t267)) (fun _ hk => hk.2) (.int .i64 t268)) (fun _ hk => hk.2) (.slice Ao9 t269.length co9)) (fun _ hk => hk.2) (.slice Ao10 t272.length co10)) (fun _ hk => trivial), by (with_reducible repeat (first | apply Kd.R_alloc | apply Kd.R_drewN | apply Kd.R_drew)); exact Kd.R_mono (Kd.R_far (p := ⟨gb265, 4, none⟩) (Kd.R_far (p := ⟨gb265, 3, none⟩) (Kd.R_far (p := ⟨gb265, 2, none⟩) (Kd.R_far (p := ⟨gb265, 1, none⟩) (Kd.R_far (p := ⟨gb265, 0, none⟩) (Kd.R_mono HO274.out (fun k_ hk => (⟨hk, hk.2⟩ : _ ∧ k_ ≠ gb265))) (fun _ hk => hk.2) (.int .i64 t266)) (fun _ hk => hk.2) (.int .i64 t267)) (fun _ hk => hk.2) (.int .i64 t268)) (fun _ hk => hk.2) (.slice Ao9 t269.length co9)) (fun _ hk => hk.2) (.slice Ao10 t272.length co10)) (fun _ hk => hk.1.1), bl_ HB⟩
/-! ### laws_prArrays: function 5 -/
mutual
def laws_prArrays.j0 : Nat → Bool → Int → Int → Int → List (S41) → List (S25) → Option (Bool)
  | 0, _, _, _, _, _, _ => none
  | k + 1, x3, x277000, x277001, x277002, x277003, x277004 => laws_prArrays.l0 k x3 (x277004.length : Int) 0 x277000 x277001 x277002 x277003 x277004
def laws_prArrays.l0 : Nat → Bool → Int → Int → Int → Int → Int → List (S41) → List (S25) → Option (Bool)
  | 0, _, _, _, _, _, _, _, _ => none
  | k + 1, x3, x16, x17, x277000, x277001, x277002, x277003, x277004 => if x17 < x16 then (if x3 = true then (laws_prArrays.l0 k true x16 (wrap64 (x17 + 1)) x277000 x277001 x277002 x277003 x277004) else (if 0 ≤ x17 then (if x17 < (x277004.length : Int) then ((laws_prArrays.f k ((rd_T25 x277004 x17).f0) ((rd_T25 x277004 x17).f1) ((rd_T25 x277004 x17).f2) ((rd_T25 x277004 x17).f3) ((rd_T25 x277004 x17).f4)).bind fun t278 => (laws_prArrays.l0 k t278 x16 (wrap64 (x17 + 1)) x277000 x277001 x277002 x277003 x277004)) else (none)) else (none))) else (some x3)
def laws_prArrays.f : Nat → Int → Int → Int → List (S41) → List (S25) → Option (Bool)
  | 0, _, _, _, _, _ => none
  | k + 1, a0_0, a0_1, a0_2, l0_3, l0_4 => if a0_0 = 5 then (laws_prArrays.j0 k (decide ((l0_4.length : Int) > 0)) a0_0 a0_1 a0_2 l0_3 l0_4) else (laws_prArrays.j0 k false a0_0 a0_1 a0_2 l0_3 l0_4)
end
theorem laws_prArrays.mono_l : ∀ k, (∀ y0 y1 y2 y3 y4, LeO (laws_prArrays.f k y0 y1 y2 y3 y4) (laws_prArrays.f (k + 1) y0 y1 y2 y3 y4)) ∧ (∀ y0 y1 y2 y3 y4 y5, LeO (laws_prArrays.j0 k y0 y1 y2 y3 y4 y5) (laws_prArrays.j0 (k + 1) y0 y1 y2 y3 y4 y5)) ∧ (∀ y0 y1 y2 y3 y4 y5 y6 y7, LeO (laws_prArrays.l0 k y0 y1 y2 y3 y4 y5 y6 y7) (laws_prArrays.l0 (k + 1) y0 y1 y2 y3 y4 y5 y6 y7))
 | 0 => ⟨fun _ _ _ _ _ r h => by simp [laws_prArrays.f] at h, fun _ _ _ _ _ _ r h => by simp [laws_prArrays.j0] at h, fun _ _ _ _ _ _ _ _ r h => by simp [laws_prArrays.l0] at h⟩
 | k + 1 => by
  obtain ⟨ih0, ih1, ih2⟩ := laws_prArrays.mono_l k
  refine ⟨?_, ?_, ?_⟩
  all_goals intros
  all_goals (first | unfold laws_prArrays.f | unfold laws_prArrays.j0 | unfold laws_prArrays.l0)
  all_goals repeat' first
   | (with_reducible exact ih0 _ _ _ _ _)
   | (with_reducible exact ih1 _ _ _ _ _ _)
   | (with_reducible exact ih2 _ _ _ _ _ _ _ _)
   | (with_reducible exact LeO.refl _)
   | (with_reducible exact LeO.none _)
   | (with_reducible refine LeO.ite ?_ ?_)
   | (with_reducible refine LeO.bind ?_ (fun _ => ?_))
   | exact ih0 _ _ _ _ _
   | exact ih1 _ _ _ _ _ _
   | exact ih2 _ _ _ _ _ _ _ _
   | exact LeO.none _
   | refine LeO.ite ?_ ?_
   | refine LeO.bind ?_ (fun _ => ?_)
theorem laws_prArrays.mono : ∀ a0 a1 a2 a3 a4 k, LeO (laws_prArrays.f k a0 a1 a2 a3 a4) (laws_prArrays.f (k + 1) a0 a1 a2 a3 a4) := by
 intro a0 a1 a2 a3 a4 k
 obtain ⟨ih0, ih1, ih2⟩ := laws_prArrays.mono_l k
 exact ih0 a0 a1 a2 a3 a4
set_option maxHeartbeats 8000000 in
set_option maxRecDepth 100000 in
theorem laws_prArrays.calls (k : Nat) : ∀ (a0_0 : Int) (a0_1 : Int) (a0_2 : Int) (A0_3 : Option Addr) (c0_3 : Nat) (l0_3 : List (S41)) (A0_4 : Option Addr) (c0_4 : Nat) (l0_4 : List (S25)) (r : Bool) (w : World) (hr0_3 : Kd.C k41 w A0_3 l0_3.length l0_3) (hc0_3 : l0_3.length ≤ c0_3) (hr0_4 : Kd.C k25 w A0_4 l0_4.length l0_4) (hc0_4 : l0_4.length ≤ c0_4) (h : laws_prArrays.f k a0_0 a0_1 a0_2 l0_3 l0_4 = some r),
  Calls Try.prog 5 #[.agg #[.int .i64 a0_0, .int .i64 a0_1, .int .i64 a0_2, .slice A0_3 l0_3.length c0_3, .slice A0_4 l0_4.length c0_4]] w fun e w' => e = .returned (.bool r) ∧ Below w.heap.size w w' := by
 induction k using Nat.strongRecOn with
 | _ k ih =>
 intro a0_0 a0_1 a0_2 A0_3 c0_3 l0_3 A0_4 c0_4 l0_4 r w hr0_3 hc0_3 hr0_4 hc0_4 h
 cases k with
 | zero => exact absurd h (by simp [laws_prArrays.f])
 | succ k =>
 simp only [laws_prArrays.f] at h
 have hu25 := Try.underlying25
 have HR0_3 := a_ hr0_3
 have HC0_3 := a_ hc0_3
 clear hr0_3 hc0_3
 have HR0_4 := a_ hr0_4
 have HC0_4 := a_ hc0_4
 clear hr0_4 hc0_4
 have HB := a_ (Below.refl w.heap.size w)
 have H : (if a0_0 = 5 then (laws_prArrays.j0 k (decide ((l0_4.length : Int) > 0)) a0_0 a0_1 a0_2 l0_3 l0_4) else (laws_prArrays.j0 k false a0_0 a0_1 a0_2 l0_3 l0_4)) = some r := h
 clear h
 have HC2 := a_ H
 clear H
 go_enter Try.func5, Try.ntmps5
 go_upto_region 1 with (first | ((with_reducible refine gate_dst (N := 1) rfl ?_); (try (refine gate_guard (by rfl) ?_; dsimp only)); refine box_event ?hg (N := 1) ?hd (cs := #[.int .i64 a0_0, .int .i64 a0_1, .int .i64 a0_2, .slice A0_3 l0_3.length c0_3, .slice A0_4 l0_4.length c0_4]) (t := 25) ?hr ?_; (case hd => rfl); (case hg => rfl); (case hr => first | (go_simp; done) | (go_simp; rfl)); intro gb276 hg w3 hbox hb; have n0_ := a_ (below_step (bl_ HB) hb); have n1_ := a_ (hbox); have n2_ := a_ ((by rw [hg]; exact (below_size (bl_ HB)) : w.heap.size ≤ gb276)); have n3_ := a_ ((by rw [hg]; exact (below_size (bl_ HB)) : w.heap.size ≤ gb276)); clear HB; have HB := n0_; have BK276 := n1_; have GW276 := n2_; have GE276 := n3_; clear n0_ n1_ n2_ n3_ hb hbox hg))
 (try simp only [Act.put, List.setIfInBounds_toArray, List.set_cons_zero, List.set_cons_succ])
 go_cut [3] (fun v3 wc => ∃ (kq : Nat) (x3_1 : Bool), v3 = .bool x3_1 ∧ Aside0 (laws_prArrays.j0 kq x3_1 a0_0 a0_1 a0_2 l0_3 l0_4 = some r) ∧ Aside0 (kq ≤ k) ∧ Aside0 (wc.heap[gb276]? = some (.cells #[.int .i64 a0_0, .int .i64 a0_1, .int .i64 a0_2, (.slice A0_3 l0_3.length c0_3), (.slice A0_4 l0_4.length c0_4)] 25 (0, 0))) ∧ Aside0 (Below w.heap.size w wc))
 case first =>
  have H := HC2.out
  clear HC2
  by_cases c4 : a0_0 = 5
  rotate_left
  ·
   rw [if_neg c4] at H
   have c4b0 : (a0_0 == 5) = false := beq_eq_false_iff_ne.mpr c4
   have c4b1 : (a0_0 != 5) = true := bne_iff_ne.mpr c4
   (first | rw [c4b0] | (simp only [i64_w, i32_w]; rw [c4b0]) | skip)
   have H' := a_ H
   clear H
   have hcz6_0 := bc_ BK276 0 (.int .i64 a0_0)
   have hcz6_1 := bc_ BK276 1 (.int .i64 a0_1)
   have hcz6_2 := bc_ BK276 2 (.int .i64 a0_2)
   have hcz6_3 := bc_ BK276 3 (.slice A0_3 l0_3.length c0_3)
   have hcz6_4 := bc_ BK276 4 (.slice A0_4 l0_4.length c0_4)
   have hfz6_0 := blk_frozen BK276.out 0
   have hfz6_1 := blk_frozen BK276.out 1
   have hfz6_2 := blk_frozen BK276.out 2
   have hfz6_3 := blk_frozen BK276.out 3
   have hfz6_4 := blk_frozen BK276.out 4
   go_wp2
   go_meet
   case rel => exact ⟨_, (false), rl_, H', ⟨by first | omega | exact Nat.le_refl _⟩, ⟨bk_ BK276⟩, ⟨bl_ HB⟩⟩
  rw [if_pos c4] at H
  have c4b0 : (a0_0 == 5) = true := beq_iff_eq.mpr c4
  have c4b1 : (a0_0 != 5) = false := bne_eq_false_iff_eq.mpr c4
  clear c4
  (first | rw [c4b0] | (simp only [i64_w, i32_w]; rw [c4b0]) | skip)
  have H' := a_ H
  clear H
  have hcz5_0 := bc_ BK276 0 (.int .i64 a0_0)
  have hcz5_1 := bc_ BK276 1 (.int .i64 a0_1)
  have hcz5_2 := bc_ BK276 2 (.int .i64 a0_2)
  have hcz5_3 := bc_ BK276 3 (.slice A0_3 l0_3.length c0_3)
  have hcz5_4 := bc_ BK276 4 (.slice A0_4 l0_4.length c0_4)
  have hfz5_0 := blk_frozen BK276.out 0
  have hfz5_1 := blk_frozen BK276.out 1
  have hfz5_2 := blk_frozen BK276.out 2
  have hfz5_3 := blk_frozen BK276.out 3
  have hfz5_4 := blk_frozen BK276.out 4
  go_wp2
  go_meet
  case rel => exact ⟨_, (decide ((l0_4.length : Int) > 0)), rl_, H', ⟨by first | omega | exact Nat.le_refl _⟩, ⟨bk_ BK276⟩, ⟨bl_ HB⟩⟩
 clear HC2
 obtain ⟨kq, x3_1, rfl, HA, HJ1, BK276, HB⟩ := hcut
 cases kq with
 | zero => exact absurd HA.out (by simp [laws_prArrays.j0])
 | succ kj1 =>
  have H := HA.out
  clear HA
  simp only [laws_prArrays.j0] at H
  have H' := a_ H
  clear H
  have hcz7_0 := bc_ BK276 0 (.int .i64 a0_0)
  have hcz7_1 := bc_ BK276 1 (.int .i64 a0_1)
  have hcz7_2 := bc_ BK276 2 (.int .i64 a0_2)
  have hcz7_3 := bc_ BK276 3 (.slice A0_3 l0_3.length c0_3)
  have hcz7_4 := bc_ BK276 4 (.slice A0_4 l0_4.length c0_4)
  have hfz7_0 := blk_frozen BK276.out 0
  have hfz7_1 := blk_frozen BK276.out 1
  have hfz7_2 := blk_frozen BK276.out 2
  have hfz7_3 := blk_frozen BK276.out 3
  have hfz7_4 := blk_frozen BK276.out 4
  go_wp2
  (try simp only [Act.put, List.setIfInBounds_toArray, List.set_cons_zero, List.set_cons_succ])
  go_loopg [3, 17] kj1 (fun kq v3 v17 w' => ∃ (x3_2 : Bool) (x17_2 : Int), v3 = .bool x3_2 ∧ v17 = .int .i64 x17_2 ∧ Aside0 (laws_prArrays.l0 kq x3_2 (l0_4.length : Int) x17_2 a0_0 a0_1 a0_2 l0_3 l0_4 = some r) ∧ Aside0 (kq ≤ kj1) ∧ Aside0 (w'.heap[gb276]? = some (.cells #[.int .i64 a0_0, .int .i64 a0_1, .int .i64 a0_2, (.slice A0_3 l0_3.length c0_3), (.slice A0_4 l0_4.length c0_4)] 25 (0, 0))) ∧ Aside0 (Below w.heap.size w w'))
  case atStart => exact ⟨(x3_1), (0), rl_, rl_, H', ⟨Nat.le_refl _⟩, ⟨bk_ BK276⟩, ⟨bl_ HB⟩⟩
  case round =>
   clear H'
   clear hcz7_0 hcz7_1 hcz7_2 hcz7_3 hcz7_4 hfz7_0 hfz7_1 hfz7_2 hfz7_3 hfz7_4
   obtain ⟨x3_2, x17_2, rfl, rfl, HA, HK2, BK276, HB⟩ := hrel
   cases gk with
   | zero => exact absurd HA.out (by simp [laws_prArrays.l0])
   | succ k2 =>
    have H := HA.out
    clear HA
    simp only [laws_prArrays.l0] at H
    by_cases c8 : x17_2 < (l0_4.length : Int)
    rotate_left
    ·
     rw [if_neg c8] at H
     have c8b0 : decide (x17_2 < (l0_4.length : Int)) = false := decide_eq_false c8
     clear c8
     obtain rfl := Option.some.inj H
     go_wp2
     go_ret
     exact ⟨by first | rfl | (simp [errW_none, errW_some] <;> rfl) | (simp [*, errW_none, errW_some] <;> rfl), bl_ HB⟩
    rw [if_pos c8] at H
    have c8b0 : decide (x17_2 < (l0_4.length : Int)) = true := decide_eq_true c8
    clear c8
    by_cases c9 : x3_2 = true
    ·
     subst c9
     have H1 : (laws_prArrays.l0 k2 true (l0_4.length : Int) (wrap64 (x17_2 + 1)) a0_0 a0_1 a0_2 l0_3 l0_4) = some r := by rw [if_pos rfl] at H; exact H
     clear H
     have H := H1
     clear H1
     have H' := a_ H
     clear H
     go_wp2
     go_roundg k2
     case measure => have := HJ1.out; have := HK2.out; omega
     case rel => exact ⟨(true), (wrap64 (x17_2 + 1)), rl_, rl_, H', ⟨by have := HJ1.out; have := HK2.out; omega⟩, ⟨bk_ BK276⟩, ⟨bl_ HB⟩⟩
    replace c9 := Bool.eq_false_iff.mpr c9
    subst c9
    have H1 : (if 0 ≤ x17_2 then (if x17_2 < (l0_4.length : Int) then ((laws_prArrays.f k2 ((rd_T25 l0_4 x17_2).f0) ((rd_T25 l0_4 x17_2).f1) ((rd_T25 l0_4 x17_2).f2) ((rd_T25 l0_4 x17_2).f3) ((rd_T25 l0_4 x17_2).f4)).bind fun t278 => (laws_prArrays.l0 k2 t278 (l0_4.length : Int) (wrap64 (x17_2 + 1)) a0_0 a0_1 a0_2 l0_3 l0_4)) else (none)) else (none)) = some r := by rw [if_neg (show ¬ (false = true) by decide)] at H; exact H
    clear H
    have H := H1
    clear H1
    by_cases c10 : 0 ≤ x17_2
    rotate_left
    ·
     rw [if_neg c10] at H
     exact absurd H (by simp)
    rw [if_pos c10] at H
    have c10b0 : decide (0 ≤ x17_2) = true := decide_eq_true c10
    clear c10
    by_cases c11 : x17_2 < (l0_4.length : Int)
    rotate_left
    ·
     rw [if_neg c11] at H
     exact absurd H (by simp)
    rw [if_pos c11] at H
    have c11b0 : decide (x17_2 < (l0_4.length : Int)) = true := decide_eq_true c11
    clear c11
    replace H := Option.bind_eq_some_iff.mp H
    obtain ⟨t278, A120, H⟩ := H
    replace H : (laws_prArrays.l0 k2 t278 (l0_4.length : Int) (wrap64 (x17_2 + 1)) a0_0 a0_1 a0_2 l0_3 l0_4) = some r := H
    have A12 := a_ A120
    clear A120
    have H' := a_ H
    clear H
    have hcz13_0 := bc_ BK276 0 (.int .i64 a0_0)
    have hcz13_1 := bc_ BK276 1 (.int .i64 a0_1)
    have hcz13_2 := bc_ BK276 2 (.int .i64 a0_2)
    have hcz13_3 := bc_ BK276 3 (.slice A0_3 l0_3.length c0_3)
    have hcz13_4 := bc_ BK276 4 (.slice A0_4 l0_4.length c0_4)
    have hfz13_0 := blk_frozen BK276.out 0
    have hfz13_1 := blk_frozen BK276.out 1
    have hfz13_2 := blk_frozen BK276.out 2
    have hfz13_3 := blk_frozen BK276.out 3
    have hfz13_4 := blk_frozen BK276.out 4
    have p277 : 0 ≤ (x17_2 : Int) := of_decide_eq_true as_
    have q277 : x17_2 < (l0_4.length : Int) := of_decide_eq_true as_
    obtain ⟨ad277, A277_3, c277_3, A277_4, c277_4, e277, hx277_0, hx277_1, hx277_2, hx277_3, hx277_4, hl277_3, hi277_3, hl277_4, hi277_4⟩ := at_T25 HR0_4.out x17_2 p277 q277
    cases e277
    replace hx277_0 := (HB.out.cell (World.block_lt_of_cell? w _ hx277_0)).trans hx277_0
    replace hx277_1 := (HB.out.cell (World.block_lt_of_cell? w _ hx277_1)).trans hx277_1
    replace hx277_2 := (HB.out.cell (World.block_lt_of_cell? w _ hx277_2)).trans hx277_2
    replace hx277_3 := (HB.out.cell (World.block_lt_of_cell? w _ hx277_3)).trans hx277_3
    replace hx277_4 := (HB.out.cell (World.block_lt_of_cell? w _ hx277_4)).trans hx277_4
    have HR277_3 := a_ hi277_3
    have HC277_3 := a_ hl277_3
    clear hi277_3 hl277_3
    have HR277_4 := a_ hi277_4
    have HC277_4 := a_ hl277_4
    clear hi277_4 hl277_4
    replace p277 := eq_true p277
    replace q277 := eq_true q277
    go_wp2_with (first | (go_at_call 5; (with_reducible refine (ih k2 (by have := HJ1.out; have := HK2.out; omega) ((rd_T25 l0_4 x17_2).f0) ((rd_T25 l0_4 x17_2).f1) ((rd_T25 l0_4 x17_2).f2) _ _ ((rd_T25 l0_4 x17_2).f3) _ _ ((rd_T25 l0_4 x17_2).f4) t278 _ ?side1 ?side2 ?side3 ?side4 A12.out).mono ?_); (case side1 => repeat (first | exact (Kd.C_below HR277_3.out HB.out) | (with_reducible refine Kd.C_alloc ?_ _) | (with_reducible refine Kd.C_drewN ?_ _) | (with_reducible refine Kd.C_drew ?_))); (case side2 => exact HC277_3.out); (case side3 => repeat (first | exact (Kd.C_below HR277_4.out HB.out) | (with_reducible refine Kd.C_alloc ?_ _) | (with_reducible refine Kd.C_drewN ?_ _) | (with_reducible refine Kd.C_drew ?_))); (case side4 => exact HC277_4.out); rintro e w14 ⟨rfl, hb⟩; have n0_ := a_ (blk_below (g := gb276) (o := .cells #[.int .i64 a0_0, .int .i64 a0_1, .int .i64 a0_2, .slice A0_3 l0_3.length c0_3, .slice (some ad277) l0_4.length c0_4] 25 (0, 0)) (bk_ BK276) hb); have n1_ := a_ (below_step (bl_ HB) hb); clear BK276 HB; have BK276 := n0_; have HB := n1_; clear n0_ n1_ hb))
    go_roundg k2
    case measure => have := HJ1.out; have := HK2.out; omega
    case rel => exact ⟨(t278), (wrap64 (x17_2 + 1)), rl_, rl_, H', ⟨by have := HJ1.out; have := HK2.out; omega⟩, ⟨bk_ BK276⟩, ⟨bl_ HB⟩⟩
/-! ### pretty_appendPrettyString: function 28 -/
mutual
def pretty_appendPrettyString.l0 : Nat → List Int → List Int → Int → Int → Int → Option (List Int × Int × Int × Bool)
  | 0, _, _, _, _, _ => none
  | k + 1, x0, x1, x2, x3, x12 => if x2 < (x1.length : Int) then (if 0 ≤ x2 then (if (rd x1 x2) = 34 then (pretty_appendPrettyString.l1 k x0 x1 x2 x3 x12 0 (wrap64 (x2 - 1))) else (pretty_appendPrettyString.l0 k x0 x1 (wrap64 (x2 + 1)) x3 x12)) else (none)) else (if 0 ≤ x12 then (if x12 ≤ x2 then (if x2 ≤ (x1.length : Int) then ((some ((x1.take (x2 : Int).toNat).drop (x12 : Int).toNat : List Int)).bind fun y279 => (if x0.length + y279.length < 140737488355328 then (some ((x0 ++ y279), x2, x3, true)) else (none))) else (none)) else (none)) else (none))
def pretty_appendPrettyString.l1 : Nat → List Int → List Int → Int → Int → Int → Int → Int → Option (List Int × Int × Int × Bool)
  | 0, _, _, _, _, _, _, _ => none
  | k + 1, x0, x1, x2, x3, x12, x13, x14 => if x14 > x12 then (if 0 ≤ x14 then (if x14 < (x1.length : Int) then (if (rd x1 x14) = 92 then (pretty_appendPrettyString.l1 k x0 x1 x2 x3 x12 (wrap64 (x13 + 1)) (wrap64 (x14 - 1))) else (if (Int.tmod x13 2) = 1 then (pretty_appendPrettyString.l0 k x0 x1 (wrap64 (x2 + 1)) x3 x12) else (if 0 ≤ x12 then (if x12 ≤ (wrap64 (x2 + 1)) then (if (wrap64 (x2 + 1)) ≤ (x1.length : Int) then ((some ((x1.take ((wrap64 (x2 + 1)) : Int).toNat).drop (x12 : Int).toNat : List Int)).bind fun y288 => (if x0.length + y288.length < 140737488355328 then (some ((x0 ++ y288), wrap64 (x2 + 1), x3, true)) else (none))) else (none)) else (none)) else (none)))) else (none)) else (none)) else (if (Int.tmod x13 2) = 1 then (pretty_appendPrettyString.l0 k x0 x1 (wrap64 (x2 + 1)) x3 x12) else (if 0 ≤ x12 then (if x12 ≤ (wrap64 (x2 + 1)) then (if (wrap64 (x2 + 1)) ≤ (x1.length : Int) then ((some ((x1.take ((wrap64 (x2 + 1)) : Int).toNat).drop (x12 : Int).toNat : List Int)).bind fun y295 => (if x0.length + y295.length < 140737488355328 then (some ((x0 ++ y295), wrap64 (x2 + 1), x3, true)) else (none))) else (none)) else (none)) else (none)))
end
def pretty_appendPrettyString.f (k : Nat) (l0 : List Int) (l1 : List Int) (a2 : Int) (a3 : Int) : Option (List Int × Int × Int × Bool) := pretty_appendPrettyString.l0 k l0 l1 (wrap64 (a2 + 1)) a3 a2
theorem pretty_appendPrettyString.mono_l : ∀ k, (∀ y0 y1 y2 y3 y4, LeO (pretty_appendPrettyString.l0 k y0 y1 y2 y3 y4) (pretty_appendPrettyString.l0 (k + 1) y0 y1 y2 y3 y4)) ∧ (∀ y0 y1 y2 y3 y4 y5 y6, LeO (pretty_appendPrettyString.l1 k y0 y1 y2 y3 y4 y5 y6) (pretty_appendPrettyString.l1 (k + 1) y0 y1 y2 y3 y4 y5 y6))
 | 0 => ⟨fun _ _ _ _ _ r h => by simp [pretty_appendPrettyString.l0] at h, fun _ _ _ _ _ _ _ r h => by simp [pretty_appendPrettyString.l1] at h⟩
 | k + 1 => by
  obtain ⟨ih0, ih1⟩ := pretty_appendPrettyString.mono_l k
  refine ⟨?_, ?_⟩
  all_goals intros
  all_goals (first | unfold pretty_appendPrettyString.l0 | unfold pretty_appendPrettyString.l1)
  all_goals repeat' first
   | (with_reducible exact ih0 _ _ _ _ _)
   | (with_reducible exact ih1 _ _ _ _ _ _ _)
   | (with_reducible exact LeO.refl _)
   | (with_reducible exact LeO.none _)
   | (with_reducible refine LeO.ite ?_ ?_)
   | (with_reducible refine LeO.bind ?_ (fun _ => ?_))
   | exact ih0 _ _ _ _ _
   | exact ih1 _ _ _ _ _ _ _
   | exact LeO.none _
   | refine LeO.ite ?_ ?_
   | refine LeO.bind ?_ (fun _ => ?_)
theorem pretty_appendPrettyString.mono : ∀ a0 a1 a2 a3 k, LeO (pretty_appendPrettyString.f k a0 a1 a2 a3) (pretty_appendPrettyString.f (k + 1) a0 a1 a2 a3) := by
 intro a0 a1 a2 a3 k
 obtain ⟨ih0, ih1⟩ := pretty_appendPrettyString.mono_l k
 unfold pretty_appendPrettyString.f
 repeat' first
  | (with_reducible exact ih0 _ _ _ _ _)
  | (with_reducible exact ih1 _ _ _ _ _ _ _)
  | (with_reducible exact LeO.refl _)
  | (with_reducible exact LeO.none _)
  | (with_reducible refine LeO.ite ?_ ?_)
  | (with_reducible refine LeO.bind ?_ (fun _ => ?_))
  | exact ih0 _ _ _ _ _
  | exact ih1 _ _ _ _ _ _ _
  | exact LeO.none _
  | refine LeO.ite ?_ ?_
  | refine LeO.bind ?_ (fun _ => ?_)
set_option maxHeartbeats 8000000 in
set_option maxRecDepth 100000 in
theorem pretty_appendPrettyString.calls (k : Nat) (P0_ : Nat → Prop) (u9000_ : Value) (l0 : List Int) (A1 : Option Addr) (c1 : Nat) (l1 : List Int) (a2 : Int) (a3 : Int) (r1 : List Int) (r2 : Int) (r3 : Int) (r4 : Bool) (w0 w : World) (hB : Below w0.heap.size w0 w) (ho0 : Kd.R (Kd.int .u8) 5 w w0.heap.size P0_ u9000_ l0) (hr1 : ∀ W_, Kept w W_ (fun k_ => P0_ k_) → Kd.C (Kd.int .u8) W_ A1 l1.length l1) (hc1 : l1.length ≤ c1) (h : pretty_appendPrettyString.f k l0 l1 a2 a3 = some (r1, r2, r3, r4)) :
  Calls Try.prog 28 #[u9000_, .slice A1 l1.length c1, .int .i64 a2, .int .i64 a3] w fun e w' => ∃ v0_ : Value, e = .returned (.tuple #[v0_, .int .i64 r2, .int .i64 r3, .bool r4]) ∧ Kd.R (Kd.int .u8) 5 w' w0.heap.size (fun k_ => (P0_ k_ ∨ w.heap.size ≤ k_)) v0_ r1 ∧ Below w0.heap.size w0 w' ∧ Kept w w' (fun k_ => P0_ k_) := by
 have HO0 := a_ (show Kd.R (Kd.int .u8) 5 w w0.heap.size (fun k_ => (P0_ k_ ∨ w.heap.size ≤ k_)) u9000_ l0 from Kd.R_mono ho0 (fun k_ hk => (.inl hk)))
 have HR1 := a_ hr1
 have HC1 := a_ hc1
 clear hr1 hc1
 have HK := a_ (Kept.refl w (fun k_ => P0_ k_))
 have HW0 := a_ hB.size
 have HB := a_ hB
 clear hB
 have H : (pretty_appendPrettyString.l0 k l0 l1 (wrap64 (a2 + 1)) a3 a2) = some (r1, r2, r3, r4) := h
 clear h
 have H' := a_ H
 clear H
 go_enter Try.func28, Try.ntmps28
 go_wp2
 (try simp only [Act.put, List.setIfInBounds_toArray, List.set_cons_zero, List.set_cons_succ])
 go_loopg [2] k (fun kq v2 w' => ∃ (x2_1 : Int), v2 = .int .i64 x2_1 ∧ Aside0 (pretty_appendPrettyString.l0 kq l0 l1 x2_1 a3 a2 = some (r1, r2, r3, r4)) ∧ Aside0 (kq ≤ k) ∧ Aside0 (Kd.R (Kd.int .u8) 5 w' w0.heap.size (fun k_ => (P0_ k_ ∨ w.heap.size ≤ k_)) u9000_ l0) ∧ Aside0 (Kept w w' (fun k_ => P0_ k_)) ∧ Aside0 (Below w0.heap.size w0 w'))
 case atStart => exact ⟨(wrap64 (a2 + 1)), rl_, H', ⟨Nat.le_refl _⟩, ⟨rp_ HO0⟩, ⟨kp_ HK⟩, ⟨bl_ HB⟩⟩
 case round =>
  clear H'
  obtain ⟨x2_1, rfl, HA, HK1, HO_0, HK, HB⟩ := hrel
  cases gk with
  | zero => exact absurd HA.out (by simp [pretty_appendPrettyString.l0])
  | succ k1 =>
   have H := HA.out
   clear HA
   simp only [pretty_appendPrettyString.l0] at H
   by_cases c5 : x2_1 < (l1.length : Int)
   rotate_left
   ·
    rw [if_neg c5] at H
    have c5b0 : decide (x2_1 < (l1.length : Int)) = false := decide_eq_false c5
    clear c5
    by_cases c26 : 0 ≤ a2
    rotate_left
    ·
     rw [if_neg c26] at H
     exact absurd H (by simp)
    rw [if_pos c26] at H
    have c26b0 := eq_true c26
    have c26b1 : decide (0 ≤ a2) = true := decide_eq_true c26
    clear c26
    by_cases c27 : a2 ≤ x2_1
    rotate_left
    ·
     rw [if_neg c27] at H
     exact absurd H (by simp)
    rw [if_pos c27] at H
    have c27b0 := eq_true c27
    have c27b1 : decide (a2 ≤ x2_1) = true := decide_eq_true c27
    clear c27
    by_cases c28 : x2_1 ≤ (l1.length : Int)
    rotate_left
    ·
     rw [if_neg c28] at H
     exact absurd H (by simp)
    rw [if_pos c28] at H
    have c28b0 := eq_true c28
    have c28b1 : decide (x2_1 ≤ (l1.length : Int)) = true := decide_eq_true c28
    clear c28
    obtain ⟨y279, hy279⟩ : ∃ y_ : List Int, y_ = ((l1.take (x2_1 : Int).toNat).drop (a2 : Int).toNat) := ⟨_, rfl⟩
    replace H := lt_ H hy279
    have Ny279 := a_ hy279
    clear hy279
    by_cases c29 : l0.length + y279.length < 140737488355328
    rotate_left
    ·
     rw [if_neg c29] at H
     exact absurd H (by simp)
    rw [if_pos c29] at H
    have LMc29 := a_ c29
    clear c29
    obtain ⟨y283, hy283⟩ : ∃ y_ : List Int, y_ = (l0 ++ y279) := ⟨_, rfl⟩
    replace H : (some (y283, x2_1, a3, true)) = some (r1, r2, r3, r4) := by first | exact lt_ H hy283 | (rw [hy283]; exact H) | exact H
    have Ny283 := a_ hy283
    clear hy283
    simp only [Option.some.injEq, Prod.mk.injEq] at H
    obtain ⟨rfl, rfl, rfl, rfl⟩ := H
    have q30 : (x2_1 : Int) ≤ ((l1.length : Int) : Int) := of_decide_eq_true as_
    obtain ⟨i030, hi030, _, hsz30, _⟩ := info_parts info5
    have hroom30 : l1.length ≤ c1 := HC1.out
    have hC30 : Kd.C (Kd.int .u8) _ A1 l1.length l1 := (Kd.C_kept_now HR1.out HK.out)
    have ql30 : (a2 : Int) ≤ (x2_1 : Int) := of_decide_eq_true as_
    have q030 : (0 : Int) ≤ (a2 : Int) := of_decide_eq_true as_
    have hcut30 := cut_mid (P := Try.prog) 32 5 .i64 .i64 Try.underlying32 hi030 1 hsz30 A1 l1.length c1 a2 x2_1 q030 ql30 q30 hroom30
    have hr30 := Kd.C_mid (lo := (a2 : Int).toNat) (hi := (x2_1 : Int).toNat) (c := c1) hC30 (by omega) (by omega) hroom30
    obtain ⟨A30, hA30⟩ : ∃ A1_, A1_ = (if c1 = (a2 : Int).toNat then A1 else (A1 : Option Addr).map (·.add ((a2 : Int).toNat * 1))) := ⟨_, rfl⟩
    obtain ⟨c30, hc30⟩ : ∃ c1_, c1_ = c1 - (a2 : Int).toNat := ⟨_, rfl⟩
    have hy30 : y279.length = (x2_1 : Int).toNat - (a2 : Int).toNat := (by rw [Ny279.out, List.length_drop, List.length_take] <;> omega)
    rw [show ((l1).take (x2_1 : Int).toNat).drop (a2 : Int).toNat = y279 from Ny279.out.symm] at hr30
    replace hr30 : Kd.C (Kd.int .u8) _ A30 y279.length y279 := (by rw [hA30]; exact hr30)
    rw [← hy30, ← hA30, ← hc30] at hcut30
    have HR282 := a_ hr30
    have HC282 := a_ (show y279.length ≤ c30 from by rw [hy30, hc30]; exact Nat.sub_le_sub_right (Nat.le_trans (by omega) hroom30) _)
    clear hr30 hC30 hroom30 hi030 hsz30 hc30
    have KY30 := a_ hy30
    have KA30 := a_ hA30
    clear hy30 hA30
    have KL30 := a_ (show (x2_1 : Int).toNat ≤ l1.length from by omega)
    have KM30 := a_ (show (a2 : Int).toNat ≤ (x2_1 : Int).toNat from by omega)
    replace q30 := eq_true q30
    go_wp2_with (first | ((with_reducible refine gate_builtin (b := .append) (xs := #[.tmp 48, .tmp 52]) rfl ?_); at_builtin; refine Kd.R_append_rows (Kd.int .u8) (w0 := w0) w0.heap.size rfl (.tmp 48) (.tmp 52) 32 5 (.int .u8 0) 1 rfl Try.underlying32 info5 rfl (by decide) (by omega) u9000_ l0 y279 _ _ _ (fun k_ => (P0_ k_ ∨ w.heap.size ≤ k_)) (fun _ => False) rfl rfl ?aO ?aR (fun _ _ h => h) (fun _ h => h.elim) ?aF ?aB ?aS ?aL ?_; (case aR => repeat (first | exact (by repeat (first | (with_reducible exact HR282.out) | (with_reducible refine Kd.C_alloc ?_ _) | (with_reducible refine Kd.C_drewN ?_ _) | (with_reducible refine Kd.C_drew ?_) | exact HR282.out)) | (with_reducible refine Kd.C_alloc ?_ _) | (with_reducible refine Kd.C_drewN ?_ _) | (with_reducible refine Kd.C_drew ?_))); (case aB => exact (bl_ HB)); (case aF => exact (fun k_ hk => (.inr (Nat.le_trans (kz_ HK) hk)))); (case aO => exact (rp_ HO_0)); (case aS => exact (below_size (bl_ HB))); (case aL => have := LMc29.out; omega); intro v284 w31 ho hb hg hat; rw [← Ny283.out] at ho; have n0_ := a_ (hb); have n1_ := a_ (Kept.of_grown (S := (fun k_ => P0_ k_)) hg (kp_ HK) (fun k_ e_ => (HO_0.out.1 k_ e_))); have n2_ := a_ ((show Kd.C (Kd.int .u8) w31 A30 y279.length y279 from by rw [Ny279.out, KA30.out]; exact Kd.C_mid (lo := (a2 : Int).toNat) (hi := (x2_1 : Int).toNat) (c := c1) (Kd.C_kept_now HR1.out (show Kept w w31 (fun k_ => P0_ k_) from (Kept.of_grown (S := (fun k_ => P0_ k_)) hg (kp_ HK) (fun k_ e_ => (HO_0.out.1 k_ e_))))) KM30.out KL30.out HC1.out)); have n3_ := a_ (ho); clear HB HK HR282 HO_0; have HB := n0_; have HK := n1_; have HR282 := n2_; have HO285 := n3_; clear n0_ n1_ n2_ n3_ ho hb hg hat))
    refine bodyPost_ret (results_list (rs := [.tmp 8, .tmp 9, .tmp 10, .tmp 11]) rfl (by simp) (.tmp (.tmp (.tmp (.tmp .nil))))) rfl ?_
    exact ⟨_, by first | rfl | (simp [errW_none, errW_some] <;> rfl) | (simp [*, errW_none, errW_some] <;> rfl), rp_ HO285, bl_ HB, kp_ HK⟩
   rw [if_pos c5] at H
   have c5b0 : decide (x2_1 < (l1.length : Int)) = true := decide_eq_true c5
   clear c5
   by_cases c6 : 0 ≤ x2_1
   rotate_left
   ·
    rw [if_neg c6] at H
    exact absurd H (by simp)
   rw [if_pos c6] at H
   have c6b0 : decide (0 ≤ x2_1) = true := decide_eq_true c6
   clear c6
   by_cases c7 : (rd l1 x2_1) = 34
   rotate_left
   ·
    rw [if_neg c7] at H
    have c7b0 : ((rd l1 x2_1) == 34) = false := beq_eq_false_iff_ne.mpr c7
    have c7b1 : ((rd l1 x2_1) != 34) = true := bne_iff_ne.mpr c7
    have H' := a_ H
    clear H
    have p286 : 0 ≤ (x2_1 : Int) := of_decide_eq_true as_
    have q286 : x2_1 < (l1.length : Int) := of_decide_eq_true as_
    obtain ⟨ad286, e286, hx286_0⟩ := Kd.at_int (Kd.C_kept_now HR1.out HK.out) x2_1 p286 q286
    cases e286
    replace p286 := eq_true p286
    replace q286 := eq_true q286
    go_wp2
    go_roundg k1
    case measure => have := HK1.out; omega
    case rel => exact ⟨(wrap64 (x2_1 + 1)), rl_, H', ⟨by have := HK1.out; omega⟩, ⟨rp_ HO_0⟩, ⟨kp_ HK⟩, ⟨bl_ HB⟩⟩
   rw [if_pos c7] at H
   have c7b0 : ((rd l1 x2_1) == 34) = true := beq_iff_eq.mpr c7
   have c7b1 : ((rd l1 x2_1) != 34) = false := bne_eq_false_iff_eq.mpr c7
   clear c7
   have H' := a_ H
   clear H
   have p286 : 0 ≤ (x2_1 : Int) := of_decide_eq_true as_
   have q286 : x2_1 < (l1.length : Int) := of_decide_eq_true as_
   obtain ⟨ad286, e286, hx286_0⟩ := Kd.at_int (Kd.C_kept_now HR1.out HK.out) x2_1 p286 q286
   cases e286
   replace p286 := eq_true p286
   replace q286 := eq_true q286
   go_wp2
   (try simp only [Act.put, List.setIfInBounds_toArray, List.set_cons_zero, List.set_cons_succ])
   go_loopg [13, 14] k1 (fun kq v13 v14 w' => ∃ (x13_2 : Int) (x14_2 : Int), v13 = .int .i64 x13_2 ∧ v14 = .int .i64 x14_2 ∧ Aside0 (pretty_appendPrettyString.l1 kq l0 l1 x2_1 a3 a2 x13_2 x14_2 = some (r1, r2, r3, r4)) ∧ Aside0 (kq ≤ k1) ∧ Aside0 (Kd.R (Kd.int .u8) 5 w' w0.heap.size (fun k_ => (P0_ k_ ∨ w.heap.size ≤ k_)) u9000_ l0) ∧ Aside0 (Kept w w' (fun k_ => P0_ k_)) ∧ Aside0 (Below w0.heap.size w0 w'))
   case atStart => exact ⟨(0), (wrap64 (x2_1 - 1)), rl_, rl_, H', ⟨Nat.le_refl _⟩, ⟨rp_ HO_0⟩, ⟨kp_ HK⟩, ⟨bl_ HB⟩⟩
   case round =>
    clear H'
    clear c5b0 c6b0 c7b0 c7b1 hx286_0 p286 q286
    obtain ⟨x13_2, x14_2, rfl, rfl, HA, HK2, HO_0, HK, HB⟩ := hrel
    cases gk with
    | zero => exact absurd HA.out (by simp [pretty_appendPrettyString.l1])
    | succ k2 =>
     have H := HA.out
     clear HA
     simp only [pretty_appendPrettyString.l1] at H
     by_cases c8 : x14_2 > a2
     rotate_left
     ·
      rw [if_neg c8] at H
      have c8b0 : decide (a2 < x14_2) = false := decide_eq_false c8
      clear c8
      by_cases c19 : (Int.tmod x13_2 2) = 1
      ·
       rw [if_pos c19] at H
       have c19b0 : ((Int.tmod x13_2 2) == 1) = true := beq_iff_eq.mpr c19
       have c19b1 : ((Int.tmod x13_2 2) != 1) = false := bne_eq_false_iff_eq.mpr c19
       clear c19
       have H' := a_ H
       clear H
       go_wp2
       go_roundg k2
       case measure => have := HK1.out; have := HK2.out; omega
       case rel => exact ⟨(wrap64 (x2_1 + 1)), rl_, H', ⟨by have := HK1.out; have := HK2.out; omega⟩, ⟨rp_ HO_0⟩, ⟨kp_ HK⟩, ⟨bl_ HB⟩⟩
      rw [if_neg c19] at H
      have c19b0 : ((Int.tmod x13_2 2) == 1) = false := beq_eq_false_iff_ne.mpr c19
      have c19b1 : ((Int.tmod x13_2 2) != 1) = true := bne_iff_ne.mpr c19
      by_cases c20 : 0 ≤ a2
      rotate_left
      ·
       rw [if_neg c20] at H
       exact absurd H (by simp)
      rw [if_pos c20] at H
      have c20b0 := eq_true c20
      have c20b1 : decide (0 ≤ a2) = true := decide_eq_true c20
      clear c20
      by_cases c21 : a2 ≤ (wrap64 (x2_1 + 1))
      rotate_left
      ·
       rw [if_neg c21] at H
       exact absurd H (by simp)
      rw [if_pos c21] at H
      have c21b0 := eq_true c21
      have c21b1 : decide (a2 ≤ (wrap64 (x2_1 + 1))) = true := decide_eq_true c21
      by_cases c22 : (wrap64 (x2_1 + 1)) ≤ (l1.length : Int)
      rotate_left
      ·
       rw [if_neg c22] at H
       exact absurd H (by simp)
      rw [if_pos c22] at H
      have c22b0 := eq_true c22
      have c22b1 : decide ((wrap64 (x2_1 + 1)) ≤ (l1.length : Int)) = true := decide_eq_true c22
      obtain ⟨y295, hy295⟩ : ∃ y_ : List Int, y_ = ((l1.take ((wrap64 (x2_1 + 1)) : Int).toNat).drop (a2 : Int).toNat) := ⟨_, rfl⟩
      replace H := lt_ H hy295
      have Ny295 := a_ hy295
      clear hy295
      by_cases c23 : l0.length + y295.length < 140737488355328
      rotate_left
      ·
       rw [if_neg c23] at H
       exact absurd H (by simp)
      rw [if_pos c23] at H
      have LMc23 := a_ c23
      clear c23
      obtain ⟨y299, hy299⟩ : ∃ y_ : List Int, y_ = (l0 ++ y295) := ⟨_, rfl⟩
      replace H : (some (y299, wrap64 (x2_1 + 1), a3, true)) = some (r1, r2, r3, r4) := by first | exact lt_ H hy299 | (rw [hy299]; exact H) | exact H
      have Ny299 := a_ hy299
      clear hy299
      simp only [Option.some.injEq, Prod.mk.injEq] at H
      obtain ⟨rfl, rfl, rfl, rfl⟩ := H
      have q24 : ((wrap64 (x2_1 + 1)) : Int) ≤ ((l1.length : Int) : Int) := of_decide_eq_true as_
      obtain ⟨i024, hi024, _, hsz24, _⟩ := info_parts info5
      have hroom24 : l1.length ≤ c1 := HC1.out
      have hC24 : Kd.C (Kd.int .u8) _ (some ad286) l1.length l1 := (Kd.C_kept_now HR1.out HK.out)
      have ql24 : (a2 : Int) ≤ ((wrap64 (x2_1 + 1)) : Int) := of_decide_eq_true as_
      have q024 : (0 : Int) ≤ (a2 : Int) := of_decide_eq_true as_
      have hcut24 := cut_mid (P := Try.prog) 32 5 .i64 .i64 Try.underlying32 hi024 1 hsz24 (some ad286) l1.length c1 a2 (wrap64 (x2_1 + 1)) q024 ql24 q24 hroom24
      have hr24 := Kd.C_mid (lo := (a2 : Int).toNat) (hi := ((wrap64 (x2_1 + 1)) : Int).toNat) (c := c1) hC24 (by omega) (by omega) hroom24
      obtain ⟨A24, hA24⟩ : ∃ A1_, A1_ = (if c1 = (a2 : Int).toNat then (some ad286) else ((some ad286) : Option Addr).map (·.add ((a2 : Int).toNat * 1))) := ⟨_, rfl⟩
      obtain ⟨c24, hc24⟩ : ∃ c1_, c1_ = c1 - (a2 : Int).toNat := ⟨_, rfl⟩
      have hy24 : y295.length = ((wrap64 (x2_1 + 1)) : Int).toNat - (a2 : Int).toNat := (by rw [Ny295.out, List.length_drop, List.length_take] <;> omega)
      rw [show ((l1).take ((wrap64 (x2_1 + 1)) : Int).toNat).drop (a2 : Int).toNat = y295 from Ny295.out.symm] at hr24
      replace hr24 : Kd.C (Kd.int .u8) _ A24 y295.length y295 := (by rw [hA24]; exact hr24)
      rw [← hy24, ← hA24, ← hc24] at hcut24
      have HR298 := a_ hr24
      have HC298 := a_ (show y295.length ≤ c24 from by rw [hy24, hc24]; exact Nat.sub_le_sub_right (Nat.le_trans (by omega) hroom24) _)
      clear hr24 hC24 hroom24 hi024 hsz24 hc24
      have KY24 := a_ hy24
      have KA24 := a_ hA24
      clear hy24 hA24
      have KL24 := a_ (show ((wrap64 (x2_1 + 1)) : Int).toNat ≤ l1.length from by omega)
      have KM24 := a_ (show (a2 : Int).toNat ≤ ((wrap64 (x2_1 + 1)) : Int).toNat from by omega)
      replace q24 := eq_true q24
      go_wp2_with (first | ((with_reducible refine gate_builtin (b := .append) (xs := #[.tmp 48, .tmp 52]) rfl ?_); at_builtin; refine Kd.R_append_rows (Kd.int .u8) (w0 := w0) w0.heap.size rfl (.tmp 48) (.tmp 52) 32 5 (.int .u8 0) 1 rfl Try.underlying32 info5 rfl (by decide) (by omega) u9000_ l0 y295 _ _ _ (fun k_ => (P0_ k_ ∨ w.heap.size ≤ k_)) (fun _ => False) rfl rfl ?aO ?aR (fun _ _ h => h) (fun _ h => h.elim) ?aF ?aB ?aS ?aL ?_; (case aR => repeat (first | exact (by repeat (first | (with_reducible exact HR298.out) | (with_reducible refine Kd.C_alloc ?_ _) | (with_reducible refine Kd.C_drewN ?_ _) | (with_reducible refine Kd.C_drew ?_) | exact HR298.out)) | (with_reducible refine Kd.C_alloc ?_ _) | (with_reducible refine Kd.C_drewN ?_ _) | (with_reducible refine Kd.C_drew ?_))); (case aB => exact (bl_ HB)); (case aF => exact (fun k_ hk => (.inr (Nat.le_trans (kz_ HK) hk)))); (case aO => exact (rp_ HO_0)); (case aS => exact (below_size (bl_ HB))); (case aL => have := LMc23.out; omega); intro v300 w25 ho hb hg hat; rw [← Ny299.out] at ho; have n0_ := a_ (hb); have n1_ := a_ (Kept.of_grown (S := (fun k_ => P0_ k_)) hg (kp_ HK) (fun k_ e_ => (HO_0.out.1 k_ e_))); have n2_ := a_ ((show Kd.C (Kd.int .u8) w25 A24 y295.length y295 from by rw [Ny295.out, KA24.out]; exact Kd.C_mid (lo := (a2 : Int).toNat) (hi := ((wrap64 (x2_1 + 1)) : Int).toNat) (c := c1) (Kd.C_kept_now HR1.out (show Kept w w25 (fun k_ => P0_ k_) from (Kept.of_grown (S := (fun k_ => P0_ k_)) hg (kp_ HK) (fun k_ e_ => (HO_0.out.1 k_ e_))))) KM24.out KL24.out HC1.out)); have n3_ := a_ (ho); clear HB HK HR298 HO_0; have HB := n0_; have HK := n1_; have HR298 := n2_; have HO301 := n3_; clear n0_ n1_ n2_ n3_ ho hb hg hat))
      refine bodyPost_ret (results_list (rs := [.tmp 8, .tmp 9, .tmp 10, .tmp 11]) rfl (by simp) (.tmp (.tmp (.tmp (.tmp .nil))))) rfl ?_
      exact ⟨_, by first | rfl | (simp [errW_none, errW_some] <;> rfl) | (simp [*, errW_none, errW_some] <;> rfl), rp_ HO301, bl_ HB, kp_ HK⟩
     rw [if_pos c8] at H
     have c8b0 : decide (a2 < x14_2) = true := decide_eq_true c8
     clear c8
     by_cases c9 : 0 ≤ x14_2
     rotate_left
     ·
      rw [if_neg c9] at H
      exact absurd H (by simp)
     rw [if_pos c9] at H
     have c9b0 : decide (0 ≤ x14_2) = true := decide_eq_true c9
     clear c9
     by_cases c10 : x14_2 < (l1.length : Int)
     rotate_left
     ·
      rw [if_neg c10] at H
      exact absurd H (by simp)
     rw [if_pos c10] at H
     have c10b0 : decide (x14_2 < (l1.length : Int)) = true := decide_eq_true c10
     clear c10
     by_cases c11 : (rd l1 x14_2) = 92
     ·
      rw [if_pos c11] at H
      have c11b0 : ((rd l1 x14_2) == 92) = true := beq_iff_eq.mpr c11
      have c11b1 : ((rd l1 x14_2) != 92) = false := bne_eq_false_iff_eq.mpr c11
      clear c11
      have H' := a_ H
      clear H
      have p287 : 0 ≤ (x14_2 : Int) := of_decide_eq_true as_
      have q287 : x14_2 < (l1.length : Int) := of_decide_eq_true as_
      obtain ⟨ad287, e287, hx287_0⟩ := Kd.at_int (Kd.C_kept_now HR1.out HK.out) x14_2 p287 q287
      obtain rfl : ad286 = ad287 := (by injection e287)
      replace p287 := eq_true p287
      replace q287 := eq_true q287
      go_wp2
      go_roundg k2
      case measure => have := HK1.out; have := HK2.out; omega
      case rel => exact ⟨(wrap64 (x13_2 + 1)), (wrap64 (x14_2 - 1)), rl_, rl_, H', ⟨by have := HK1.out; have := HK2.out; omega⟩, ⟨rp_ HO_0⟩, ⟨kp_ HK⟩, ⟨bl_ HB⟩⟩
     rw [if_neg c11] at H
     have c11b0 : ((rd l1 x14_2) == 92) = false := beq_eq_false_iff_ne.mpr c11
     have c11b1 : ((rd l1 x14_2) != 92) = true := bne_iff_ne.mpr c11
     by_cases c12 : (Int.tmod x13_2 2) = 1
     ·
      rw [if_pos c12] at H
      have c12b0 : ((Int.tmod x13_2 2) == 1) = true := beq_iff_eq.mpr c12
      have c12b1 : ((Int.tmod x13_2 2) != 1) = false := bne_eq_false_iff_eq.mpr c12
      clear c12
      have H' := a_ H
      clear H
      have p287 : 0 ≤ (x14_2 : Int) := of_decide_eq_true as_
      have q287 : x14_2 < (l1.length : Int) := of_decide_eq_true as_
      obtain ⟨ad287, e287, hx287_0⟩ := Kd.at_int (Kd.C_kept_now HR1.out HK.out) x14_2 p287 q287
      obtain rfl : ad286 = ad287 := (by injection e287)
      replace p287 := eq_true p287
      replace q287 := eq_true q287
      go_wp2
      go_roundg k2
      case measure => have := HK1.out; have := HK2.out; omega
      case rel => exact ⟨(wrap64 (x2_1 + 1)), rl_, H', ⟨by have := HK1.out; have := HK2.out; omega⟩, ⟨rp_ HO_0⟩, ⟨kp_ HK⟩, ⟨bl_ HB⟩⟩
     rw [if_neg c12] at H
     have c12b0 : ((Int.tmod x13_2 2) == 1) = false := beq_eq_false_iff_ne.mpr c12
     have c12b1 : ((Int.tmod x13_2 2) != 1) = true := bne_iff_ne.mpr c12
     by_cases c13 : 0 ≤ a2
     rotate_left
     ·
      rw [if_neg c13] at H
      exact absurd H (by simp)
     rw [if_pos c13] at H
     have c13b0 := eq_true c13
     have c13b1 : decide (0 ≤ a2) = true := decide_eq_true c13
     clear c13
     by_cases c14 : a2 ≤ (wrap64 (x2_1 + 1))
     rotate_left
     ·
      rw [if_neg c14] at H
      exact absurd H (by simp)
     rw [if_pos c14] at H
     have c14b0 := eq_true c14
     have c14b1 : decide (a2 ≤ (wrap64 (x2_1 + 1))) = true := decide_eq_true c14
     by_cases c15 : (wrap64 (x2_1 + 1)) ≤ (l1.length : Int)
     rotate_left
     ·
      rw [if_neg c15] at H
      exact absurd H (by simp)
     rw [if_pos c15] at H
     have c15b0 := eq_true c15
     have c15b1 : decide ((wrap64 (x2_1 + 1)) ≤ (l1.length : Int)) = true := decide_eq_true c15
     obtain ⟨y288, hy288⟩ : ∃ y_ : List Int, y_ = ((l1.take ((wrap64 (x2_1 + 1)) : Int).toNat).drop (a2 : Int).toNat) := ⟨_, rfl⟩
     replace H := lt_ H hy288
     have Ny288 := a_ hy288
     clear hy288
     by_cases c16 : l0.length + y288.length < 140737488355328
     rotate_left
     ·
      rw [if_neg c16] at H
      exact absurd H (by simp)
     rw [if_pos c16] at H
     have LMc16 := a_ c16
     clear c16
     obtain ⟨y292, hy292⟩ : ∃ y_ : List Int, y_ = (l0 ++ y288) := ⟨_, rfl⟩
     replace H : (some (y292, wrap64 (x2_1 + 1), a3, true)) = some (r1, r2, r3, r4) := by first | exact lt_ H hy292 | (rw [hy292]; exact H) | exact H
     have Ny292 := a_ hy292
     clear hy292
     simp only [Option.some.injEq, Prod.mk.injEq] at H
     obtain ⟨rfl, rfl, rfl, rfl⟩ := H
     have p287 : 0 ≤ (x14_2 : Int) := of_decide_eq_true as_
     have q287 : x14_2 < (l1.length : Int) := of_decide_eq_true as_
     obtain ⟨ad287, e287, hx287_0⟩ := Kd.at_int (Kd.C_kept_now HR1.out HK.out) x14_2 p287 q287
     obtain rfl : ad286 = ad287 := (by injection e287)
     replace p287 := eq_true p287
     replace q287 := eq_true q287
     have q17 : ((wrap64 (x2_1 + 1)) : Int) ≤ ((l1.length : Int) : Int) := of_decide_eq_true as_
     obtain ⟨i017, hi017, _, hsz17, _⟩ := info_parts info5
     have hroom17 : l1.length ≤ c1 := HC1.out
     have hC17 : Kd.C (Kd.int .u8) _ (some ad286) l1.length l1 := (Kd.C_kept_now HR1.out HK.out)
     have ql17 : (a2 : Int) ≤ ((wrap64 (x2_1 + 1)) : Int) := of_decide_eq_true as_
     have q017 : (0 : Int) ≤ (a2 : Int) := of_decide_eq_true as_
     have hcut17 := cut_mid (P := Try.prog) 32 5 .i64 .i64 Try.underlying32 hi017 1 hsz17 (some ad286) l1.length c1 a2 (wrap64 (x2_1 + 1)) q017 ql17 q17 hroom17
     have hr17 := Kd.C_mid (lo := (a2 : Int).toNat) (hi := ((wrap64 (x2_1 + 1)) : Int).toNat) (c := c1) hC17 (by omega) (by omega) hroom17
     obtain ⟨A17, hA17⟩ : ∃ A1_, A1_ = (if c1 = (a2 : Int).toNat then (some ad286) else ((some ad286) : Option Addr).map (·.add ((a2 : Int).toNat * 1))) := ⟨_, rfl⟩
     obtain ⟨c17, hc17⟩ : ∃ c1_, c1_ = c1 - (a2 : Int).toNat := ⟨_, rfl⟩
     have hy17 : y288.length = ((wrap64 (x2_1 + 1)) : Int).toNat - (a2 : Int).toNat := (by rw [Ny288.out, List.length_drop, List.length_take] <;> omega)
     rw [show ((l1).take ((wrap64 (x2_1 + 1)) : Int).toNat).drop (a2 : Int).toNat = y288 from Ny288.out.symm] at hr17
     replace hr17 : Kd.C (Kd.int .u8) _ A17 y288.length y288 := (by rw [hA17]; exact hr17)
     rw [← hy17, ← hA17, ← hc17] at hcut17
     have HR291 := a_ hr17
     have HC291 := a_ (show y288.length ≤ c17 from by rw [hy17, hc17]; exact Nat.sub_le_sub_right (Nat.le_trans (by omega) hroom17) _)
     clear hr17 hC17 hroom17 hi017 hsz17 hc17
     have KY17 := a_ hy17
     have KA17 := a_ hA17
     clear hy17 hA17
     have KL17 := a_ (show ((wrap64 (x2_1 + 1)) : Int).toNat ≤ l1.length from by omega)
     have KM17 := a_ (show (a2 : Int).toNat ≤ ((wrap64 (x2_1 + 1)) : Int).toNat from by omega)
     replace q17 := eq_true q17
     go_wp2_with (first | ((with_reducible refine gate_builtin (b := .append) (xs := #[.tmp 48, .tmp 52]) rfl ?_); at_builtin; refine Kd.R_append_rows (Kd.int .u8) (w0 := w0) w0.heap.size rfl (.tmp 48) (.tmp 52) 32 5 (.int .u8 0) 1 rfl Try.underlying32 info5 rfl (by decide) (by omega) u9000_ l0 y288 _ _ _ (fun k_ => (P0_ k_ ∨ w.heap.size ≤ k_)) (fun _ => False) rfl rfl ?aO ?aR (fun _ _ h => h) (fun _ h => h.elim) ?aF ?aB ?aS ?aL ?_; (case aR => repeat (first | exact (by repeat (first | (with_reducible exact HR291.out) | (with_reducible refine Kd.C_alloc ?_ _) | (with_reducible refine Kd.C_drewN ?_ _) | (with_reducible refine Kd.C_drew ?_) | exact HR291.out)) | (with_reducible refine Kd.C_alloc ?_ _) | (with_reducible refine Kd.C_drewN ?_ _) | (with_reducible refine Kd.C_drew ?_))); (case aB => exact (bl_ HB)); (case aF => exact (fun k_ hk => (.inr (Nat.le_trans (kz_ HK) hk)))); (case aO => exact (rp_ HO_0)); (case aS => exact (below_size (bl_ HB))); (case aL => have := LMc16.out; omega); intro v293 w18 ho hb hg hat; rw [← Ny292.out] at ho; have n0_ := a_ (hb); have n1_ := a_ (Kept.of_grown (S := (fun k_ => P0_ k_)) hg (kp_ HK) (fun k_ e_ => (HO_0.out.1 k_ e_))); have n2_ := a_ ((show Kd.C (Kd.int .u8) w18 A17 y288.length y288 from by rw [Ny288.out, KA17.out]; exact Kd.C_mid (lo := (a2 : Int).toNat) (hi := ((wrap64 (x2_1 + 1)) : Int).toNat) (c := c1) (Kd.C_kept_now HR1.out (show Kept w w18 (fun k_ => P0_ k_) from (Kept.of_grown (S := (fun k_ => P0_ k_)) hg (kp_ HK) (fun k_ e_ => (HO_0.out.1 k_ e_))))) KM17.out KL17.out HC1.out)); have n3_ := a_ (ho); clear HB HK HR291 HO_0; have HB := n0_; have HK := n1_; have HR291 := n2_; have HO294 := n3_; clear n0_ n1_ n2_ n3_ ho hb hg hat))
     refine bodyPost_ret (results_list (rs := [.tmp 8, .tmp 9, .tmp 10, .tmp 11]) rfl (by simp) (.tmp (.tmp (.tmp (.tmp .nil))))) rfl ?_
     exact ⟨_, by first | rfl | (simp [errW_none, errW_some] <;> rfl) | (simp [*, errW_none, errW_some] <;> rfl), rp_ HO294, bl_ HB, kp_ HK⟩
end Go.Proofs.Ytapgjhgjhcfmoaa.PFnPrDefaultLaid
