/- Contracts of Go functions of this seat: a Lean function over numbers and lists for each, and a proof that the Go function returns what it gives. Made by program. -/
import Derived.Test.YtnilbkfhfnofgaaPFnPrWidthMemberx0
import Derived.Test.YtnilbkfhfnofgaaPFnPrWidthMemberxhPlaces
namespace Go.Proofs.Ytnilbkfhfnofgaa.PFnPrWidthMember
open Go.RowKit Go.Proofs.YtnilbkfhfnofgaaW.PrintWords Go.Proofs.YtnilbkfhfnofgaaW.PrintLast Go.Proofs.YtnilbkfhfnofgaaW.PrintMore
attribute [local go_sem] max2_int min2_int max_two min_two max_three min_three max_four min_four   -- for this text's walks alone
set_option linter.unusedVariables false
set_option linter.unusedSimpArgs false
/-! ### laws_prPlaces: function 5 -/
def laws_prPlaces.f (k : Nat) (a0 : ByteArray) : Option (Int × Int × Int × (List (S54)) × (List (S28)) × Bool) := if (a0.size : Int) > 4096 then (some (0, 0, 0, ([] : List (S54)), ([] : List (S28)), false)) else ((spec_Places.f k a0).bind fun bt267 => (some (bt267.1, bt267.2.1, bt267.2.2.1, bt267.2.2.2.1, bt267.2.2.2.2.1, bt267.2.2.2.2.2)))
theorem laws_prPlaces.mono : ∀ a0 k, LeO (laws_prPlaces.f k a0) (laws_prPlaces.f (k + 1) a0) := by
 intro a0 k
 unfold laws_prPlaces.f
 repeat' first | (with_reducible first | apply spec_Places.mono | apply LeO.refl | apply LeO.none | refine LeO.ite ?_ ?_ | refine LeO.bind ?_ (fun _ => ?_)) | apply spec_Places.mono | apply LeO.none | refine LeO.ite ?_ ?_ | refine LeO.bind ?_ (fun _ => ?_)
set_option maxHeartbeats 8000000 in
set_option maxRecDepth 100000 in
theorem laws_prPlaces.calls (k : Nat) (a0 : ByteArray) (r1 : Int) (r2 : Int) (r3 : Int) (r4 : List (S54)) (r5 : List (S28)) (r6 : Bool) (w : World) (h : laws_prPlaces.f k a0 = some (r1, r2, r3, r4, r5, r6)) :
  Calls Try.prog 5 #[.string a0] w fun e w' => ∃ v3_ v4_ : Value, e = .returned (.tuple #[.agg #[.int .i64 r1, .int .i64 r2, .int .i64 r3, v3_, v4_], .bool r6]) ∧ Kd.R k54 54 w' w.heap.size (fun _ => True) v3_ r4 ∧ Kd.R k28 28 w' w.heap.size (fun k_ => some k_ ≠ (v3_ : Value).ownBlock) v4_ r5 ∧ Below w.heap.size w w' := by
 have hu28 := Try.underlying28
 have HB := a_ (Below.refl w.heap.size w)
 have H : (if (a0.size : Int) > 4096 then (some (0, 0, 0, ([] : List (S54)), ([] : List (S28)), false)) else ((spec_Places.f k a0).bind fun bt267 => (some (bt267.1, bt267.2.1, bt267.2.2.1, bt267.2.2.2.1, bt267.2.2.2.2.1, bt267.2.2.2.2.2)))) = some (r1, r2, r3, r4, r5, r6) := h
 clear h
 by_cases c2 : (a0.size : Int) > 4096
 ·
  rw [if_pos c2] at H
  have c2b0 : decide (4096 < (a0.size : Int)) = true := decide_eq_true c2
  have c2b1 : decide (4096 < a0.size) = true := decide_eq_true (by omega)
  clear c2
  simp only [Option.some.injEq, Prod.mk.injEq] at H
  obtain ⟨rfl, rfl, rfl, rfl, rfl, rfl⟩ := H
  go_enter Try.func5, Try.ntmps5
  go_wp2_with (first | ((with_reducible refine gate_dst (N := 2) rfl ?_); refine box_event ?hg (N := 2) ?hd (cs := #[.int .i64 0, .int .i64 0, .int .i64 0, .slice none 0 0, .slice none 0 0]) (t := 28) ?hr ?_; (case hd => rfl); (case hg => rfl); (case hr => first | (go_simp; done) | (go_simp; rfl)); intro gb266 hg w3 hbox hb; have BK266 := a_ hbox; have GW266 := a_ ((by rw [hg]; exact (below_size (bl_ HB)) : w.heap.size ≤ gb266)); have GE266 := a_ ((by rw [hg]; exact (below_size (bl_ HB)) : w.heap.size ≤ gb266)); replace HB := a_ (below_step (bl_ HB) hb); clear hb hbox hg; obtain ⟨hcz4_0, hcz4_1, hcz4_2, hcz4_3, hcz4_4, hfz4_0, hfz4_1, hfz4_2, hfz4_3, hfz4_4⟩ := b5_ BK266))
  refine bodyPost_ret (results_ct rfl _ _ gb266 28 #[.int .i64 0, .int .i64 0, .int .i64 0, .slice none 0 0, .slice none 0 0] (0, 0) _ rfl (by (with_reducible repeat (first | refine blk_drewN ?_ _ | refine blk_drew ?_ | refine blk_alloc ?_ _)); refine blk_put (cs := #[.int .i64 0, .int .i64 0, .int .i64 0, .slice none 0 0, .slice none 0 0]) ?_ 4 _ rfl; (with_reducible repeat (first | refine blk_drewN ?_ _ | refine blk_drew ?_ | refine blk_alloc ?_ _)); refine blk_put (cs := #[.int .i64 0, .int .i64 0, .int .i64 0, .slice none 0 0, .slice none 0 0]) ?_ 3 _ rfl; (with_reducible repeat (first | refine blk_drewN ?_ _ | refine blk_drew ?_ | refine blk_alloc ?_ _)); refine blk_put (cs := #[.int .i64 0, .int .i64 0, .int .i64 0, .slice none 0 0, .slice none 0 0]) ?_ 2 _ rfl; (with_reducible repeat (first | refine blk_drewN ?_ _ | refine blk_drew ?_ | refine blk_alloc ?_ _)); refine blk_put (cs := #[.int .i64 0, .int .i64 0, .int .i64 0, .slice none 0 0, .slice none 0 0]) ?_ 1 _ rfl; (with_reducible repeat (first | refine blk_drewN ?_ _ | refine blk_drew ?_ | refine blk_alloc ?_ _)); refine blk_put (cs := #[.int .i64 0, .int .i64 0, .int .i64 0, .slice none 0 0, .slice none 0 0]) ?_ 0 _ rfl; (with_reducible repeat (first | refine blk_drewN ?_ _ | refine blk_drew ?_ | refine blk_alloc ?_ _)); exact BK266.out) Try.underlying28 rfl (by kernel_rfl)) rfl ?_
  exact ⟨_, _, by first | rfl | (simp [errW_none, errW_some] <;> rfl) | (simp [*, errW_none, errW_some] <;> rfl), by first | exact Kd.R_nil _ _ _ _ _ | exact Kd.N_nil _ _ _ _ _ | exact Kd.V_nil _ _ _ _ _ | exact Kd.Q_nil _ _ _ _ _ | exact Kd.S_nil _ _ _ _ _, by first | exact Kd.R_nil _ _ _ _ _ | exact Kd.N_nil _ _ _ _ _ | exact Kd.V_nil _ _ _ _ _ | exact Kd.Q_nil _ _ _ _ _ | exact Kd.S_nil _ _ _ _ _, bl_ HB⟩
 rw [if_neg c2] at H
 have c2b0 : decide (4096 < (a0.size : Int)) = false := decide_eq_false c2
 have c2b1 : decide (4096 < a0.size) = false := decide_eq_false (by omega)
 clear c2
 replace H := Option.bind_eq_some_iff.mp H
 obtain ⟨⟨t267, t268, t269, t270, t273, t276⟩, A50, H⟩ := H
 replace H : (some (t267, t268, t269, t270, t273, t276)) = some (r1, r2, r3, r4, r5, r6) := H
 have A5 := a_ A50
 clear A50
 simp only [Option.some.injEq, Prod.mk.injEq] at H
 obtain ⟨rfl, rfl, rfl, rfl, rfl, rfl⟩ := H
 go_enter Try.func5, Try.ntmps5
 go_wp2_with (first | ((with_reducible refine gate_dst (N := 2) rfl ?_); refine box_event ?hg (N := 2) ?hd (cs := #[.int .i64 0, .int .i64 0, .int .i64 0, .slice none 0 0, .slice none 0 0]) (t := 28) ?hr ?_; (case hd => rfl); (case hg => rfl); (case hr => first | (go_simp; done) | (go_simp; rfl)); intro gb266 hg w6 hbox hb; have BK266 := a_ hbox; have GW266 := a_ ((by rw [hg]; exact (below_size (bl_ HB)) : w.heap.size ≤ gb266)); have GE266 := a_ ((by rw [hg]; exact (below_size (bl_ HB)) : w.heap.size ≤ gb266)); replace HB := a_ (below_step (bl_ HB) hb); clear hb hbox hg) | ((with_reducible refine gate_callee (f := 12) rfl ?_); refine goesL_ (some 9) rfl rfl Try.func12 (by kernel_rfl) rfl #[.string a0] rfl ar_ ?_; (with_reducible refine (spec_Places.calls k a0 t267 t268 t269 t270 t273 t276 _ A5.out).mono ?_); rintro e w7 ⟨v271, v274, rfl, ho0, ho1, hb⟩; refine ⟨_, rfl, ?_⟩; have HO272 := a_ (Kd.R_lower ho0 (below_size (bl_ HB))); have HO275 := a_ (Kd.R_lower (Kd.R_newB ho1 (g := gb266) (o := .cells #[.int .i64 0, .int .i64 0, .int .i64 0, .slice none 0 0, .slice none 0 0] 28 (0, 0)) (bk_ BK266)) (below_size (bl_ HB))); replace BK266 := a_ (blk_below (g := gb266) (o := .cells #[.int .i64 0, .int .i64 0, .int .i64 0, .slice none 0 0, .slice none 0 0] 28 (0, 0)) (bk_ BK266) hb); replace HB := a_ (below_step (bl_ HB) hb); (try clear hb); (try clear hb2); (try clear hk); (try clear hi); (try clear ho0); (try clear ho1); obtain ⟨hcz8_0, hcz8_1, hcz8_2, hcz8_3, hcz8_4, hfz8_0, hfz8_1, hfz8_2, hfz8_3, hfz8_4⟩ := b5_ BK266; obtain ⟨Ao9, co9, eo9⟩ := Kd.R_slice HO272.out; subst eo9; obtain ⟨Ao10, co10, eo10⟩ := Kd.R_slice HO275.out; subst eo10))
 refine bodyPost_ret (results_ct rfl _ _ gb266 28 #[.int .i64 t267, .int .i64 t268, .int .i64 t269, .slice Ao9 t270.length co9, .slice Ao10 t273.length co10] (0, 0) _ rfl (by (with_reducible repeat (first | refine blk_drewN ?_ _ | refine blk_drew ?_ | refine blk_alloc ?_ _)); refine blk_put (cs := #[.int .i64 t267, .int .i64 t268, .int .i64 t269, .slice Ao9 t270.length co9, .slice none 0 0]) ?_ 4 _ rfl; (with_reducible repeat (first | refine blk_drewN ?_ _ | refine blk_drew ?_ | refine blk_alloc ?_ _)); refine blk_put (cs := #[.int .i64 t267, .int .i64 t268, .int .i64 t269, .slice none 0 0, .slice none 0 0]) ?_ 3 _ rfl; (with_reducible repeat (first | refine blk_drewN ?_ _ | refine blk_drew ?_ | refine blk_alloc ?_ _)); refine blk_put (cs := #[.int .i64 t267, .int .i64 t268, .int .i64 0, .slice none 0 0, .slice none 0 0]) ?_ 2 _ rfl; (with_reducible repeat (first | refine blk_drewN ?_ _ | refine blk_drew ?_ | refine blk_alloc ?_ _)); refine blk_put (cs := #[.int .i64 t267, .int .i64 0, .int .i64 0, .slice none 0 0, .slice none 0 0]) ?_ 1 _ rfl; (with_reducible repeat (first | refine blk_drewN ?_ _ | refine blk_drew ?_ | refine blk_alloc ?_ _)); refine blk_put (cs := #[.int .i64 0, .int .i64 0, .int .i64 0, .slice none 0 0, .slice none 0 0]) ?_ 0 _ rfl; (with_reducible repeat (first | refine blk_drewN ?_ _ | refine blk_drew ?_ | refine blk_alloc ?_ _)); exact BK266.out) Try.underlying28 rfl (by kernel_rfl)) rfl ?_
 exact ⟨_, _, by first | rfl | (simp [errW_none, errW_some] <;> rfl) | (simp [*, errW_none, errW_some] <;> rfl), by (with_reducible repeat (first | apply Kd.R_alloc | apply Kd.R_drewN | apply Kd.R_drew)); exact Kd.R_mono (Kd.R_far (p := ⟨gb266, 4, none⟩) (Kd.R_far (p := ⟨gb266, 3, none⟩) (Kd.R_far (p := ⟨gb266, 2, none⟩) (Kd.R_far (p := ⟨gb266, 1, none⟩) (Kd.R_far (p := ⟨gb266, 0, none⟩) (Kd.R_types HO272.out BK266.out (by decide)) (fun _ hk => hk.2) (.int .i64 t267)) (fun _ hk => hk.2) (.int .i64 t268)) (fun _ hk => hk.2) (.int .i64 t269)) (fun _ hk => hk.2) (.slice Ao9 t270.length co9)) (fun _ hk => hk.2) (.slice Ao10 t273.length co10)) (fun _ hk => trivial), by (with_reducible repeat (first | apply Kd.R_alloc | apply Kd.R_drewN | apply Kd.R_drew)); exact Kd.R_mono (Kd.R_far (p := ⟨gb266, 4, none⟩) (Kd.R_far (p := ⟨gb266, 3, none⟩) (Kd.R_far (p := ⟨gb266, 2, none⟩) (Kd.R_far (p := ⟨gb266, 1, none⟩) (Kd.R_far (p := ⟨gb266, 0, none⟩) (Kd.R_mono HO275.out (fun k_ hk => (⟨hk, hk.2⟩ : _ ∧ k_ ≠ gb266))) (fun _ hk => hk.2) (.int .i64 t267)) (fun _ hk => hk.2) (.int .i64 t268)) (fun _ hk => hk.2) (.int .i64 t269)) (fun _ hk => hk.2) (.slice Ao9 t270.length co9)) (fun _ hk => hk.2) (.slice Ao10 t273.length co10)) (fun _ hk => hk.1.1), bl_ HB⟩
/-! ### lFa: function 6 -/
def lFa.l0 : Nat → Int → Int → Int → Int → Int → List (S54) → List (S28) → Option (Bool)
  | 0, _, _, _, _, _, _, _ => none
  | k + 1, x6, x7, x278000, x278001, x278002, x278003, x278004 => if x7 < x6 then (if 0 ≤ x7 then (if x7 < (x278004.length : Int) then (if ((rd_T28 x278004 x7).f0) ≥ 5 then (some false) else (lFa.l0 k x6 (wrap64 (x7 + 1)) x278000 x278001 x278002 x278003 x278004)) else (none)) else (none)) else (if x278000 = 5 then (some (decide ((x278004.length : Int) > 0))) else (some false))
def lFa.f (k : Nat) (a0_0 : Int) (a0_1 : Int) (a0_2 : Int) (l0_3 : List (S54)) (l0_4 : List (S28)) : Option (Bool) := lFa.l0 k (l0_4.length : Int) 0 a0_0 a0_1 a0_2 l0_3 l0_4
theorem lFa.mono_l : ∀ k, (∀ y0 y1 y2 y3 y4 y5 y6, LeO (lFa.l0 k y0 y1 y2 y3 y4 y5 y6) (lFa.l0 (k + 1) y0 y1 y2 y3 y4 y5 y6))
 | 0 => fun _ _ _ _ _ _ _ r h => by simp [lFa.l0] at h
 | k + 1 => by
  have ih0 := lFa.mono_l k
  ·
   intro y0 y1 y2 y3 y4 y5 y6
   unfold lFa.l0
   repeat' first | (with_reducible first | apply ih0 | apply LeO.refl | apply LeO.none | refine LeO.ite ?_ ?_ | refine LeO.bind ?_ (fun _ => ?_)) | apply ih0 | apply LeO.none | refine LeO.ite ?_ ?_ | refine LeO.bind ?_ (fun _ => ?_)
theorem lFa.mono : ∀ a0 a1 a2 a3 a4 k, LeO (lFa.f k a0 a1 a2 a3 a4) (lFa.f (k + 1) a0 a1 a2 a3 a4) := by
 intro a0 a1 a2 a3 a4 k
 have ih0 := lFa.mono_l k
 unfold lFa.f
 repeat' first | (with_reducible first | apply ih0 | apply LeO.refl | apply LeO.none | refine LeO.ite ?_ ?_ | refine LeO.bind ?_ (fun _ => ?_)) | apply ih0 | apply LeO.none | refine LeO.ite ?_ ?_ | refine LeO.bind ?_ (fun _ => ?_)
set_option maxHeartbeats 8000000 in
set_option maxRecDepth 100000 in
theorem lFa.calls (k : Nat) (a0_0 : Int) (a0_1 : Int) (a0_2 : Int) (A0_3 : Option Addr) (c0_3 : Nat) (l0_3 : List (S54)) (A0_4 : Option Addr) (c0_4 : Nat) (l0_4 : List (S28)) (r : Bool) (w : World) (hr0_3 : Kd.C k54 w A0_3 l0_3.length l0_3) (hc0_3 : l0_3.length ≤ c0_3) (hr0_4 : Kd.C k28 w A0_4 l0_4.length l0_4) (hc0_4 : l0_4.length ≤ c0_4) (h : lFa.f k a0_0 a0_1 a0_2 l0_3 l0_4 = some r) :
  Calls Try.prog 6 #[.agg #[.int .i64 a0_0, .int .i64 a0_1, .int .i64 a0_2, .slice A0_3 l0_3.length c0_3, .slice A0_4 l0_4.length c0_4]] w fun e w' => e = .returned (.bool r) ∧ Below w.heap.size w w' := by
 have hu28 := Try.underlying28
 have HR0_3 := a_ hr0_3
 have HC0_3 := a_ hc0_3
 clear hr0_3 hc0_3
 have HR0_4 := a_ hr0_4
 have HC0_4 := a_ hc0_4
 clear hr0_4 hc0_4
 have HB := a_ (Below.refl w.heap.size w)
 have H : (lFa.l0 k (l0_4.length : Int) 0 a0_0 a0_1 a0_2 l0_3 l0_4) = some r := h
 clear h
 have H' := a_ H
 clear H
 go_enter Try.func6, Try.ntmps6
 go_wp2_with (first | ((with_reducible refine gate_dst (N := 1) rfl ?_); (try (refine gate_guard (by rfl) ?_; dsimp only)); refine box_event ?hg (N := 1) ?hd (cs := #[.int .i64 a0_0, .int .i64 a0_1, .int .i64 a0_2, .slice A0_3 l0_3.length c0_3, .slice A0_4 l0_4.length c0_4]) (t := 28) ?hr ?_; (case hd => rfl); (case hg => rfl); (case hr => first | (go_simp; done) | (go_simp; rfl)); intro gb277 hg w2 hbox hb; have BK277 := a_ hbox; have GW277 := a_ ((by rw [hg]; exact (below_size (bl_ HB)) : w.heap.size ≤ gb277)); have GE277 := a_ ((by rw [hg]; exact (below_size (bl_ HB)) : w.heap.size ≤ gb277)); replace HB := a_ (below_step (bl_ HB) hb); clear hb hbox hg; obtain ⟨hcz3_0, hcz3_1, hcz3_2, hcz3_3, hcz3_4, hfz3_0, hfz3_1, hfz3_2, hfz3_3, hfz3_4⟩ := b5_ BK277))
 (try simp only [Act.put, List.setIfInBounds_toArray, List.set_cons_zero, List.set_cons_succ])
 go_loopg [7] k (fun kq v7 w' => ∃ (x7_1 : Int), v7 = .int .i64 x7_1 ∧ Aside0 (lFa.l0 kq (l0_4.length : Int) x7_1 a0_0 a0_1 a0_2 l0_3 l0_4 = some r) ∧ Aside0 (kq ≤ k) ∧ Aside0 (w'.heap[gb277]? = some (.cells #[.int .i64 a0_0, .int .i64 a0_1, .int .i64 a0_2, (.slice A0_3 l0_3.length c0_3), (.slice A0_4 l0_4.length c0_4)] 28 (0, 0))) ∧ Aside0 (Below w.heap.size w w'))
 case atStart => exact ⟨(0), rl_, H', ⟨Nat.le_refl _⟩, ⟨bk_ BK277⟩, ⟨bl_ HB⟩⟩
 case round =>
  clear H'
  (try clear p2); (try clear hcz3_0); (try clear hcz3_1); (try clear hcz3_2); (try clear hcz3_3); (try clear hcz3_4); (try clear hfz3_0); (try clear hfz3_1); (try clear hfz3_2); (try clear hfz3_3); (try clear hfz3_4)
  obtain ⟨x7_1, rfl, HA, HK1, BK277, HB⟩ := hrel
  cases gk with
  | zero => exact absurd HA.out (by simp [lFa.l0])
  | succ k1 =>
   have H := HA.out
   clear HA
   simp only [lFa.l0] at H
   by_cases c4 : x7_1 < (l0_4.length : Int)
   rotate_left
   ·
    rw [if_neg c4] at H
    have c4b0 : decide (x7_1 < (l0_4.length : Int)) = false := decide_eq_false c4
    clear c4
    by_cases c10 : a0_0 = 5
    rotate_left
    ·
     rw [if_neg c10] at H
     have c10b0 : (a0_0 == 5) = false := beq_eq_false_iff_ne.mpr c10
     have c10b1 : (a0_0 != 5) = true := bne_iff_ne.mpr c10
     obtain rfl := Option.some.inj H
     have hcz12_0 := bc_ BK277 0 (.int .i64 a0_0)
     have hcz12_1 := bc_ BK277 1 (.int .i64 a0_1)
     have hcz12_2 := bc_ BK277 2 (.int .i64 a0_2)
     have hcz12_3 := bc_ BK277 3 (.slice A0_3 l0_3.length c0_3)
     have hcz12_4 := bc_ BK277 4 (.slice A0_4 l0_4.length c0_4)
     have hfz12_0 := blk_frozen BK277.out 0
     have hfz12_1 := blk_frozen BK277.out 1
     have hfz12_2 := blk_frozen BK277.out 2
     have hfz12_3 := blk_frozen BK277.out 3
     have hfz12_4 := blk_frozen BK277.out 4
     go_wp2
     go_ret
     exact ⟨by first | rfl | (simp [errW_none, errW_some] <;> rfl) | (simp [*, errW_none, errW_some] <;> rfl), bl_ HB⟩
    rw [if_pos c10] at H
    have c10b0 : (a0_0 == 5) = true := beq_iff_eq.mpr c10
    have c10b1 : (a0_0 != 5) = false := bne_eq_false_iff_eq.mpr c10
    clear c10
    obtain rfl := Option.some.inj H
    have hcz11_0 := bc_ BK277 0 (.int .i64 a0_0)
    have hcz11_1 := bc_ BK277 1 (.int .i64 a0_1)
    have hcz11_2 := bc_ BK277 2 (.int .i64 a0_2)
    have hcz11_3 := bc_ BK277 3 (.slice A0_3 l0_3.length c0_3)
    have hcz11_4 := bc_ BK277 4 (.slice A0_4 l0_4.length c0_4)
    have hfz11_0 := blk_frozen BK277.out 0
    have hfz11_1 := blk_frozen BK277.out 1
    have hfz11_2 := blk_frozen BK277.out 2
    have hfz11_3 := blk_frozen BK277.out 3
    have hfz11_4 := blk_frozen BK277.out 4
    go_wp2
    go_ret
    exact ⟨by first | rfl | (simp [errW_none, errW_some] <;> rfl) | (simp [*, errW_none, errW_some] <;> rfl), bl_ HB⟩
   rw [if_pos c4] at H
   have c4b0 : decide (x7_1 < (l0_4.length : Int)) = true := decide_eq_true c4
   clear c4
   by_cases c5 : 0 ≤ x7_1
   rotate_left
   ·
    rw [if_neg c5] at H
    exact absurd H (by simp)
   rw [if_pos c5] at H
   have c5b0 : decide (0 ≤ x7_1) = true := decide_eq_true c5
   clear c5
   by_cases c6 : x7_1 < (l0_4.length : Int)
   rotate_left
   ·
    rw [if_neg c6] at H
    exact absurd H (by simp)
   rw [if_pos c6] at H
   have c6b0 : decide (x7_1 < (l0_4.length : Int)) = true := decide_eq_true c6
   clear c6
   by_cases c7 : ((rd_T28 l0_4 x7_1).f0) ≥ 5
   ·
    rw [if_pos c7] at H
    have c7b0 : decide (5 ≤ ((rd_T28 l0_4 x7_1).f0)) = true := decide_eq_true c7
    clear c7
    obtain rfl := Option.some.inj H
    have hcz8_0 := bc_ BK277 0 (.int .i64 a0_0)
    have hcz8_1 := bc_ BK277 1 (.int .i64 a0_1)
    have hcz8_2 := bc_ BK277 2 (.int .i64 a0_2)
    have hcz8_3 := bc_ BK277 3 (.slice A0_3 l0_3.length c0_3)
    have hcz8_4 := bc_ BK277 4 (.slice A0_4 l0_4.length c0_4)
    have hfz8_0 := blk_frozen BK277.out 0
    have hfz8_1 := blk_frozen BK277.out 1
    have hfz8_2 := blk_frozen BK277.out 2
    have hfz8_3 := blk_frozen BK277.out 3
    have hfz8_4 := blk_frozen BK277.out 4
    have p278 : 0 ≤ (x7_1 : Int) := of_decide_eq_true as_
    have q278 : x7_1 < (l0_4.length : Int) := of_decide_eq_true as_
    obtain ⟨ad278, A278_3, c278_3, A278_4, c278_4, e278, hx278_0, hx278_1, hx278_2, hx278_3, hx278_4, hl278_3, hi278_3, hl278_4, hi278_4⟩ := at_T28 HR0_4.out x7_1 p278 q278
    cases e278
    replace hx278_0 := (HB.out.cell (World.block_lt_of_cell? w _ hx278_0)).trans hx278_0
    replace hx278_1 := (HB.out.cell (World.block_lt_of_cell? w _ hx278_1)).trans hx278_1
    replace hx278_2 := (HB.out.cell (World.block_lt_of_cell? w _ hx278_2)).trans hx278_2
    replace hx278_3 := (HB.out.cell (World.block_lt_of_cell? w _ hx278_3)).trans hx278_3
    replace hx278_4 := (HB.out.cell (World.block_lt_of_cell? w _ hx278_4)).trans hx278_4
    have HR278_3 := a_ hi278_3
    have HC278_3 := a_ hl278_3
    clear hi278_3 hl278_3
    have HR278_4 := a_ hi278_4
    have HC278_4 := a_ hl278_4
    clear hi278_4 hl278_4
    replace p278 := eq_true p278
    replace q278 := eq_true q278
    go_wp2
    go_ret
    exact ⟨by first | rfl | (simp [errW_none, errW_some] <;> rfl) | (simp [*, errW_none, errW_some] <;> rfl), bl_ HB⟩
   rw [if_neg c7] at H
   have c7b0 : decide (5 ≤ ((rd_T28 l0_4 x7_1).f0)) = false := decide_eq_false c7
   clear c7
   have H' := a_ H
   clear H
   have hcz9_0 := bc_ BK277 0 (.int .i64 a0_0)
   have hcz9_1 := bc_ BK277 1 (.int .i64 a0_1)
   have hcz9_2 := bc_ BK277 2 (.int .i64 a0_2)
   have hcz9_3 := bc_ BK277 3 (.slice A0_3 l0_3.length c0_3)
   have hcz9_4 := bc_ BK277 4 (.slice A0_4 l0_4.length c0_4)
   have hfz9_0 := blk_frozen BK277.out 0
   have hfz9_1 := blk_frozen BK277.out 1
   have hfz9_2 := blk_frozen BK277.out 2
   have hfz9_3 := blk_frozen BK277.out 3
   have hfz9_4 := blk_frozen BK277.out 4
   have p278 : 0 ≤ (x7_1 : Int) := of_decide_eq_true as_
   have q278 : x7_1 < (l0_4.length : Int) := of_decide_eq_true as_
   obtain ⟨ad278, A278_3, c278_3, A278_4, c278_4, e278, hx278_0, hx278_1, hx278_2, hx278_3, hx278_4, hl278_3, hi278_3, hl278_4, hi278_4⟩ := at_T28 HR0_4.out x7_1 p278 q278
   cases e278
   replace hx278_0 := (HB.out.cell (World.block_lt_of_cell? w _ hx278_0)).trans hx278_0
   replace hx278_1 := (HB.out.cell (World.block_lt_of_cell? w _ hx278_1)).trans hx278_1
   replace hx278_2 := (HB.out.cell (World.block_lt_of_cell? w _ hx278_2)).trans hx278_2
   replace hx278_3 := (HB.out.cell (World.block_lt_of_cell? w _ hx278_3)).trans hx278_3
   replace hx278_4 := (HB.out.cell (World.block_lt_of_cell? w _ hx278_4)).trans hx278_4
   have HR278_3 := a_ hi278_3
   have HC278_3 := a_ hl278_3
   clear hi278_3 hl278_3
   have HR278_4 := a_ hi278_4
   have HC278_4 := a_ hl278_4
   clear hi278_4 hl278_4
   replace p278 := eq_true p278
   replace q278 := eq_true q278
   go_wp2
   go_roundg k1
   case measure => have := HK1.out; omega
   case rel => exact ⟨(wrap64 (x7_1 + 1)), rl_, H', ⟨by have := HK1.out; omega⟩, ⟨bk_ BK277⟩, ⟨bl_ HB⟩⟩
/-! ### lBl: function 7 -/
mutual
def lBl.l0 : Nat → List ByteArray → Int → Int → Option (Bool)
  | 0, _, _, _ => none
  | k + 1, x10, x11, x12 => if x12 < x11 then (if 0 ≤ x12 then (if x12 < (x10.length : Int) then (lBl.l1 k (rdOf ByteArray.empty x10 x12) 0 x10 x11 x12) else (none)) else (none)) else (some true)
def lBl.l1 : Nat → ByteArray → Int → List ByteArray → Int → Int → Option (Bool)
  | 0, _, _, _, _, _ => none
  | k + 1, x4, x5, x10, x11, x12 => if x5 < (x4.size : Int) then (if 0 ≤ x5 then (if (bt x4 x5) = 32 then (lBl.l1 k x4 (wrap64 (x5 + 1)) x10 x11 x12) else (if (bt x4 x5) = 9 then (lBl.l1 k x4 (wrap64 (x5 + 1)) x10 x11 x12) else (some false))) else (none)) else (if (x4.size : Int) > 64 then (some false) else (lBl.l0 k x10 x11 (wrap64 (x12 + 1))))
end
def lBl.f (k : Nat) (a0_0 : Int) (a0_1 : ByteArray) (a0_2 : ByteArray) (a0_3 : Bool) : Option (Bool) := (some (([a0_1, a0_2] : List ByteArray) : List ByteArray)).bind fun y280 => (lBl.l0 k y280 (y280.length : Int) 0)
theorem lBl.mono_l : ∀ k, (∀ y0 y1 y2, LeO (lBl.l0 k y0 y1 y2) (lBl.l0 (k + 1) y0 y1 y2)) ∧ (∀ y0 y1 y2 y3 y4, LeO (lBl.l1 k y0 y1 y2 y3 y4) (lBl.l1 (k + 1) y0 y1 y2 y3 y4))
 | 0 => ⟨fun _ _ _ r h => by simp [lBl.l0] at h, fun _ _ _ _ _ r h => by simp [lBl.l1] at h⟩
 | k + 1 => by
  obtain ⟨ih0, ih1⟩ := lBl.mono_l k
  refine ⟨?_, ?_⟩
  all_goals intros
  all_goals (first | unfold lBl.l0 | unfold lBl.l1)
  all_goals repeat' first | (with_reducible first | apply ih0 | apply ih1 | apply LeO.refl | apply LeO.none | refine LeO.ite ?_ ?_ | refine LeO.bind ?_ (fun _ => ?_)) | apply ih0 | apply ih1 | apply LeO.none | refine LeO.ite ?_ ?_ | refine LeO.bind ?_ (fun _ => ?_)
theorem lBl.mono : ∀ a0 a1 a2 a3 k, LeO (lBl.f k a0 a1 a2 a3) (lBl.f (k + 1) a0 a1 a2 a3) := by
 intro a0 a1 a2 a3 k
 obtain ⟨ih0, ih1⟩ := lBl.mono_l k
 unfold lBl.f
 repeat' first | (with_reducible first | apply ih0 | apply ih1 | apply LeO.refl | apply LeO.none | refine LeO.ite ?_ ?_ | refine LeO.bind ?_ (fun _ => ?_)) | apply ih0 | apply ih1 | apply LeO.none | refine LeO.ite ?_ ?_ | refine LeO.bind ?_ (fun _ => ?_)
set_option maxHeartbeats 8000000 in
set_option maxRecDepth 100000 in
theorem lBl.calls (k : Nat) (a0_0 : Int) (a0_1 : ByteArray) (a0_2 : ByteArray) (a0_3 : Bool) (r : Bool) (w : World) (h : lBl.f k a0_0 a0_1 a0_2 a0_3 = some r) :
  Calls Try.prog 7 #[.agg #[.int .i64 a0_0, .string a0_1, .string a0_2, .bool a0_3]] w fun e w' => e = .returned (.bool r) ∧ Below w.heap.size w w' := by
 have hu23 := Try.underlying23
 have HB := a_ (Below.refl w.heap.size w)
 have H : ((some (([a0_1, a0_2] : List ByteArray) : List ByteArray)).bind fun y280 => (lBl.l0 k y280 (y280.length : Int) 0)) = some r := h
 clear h
 obtain ⟨y280, hy280⟩ : ∃ y_ : List ByteArray, y_ = (([a0_1, a0_2] : List ByteArray)) := ⟨_, rfl⟩
 replace H := lt_ H hy280
 have Ny280 := a_ hy280
 clear hy280
 have H' := a_ H
 clear H
 go_enter Try.func7, Try.ntmps7
 go_wp2_with (first | ((with_reducible refine gate_dst (N := 1) rfl ?_); refine box_event ?hg (N := 1) ?hd (cs := #[.int .i64 a0_0, .string a0_1, .string a0_2, .bool a0_3]) (t := 23) ?hr ?_; (case hd => rfl); (case hg => rfl); (case hr => first | (go_simp; done) | (go_simp; rfl)); intro gb279 hg w2 hbox hb; have BK279 := a_ hbox; have GW279 := a_ ((by rw [hg]; exact (below_size (bl_ HB)) : w.heap.size ≤ gb279)); have GE279 := a_ ((by rw [hg]; exact (below_size (bl_ HB)) : w.heap.size ≤ gb279)); replace HB := a_ (below_step (bl_ HB) hb); clear hb hbox hg; obtain ⟨hcz3_0, hcz3_1, hcz3_2, hcz3_3, hfz3_0, hfz3_1, hfz3_2, hfz3_3⟩ := b4_ BK279) | ((with_reducible refine gate_dst (N := 10) rfl ?_); refine Kd.R_lit Kd.string _ 9 ?hg (N := 10) ?hd (xs := ([a0_1, a0_2] : List ByteArray)) (inner := [.string a0_1, .string a0_2]) (ok := fun _ => True) (okp := fun _ => True) ?hr ?hp (fun _ hk => hk) trivial (Below.refl _ _) (Nat.le_refl _) (by simp) ?_; (case hd => rfl); (case hg => rfl); (case hr => first | (go_simp; done) | (go_simp; rfl)); (case hp => exact (Reps.one (show Kd.M Kd.string _ _ _ a0_1 [.string a0_1] from rfl) (Reps.one (show Kd.M Kd.string _ _ _ a0_2 [.string a0_2] from rfl) (Reps.none _ _)))); intro v281 w4 ho5 hb hg_ hnew_; clear hg_ hnew_; (first | rw [← Ny280.out] at ho5 | (simp only [Int.reduceToNat] at ho5; rw [← Ny280.out] at ho5)); have HO282 := a_ (Kd.R_lower ho5 (below_size (bl_ HB))); replace BK279 := a_ (blk_below (g := gb279) (o := .cells #[.int .i64 a0_0, .string a0_1, .string a0_2, .bool a0_3] 23 (0, 0)) (bk_ BK279) hb); replace HB := a_ (below_step (bl_ HB) hb); clear hb ho5; obtain ⟨Ao6, co6, eo6⟩ := Kd.R_slice HO282.out; subst eo6))
 (try simp only [Act.put, List.setIfInBounds_toArray, List.set_cons_zero, List.set_cons_succ])
 go_loopg [12] k (fun kq v12 w' => ∃ (x12_1 : Int), v12 = .int .i64 x12_1 ∧ Aside0 (lBl.l0 kq y280 (y280.length : Int) x12_1 = some r) ∧ Aside0 (kq ≤ k) ∧ Aside0 (Kd.R Kd.string 9 w' w.heap.size (fun _ => True) (.slice Ao6 y280.length co6) y280) ∧ Aside0 (w'.heap[gb279]? = some (.cells #[.int .i64 a0_0, .string a0_1, .string a0_2, .bool a0_3] 23 (0, 0))) ∧ Aside0 (Below w.heap.size w w'))
 case atStart => exact ⟨(0), rl_, H', ⟨Nat.le_refl _⟩, ⟨rp_ HO282⟩, ⟨bk_ BK279⟩, ⟨bl_ HB⟩⟩
 case round =>
  clear H'
  (try clear p2); (try clear hcz3_0); (try clear hcz3_1); (try clear hcz3_2); (try clear hcz3_3); (try clear hfz3_0); (try clear hfz3_1); (try clear hfz3_2); (try clear hfz3_3)
  obtain ⟨x12_1, rfl, HA, HK1, HO_10, BK279, HB⟩ := hrel
  cases gk with
  | zero => exact absurd HA.out (by simp [lBl.l0])
  | succ k1 =>
   have H := HA.out
   clear HA
   simp only [lBl.l0] at H
   by_cases c7 : x12_1 < (y280.length : Int)
   rotate_left
   ·
    rw [if_neg c7] at H
    have c7b0 : decide (x12_1 < (y280.length : Int)) = false := decide_eq_false c7
    clear c7
    obtain rfl := Option.some.inj H
    go_wp2
    go_ret
    exact ⟨by first | rfl | (simp [errW_none, errW_some] <;> rfl) | (simp [*, errW_none, errW_some] <;> rfl), bl_ HB⟩
   rw [if_pos c7] at H
   have c7b0 : decide (x12_1 < (y280.length : Int)) = true := decide_eq_true c7
   clear c7
   by_cases c8 : 0 ≤ x12_1
   rotate_left
   ·
    rw [if_neg c8] at H
    exact absurd H (by simp)
   rw [if_pos c8] at H
   have c8b0 : decide (0 ≤ x12_1) = true := decide_eq_true c8
   clear c8
   by_cases c9 : x12_1 < (y280.length : Int)
   rotate_left
   ·
    rw [if_neg c9] at H
    exact absurd H (by simp)
   rw [if_pos c9] at H
   have c9b0 : decide (x12_1 < (y280.length : Int)) = true := decide_eq_true c9
   clear c9
   have H' := a_ H
   clear H
   have p283 : 0 ≤ (x12_1 : Int) := of_decide_eq_true as_
   have q283 : x12_1 < (y280.length : Int) := of_decide_eq_true as_
   obtain ⟨ad283, e283, hx283_0⟩ := Kd.at_string (Kd.R_reads' HO_10.out).2.2 x12_1 p283 q283
   cases e283
   replace p283 := eq_true p283
   replace q283 := eq_true q283
   go_wp2
   (try simp only [Act.put, List.setIfInBounds_toArray, List.set_cons_zero, List.set_cons_succ])
   go_loopg [5] k1 (fun kq v5 w' => ∃ (x5_2 : Int), v5 = .int .i64 x5_2 ∧ Aside0 (lBl.l1 kq (rdOf ByteArray.empty y280 x12_1) x5_2 y280 (y280.length : Int) x12_1 = some r) ∧ Aside0 (kq ≤ k1) ∧ Aside0 (Kd.R Kd.string 9 w' w.heap.size (fun _ => True) (.slice (some ad283) y280.length co6) y280) ∧ Aside0 (w'.heap[gb279]? = some (.cells #[.int .i64 a0_0, .string a0_1, .string a0_2, .bool a0_3] 23 (0, 0))) ∧ Aside0 (Below w.heap.size w w'))
   case atStart => exact ⟨(0), rl_, H', ⟨Nat.le_refl _⟩, ⟨rp_ HO_10⟩, ⟨bk_ BK279⟩, ⟨bl_ HB⟩⟩
   case round =>
    clear H'
    (try clear p2); (try clear q2); (try clear hx2); (try clear c7); (try clear c7b0); (try clear c8); (try clear c8b0); (try clear c9); (try clear c9b0); (try clear hcz3_0); (try clear hcz3_1); (try clear hcz3_2); (try clear hcz3_3); (try clear hfz3_0); (try clear hfz3_1); (try clear hfz3_2); (try clear hfz3_3); (try clear hx283_0); (try clear p2); (try clear p283); (try clear q283)
    obtain ⟨x5_2, rfl, HA, HK2, HO_10, BK279, HB⟩ := hrel
    cases gk with
    | zero => exact absurd HA.out (by simp [lBl.l1])
    | succ k2 =>
     have H := HA.out
     clear HA
     simp only [lBl.l1] at H
     by_cases c10 : x5_2 < ((rdOf ByteArray.empty y280 x12_1).size : Int)
     rotate_left
     ·
      rw [if_neg c10] at H
      have c10b0 : decide (x5_2 < ((rdOf ByteArray.empty y280 x12_1).size : Int)) = false := decide_eq_false c10
      clear c10
      by_cases c16 : ((rdOf ByteArray.empty y280 x12_1).size : Int) > 64
      ·
       rw [if_pos c16] at H
       have c16b0 : decide (64 < ((rdOf ByteArray.empty y280 x12_1).size : Int)) = true := decide_eq_true c16
       have c16b1 : decide (64 < (rdOf ByteArray.empty y280 x12_1).size) = true := decide_eq_true (by omega)
       clear c16
       obtain rfl := Option.some.inj H
       go_wp2
       go_ret
       exact ⟨by first | rfl | (simp [errW_none, errW_some] <;> rfl) | (simp [*, errW_none, errW_some] <;> rfl), bl_ HB⟩
      rw [if_neg c16] at H
      have c16b0 : decide (64 < ((rdOf ByteArray.empty y280 x12_1).size : Int)) = false := decide_eq_false c16
      have c16b1 : decide (64 < (rdOf ByteArray.empty y280 x12_1).size) = false := decide_eq_false (by omega)
      clear c16
      have H' := a_ H
      clear H
      go_wp2
      go_roundg k2
      case measure => have := HK1.out; have := HK2.out; omega
      case rel => exact ⟨(wrap64 (x12_1 + 1)), rl_, H', ⟨by have := HK1.out; have := HK2.out; omega⟩, ⟨rp_ HO_10⟩, ⟨bk_ BK279⟩, ⟨bl_ HB⟩⟩
     rw [if_pos c10] at H
     have c10b0 : decide (x5_2 < ((rdOf ByteArray.empty y280 x12_1).size : Int)) = true := decide_eq_true c10
     clear c10
     by_cases c11 : 0 ≤ x5_2
     rotate_left
     ·
      rw [if_neg c11] at H
      exact absurd H (by simp)
     rw [if_pos c11] at H
     have c11b0 : decide (0 ≤ x5_2) = true := decide_eq_true c11
     clear c11
     by_cases c13 : (bt (rdOf ByteArray.empty y280 x12_1) x5_2) = 32
     ·
      rw [if_pos c13] at H
      have c13b0 : ((bt (rdOf ByteArray.empty y280 x12_1) x5_2) == 32) = true := beq_iff_eq.mpr c13
      have c13b1 : ((bt (rdOf ByteArray.empty y280 x12_1) x5_2) != 32) = false := bne_eq_false_iff_eq.mpr c13
      clear c13
      have H' := a_ H
      clear H
      have p12 : 0 ≤ (x5_2 : Int) := of_decide_eq_true as_
      have q12 : x5_2 < ((rdOf ByteArray.empty y280 x12_1).size : Int) := of_decide_eq_true as_
      have hx12 := bt_at (rdOf ByteArray.empty y280 x12_1) x5_2
      replace p12 := eq_true p12
      replace q12 := eq_true q12
      go_wp2
      go_roundg k2
      case measure => have := HK1.out; have := HK2.out; omega
      case rel => exact ⟨(wrap64 (x5_2 + 1)), rl_, H', ⟨by have := HK1.out; have := HK2.out; omega⟩, ⟨rp_ HO_10⟩, ⟨bk_ BK279⟩, ⟨bl_ HB⟩⟩
     rw [if_neg c13] at H
     have c13b0 : ((bt (rdOf ByteArray.empty y280 x12_1) x5_2) == 32) = false := beq_eq_false_iff_ne.mpr c13
     have c13b1 : ((bt (rdOf ByteArray.empty y280 x12_1) x5_2) != 32) = true := bne_iff_ne.mpr c13
     by_cases c15 : (bt (rdOf ByteArray.empty y280 x12_1) x5_2) = 9
     rotate_left
     ·
      rw [if_neg c15] at H
      have c15b0 : ((bt (rdOf ByteArray.empty y280 x12_1) x5_2) == 9) = false := beq_eq_false_iff_ne.mpr c15
      have c15b1 : ((bt (rdOf ByteArray.empty y280 x12_1) x5_2) != 9) = true := bne_iff_ne.mpr c15
      obtain rfl := Option.some.inj H
      have p12 : 0 ≤ (x5_2 : Int) := of_decide_eq_true as_
      have q12 : x5_2 < ((rdOf ByteArray.empty y280 x12_1).size : Int) := of_decide_eq_true as_
      have hx12 := bt_at (rdOf ByteArray.empty y280 x12_1) x5_2
      replace p12 := eq_true p12
      replace q12 := eq_true q12
      have p14 : 0 ≤ (x5_2 : Int) := of_decide_eq_true as_
      have q14 : x5_2 < ((rdOf ByteArray.empty y280 x12_1).size : Int) := of_decide_eq_true as_
      have hx14 := bt_at (rdOf ByteArray.empty y280 x12_1) x5_2
      replace p14 := eq_true p14
      replace q14 := eq_true q14
      go_wp2
      go_ret
      exact ⟨by first | rfl | (simp [errW_none, errW_some] <;> rfl) | (simp [*, errW_none, errW_some] <;> rfl), bl_ HB⟩
     rw [if_pos c15] at H
     have c15b0 : ((bt (rdOf ByteArray.empty y280 x12_1) x5_2) == 9) = true := beq_iff_eq.mpr c15
     have c15b1 : ((bt (rdOf ByteArray.empty y280 x12_1) x5_2) != 9) = false := bne_eq_false_iff_eq.mpr c15
     clear c15
     have H' := a_ H
     clear H
     have p12 : 0 ≤ (x5_2 : Int) := of_decide_eq_true as_
     have q12 : x5_2 < ((rdOf ByteArray.empty y280 x12_1).size : Int) := of_decide_eq_true as_
     have hx12 := bt_at (rdOf ByteArray.empty y280 x12_1) x5_2
     replace p12 := eq_true p12
     replace q12 := eq_true q12
     have p14 : 0 ≤ (x5_2 : Int) := of_decide_eq_true as_
     have q14 : x5_2 < ((rdOf ByteArray.empty y280 x12_1).size : Int) := of_decide_eq_true as_
     have hx14 := bt_at (rdOf ByteArray.empty y280 x12_1) x5_2
     replace p14 := eq_true p14
     replace q14 := eq_true q14
     go_wp2
     go_roundg k2
     case measure => have := HK1.out; have := HK2.out; omega
     case rel => exact ⟨(wrap64 (x5_2 + 1)), rl_, H', ⟨by have := HK1.out; have := HK2.out; omega⟩, ⟨rp_ HO_10⟩, ⟨bk_ BK279⟩, ⟨bl_ HB⟩⟩
/-! ### spec_high: function 20 -/
def spec_high.f (a0 : Int) : Option (Bool) := if 55296 ≤ a0 then (some (decide (a0 ≤ 56319))) else (some false)
set_option maxHeartbeats 8000000 in
set_option maxRecDepth 100000 in
theorem spec_high.calls (a0 : Int) (r : Bool) (w : World) (h : spec_high.f a0 = some r) :
  Calls Try.prog 20 #[.int .i64 a0] w fun e w' => e = .returned (.bool r) ∧ Drawn0 w w' := by
 have H : (if 55296 ≤ a0 then (some (decide (a0 ≤ 56319))) else (some false)) = some r := h
 clear h
 by_cases c2 : 55296 ≤ a0
 ·
  rw [if_pos c2] at H
  have c2b0 : decide (55296 ≤ a0) = true := decide_eq_true c2
  clear c2
  obtain rfl := Option.some.inj H
  go_enter Try.func20, Try.ntmps20
  go_wp2
  go_ret
  exact ⟨by first | rfl | (simp; done) | (simp [*]; done), by repeat (first | exact Drawn0.refl _ | apply Drawn0.step)⟩
 rw [if_neg c2] at H
 have c2b0 : decide (55296 ≤ a0) = false := decide_eq_false c2
 clear c2
 obtain rfl := Option.some.inj H
 go_enter Try.func20, Try.ntmps20
 go_wp2
 go_ret
 exact ⟨by first | rfl | (simp; done) | (simp [*]; done), by repeat (first | exact Drawn0.refl _ | apply Drawn0.step)⟩
/-! ### spec_low: function 21 -/
def spec_low.f (a0 : Int) : Option (Bool) := if 56320 ≤ a0 then (some (decide (a0 ≤ 57343))) else (some false)
set_option maxHeartbeats 8000000 in
set_option maxRecDepth 100000 in
theorem spec_low.calls (a0 : Int) (r : Bool) (w : World) (h : spec_low.f a0 = some r) :
  Calls Try.prog 21 #[.int .i64 a0] w fun e w' => e = .returned (.bool r) ∧ Drawn0 w w' := by
 have H : (if 56320 ≤ a0 then (some (decide (a0 ≤ 57343))) else (some false)) = some r := h
 clear h
 by_cases c2 : 56320 ≤ a0
 ·
  rw [if_pos c2] at H
  have c2b0 : decide (56320 ≤ a0) = true := decide_eq_true c2
  clear c2
  obtain rfl := Option.some.inj H
  go_enter Try.func21, Try.ntmps21
  go_wp2
  go_ret
  exact ⟨by first | rfl | (simp; done) | (simp [*]; done), by repeat (first | exact Drawn0.refl _ | apply Drawn0.step)⟩
 rw [if_neg c2] at H
 have c2b0 : decide (56320 ≤ a0) = false := decide_eq_false c2
 clear c2
 obtain rfl := Option.some.inj H
 go_enter Try.func21, Try.ntmps21
 go_wp2
 go_ret
 exact ⟨by first | rfl | (simp; done) | (simp [*]; done), by repeat (first | exact Drawn0.refl _ | apply Drawn0.step)⟩
end Go.Proofs.Ytnilbkfhfnofgaa.PFnPrWidthMember
