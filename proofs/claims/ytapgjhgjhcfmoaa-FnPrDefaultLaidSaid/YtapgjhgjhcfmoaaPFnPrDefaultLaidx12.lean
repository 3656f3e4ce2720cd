/- Contracts of Go functions of this seat: for each a Lean function over numbers and lists and a proof that the Go function, called in any memory, returns what it gives. Made by program. -/
import Derived.Test.YtapgjhgjhcfmoaaPFnPrDefaultLaidx0
namespace Go.Proofs.Ytapgjhgjhcfmoaa.PFnPrDefaultLaid
open Go.RowKit Go.Proofs.YtapgjhgjhcfmoaaW.PrintWords Go.Proofs.YtapgjhgjhcfmoaaW.PrintLast Go.Proofs.YtapgjhgjhcfmoaaW.PrintMore
attribute [local go_sem] max2_int min2_int max_two min_two max_three min_three max_four min_four   -- for this text's walks alone
set_option linter.unusedVariables false
set_option linter.unusedSimpArgs false
/-! ### spec_bareTo: function 14 -/
mutual
def spec_bareTo.j0 : Nat → List Int → ByteArray → Bool → Int → Int → Int → List (S41) → List (S25) → Option (List Int)
  | 0, _, _, _, _, _, _, _, _ => none
  | k + 1, x0, x1, x17, x571000, x571001, x571002, x571003, x571004 => if x17 = true then (if 0 ≤ x571001 then (if x571001 ≤ x571002 then (if x571002 ≤ (x1.size : Int) then (if x0.length + (x1.extract (x571001 : Int).toNat (x571002 : Int).toNat).size < 140737488355328 then (some (x0 ++ bytesOf (x1.extract (x571001 : Int).toNat (x571002 : Int).toNat))) else (none)) else (none)) else (none)) else (none)) else (if x571000 = 6 then (spec_bareTo.j1 k x0 x1 123 125 x571000 x571001 x571002 x571003 x571004) else (spec_bareTo.j1 k x0 x1 91 93 x571000 x571001 x571002 x571003 x571004))
def spec_bareTo.j1 : Nat → List Int → ByteArray → Int → Int → Int → Int → Int → List (S41) → List (S25) → Option (List Int)
  | 0, _, _, _, _, _, _, _, _, _ => none
  | k + 1, x0, x1, x7, x8, x571000, x571001, x571002, x571003, x571004 => if x0.length < 140737488355328 then (spec_bareTo.l0 k (x0 ++ [x7]) x1 x8 (x571004.length : Int) 0 x571000 x571001 x571002 x571003 x571004) else (none)
def spec_bareTo.l0 : Nat → List Int → ByteArray → Int → Int → Int → Int → Int → Int → List (S41) → List (S25) → Option (List Int)
  | 0, _, _, _, _, _, _, _, _, _, _ => none
  | k + 1, x0, x1, x8, x35, x36, x571000, x571001, x571002, x571003, x571004 => if x36 < x35 then (if x36 > 0 then (if x0.length < 140737488355328 then ((some (x0 ++ [44] : List Int)).bind fun y580 => (if x571000 = 6 then (if 0 ≤ x36 then (if x36 < (x571003.length : Int) then (if 0 ≤ ((rd_T41 x571003 x36).f0) then (if ((rd_T41 x571003 x36).f0) ≤ ((rd_T41 x571003 x36).f1) then (if ((rd_T41 x571003 x36).f1) ≤ (x1.size : Int) then (if y580.length + (x1.extract (((rd_T41 x571003 x36).f0) : Int).toNat (((rd_T41 x571003 x36).f1) : Int).toNat).size < 140737488355328 then ((some (y580 ++ bytesOf (x1.extract (((rd_T41 x571003 x36).f0) : Int).toNat (((rd_T41 x571003 x36).f1) : Int).toNat) : List Int)).bind fun y585 => (if y585.length < 140737488355328 then (if x36 < (x571004.length : Int) then ((spec_bareTo.f k (y585 ++ [58]) x1 ((rd_T25 x571004 x36).f0) ((rd_T25 x571004 x36).f1) ((rd_T25 x571004 x36).f2) ((rd_T25 x571004 x36).f3) ((rd_T25 x571004 x36).f4)).bind fun t592 => (spec_bareTo.l0 k t592 x1 x8 x35 (wrap64 (x36 + 1)) x571000 x571001 x571002 x571003 x571004)) else (none)) else (none))) else (none)) else (none)) else (none)) else (none)) else (none)) else (none)) else (if 0 ≤ x36 then (if x36 < (x571004.length : Int) then ((spec_bareTo.f k y580 x1 ((rd_T25 x571004 x36).f0) ((rd_T25 x571004 x36).f1) ((rd_T25 x571004 x36).f2) ((rd_T25 x571004 x36).f3) ((rd_T25 x571004 x36).f4)).bind fun t596 => (spec_bareTo.l0 k t596 x1 x8 x35 (wrap64 (x36 + 1)) x571000 x571001 x571002 x571003 x571004)) else (none)) else (none)))) else (none)) else (if x571000 = 6 then (if 0 ≤ x36 then (if x36 < (x571003.length : Int) then (if 0 ≤ ((rd_T41 x571003 x36).f0) then (if ((rd_T41 x571003 x36).f0) ≤ ((rd_T41 x571003 x36).f1) then (if ((rd_T41 x571003 x36).f1) ≤ (x1.size : Int) then (if x0.length + (x1.extract (((rd_T41 x571003 x36).f0) : Int).toNat (((rd_T41 x571003 x36).f1) : Int).toNat).size < 140737488355328 then ((some (x0 ++ bytesOf (x1.extract (((rd_T41 x571003 x36).f0) : Int).toNat (((rd_T41 x571003 x36).f1) : Int).toNat) : List Int)).bind fun y601 => (if y601.length < 140737488355328 then (if x36 < (x571004.length : Int) then ((spec_bareTo.f k (y601 ++ [58]) x1 ((rd_T25 x571004 x36).f0) ((rd_T25 x571004 x36).f1) ((rd_T25 x571004 x36).f2) ((rd_T25 x571004 x36).f3) ((rd_T25 x571004 x36).f4)).bind fun t608 => (spec_bareTo.l0 k t608 x1 x8 x35 (wrap64 (x36 + 1)) x571000 x571001 x571002 x571003 x571004)) else (none)) else (none))) else (none)) else (none)) else (none)) else (none)) else (none)) else (none)) else (if 0 ≤ x36 then (if x36 < (x571004.length : Int) then ((spec_bareTo.f k x0 x1 ((rd_T25 x571004 x36).f0) ((rd_T25 x571004 x36).f1) ((rd_T25 x571004 x36).f2) ((rd_T25 x571004 x36).f3) ((rd_T25 x571004 x36).f4)).bind fun t612 => (spec_bareTo.l0 k t612 x1 x8 x35 (wrap64 (x36 + 1)) x571000 x571001 x571002 x571003 x571004)) else (none)) else (none)))) else (if x0.length < 140737488355328 then (some (x0 ++ [x8])) else (none))
def spec_bareTo.f : Nat → List Int → ByteArray → Int → Int → Int → List (S41) → List (S25) → Option (List Int)
  | 0, _, _, _, _, _, _, _ => none
  | k + 1, l0, a1, a2_0, a2_1, a2_2, l2_3, l2_4 => if a2_0 = 5 then (spec_bareTo.j0 k l0 a1 false a2_0 a2_1 a2_2 l2_3 l2_4) else (spec_bareTo.j0 k l0 a1 (a2_0 != 6) a2_0 a2_1 a2_2 l2_3 l2_4)
end
theorem spec_bareTo.mono_l : ∀ k, (∀ y0 y1 y2 y3 y4 y5 y6, LeO (spec_bareTo.f k y0 y1 y2 y3 y4 y5 y6) (spec_bareTo.f (k + 1) y0 y1 y2 y3 y4 y5 y6)) ∧ (∀ y0 y1 y2 y3 y4 y5 y6 y7, LeO (spec_bareTo.j0 k y0 y1 y2 y3 y4 y5 y6 y7) (spec_bareTo.j0 (k + 1) y0 y1 y2 y3 y4 y5 y6 y7)) ∧ (∀ y0 y1 y2 y3 y4 y5 y6 y7 y8, LeO (spec_bareTo.j1 k y0 y1 y2 y3 y4 y5 y6 y7 y8) (spec_bareTo.j1 (k + 1) y0 y1 y2 y3 y4 y5 y6 y7 y8)) ∧ (∀ y0 y1 y2 y3 y4 y5 y6 y7 y8 y9, LeO (spec_bareTo.l0 k y0 y1 y2 y3 y4 y5 y6 y7 y8 y9) (spec_bareTo.l0 (k + 1) y0 y1 y2 y3 y4 y5 y6 y7 y8 y9))
 | 0 => ⟨fun _ _ _ _ _ _ _ r h => by simp [spec_bareTo.f] at h, fun _ _ _ _ _ _ _ _ r h => by simp [spec_bareTo.j0] at h, fun _ _ _ _ _ _ _ _ _ r h => by simp [spec_bareTo.j1] at h, fun _ _ _ _ _ _ _ _ _ _ r h => by simp [spec_bareTo.l0] at h⟩
 | k + 1 => by
  obtain ⟨ih0, ih1, ih2, ih3⟩ := spec_bareTo.mono_l k
  refine ⟨?_, ?_, ?_, ?_⟩
  all_goals intros
  all_goals (first | unfold spec_bareTo.f | unfold spec_bareTo.j0 | unfold spec_bareTo.j1 | unfold spec_bareTo.l0)
  all_goals repeat' first
   | (with_reducible exact ih0 _ _ _ _ _ _ _)
   | (with_reducible exact ih1 _ _ _ _ _ _ _ _)
   | (with_reducible exact ih2 _ _ _ _ _ _ _ _ _)
   | (with_reducible exact ih3 _ _ _ _ _ _ _ _ _ _)
   | (with_reducible exact LeO.refl _)
   | (with_reducible exact LeO.none _)
   | (with_reducible refine LeO.ite ?_ ?_)
   | (with_reducible refine LeO.bind ?_ (fun _ => ?_))
   | exact ih0 _ _ _ _ _ _ _
   | exact ih1 _ _ _ _ _ _ _ _
   | exact ih2 _ _ _ _ _ _ _ _ _
   | exact ih3 _ _ _ _ _ _ _ _ _ _
   | exact LeO.none _
   | refine LeO.ite ?_ ?_
   | refine LeO.bind ?_ (fun _ => ?_)
theorem spec_bareTo.mono : ∀ a0 a1 a2 a3 a4 a5 a6 k, LeO (spec_bareTo.f k a0 a1 a2 a3 a4 a5 a6) (spec_bareTo.f (k + 1) a0 a1 a2 a3 a4 a5 a6) := by
 intro a0 a1 a2 a3 a4 a5 a6 k
 obtain ⟨ih0, ih1, ih2, ih3⟩ := spec_bareTo.mono_l k
 exact ih0 a0 a1 a2 a3 a4 a5 a6
def spec_bareTo.T13 : Bool × List (List Nat × List Nat) := (true, [([], []), ([], []), ([], []), ([2], [2]), ([], []), ([3, 4], [3, 4]), ([5], [5]), ([6], [6]), ([], []), ([8], [8]), ([], []), ([9, 10], [9, 10]), ([11], [11]), ([12], [12]), ([1, 7, 13], [1, 7, 13]), ([0, 14], [0, 14]), ([15, 15, 0, 1, 2, 3, 4, 5, 6, 7, 8, 9, 10, 11, 12, 13, 14, 15], [0, 15])])
def spec_bareTo.B13 : List Nat := [0, 0, 0, 4, 0, 28, 60, 124, 0, 256, 0, 1792, 3840, 7936, 16382, 32767, 65535]
theorem spec_bareTo.tab13 : rtab .any (opsOf Try.f14 13) = spec_bareTo.T13 := by kernel_rfl
theorem spec_bareTo.bits13 : waitsOk spec_bareTo.T13.2 spec_bareTo.B13 = true := by kernel_rfl
set_option maxHeartbeats 8000000 in
set_option maxRecDepth 100000 in
theorem spec_bareTo.calls (k : Nat) : ∀ (P0_ : Nat → Prop) (u9000_ : Value) (l0 : List Int) (a1 : ByteArray) (a2_0 : Int) (a2_1 : Int) (a2_2 : Int) (A2_3 : Option Addr) (c2_3 : Nat) (l2_3 : List (S41)) (A2_4 : Option Addr) (c2_4 : Nat) (l2_4 : List (S25)) (r : List Int) (w0 w : World) (hB : Below w0.heap.size w0 w) (ho0 : Kd.R (Kd.int .u8) 5 w w0.heap.size P0_ u9000_ l0) (hr2_3 : Kd.C k41 w0 A2_3 l2_3.length l2_3) (hc2_3 : l2_3.length ≤ c2_3) (hr2_4 : Kd.C k25 w0 A2_4 l2_4.length l2_4) (hc2_4 : l2_4.length ≤ c2_4) (h : spec_bareTo.f k l0 a1 a2_0 a2_1 a2_2 l2_3 l2_4 = some r),
  Calls Try.prog 14 #[u9000_, .string a1, .agg #[.int .i64 a2_0, .int .i64 a2_1, .int .i64 a2_2, .slice A2_3 l2_3.length c2_3, .slice A2_4 l2_4.length c2_4]] w fun e w' => ∃ v0_ : Value, e = .returned (v0_) ∧ Kd.R (Kd.int .u8) 5 w' w0.heap.size (fun k_ => (P0_ k_ ∨ w.heap.size ≤ k_)) v0_ r ∧ Below w0.heap.size w0 w' ∧ Kept w w' (fun k_ => P0_ k_) := by
 induction k using Nat.strongRecOn with
 | _ k ih =>
 intro P0_ u9000_ l0 a1 a2_0 a2_1 a2_2 A2_3 c2_3 l2_3 A2_4 c2_4 l2_4 r w0 w hB ho0 hr2_3 hc2_3 hr2_4 hc2_4 h
 cases k with
 | zero => exact absurd h (by simp [spec_bareTo.f])
 | succ k =>
 simp only [spec_bareTo.f] at h
 have hu25 := Try.underlying25
 have HO0 := a_ (show Kd.R (Kd.int .u8) 5 w w0.heap.size (fun k_ => (P0_ k_ ∨ w.heap.size ≤ k_)) u9000_ l0 from Kd.R_mono ho0 (fun k_ hk => (.inl hk)))
 have HR2_3 := a_ hr2_3
 have HC2_3 := a_ hc2_3
 clear hr2_3 hc2_3
 have HR2_4 := a_ hr2_4
 have HC2_4 := a_ hc2_4
 clear hr2_4 hc2_4
 have HK := a_ (Kept.refl w (fun k_ => P0_ k_))
 have HW0 := a_ hB.size
 have HB := a_ hB
 clear hB
 have H : (if a2_0 = 5 then (spec_bareTo.j0 k l0 a1 false a2_0 a2_1 a2_2 l2_3 l2_4) else (spec_bareTo.j0 k l0 a1 (a2_0 != 6) a2_0 a2_1 a2_2 l2_3 l2_4)) = some r := h
 clear h
 have HC4 := a_ H
 clear H
 go_enter Try.func14, Try.ntmps14
 go_upto_region 1 with (first | ((with_reducible refine gate_dst (N := 5) rfl ?_); refine box_event ?hg (N := 5) ?hd (cs := #[.int .i64 a2_0, .int .i64 a2_1, .int .i64 a2_2, .slice A2_3 l2_3.length c2_3, .slice A2_4 l2_4.length c2_4]) (t := 25) ?hr ?_; (case hd => rfl); (case hg => rfl); (case hr => first | (go_simp; done) | (go_simp; rfl)); intro gb570 hg w5 hbox hb; have n0_ := a_ (Kd.R_below (rp_ HO0) hb); have n1_ := a_ (Kept.below (S := (fun k_ => P0_ k_)) (kp_ HK) hb); have n2_ := a_ (below_step (bl_ HB) hb); have n3_ := a_ (hbox); have n4_ := a_ ((by rw [hg]; exact (kz_ HK) : w.heap.size ≤ gb570)); have n5_ := a_ ((by rw [hg]; exact (below_size (bl_ HB)) : w0.heap.size ≤ gb570)); clear HO0 HK HB; have HO0 := n0_; have HK := n1_; have HB := n2_; have BK570 := n3_; have GW570 := n4_; have GE570 := n5_; clear n0_ n1_ n2_ n3_ n4_ n5_ hb hbox hg))
 (try simp only [Act.put, List.setIfInBounds_toArray, List.set_cons_zero, List.set_cons_succ])
 go_cut [17] (fun v17 wc => ∃ (kq : Nat) (x17_3 : Bool), v17 = .bool x17_3 ∧ Aside0 (spec_bareTo.j0 kq l0 a1 x17_3 a2_0 a2_1 a2_2 l2_3 l2_4 = some r) ∧ Aside0 (kq ≤ k) ∧ Aside0 (Kd.R (Kd.int .u8) 5 wc w0.heap.size (fun k_ => (P0_ k_ ∨ w.heap.size ≤ k_)) u9000_ l0) ∧ Aside0 (wc.heap[gb570]? = some (.cells #[.int .i64 a2_0, .int .i64 a2_1, .int .i64 a2_2, (.slice A2_3 l2_3.length c2_3), (.slice A2_4 l2_4.length c2_4)] 25 (0, 0))) ∧ Aside0 (Kept w wc (fun k_ => P0_ k_)) ∧ Aside0 (Below w0.heap.size w0 wc))
 case first =>
  have H := HC4.out
  clear HC4
  by_cases c6 : a2_0 = 5
  rotate_left
  ·
   rw [if_neg c6] at H
   have c6b0 : (a2_0 == 5) = false := beq_eq_false_iff_ne.mpr c6
   have c6b1 : (a2_0 != 5) = true := bne_iff_ne.mpr c6
   (first | rw [c6b0] | (simp only [i64_w, i32_w]; rw [c6b0]) | skip)
   have H' := a_ H
   clear H
   have hcz8_0 := bc_ BK570 0 (.int .i64 a2_0)
   have hcz8_1 := bc_ BK570 1 (.int .i64 a2_1)
   have hcz8_2 := bc_ BK570 2 (.int .i64 a2_2)
   have hcz8_3 := bc_ BK570 3 (.slice A2_3 l2_3.length c2_3)
   have hcz8_4 := bc_ BK570 4 (.slice A2_4 l2_4.length c2_4)
   have hfz8_0 := blk_frozen BK570.out 0
   have hfz8_1 := blk_frozen BK570.out 1
   have hfz8_2 := blk_frozen BK570.out 2
   have hfz8_3 := blk_frozen BK570.out 3
   have hfz8_4 := blk_frozen BK570.out 4
   go_wp2
   go_meet
   case rel => exact ⟨_, ((a2_0 != 6)), rl_, H', ⟨by first | omega | exact Nat.le_refl _⟩, ⟨rp_ HO0⟩, ⟨bk_ BK570⟩, ⟨kp_ HK⟩, ⟨bl_ HB⟩⟩
  rw [if_pos c6] at H
  have c6b0 : (a2_0 == 5) = true := beq_iff_eq.mpr c6
  have c6b1 : (a2_0 != 5) = false := bne_eq_false_iff_eq.mpr c6
  clear c6
  (first | rw [c6b0] | (simp only [i64_w, i32_w]; rw [c6b0]) | skip)
  have H' := a_ H
  clear H
  have hcz7_0 := bc_ BK570 0 (.int .i64 a2_0)
  have hcz7_1 := bc_ BK570 1 (.int .i64 a2_1)
  have hcz7_2 := bc_ BK570 2 (.int .i64 a2_2)
  have hcz7_3 := bc_ BK570 3 (.slice A2_3 l2_3.length c2_3)
  have hcz7_4 := bc_ BK570 4 (.slice A2_4 l2_4.length c2_4)
  have hfz7_0 := blk_frozen BK570.out 0
  have hfz7_1 := blk_frozen BK570.out 1
  have hfz7_2 := blk_frozen BK570.out 2
  have hfz7_3 := blk_frozen BK570.out 3
  have hfz7_4 := blk_frozen BK570.out 4
  go_wp2
  go_meet
  case rel => exact ⟨_, (false), rl_, H', ⟨by first | omega | exact Nat.le_refl _⟩, ⟨rp_ HO0⟩, ⟨bk_ BK570⟩, ⟨kp_ HK⟩, ⟨bl_ HB⟩⟩
 clear HC4
 obtain ⟨kq, x17_3, rfl, HA, HJ3, HO_0, BK570, HK, HB⟩ := hcut
 cases kq with
 | zero => exact absurd HA.out (by simp [spec_bareTo.j0])
 | succ kj3 =>
  have H := HA.out
  clear HA
  simp only [spec_bareTo.j0] at H
  by_cases c9 : x17_3 = true
  ·
   subst c9
   have H1 : (if 0 ≤ a2_1 then (if a2_1 ≤ a2_2 then (if a2_2 ≤ (a1.size : Int) then (if l0.length + (a1.extract (a2_1 : Int).toNat (a2_2 : Int).toNat).size < 140737488355328 then (some (l0 ++ bytesOf (a1.extract (a2_1 : Int).toNat (a2_2 : Int).toNat))) else (none)) else (none)) else (none)) else (none)) = some r := by rw [if_pos rfl] at H; exact H
   clear H
   have H := H1
   clear H1
   by_cases c10 : 0 ≤ a2_1
   rotate_left
   ·
    rw [if_neg c10] at H
    exact absurd H (by simp)
   rw [if_pos c10] at H
   have c10b0 := eq_true c10
   have c10b1 : decide (0 ≤ a2_1) = true := decide_eq_true c10
   clear c10
   by_cases c11 : a2_1 ≤ a2_2
   rotate_left
   ·
    rw [if_neg c11] at H
    exact absurd H (by simp)
   rw [if_pos c11] at H
   have c11b0 := eq_true c11
   have c11b1 : decide (a2_1 ≤ a2_2) = true := decide_eq_true c11
   clear c11
   by_cases c12 : a2_2 ≤ (a1.size : Int)
   rotate_left
   ·
    rw [if_neg c12] at H
    exact absurd H (by simp)
   rw [if_pos c12] at H
   have c12b0 := eq_true c12
   have c12b1 : decide (a2_2 ≤ (a1.size : Int)) = true := decide_eq_true c12
   clear c12
   by_cases c13 : l0.length + (a1.extract (a2_1 : Int).toNat (a2_2 : Int).toNat).size < 140737488355328
   rotate_left
   ·
    rw [if_neg c13] at H
    exact absurd H (by simp)
   rw [if_pos c13] at H
   have LMc13 := a_ c13
   clear c13
   obtain ⟨y571, hy571⟩ : ∃ y_ : List Int, y_ = (l0 ++ bytesOf (a1.extract (a2_1 : Int).toNat (a2_2 : Int).toNat)) := ⟨_, rfl⟩
   replace H : (some y571) = some r := by first | exact lt_ H hy571 | (rw [hy571]; exact H) | exact H
   have Ny571 := a_ hy571
   clear hy571
   obtain rfl := Option.some.inj H
   have hcz14_0 := bc_ BK570 0 (.int .i64 a2_0)
   have hcz14_1 := bc_ BK570 1 (.int .i64 a2_1)
   have hcz14_2 := bc_ BK570 2 (.int .i64 a2_2)
   have hcz14_3 := bc_ BK570 3 (.slice A2_3 l2_3.length c2_3)
   have hcz14_4 := bc_ BK570 4 (.slice A2_4 l2_4.length c2_4)
   have hfz14_0 := blk_frozen BK570.out 0
   have hfz14_1 := blk_frozen BK570.out 1
   have hfz14_2 := blk_frozen BK570.out 2
   have hfz14_3 := blk_frozen BK570.out 3
   have hfz14_4 := blk_frozen BK570.out 4
   go_wp2_with (first | (at_builtin; refine Kd.R_append_str (w0 := w0) w0.heap.size rfl (.tmp 18) _ 32 9 5 rfl Try.underlying32 Try.underlying9 info5 u9000_ l0 (a1.extract (a2_1 : Int).toNat (a2_2 : Int).toNat) (fun k_ => (P0_ k_ ∨ w.heap.size ≤ k_)) rfl rfl ?aF ?aO ?aB ?aS ?aL ?_; (case aB => exact (bl_ HB)); (case aF => exact (fun k_ hk => (.inr (Nat.le_trans (kz_ HK) hk)))); (case aO => exact (rp_ HO_0)); (case aS => exact (below_size (bl_ HB))); (case aL => have := LMc13.out; omega); intro v572 w15 ho hb hg hat; rw [← Ny571.out] at ho; have n0_ := a_ (blk_grown (g := gb570) (o := .cells #[.int .i64 a2_0, .int .i64 a2_1, .int .i64 a2_2, .slice A2_3 l2_3.length c2_3, .slice A2_4 l2_4.length c2_4] 25 (0, 0)) (bk_ BK570) hg (Kd.R_ne HO_0.out BK570.out (by decide))); have n1_ := a_ (hb); have n2_ := a_ (Kept.of_grown (S := (fun k_ => P0_ k_)) hg (kp_ HK) (fun k_ e_ => (HO_0.out.1 k_ e_))); have n3_ := a_ (ho); clear BK570 HB HK HO_0; have BK570 := n0_; have HB := n1_; have HK := n2_; have HO573 := n3_; clear n0_ n1_ n2_ n3_ ho hb hg hat))
   go_ret
   exact ⟨_, by first | rfl | (simp [errW_none, errW_some] <;> rfl) | (simp [*, errW_none, errW_some] <;> rfl), rp_ HO573, bl_ HB, kp_ HK⟩
  replace c9 := Bool.eq_false_iff.mpr c9
  subst c9
  have H1 : (if a2_0 = 6 then (spec_bareTo.j1 kj3 l0 a1 123 125 a2_0 a2_1 a2_2 l2_3 l2_4) else (spec_bareTo.j1 kj3 l0 a1 91 93 a2_0 a2_1 a2_2 l2_3 l2_4)) = some r := by rw [if_neg (show ¬ (false = true) by decide)] at H; exact H
  clear H
  have H := H1
  clear H1
  have HC16 := a_ H
  clear H
  have hcz17_0 := bc_ BK570 0 (.int .i64 a2_0)
  have hcz17_1 := bc_ BK570 1 (.int .i64 a2_1)
  have hcz17_2 := bc_ BK570 2 (.int .i64 a2_2)
  have hcz17_3 := bc_ BK570 3 (.slice A2_3 l2_3.length c2_3)
  have hcz17_4 := bc_ BK570 4 (.slice A2_4 l2_4.length c2_4)
  have hfz17_0 := blk_frozen BK570.out 0
  have hfz17_1 := blk_frozen BK570.out 1
  have hfz17_2 := blk_frozen BK570.out 2
  have hfz17_3 := blk_frozen BK570.out 3
  have hfz17_4 := blk_frozen BK570.out 4
  go_upto_if 28 with (fail)
  go_cut [7, 8] (fun v7 v8 wc => ∃ (kq : Nat) (x7_15 : Int) (x8_15 : Int), v7 = .int .u8 x7_15 ∧ v8 = .int .u8 x8_15 ∧ Aside0 (spec_bareTo.j1 kq l0 a1 x7_15 x8_15 a2_0 a2_1 a2_2 l2_3 l2_4 = some r) ∧ Aside0 (kq ≤ kj3) ∧ Aside0 (Kd.R (Kd.int .u8) 5 wc w0.heap.size (fun k_ => (P0_ k_ ∨ w.heap.size ≤ k_)) u9000_ l0) ∧ Aside0 (wc.heap[gb570]? = some (.cells #[.int .i64 a2_0, .int .i64 a2_1, .int .i64 a2_2, (.slice A2_3 l2_3.length c2_3), (.slice A2_4 l2_4.length c2_4)] 25 (0, 0))) ∧ Aside0 (Kept w wc (fun k_ => P0_ k_)) ∧ Aside0 (Below w0.heap.size w0 wc))
  case first =>
   have H := HC16.out
   clear HC16
   by_cases c18 : a2_0 = 6
   rotate_left
   ·
    rw [if_neg c18] at H
    have c18b0 : (a2_0 == 6) = false := beq_eq_false_iff_ne.mpr c18
    have c18b1 : (a2_0 != 6) = true := bne_iff_ne.mpr c18
    (first | rw [c18b0] | (simp only [i64_w, i32_w]; rw [c18b0]) | skip)
    have H' := a_ H
    clear H
    go_wp2
    go_meet
    case rel => exact ⟨_, (91), (93), rl_, rl_, H', ⟨by have := HJ3.out; first | omega | exact Nat.le_refl _⟩, ⟨rp_ HO_0⟩, ⟨bk_ BK570⟩, ⟨kp_ HK⟩, ⟨bl_ HB⟩⟩
   rw [if_pos c18] at H
   have c18b0 : (a2_0 == 6) = true := beq_iff_eq.mpr c18
   have c18b1 : (a2_0 != 6) = false := bne_eq_false_iff_eq.mpr c18
   clear c18
   (first | rw [c18b0] | (simp only [i64_w, i32_w]; rw [c18b0]) | skip)
   have H' := a_ H
   clear H
   go_wp2
   go_meet
   case rel => exact ⟨_, (123), (125), rl_, rl_, H', ⟨by have := HJ3.out; first | omega | exact Nat.le_refl _⟩, ⟨rp_ HO_0⟩, ⟨bk_ BK570⟩, ⟨kp_ HK⟩, ⟨bl_ HB⟩⟩
  clear HC16
  clear hcz17_0 hcz17_1 hcz17_2 hcz17_3 hcz17_4 hfz17_0 hfz17_1 hfz17_2 hfz17_3 hfz17_4
  obtain ⟨kq, x7_15, x8_15, rfl, rfl, HA, HJ15, HO_0, BK570, HK, HB⟩ := hcut
  cases kq with
  | zero => exact absurd HA.out (by simp [spec_bareTo.j1])
  | succ kj15 =>
   have H := HA.out
   clear HA
   simp only [spec_bareTo.j1] at H
   by_cases c19 : l0.length < 140737488355328
   rotate_left
   ·
    rw [if_neg c19] at H
    exact absurd H (by simp)
   rw [if_pos c19] at H
   have LMc19 := a_ c19
   clear c19
   obtain ⟨y574, hy574⟩ : ∃ y_ : List Int, y_ = (l0 ++ [x7_15]) := ⟨_, rfl⟩
   replace H : (spec_bareTo.l0 kj15 y574 a1 x8_15 (l2_4.length : Int) 0 a2_0 a2_1 a2_2 l2_3 l2_4) = some r := by first | exact lt_ H hy574 | (rw [hy574]; exact H) | exact H
   have Ny574 := a_ hy574
   clear hy574
   have H' := a_ H
   clear H
   go_wp2_with (first | ((with_reducible refine gate_builtin (b := .append) (xs := #[.tmp 29, .tmp 31]) rfl ?_); at_builtin; refine Kd.R_append (Kd.int .u8) (w0 := w0) w0.heap.size rfl (.tmp 29) (.tmp 31) 32 5 (.int .u8 0) 1 rfl Try.underlying32 info5 rfl (by decide) (by omega) u9000_ l0 x7_15 [.int .u8 x7_15] (fun k_ => (P0_ k_ ∨ w.heap.size ≤ k_)) (fun _ => False) rfl rfl ?aP (fun _ hk => hk.elim) ?aF ?aO ?aB ?aS ?aL ?_; (case aP => exact rfl); (case aB => exact (bl_ HB)); (case aF => exact (fun k_ hk => (.inr (Nat.le_trans (kz_ HK) hk)))); (case aO => exact (rp_ HO_0)); (case aS => exact (below_size (bl_ HB))); (case aL => have := LMc19.out; omega); intro v575 w20 ho hb hg hat; rw [← Ny574.out] at ho; have n0_ := a_ (blk_grown (g := gb570) (o := .cells #[.int .i64 a2_0, .int .i64 a2_1, .int .i64 a2_2, .slice A2_3 l2_3.length c2_3, .slice A2_4 l2_4.length c2_4] 25 (0, 0)) (bk_ BK570) hg (Kd.R_ne HO_0.out BK570.out (by decide))); have n1_ := a_ (hb); have n2_ := a_ (Kept.of_grown (S := (fun k_ => P0_ k_)) hg (kp_ HK) (fun k_ e_ => (HO_0.out.1 k_ e_))); have n3_ := a_ (ho); clear BK570 HB HK HO_0; have BK570 := n0_; have HB := n1_; have HK := n2_; have HO576 := n3_; clear n0_ n1_ n2_ n3_ ho hb hg hat; have hcz21_0 := bc_ BK570 0 (.int .i64 a2_0); have hcz21_1 := bc_ BK570 1 (.int .i64 a2_1); have hcz21_2 := bc_ BK570 2 (.int .i64 a2_2); have hcz21_3 := bc_ BK570 3 (.slice A2_3 l2_3.length c2_3); have hcz21_4 := bc_ BK570 4 (.slice A2_4 l2_4.length c2_4); have hfz21_0 := blk_frozen BK570.out 0; have hfz21_1 := blk_frozen BK570.out 1; have hfz21_2 := blk_frozen BK570.out 2; have hfz21_3 := blk_frozen BK570.out 3; have hfz21_4 := blk_frozen BK570.out 4))
   (try simp only [Act.put, List.setIfInBounds_toArray, List.set_cons_zero, List.set_cons_succ])
   go_loopg [0, 36] kj15 (fun kq v0 v36 w' => ∃ (x0_3 : List Int) (x36_3 : Int), v36 = .int .i64 x36_3 ∧ Aside0 (spec_bareTo.l0 kq x0_3 a1 x8_15 (l2_4.length : Int) x36_3 a2_0 a2_1 a2_2 l2_3 l2_4 = some r) ∧ Aside0 (kq ≤ kj15) ∧ Aside0 (Kd.R (Kd.int .u8) 5 w' w0.heap.size (fun k_ => (P0_ k_ ∨ w.heap.size ≤ k_)) v0 x0_3) ∧ Aside0 (w'.heap[gb570]? = some (.cells #[.int .i64 a2_0, .int .i64 a2_1, .int .i64 a2_2, (.slice A2_3 l2_3.length c2_3), (.slice A2_4 l2_4.length c2_4)] 25 (0, 0))) ∧ Aside0 (Kept w w' (fun k_ => P0_ k_)) ∧ Aside0 (Below w0.heap.size w0 w'))
   case atStart => exact ⟨(y574), (0), rl_, H', ⟨Nat.le_refl _⟩, ⟨rp_ HO576⟩, ⟨bk_ BK570⟩, ⟨kp_ HK⟩, ⟨bl_ HB⟩⟩
   case round =>
    clear H'
    clear hcz21_0 hcz21_1 hcz21_2 hcz21_3 hcz21_4 hfz21_0 hfz21_1 hfz21_2 hfz21_3 hfz21_4
    obtain ⟨x0_3, x36_3, rfl, HA, HK3, HO_0, BK570, HK, HB⟩ := hrel
    cases gk with
    | zero => exact absurd HA.out (by simp [spec_bareTo.l0])
    | succ k3 =>
     have H := HA.out
     clear HA
     simp only [spec_bareTo.l0] at H
     by_cases c22 : x36_3 < (l2_4.length : Int)
     rotate_left
     ·
      rw [if_neg c22] at H
      have c22b0 : decide (x36_3 < (l2_4.length : Int)) = false := decide_eq_false c22
      clear c22
      by_cases c73 : x0_3.length < 140737488355328
      rotate_left
      ·
       rw [if_neg c73] at H
       exact absurd H (by simp)
      rw [if_pos c73] at H
      have LMc73 := a_ c73
      clear c73
      obtain ⟨y577, hy577⟩ : ∃ y_ : List Int, y_ = (x0_3 ++ [x8_15]) := ⟨_, rfl⟩
      replace H : (some y577) = some r := by first | exact lt_ H hy577 | (rw [hy577]; exact H) | exact H
      have Ny577 := a_ hy577
      clear hy577
      obtain rfl := Option.some.inj H
      go_wp2_with (first | ((with_reducible refine gate_builtin (b := .append) (xs := #[.tmp 75, .tmp 77]) rfl ?_); at_builtin; refine Kd.R_append (Kd.int .u8) (w0 := w0) w0.heap.size rfl (.tmp 75) (.tmp 77) 32 5 (.int .u8 0) 1 rfl Try.underlying32 info5 rfl (by decide) (by omega) u0 x0_3 x8_15 [.int .u8 x8_15] (fun k_ => (P0_ k_ ∨ w.heap.size ≤ k_)) (fun _ => False) rfl rfl ?aP (fun _ hk => hk.elim) ?aF ?aO ?aB ?aS ?aL ?_; (case aP => exact rfl); (case aB => exact (bl_ HB)); (case aF => exact (fun k_ hk => (.inr (Nat.le_trans (kz_ HK) hk)))); (case aO => exact (rp_ HO_0)); (case aS => exact (below_size (bl_ HB))); (case aL => have := LMc73.out; omega); intro v578 w74 ho hb hg hat; rw [← Ny577.out] at ho; have n0_ := a_ (blk_grown (g := gb570) (o := .cells #[.int .i64 a2_0, .int .i64 a2_1, .int .i64 a2_2, .slice A2_3 l2_3.length c2_3, .slice A2_4 l2_4.length c2_4] 25 (0, 0)) (bk_ BK570) hg (Kd.R_ne HO_0.out BK570.out (by decide))); have n1_ := a_ (hb); have n2_ := a_ (Kept.of_grown (S := (fun k_ => P0_ k_)) hg (kp_ HK) (fun k_ e_ => (HO_0.out.1 k_ e_))); have n3_ := a_ (ho); clear BK570 HB HK HO_0; have BK570 := n0_; have HB := n1_; have HK := n2_; have HO579 := n3_; clear n0_ n1_ n2_ n3_ ho hb hg hat))
      go_ret
      exact ⟨_, by first | rfl | (simp [errW_none, errW_some] <;> rfl) | (simp [*, errW_none, errW_some] <;> rfl), rp_ HO579, bl_ HB, kp_ HK⟩
     rw [if_pos c22] at H
     have c22b0 : decide (x36_3 < (l2_4.length : Int)) = true := decide_eq_true c22
     clear c22
     by_cases c23 : x36_3 > 0
     rotate_left
     ·
      rw [if_neg c23] at H
      have c23b0 : decide (0 < x36_3) = false := decide_eq_false c23
      clear c23
      by_cases c50 : a2_0 = 6
      rotate_left
      ·
       rw [if_neg c50] at H
       have c50b0 : (a2_0 == 6) = false := beq_eq_false_iff_ne.mpr c50
       have c50b1 : (a2_0 != 6) = true := bne_iff_ne.mpr c50
       by_cases c67 : 0 ≤ x36_3
       rotate_left
       ·
        rw [if_neg c67] at H
        exact absurd H (by simp)
       rw [if_pos c67] at H
       have c67b0 : decide (0 ≤ x36_3) = true := decide_eq_true c67
       clear c67
       by_cases c68 : x36_3 < (l2_4.length : Int)
       rotate_left
       ·
        rw [if_neg c68] at H
        exact absurd H (by simp)
       rw [if_pos c68] at H
       have c68b0 : decide (x36_3 < (l2_4.length : Int)) = true := decide_eq_true c68
       clear c68
       replace H := Option.bind_eq_some_iff.mp H
       obtain ⟨t612, A690, H⟩ := H
       replace H : (spec_bareTo.l0 k3 t612 a1 x8_15 (l2_4.length : Int) (wrap64 (x36_3 + 1)) a2_0 a2_1 a2_2 l2_3 l2_4) = some r := H
       have A69 := a_ A690
       clear A690
       have H' := a_ H
       clear H
       have hcz70_0 := bc_ BK570 0 (.int .i64 a2_0)
       have hcz70_1 := bc_ BK570 1 (.int .i64 a2_1)
       have hcz70_2 := bc_ BK570 2 (.int .i64 a2_2)
       have hcz70_3 := bc_ BK570 3 (.slice A2_3 l2_3.length c2_3)
       have hcz70_4 := bc_ BK570 4 (.slice A2_4 l2_4.length c2_4)
       have hfz70_0 := blk_frozen BK570.out 0
       have hfz70_1 := blk_frozen BK570.out 1
       have hfz70_2 := blk_frozen BK570.out 2
       have hfz70_3 := blk_frozen BK570.out 3
       have hfz70_4 := blk_frozen BK570.out 4
       have p611 : 0 ≤ (x36_3 : Int) := of_decide_eq_true as_
       have q611 : x36_3 < (l2_4.length : Int) := of_decide_eq_true as_
       obtain ⟨ad611, A611_3, c611_3, A611_4, c611_4, e611, hx611_0, hx611_1, hx611_2, hx611_3, hx611_4, hl611_3, hi611_3, hl611_4, hi611_4⟩ := at_T25_w0 HR2_4.out HB.out x36_3 p611 q611
       cases e611
       have HR611_3 := a_ hi611_3
       have HC611_3 := a_ hl611_3
       clear hi611_3 hl611_3
       have HR611_4 := a_ hi611_4
       have HC611_4 := a_ hl611_4
       clear hi611_4 hl611_4
       replace p611 := eq_true p611
       replace q611 := eq_true q611
       obtain ⟨Ao71, co71, eo71⟩ := Kd.R_slice HO_0.out
       subst eo71
       go_wp2_with (first | ((with_reducible refine gate_callee (f := 14) rfl ?_); refine goesL_ (some 73) rfl rfl Try.func14 (by kernel_rfl) rfl #[.slice Ao71 x0_3.length co71, .string a1, .agg #[.int .i64 ((rd_T25 l2_4 x36_3).f0), .int .i64 ((rd_T25 l2_4 x36_3).f1), .int .i64 ((rd_T25 l2_4 x36_3).f2), .slice A611_3 ((rd_T25 l2_4 x36_3).f3).length c611_3, .slice A611_4 ((rd_T25 l2_4 x36_3).f4).length c611_4]] rfl ar_ ?_; (with_reducible refine (ih k3 (by have := HJ3.out; have := HJ15.out; have := HK3.out; omega) (fun k_ => some k_ = (.slice Ao71 x0_3.length co71 : Value).ownBlock) (.slice Ao71 x0_3.length co71) x0_3 a1 ((rd_T25 l2_4 x36_3).f0) ((rd_T25 l2_4 x36_3).f1) ((rd_T25 l2_4 x36_3).f2) _ _ ((rd_T25 l2_4 x36_3).f3) _ _ ((rd_T25 l2_4 x36_3).f4) t612 w0 _ ?side1 ?side2 ?side3 ?side4 ?side5 ?side6 A69.out).mono ?_); (case side1 => exact bl_ HB); (case side2 => exact Kd.R_tight rfl HO_0.out); (case side3 => exact HR611_3.out); (case side4 => exact HC611_3.out); (case side5 => exact HR611_4.out); (case side6 => exact HC611_4.out); rintro e w72 ⟨v613, rfl, ho0, hb, hkp⟩; refine ⟨_, rfl, ?_⟩; have n0_ := a_ (blk_kept (bk_ BK570) hkp (fun hs_ => (fun e_ => (Kd.R_ne HO_0.out BK570.out (by decide)) e_) hs_)); have n1_ := a_ (Kd.R_mono (ok' := fun k_ => (P0_ k_ ∨ w.heap.size ≤ k_)) ho0 (fun k_ hk_ => Or.elim hk_ (fun hs_ => (HO_0.out.1 k_ (hs_).symm)) (fun hn_ => (.inr (Nat.le_trans (kz_ HK) hn_))))); have n2_ := a_ (Kept.then_ (S := (fun k_ => P0_ k_)) (kp_ HK) hkp (fun k_ hs_ => (fun e_ => (HO_0.out.1 k_ e_.symm)) hs_)); have n3_ := a_ (hb); clear BK570 HK HB HO_0; have BK570 := n0_; have HO614 := n1_; have HK := n2_; have HB := n3_; clear n0_ n1_ n2_ n3_ hb hkp ho0))
       go_roundg k3
       case measure => have := HJ3.out; have := HJ15.out; have := HK3.out; omega
       case rel => exact ⟨(t612), (wrap64 (x36_3 + 1)), rl_, H', ⟨by have := HJ3.out; have := HJ15.out; have := HK3.out; omega⟩, ⟨rp_ HO614⟩, ⟨bk_ BK570⟩, ⟨kp_ HK⟩, ⟨bl_ HB⟩⟩
      rw [if_pos c50] at H
      have c50b0 : (a2_0 == 6) = true := beq_iff_eq.mpr c50
      have c50b1 : (a2_0 != 6) = false := bne_eq_false_iff_eq.mpr c50
      clear c50
      by_cases c51 : 0 ≤ x36_3
      rotate_left
      ·
       rw [if_neg c51] at H
       exact absurd H (by simp)
      rw [if_pos c51] at H
      have c51b0 : decide (0 ≤ x36_3) = true := decide_eq_true c51
      clear c51
      by_cases c52 : x36_3 < (l2_3.length : Int)
      rotate_left
      ·
       rw [if_neg c52] at H
       exact absurd H (by simp)
      rw [if_pos c52] at H
      have c52b0 : decide (x36_3 < (l2_3.length : Int)) = true := decide_eq_true c52
      clear c52
      by_cases c53 : 0 ≤ ((rd_T41 l2_3 x36_3).f0)
      rotate_left
      ·
       rw [if_neg c53] at H
       exact absurd H (by simp)
      rw [if_pos c53] at H
      have c53b0 := eq_true c53
      have c53b1 : decide (0 ≤ ((rd_T41 l2_3 x36_3).f0)) = true := decide_eq_true c53
      clear c53
      by_cases c54 : ((rd_T41 l2_3 x36_3).f0) ≤ ((rd_T41 l2_3 x36_3).f1)
      rotate_left
      ·
       rw [if_neg c54] at H
       exact absurd H (by simp)
      rw [if_pos c54] at H
      have c54b0 := eq_true c54
      have c54b1 : decide (((rd_T41 l2_3 x36_3).f0) ≤ ((rd_T41 l2_3 x36_3).f1)) = true := decide_eq_true c54
      clear c54
      by_cases c55 : ((rd_T41 l2_3 x36_3).f1) ≤ (a1.size : Int)
      rotate_left
      ·
       rw [if_neg c55] at H
       exact absurd H (by simp)
      rw [if_pos c55] at H
      have c55b0 := eq_true c55
      have c55b1 : decide (((rd_T41 l2_3 x36_3).f1) ≤ (a1.size : Int)) = true := decide_eq_true c55
      clear c55
      by_cases c56 : x0_3.length + (a1.extract (((rd_T41 l2_3 x36_3).f0) : Int).toNat (((rd_T41 l2_3 x36_3).f1) : Int).toNat).size < 140737488355328
      rotate_left
      ·
       rw [if_neg c56] at H
       exact absurd H (by simp)
      rw [if_pos c56] at H
      have LMc56 := a_ c56
      clear c56
      obtain ⟨y601, hy601⟩ : ∃ y_ : List Int, y_ = (x0_3 ++ bytesOf (a1.extract (((rd_T41 l2_3 x36_3).f0) : Int).toNat (((rd_T41 l2_3 x36_3).f1) : Int).toNat)) := ⟨_, rfl⟩
      replace H := lt_ H hy601
      have Ny601 := a_ hy601
      clear hy601
      by_cases c57 : y601.length < 140737488355328
      rotate_left
      ·
       rw [if_neg c57] at H
       exact absurd H (by simp)
      rw [if_pos c57] at H
      have LMc57 := a_ c57
      clear c57
      obtain ⟨y604, hy604⟩ : ∃ y_ : List Int, y_ = (y601 ++ [58]) := ⟨_, rfl⟩
      replace H : (if x36_3 < (l2_4.length : Int) then ((spec_bareTo.f k3 y604 a1 ((rd_T25 l2_4 x36_3).f0) ((rd_T25 l2_4 x36_3).f1) ((rd_T25 l2_4 x36_3).f2) ((rd_T25 l2_4 x36_3).f3) ((rd_T25 l2_4 x36_3).f4)).bind fun t608 => (spec_bareTo.l0 k3 t608 a1 x8_15 (l2_4.length : Int) (wrap64 (x36_3 + 1)) a2_0 a2_1 a2_2 l2_3 l2_4)) else (none)) = some r := by first | exact lt_ H hy604 | (rw [hy604]; exact H) | exact H
      have Ny604 := a_ hy604
      clear hy604
      by_cases c58 : x36_3 < (l2_4.length : Int)
      rotate_left
      ·
       rw [if_neg c58] at H
       exact absurd H (by simp)
      rw [if_pos c58] at H
      have c58b0 : decide (x36_3 < (l2_4.length : Int)) = true := decide_eq_true c58
      clear c58
      replace H := Option.bind_eq_some_iff.mp H
      obtain ⟨t608, A590, H⟩ := H
      replace H : (spec_bareTo.l0 k3 t608 a1 x8_15 (l2_4.length : Int) (wrap64 (x36_3 + 1)) a2_0 a2_1 a2_2 l2_3 l2_4) = some r := H
      have A59 := a_ A590
      clear A590
      have H' := a_ H
      clear H
      have hcz60_0 := bc_ BK570 0 (.int .i64 a2_0)
      have hcz60_1 := bc_ BK570 1 (.int .i64 a2_1)
      have hcz60_2 := bc_ BK570 2 (.int .i64 a2_2)
      have hcz60_3 := bc_ BK570 3 (.slice A2_3 l2_3.length c2_3)
      have hcz60_4 := bc_ BK570 4 (.slice A2_4 l2_4.length c2_4)
      have hfz60_0 := blk_frozen BK570.out 0
      have hfz60_1 := blk_frozen BK570.out 1
      have hfz60_2 := blk_frozen BK570.out 2
      have hfz60_3 := blk_frozen BK570.out 3
      have hfz60_4 := blk_frozen BK570.out 4
      try go_wp2
      have n0_ := a_ (Kd.R_drew HO_0.out)
      have n1_ := a_ (blk_drew BK570.out)
      have n2_ := a_ (Kept.drew HK.out)
      have n3_ := a_ (below_drew1 HB.out)
      clear HO_0
      clear BK570
      clear HK
      clear HB
      have HO_0 := n0_
      have BK570 := n1_
      have HK := n2_
      have HB := n3_
      clear n0_ n1_ n2_ n3_
      have p599 : 0 ≤ (x36_3 : Int) := of_decide_eq_true as_
      have q599 : x36_3 < (l2_3.length : Int) := of_decide_eq_true as_
      obtain ⟨ad599, e599, hx599_0, hx599_1⟩ := at_T41_w0 HR2_3.out HB.out x36_3 p599 q599
      have hw599_1 := hx599_1
      have hw599_0 := hx599_0
      cases e599
      replace p599 := eq_true p599
      replace q599 := eq_true q599
      have p600 : 0 ≤ (x36_3 : Int) := of_decide_eq_true as_
      have q600 : x36_3 < (l2_3.length : Int) := of_decide_eq_true as_
      obtain ⟨ad600, e600, hx600_0, hx600_1⟩ := at_T41_w0 HR2_3.out HB.out x36_3 p600 q600
      have hw600_1 := hx600_1
      have hw600_0 := hx600_0
      obtain rfl : ad599 = ad600 := (by injection e600)
      replace p600 := eq_true p600
      replace q600 := eq_true q600
      refine start_ (n := 17) (S := fun w' => w'.cell? ⟨gb570, 0, none⟩ = some (.int .i64 a2_0) ∧ w'.cell? ⟨gb570, 1, none⟩ = some (.int .i64 a2_1) ∧ w'.cell? ⟨gb570, 2, none⟩ = some (.int .i64 a2_2) ∧ w'.cell? ⟨gb570, 3, none⟩ = some (.slice (some ad599) l2_3.length c2_3) ∧ w'.cell? ⟨gb570, 4, none⟩ = some (.slice A2_4 l2_4.length c2_4) ∧ w'.cell? (ad599.add ((x36_3).toNat * 2)) = some (.int .i64 ((rd_T41 l2_3 x36_3).f0)) ∧ w'.cell? ⟨(ad599.add ((x36_3).toNat * 2)).block, (ad599.add ((x36_3).toNat * 2)).off + 1, none⟩ = some (.int .i64 ((rd_T41 l2_3 x36_3).f1)) ∧ w'.cell? (ad599.add ((x36_3).toNat * 2)) = some (.int .i64 ((rd_T41 l2_3 x36_3).f0)) ∧ w'.cell? ⟨(ad599.add ((x36_3).toNat * 2)).block, (ad599.add ((x36_3).toNat * 2)).off + 1, none⟩ = some (.int .i64 ((rd_T41 l2_3 x36_3).f1))) (ds := [15]) #[false, false, false, false, false, false, false, false, false, false, false, false, false, false, false, false, false] (by kernel_rfl) rfl rfl ⟨(blk_cell BK570.out 0).trans rfl, (blk_cell BK570.out 1).trans rfl, (blk_cell BK570.out 2).trans rfl, (blk_cell BK570.out 3).trans rfl, (blk_cell BK570.out 4).trans rfl, hx599_0, hx599_1, hx600_0, hx600_1⟩ (fun hHeld => ?_); refine with_tabW spec_bareTo.tab13 spec_bareTo.bits13 (fun HT_ HW_ => ?_)
      generalize wr.drew = w61 at HO_0 BK570 HK HB hx599_0 hx599_1 hx600_0 hx600_1 hHeld ⊢
      refine pure_ (i := 0) (N := some 47) (v := ?_) (a' := ?_) #[true, false, false, false, false, false, false, false, false, false, false, false, false, false, false, false, false] rfl rfl (any_of HT_.out (by kernel_rfl)) (fun _ _ _ h => h) (Or.inl ⟨by rfl, ?_⟩) ?_ ?_
      rotate_left
      ·
       intro w'
       go_simp
       with_reducible rfl
      rotate_left
      ·
       simp only [Act.put, List.setIfInBounds_toArray, List.set_cons_zero, List.set_cons_succ, i64_w, i32_w]
       rfl
      refine pure_ (i := 1) (N := some 48) (v := ?_) (a' := ?_) #[true, true, false, false, false, false, false, false, false, false, false, false, false, false, false, false, false] rfl rfl (any_of HT_.out (by kernel_rfl)) (fun _ _ _ h => h) (Or.inl ⟨by rfl, ?_⟩) ?_ ?_
      rotate_left
      ·
       intro w'
       go_simp
       with_reducible rfl
      rotate_left
      ·
       simp only [Act.put, List.setIfInBounds_toArray, List.set_cons_zero, List.set_cons_succ, i64_w, i32_w]
       rfl
      refine pure_ (i := 2) (N := some 49) (v := ?_) (a' := ?_) #[true, true, true, false, false, false, false, false, false, false, false, false, false, false, false, false, false] rfl rfl (any_of HT_.out (by kernel_rfl)) (fun _ _ _ h => h) (Or.inl ⟨by rfl, ?_⟩) ?_ ?_
      rotate_left
      ·
       intro w'
       go_simp
       with_reducible rfl
      rotate_left
      ·
       simp only [Act.put, List.setIfInBounds_toArray, List.set_cons_zero, List.set_cons_succ, i64_w, i32_w]
       rfl
      refine pure_ (i := 4) (N := some 51) (v := ?_) (a' := ?_) #[true, true, true, false, true, false, false, false, false, false, false, false, false, false, false, false, false] rfl rfl (any_of HT_.out (by kernel_rfl)) (fun _ _ _ h => h) (Or.inl ⟨by rfl, ?_⟩) ?_ ?_
      rotate_left
      ·
       intro w'
       go_simp
       with_reducible rfl
      rotate_left
      ·
       simp only [Act.put, List.setIfInBounds_toArray, List.set_cons_zero, List.set_cons_succ, i64_w, i32_w]
       rfl
      refine pure_ (i := 8) (N := some 55) (v := ?_) (a' := ?_) #[true, true, true, false, true, false, false, false, true, false, false, false, false, false, false, false, false] rfl rfl (any_of HT_.out (by kernel_rfl)) (fun _ _ _ h => h) (Or.inl ⟨by rfl, ?_⟩) ?_ ?_
      rotate_left
      ·
       intro w'
       go_simp
       with_reducible rfl
      rotate_left
      ·
       simp only [Act.put, List.setIfInBounds_toArray, List.set_cons_zero, List.set_cons_succ, i64_w, i32_w]
       rfl
      refine pure_ (i := 10) (N := some 57) (v := ?_) (a' := ?_) #[true, true, true, false, true, false, false, false, true, false, true, false, false, false, false, false, false] rfl rfl (any_of HT_.out (by kernel_rfl)) (fun _ _ _ h => h) (Or.inl ⟨by rfl, ?_⟩) ?_ ?_
      rotate_left
      ·
       intro w'
       go_simp
       with_reducible rfl
      rotate_left
      ·
       simp only [Act.put, List.setIfInBounds_toArray, List.set_cons_zero, List.set_cons_succ, i64_w, i32_w]
       rfl
      refine take_ (i := 3) (N := some 50) (v := ?_) (a' := ?_) #[true, true, true, true, true, false, false, false, true, false, true, false, false, false, false, false, false] rfl rfl (take_ofW HT_.out HW_.out (by kernel_rfl)) (fun _ _ _ h => h) (Or.inl ⟨by rfl, ?_⟩) hHeld ?_ ?_
      rotate_left
      ·
       rintro w' ⟨s0, s1, s2, s3, s4, s5, s6, s7, s8⟩
       go_simp
       with_reducible rfl
      rotate_left
      ·
       simp only [Act.put, List.setIfInBounds_toArray, List.set_cons_zero, List.set_cons_succ, i64_w, i32_w]
       rfl
      refine pure_ (i := 5) (N := some 52) (v := ?_) (a' := ?_) #[true, true, true, true, true, true, false, false, true, false, true, false, false, false, false, false, false] rfl rfl (any_of HT_.out (by kernel_rfl)) (fun _ _ _ h => h) (Or.inl ⟨by rfl, ?_⟩) ?_ ?_
      rotate_left
      ·
       intro w'
       go_simp
       with_reducible rfl
      rotate_left
      ·
       simp only [Act.put, List.setIfInBounds_toArray, List.set_cons_zero, List.set_cons_succ, i64_w, i32_w]
       rfl
      refine pure_ (i := 6) (N := some 53) (v := ?_) (a' := ?_) #[true, true, true, true, true, true, true, false, true, false, true, false, false, false, false, false, false] rfl rfl (any_of HT_.out (by kernel_rfl)) (fun _ _ _ h => h) (Or.inl ⟨by rfl, ?_⟩) ?_ ?_
      rotate_left
      ·
       intro w'
       go_simp
       with_reducible rfl
      rotate_left
      ·
       simp only [Act.put, List.setIfInBounds_toArray, List.set_cons_zero, List.set_cons_succ, i64_w, i32_w]
       rfl
      refine take_ (i := 7) (N := some 54) (v := ?_) (a' := ?_) #[true, true, true, true, true, true, true, true, true, false, true, false, false, false, false, false, false] rfl rfl (take_ofW HT_.out HW_.out (by kernel_rfl)) (fun _ _ _ h => h) (Or.inl ⟨by rfl, ?_⟩) hHeld ?_ ?_
      rotate_left
      ·
       rintro w' ⟨s0, s1, s2, s3, s4, s5, s6, s7, s8⟩
       go_simp
       with_reducible rfl
      rotate_left
      ·
       simp only [Act.put, List.setIfInBounds_toArray, List.set_cons_zero, List.set_cons_succ, i64_w, i32_w]
       rfl
      refine take_ (i := 9) (N := some 56) (v := ?_) (a' := ?_) #[true, true, true, true, true, true, true, true, true, true, true, false, false, false, false, false, false] rfl rfl (take_ofW HT_.out HW_.out (by kernel_rfl)) (fun _ _ _ h => h) (Or.inl ⟨by rfl, ?_⟩) hHeld ?_ ?_
      rotate_left
      ·
       rintro w' ⟨s0, s1, s2, s3, s4, s5, s6, s7, s8⟩
       go_simp
       with_reducible rfl
      rotate_left
      ·
       simp only [Act.put, List.setIfInBounds_toArray, List.set_cons_zero, List.set_cons_succ, i64_w, i32_w]
       rfl
      refine pure_ (i := 11) (N := some 58) (v := ?_) (a' := ?_) #[true, true, true, true, true, true, true, true, true, true, true, true, false, false, false, false, false] rfl rfl (any_of HT_.out (by kernel_rfl)) (fun _ _ _ h => h) (Or.inl ⟨by rfl, ?_⟩) ?_ ?_
      rotate_left
      ·
       intro w'
       go_simp
       with_reducible rfl
      rotate_left
      ·
       simp only [Act.put, List.setIfInBounds_toArray, List.set_cons_zero, List.set_cons_succ, i64_w, i32_w]
       rfl
      refine pure_ (i := 12) (N := some 59) (v := ?_) (a' := ?_) #[true, true, true, true, true, true, true, true, true, true, true, true, true, false, false, false, false] rfl rfl (any_of HT_.out (by kernel_rfl)) (fun _ _ _ h => h) (Or.inl ⟨by rfl, ?_⟩) ?_ ?_
      rotate_left
      ·
       intro w'
       go_simp
       with_reducible rfl
      rotate_left
      ·
       simp only [Act.put, List.setIfInBounds_toArray, List.set_cons_zero, List.set_cons_succ, i64_w, i32_w]
       rfl
      refine take_ (i := 13) (N := some 60) (v := ?_) (a' := ?_) #[true, true, true, true, true, true, true, true, true, true, true, true, true, true, false, false, false] rfl rfl (take_ofW HT_.out HW_.out (by kernel_rfl)) (fun _ _ _ h => h) (Or.inl ⟨by rfl, ?_⟩) hHeld ?_ ?_
      rotate_left
      ·
       rintro w' ⟨s0, s1, s2, s3, s4, s5, s6, s7, s8⟩
       go_simp
       with_reducible rfl
      rotate_left
      ·
       simp only [Act.put, List.setIfInBounds_toArray, List.set_cons_zero, List.set_cons_succ, i64_w, i32_w]
       rfl
      refine pure_ (i := 14) (N := some 61) (v := ?_) (a' := ?_) #[true, true, true, true, true, true, true, true, true, true, true, true, true, true, true, false, false] rfl rfl (any_of HT_.out (by kernel_rfl)) (fun _ _ _ h => h) (Or.inl ⟨by rfl, ?_⟩) ?_ ?_
      rotate_left
      ·
       intro w'
       go_simp
       with_reducible rfl
      rotate_left
      ·
       simp only [Act.put, List.setIfInBounds_toArray, List.set_cons_zero, List.set_cons_succ, i64_w, i32_w]
       rfl
      refine last_ (i := 15) (N := some 62) #[true, true, true, true, true, true, true, true, true, true, true, true, true, true, true, true, false] rfl rfl (one_of HT_.out (by kernel_rfl)) (by decide) (fun K hK => ?_)
      refine Kd.R_append_str_step (w0 := w0) w0.heap.size (by rfl) (.tmp 47) _ 32 9 5 rfl Try.underlying32 Try.underlying9 info5 u0 x0_3 (a1.extract (((rd_T41 l2_3 x36_3).f0) : Int).toNat (((rd_T41 l2_3 x36_3).f1) : Int).toNat) (fun k_ => (P0_ k_ ∨ w.heap.size ≤ k_)) rfl rfl ?aF ?aO ?aB ?aS ?aL ?_
      (case aB => exact (bl_ HB))
      (case aF => exact (fun k_ hk => (.inr (Nat.le_trans (kz_ HK) hk))))
      (case aO => exact (rp_ HO_0))
      (case aS => exact (below_size (bl_ HB)))
      (case aL => have := LMc56.out; omega)
      intro v602 w62 ho hb hg hat
      rw [← Ny601.out] at ho
      have n0_ := a_ (blk_grown (g := gb570) (o := .cells #[.int .i64 a2_0, .int .i64 a2_1, .int .i64 a2_2, .slice (some ad599) l2_3.length c2_3, .slice A2_4 l2_4.length c2_4] 25 (0, 0)) (bk_ BK570) hg (Kd.R_ne HO_0.out BK570.out (by decide)))
      have n1_ := a_ (hb)
      have n2_ := a_ (Kept.of_grown (S := (fun k_ => P0_ k_)) hg (kp_ HK) (fun k_ e_ => (HO_0.out.1 k_ e_)))
      have n3_ := a_ (ho)
      clear BK570
      clear HB
      clear HK
      clear HO_0
      have BK570 := n0_
      have HB := n1_
      have HK := n2_
      have HO603 := n3_
      clear n0_ n1_ n2_ n3_
      clear ho hb hg hat
      refine hK.out _ _ ?_
      clear hK K
      refine norm_ (a' := ?_) ?_ ?_
      rotate_left
      ·
       show Act.put _ (some 62) _ = _
       simp only [Act.put, List.setIfInBounds_toArray, List.set_cons_zero, List.set_cons_succ, i64_w, i32_w]
       rfl
      refine pure_ (i := 16) (N := some 0) (v := ?_) (a' := ?_) #[true, true, true, true, true, true, true, true, true, true, true, true, true, true, true, true, true] rfl rfl (any_of HT_.out (by kernel_rfl)) (fun _ _ _ h => h) (Or.inl ⟨by rfl, ?_⟩) ?_ ?_
      rotate_left
      ·
       intro w'
       go_simp
       with_reducible rfl
      rotate_left
      ·
       simp only [Act.put, List.setIfInBounds_toArray, List.set_cons_zero, List.set_cons_succ, i64_w, i32_w]
       rfl
      refine done_ (done_of HT_.out (by kernel_rfl)) ?_
      try go_wp2_with (first | ((with_reducible refine gate_builtin (b := .append) (xs := #[.tmp 63, .tmp 64]) rfl ?_); at_builtin; refine Kd.R_append (Kd.int .u8) (w0 := w0) w0.heap.size rfl (.tmp 63) (.tmp 64) 32 5 (.int .u8 0) 1 rfl Try.underlying32 info5 rfl (by decide) (by omega) v602 y601 58 [.int .u8 58] (fun k_ => (P0_ k_ ∨ w.heap.size ≤ k_)) (fun _ => False) rfl rfl ?aP (fun _ hk => hk.elim) ?aF ?aO ?aB ?aS ?aL ?_; (case aP => exact rfl); (case aB => exact (bl_ HB)); (case aF => exact (fun k_ hk => (.inr (Nat.le_trans (kz_ HK) hk)))); (case aO => exact (rp_ HO603)); (case aS => exact (below_size (bl_ HB))); (case aL => have := LMc57.out; omega); intro v605 w63 ho hb hg hat; rw [← Ny604.out] at ho; have n0_ := a_ (blk_grown (g := gb570) (o := .cells #[.int .i64 a2_0, .int .i64 a2_1, .int .i64 a2_2, .slice (some ad599) l2_3.length c2_3, .slice A2_4 l2_4.length c2_4] 25 (0, 0)) (bk_ BK570) hg (Kd.R_ne HO603.out BK570.out (by decide))); have n1_ := a_ (hb); have n2_ := a_ (Kept.of_grown (S := (fun k_ => P0_ k_)) hg (kp_ HK) (fun k_ e_ => (HO603.out.1 k_ e_))); have n3_ := a_ (ho); clear BK570 HB HK HO603; have BK570 := n0_; have HB := n1_; have HK := n2_; have HO606 := n3_; clear n0_ n1_ n2_ n3_ ho hb hg hat; have hcz64_0 := bc_ BK570 0 (.int .i64 a2_0); have hcz64_1 := bc_ BK570 1 (.int .i64 a2_1); have hcz64_2 := bc_ BK570 2 (.int .i64 a2_2); have hcz64_3 := bc_ BK570 3 (.slice (some ad599) l2_3.length c2_3); have hcz64_4 := bc_ BK570 4 (.slice A2_4 l2_4.length c2_4); have hfz64_0 := blk_frozen BK570.out 0; have hfz64_1 := blk_frozen BK570.out 1; have hfz64_2 := blk_frozen BK570.out 2; have hfz64_3 := blk_frozen BK570.out 3; have hfz64_4 := blk_frozen BK570.out 4; have p607 : 0 ≤ (x36_3 : Int) := of_decide_eq_true as_; have q607 : x36_3 < (l2_4.length : Int) := of_decide_eq_true as_; obtain ⟨ad607, A607_3, c607_3, A607_4, c607_4, e607, hx607_0, hx607_1, hx607_2, hx607_3, hx607_4, hl607_3, hi607_3, hl607_4, hi607_4⟩ := at_T25_w0 HR2_4.out HB.out x36_3 p607 q607; cases e607; have HR607_3 := a_ hi607_3; have HC607_3 := a_ hl607_3; clear hi607_3 hl607_3; have HR607_4 := a_ hi607_4; have HC607_4 := a_ hl607_4; clear hi607_4 hl607_4; replace p607 := eq_true p607; replace q607 := eq_true q607; obtain ⟨Ao65, co65, eo65⟩ := Kd.R_slice HO606.out; subst eo65) | ((with_reducible refine gate_callee (f := 14) rfl ?_); refine goesL_ (some 73) rfl rfl Try.func14 (by kernel_rfl) rfl #[.slice Ao65 y604.length co65, .string a1, .agg #[.int .i64 ((rd_T25 l2_4 x36_3).f0), .int .i64 ((rd_T25 l2_4 x36_3).f1), .int .i64 ((rd_T25 l2_4 x36_3).f2), .slice A607_3 ((rd_T25 l2_4 x36_3).f3).length c607_3, .slice A607_4 ((rd_T25 l2_4 x36_3).f4).length c607_4]] rfl ar_ ?_; (with_reducible refine (ih k3 (by have := HJ3.out; have := HJ15.out; have := HK3.out; omega) (fun k_ => some k_ = (.slice Ao65 y604.length co65 : Value).ownBlock) (.slice Ao65 y604.length co65) y604 a1 ((rd_T25 l2_4 x36_3).f0) ((rd_T25 l2_4 x36_3).f1) ((rd_T25 l2_4 x36_3).f2) _ _ ((rd_T25 l2_4 x36_3).f3) _ _ ((rd_T25 l2_4 x36_3).f4) t608 w0 _ ?side1 ?side2 ?side3 ?side4 ?side5 ?side6 A59.out).mono ?_); (case side1 => exact bl_ HB); (case side2 => exact Kd.R_tight rfl HO606.out); (case side3 => exact HR607_3.out); (case side4 => exact HC607_3.out); (case side5 => exact HR607_4.out); (case side6 => exact HC607_4.out); rintro e w66 ⟨v609, rfl, ho0, hb, hkp⟩; refine ⟨_, rfl, ?_⟩; have n0_ := a_ (blk_kept (bk_ BK570) hkp (fun hs_ => (fun e_ => (Kd.R_ne HO606.out BK570.out (by decide)) e_) hs_)); have n1_ := a_ (Kd.R_mono (ok' := fun k_ => (P0_ k_ ∨ w.heap.size ≤ k_)) ho0 (fun k_ hk_ => Or.elim hk_ (fun hs_ => (HO606.out.1 k_ (hs_).symm)) (fun hn_ => (.inr (Nat.le_trans (kz_ HK) hn_))))); have n2_ := a_ (Kept.then_ (S := (fun k_ => P0_ k_)) (kp_ HK) hkp (fun k_ hs_ => (fun e_ => (HO606.out.1 k_ e_.symm)) hs_)); have n3_ := a_ (hb); clear BK570 HK HB HO606; have BK570 := n0_; have HO610 := n1_; have HK := n2_; have HB := n3_; clear n0_ n1_ n2_ n3_ hb hkp ho0))
      go_roundg k3
      case measure => have := HJ3.out; have := HJ15.out; have := HK3.out; omega
      case rel => exact ⟨(t608), (wrap64 (x36_3 + 1)), rl_, H', ⟨by have := HJ3.out; have := HJ15.out; have := HK3.out; omega⟩, ⟨rp_ HO610⟩, ⟨bk_ BK570⟩, ⟨kp_ HK⟩, ⟨bl_ HB⟩⟩
     rw [if_pos c23] at H
     have c23b0 : decide (0 < x36_3) = true := decide_eq_true c23
     clear c23
     by_cases c24 : x0_3.length < 140737488355328
     rotate_left
     ·
      rw [if_neg c24] at H
      exact absurd H (by simp)
     rw [if_pos c24] at H
     have LMc24 := a_ c24
     clear c24
     obtain ⟨y580, hy580⟩ : ∃ y_ : List Int, y_ = (x0_3 ++ [44]) := ⟨_, rfl⟩
     replace H := lt_ H hy580
     have Ny580 := a_ hy580
     clear hy580
     by_cases c25 : a2_0 = 6
     rotate_left
     ·
      rw [if_neg c25] at H
      have c25b0 : (a2_0 == 6) = false := beq_eq_false_iff_ne.mpr c25
      have c25b1 : (a2_0 != 6) = true := bne_iff_ne.mpr c25
      by_cases c43 : 0 ≤ x36_3
      rotate_left
      ·
       rw [if_neg c43] at H
       exact absurd H (by simp)
      rw [if_pos c43] at H
      have c43b0 : decide (0 ≤ x36_3) = true := decide_eq_true c43
      clear c43
      by_cases c44 : x36_3 < (l2_4.length : Int)
      rotate_left
      ·
       rw [if_neg c44] at H
       exact absurd H (by simp)
      rw [if_pos c44] at H
      have c44b0 : decide (x36_3 < (l2_4.length : Int)) = true := decide_eq_true c44
      clear c44
      replace H := Option.bind_eq_some_iff.mp H
      obtain ⟨t596, A450, H⟩ := H
      replace H : (spec_bareTo.l0 k3 t596 a1 x8_15 (l2_4.length : Int) (wrap64 (x36_3 + 1)) a2_0 a2_1 a2_2 l2_3 l2_4) = some r := H
      have A45 := a_ A450
      clear A450
      have H' := a_ H
      clear H
      go_wp2_with (first | ((with_reducible refine gate_builtin (b := .append) (xs := #[.tmp 41, .tmp 42]) rfl ?_); at_builtin; refine Kd.R_append (Kd.int .u8) (w0 := w0) w0.heap.size rfl (.tmp 41) (.tmp 42) 32 5 (.int .u8 0) 1 rfl Try.underlying32 info5 rfl (by decide) (by omega) u0 x0_3 44 [.int .u8 44] (fun k_ => (P0_ k_ ∨ w.heap.size ≤ k_)) (fun _ => False) rfl rfl ?aP (fun _ hk => hk.elim) ?aF ?aO ?aB ?aS ?aL ?_; (case aP => exact rfl); (case aB => exact (bl_ HB)); (case aF => exact (fun k_ hk => (.inr (Nat.le_trans (kz_ HK) hk)))); (case aO => exact (rp_ HO_0)); (case aS => exact (below_size (bl_ HB))); (case aL => have := LMc24.out; omega); intro v581 w46 ho hb hg hat; rw [← Ny580.out] at ho; have n0_ := a_ (blk_grown (g := gb570) (o := .cells #[.int .i64 a2_0, .int .i64 a2_1, .int .i64 a2_2, .slice A2_3 l2_3.length c2_3, .slice A2_4 l2_4.length c2_4] 25 (0, 0)) (bk_ BK570) hg (Kd.R_ne HO_0.out BK570.out (by decide))); have n1_ := a_ (hb); have n2_ := a_ (Kept.of_grown (S := (fun k_ => P0_ k_)) hg (kp_ HK) (fun k_ e_ => (HO_0.out.1 k_ e_))); have n3_ := a_ (ho); clear BK570 HB HK HO_0; have BK570 := n0_; have HB := n1_; have HK := n2_; have HO582 := n3_; clear n0_ n1_ n2_ n3_ ho hb hg hat; have hcz47_0 := bc_ BK570 0 (.int .i64 a2_0); have hcz47_1 := bc_ BK570 1 (.int .i64 a2_1); have hcz47_2 := bc_ BK570 2 (.int .i64 a2_2); have hcz47_3 := bc_ BK570 3 (.slice A2_3 l2_3.length c2_3); have hcz47_4 := bc_ BK570 4 (.slice A2_4 l2_4.length c2_4); have hfz47_0 := blk_frozen BK570.out 0; have hfz47_1 := blk_frozen BK570.out 1; have hfz47_2 := blk_frozen BK570.out 2; have hfz47_3 := blk_frozen BK570.out 3; have hfz47_4 := blk_frozen BK570.out 4; have p595 : 0 ≤ (x36_3 : Int) := of_decide_eq_true as_; have q595 : x36_3 < (l2_4.length : Int) := of_decide_eq_true as_; obtain ⟨ad595, A595_3, c595_3, A595_4, c595_4, e595, hx595_0, hx595_1, hx595_2, hx595_3, hx595_4, hl595_3, hi595_3, hl595_4, hi595_4⟩ := at_T25_w0 HR2_4.out HB.out x36_3 p595 q595; cases e595; have HR595_3 := a_ hi595_3; have HC595_3 := a_ hl595_3; clear hi595_3 hl595_3; have HR595_4 := a_ hi595_4; have HC595_4 := a_ hl595_4; clear hi595_4 hl595_4; replace p595 := eq_true p595; replace q595 := eq_true q595; obtain ⟨Ao48, co48, eo48⟩ := Kd.R_slice HO582.out; subst eo48) | ((with_reducible refine gate_callee (f := 14) rfl ?_); refine goesL_ (some 73) rfl rfl Try.func14 (by kernel_rfl) rfl #[.slice Ao48 y580.length co48, .string a1, .agg #[.int .i64 ((rd_T25 l2_4 x36_3).f0), .int .i64 ((rd_T25 l2_4 x36_3).f1), .int .i64 ((rd_T25 l2_4 x36_3).f2), .slice A595_3 ((rd_T25 l2_4 x36_3).f3).length c595_3, .slice A595_4 ((rd_T25 l2_4 x36_3).f4).length c595_4]] rfl ar_ ?_; (with_reducible refine (ih k3 (by have := HJ3.out; have := HJ15.out; have := HK3.out; omega) (fun k_ => some k_ = (.slice Ao48 y580.length co48 : Value).ownBlock) (.slice Ao48 y580.length co48) y580 a1 ((rd_T25 l2_4 x36_3).f0) ((rd_T25 l2_4 x36_3).f1) ((rd_T25 l2_4 x36_3).f2) _ _ ((rd_T25 l2_4 x36_3).f3) _ _ ((rd_T25 l2_4 x36_3).f4) t596 w0 _ ?side1 ?side2 ?side3 ?side4 ?side5 ?side6 A45.out).mono ?_); (case side1 => exact bl_ HB); (case side2 => exact Kd.R_tight rfl HO582.out); (case side3 => exact HR595_3.out); (case side4 => exact HC595_3.out); (case side5 => exact HR595_4.out); (case side6 => exact HC595_4.out); rintro e w49 ⟨v597, rfl, ho0, hb, hkp⟩; refine ⟨_, rfl, ?_⟩; have n0_ := a_ (blk_kept (bk_ BK570) hkp (fun hs_ => (fun e_ => (Kd.R_ne HO582.out BK570.out (by decide)) e_) hs_)); have n1_ := a_ (Kd.R_mono (ok' := fun k_ => (P0_ k_ ∨ w.heap.size ≤ k_)) ho0 (fun k_ hk_ => Or.elim hk_ (fun hs_ => (HO582.out.1 k_ (hs_).symm)) (fun hn_ => (.inr (Nat.le_trans (kz_ HK) hn_))))); have n2_ := a_ (Kept.then_ (S := (fun k_ => P0_ k_)) (kp_ HK) hkp (fun k_ hs_ => (fun e_ => (HO582.out.1 k_ e_.symm)) hs_)); have n3_ := a_ (hb); clear BK570 HK HB HO582; have BK570 := n0_; have HO598 := n1_; have HK := n2_; have HB := n3_; clear n0_ n1_ n2_ n3_ hb hkp ho0))
      go_roundg k3
      case measure => have := HJ3.out; have := HJ15.out; have := HK3.out; omega
      case rel => exact ⟨(t596), (wrap64 (x36_3 + 1)), rl_, H', ⟨by have := HJ3.out; have := HJ15.out; have := HK3.out; omega⟩, ⟨rp_ HO598⟩, ⟨bk_ BK570⟩, ⟨kp_ HK⟩, ⟨bl_ HB⟩⟩
     rw [if_pos c25] at H
     have c25b0 : (a2_0 == 6) = true := beq_iff_eq.mpr c25
     have c25b1 : (a2_0 != 6) = false := bne_eq_false_iff_eq.mpr c25
     clear c25
     by_cases c26 : 0 ≤ x36_3
     rotate_left
     ·
      rw [if_neg c26] at H
      exact absurd H (by simp)
     rw [if_pos c26] at H
     have c26b0 : decide (0 ≤ x36_3) = true := decide_eq_true c26
     clear c26
     by_cases c27 : x36_3 < (l2_3.length : Int)
     rotate_left
     ·
      rw [if_neg c27] at H
      exact absurd H (by simp)
     rw [if_pos c27] at H
     have c27b0 : decide (x36_3 < (l2_3.length : Int)) = true := decide_eq_true c27
     clear c27
     by_cases c28 : 0 ≤ ((rd_T41 l2_3 x36_3).f0)
     rotate_left
     ·
      rw [if_neg c28] at H
      exact absurd H (by simp)
     rw [if_pos c28] at H
     have c28b0 := eq_true c28
     have c28b1 : decide (0 ≤ ((rd_T41 l2_3 x36_3).f0)) = true := decide_eq_true c28
     clear c28
     by_cases c29 : ((rd_T41 l2_3 x36_3).f0) ≤ ((rd_T41 l2_3 x36_3).f1)
     rotate_left
     ·
      rw [if_neg c29] at H
      exact absurd H (by simp)
     rw [if_pos c29] at H
     have c29b0 := eq_true c29
     have c29b1 : decide (((rd_T41 l2_3 x36_3).f0) ≤ ((rd_T41 l2_3 x36_3).f1)) = true := decide_eq_true c29
     clear c29
     by_cases c30 : ((rd_T41 l2_3 x36_3).f1) ≤ (a1.size : Int)
     rotate_left
     ·
      rw [if_neg c30] at H
      exact absurd H (by simp)
     rw [if_pos c30] at H
     have c30b0 := eq_true c30
     have c30b1 : decide (((rd_T41 l2_3 x36_3).f1) ≤ (a1.size : Int)) = true := decide_eq_true c30
     clear c30
     by_cases c31 : y580.length + (a1.extract (((rd_T41 l2_3 x36_3).f0) : Int).toNat (((rd_T41 l2_3 x36_3).f1) : Int).toNat).size < 140737488355328
     rotate_left
     ·
      rw [if_neg c31] at H
      exact absurd H (by simp)
     rw [if_pos c31] at H
     have LMc31 := a_ c31
     clear c31
     obtain ⟨y585, hy585⟩ : ∃ y_ : List Int, y_ = (y580 ++ bytesOf (a1.extract (((rd_T41 l2_3 x36_3).f0) : Int).toNat (((rd_T41 l2_3 x36_3).f1) : Int).toNat)) := ⟨_, rfl⟩
     replace H := lt_ H hy585
     have Ny585 := a_ hy585
     clear hy585
     by_cases c32 : y585.length < 140737488355328
     rotate_left
     ·
      rw [if_neg c32] at H
      exact absurd H (by simp)
     rw [if_pos c32] at H
     have LMc32 := a_ c32
     clear c32
     obtain ⟨y588, hy588⟩ : ∃ y_ : List Int, y_ = (y585 ++ [58]) := ⟨_, rfl⟩
     replace H : (if x36_3 < (l2_4.length : Int) then ((spec_bareTo.f k3 y588 a1 ((rd_T25 l2_4 x36_3).f0) ((rd_T25 l2_4 x36_3).f1) ((rd_T25 l2_4 x36_3).f2) ((rd_T25 l2_4 x36_3).f3) ((rd_T25 l2_4 x36_3).f4)).bind fun t592 => (spec_bareTo.l0 k3 t592 a1 x8_15 (l2_4.length : Int) (wrap64 (x36_3 + 1)) a2_0 a2_1 a2_2 l2_3 l2_4)) else (none)) = some r := by first | exact lt_ H hy588 | (rw [hy588]; exact H) | exact H
     have Ny588 := a_ hy588
     clear hy588
     by_cases c33 : x36_3 < (l2_4.length : Int)
     rotate_left
     ·
      rw [if_neg c33] at H
      exact absurd H (by simp)
     rw [if_pos c33] at H
     have c33b0 : decide (x36_3 < (l2_4.length : Int)) = true := decide_eq_true c33
     clear c33
     replace H := Option.bind_eq_some_iff.mp H
     obtain ⟨t592, A340, H⟩ := H
     replace H : (spec_bareTo.l0 k3 t592 a1 x8_15 (l2_4.length : Int) (wrap64 (x36_3 + 1)) a2_0 a2_1 a2_2 l2_3 l2_4) = some r := H
     have A34 := a_ A340
     clear A340
     have H' := a_ H
     clear H
     try go_wp2_with (first | ((with_reducible refine gate_builtin (b := .append) (xs := #[.tmp 41, .tmp 42]) rfl ?_); at_builtin; refine Kd.R_append (Kd.int .u8) (w0 := w0) w0.heap.size rfl (.tmp 41) (.tmp 42) 32 5 (.int .u8 0) 1 rfl Try.underlying32 info5 rfl (by decide) (by omega) u0 x0_3 44 [.int .u8 44] (fun k_ => (P0_ k_ ∨ w.heap.size ≤ k_)) (fun _ => False) rfl rfl ?aP (fun _ hk => hk.elim) ?aF ?aO ?aB ?aS ?aL ?_; (case aP => exact rfl); (case aB => exact (bl_ HB)); (case aF => exact (fun k_ hk => (.inr (Nat.le_trans (kz_ HK) hk)))); (case aO => exact (rp_ HO_0)); (case aS => exact (below_size (bl_ HB))); (case aL => have := LMc24.out; omega); intro v581 w35 ho hb hg hat; rw [← Ny580.out] at ho; have n0_ := a_ (blk_grown (g := gb570) (o := .cells #[.int .i64 a2_0, .int .i64 a2_1, .int .i64 a2_2, .slice A2_3 l2_3.length c2_3, .slice A2_4 l2_4.length c2_4] 25 (0, 0)) (bk_ BK570) hg (Kd.R_ne HO_0.out BK570.out (by decide))); have n1_ := a_ (hb); have n2_ := a_ (Kept.of_grown (S := (fun k_ => P0_ k_)) hg (kp_ HK) (fun k_ e_ => (HO_0.out.1 k_ e_))); have n3_ := a_ (ho); clear BK570 HB HK HO_0; have BK570 := n0_; have HB := n1_; have HK := n2_; have HO582 := n3_; clear n0_ n1_ n2_ n3_ ho hb hg hat; have hcz36_0 := bc_ BK570 0 (.int .i64 a2_0); have hcz36_1 := bc_ BK570 1 (.int .i64 a2_1); have hcz36_2 := bc_ BK570 2 (.int .i64 a2_2); have hcz36_3 := bc_ BK570 3 (.slice A2_3 l2_3.length c2_3); have hcz36_4 := bc_ BK570 4 (.slice A2_4 l2_4.length c2_4); have hfz36_0 := blk_frozen BK570.out 0; have hfz36_1 := blk_frozen BK570.out 1; have hfz36_2 := blk_frozen BK570.out 2; have hfz36_3 := blk_frozen BK570.out 3; have hfz36_4 := blk_frozen BK570.out 4))
     have n0_ := a_ (Kd.R_drew HO582.out)
     have n1_ := a_ (blk_drew BK570.out)
     have n2_ := a_ (Kept.drew HK.out)
     have n3_ := a_ (below_drew1 HB.out)
     clear HO582
     clear BK570
     clear HK
     clear HB
     have HO582 := n0_
     have BK570 := n1_
     have HK := n2_
     have HB := n3_
     clear n0_ n1_ n2_ n3_
     have p583 : 0 ≤ (x36_3 : Int) := of_decide_eq_true as_
     have q583 : x36_3 < (l2_3.length : Int) := of_decide_eq_true as_
     obtain ⟨ad583, e583, hx583_0, hx583_1⟩ := at_T41_w0 HR2_3.out HB.out x36_3 p583 q583
     have hw583_1 := hx583_1
     have hw583_0 := hx583_0
     cases e583
     replace p583 := eq_true p583
     replace q583 := eq_true q583
     have p584 : 0 ≤ (x36_3 : Int) := of_decide_eq_true as_
     have q584 : x36_3 < (l2_3.length : Int) := of_decide_eq_true as_
     obtain ⟨ad584, e584, hx584_0, hx584_1⟩ := at_T41_w0 HR2_3.out HB.out x36_3 p584 q584
     have hw584_1 := hx584_1
     have hw584_0 := hx584_0
     obtain rfl : ad583 = ad584 := (by injection e584)
     replace p584 := eq_true p584
     replace q584 := eq_true q584
     refine start_ (n := 17) (S := fun w' => w'.cell? ⟨gb570, 0, none⟩ = some (.int .i64 a2_0) ∧ w'.cell? ⟨gb570, 1, none⟩ = some (.int .i64 a2_1) ∧ w'.cell? ⟨gb570, 2, none⟩ = some (.int .i64 a2_2) ∧ w'.cell? ⟨gb570, 3, none⟩ = some (.slice (some ad583) l2_3.length c2_3) ∧ w'.cell? ⟨gb570, 4, none⟩ = some (.slice A2_4 l2_4.length c2_4) ∧ w'.cell? (ad583.add ((x36_3).toNat * 2)) = some (.int .i64 ((rd_T41 l2_3 x36_3).f0)) ∧ w'.cell? ⟨(ad583.add ((x36_3).toNat * 2)).block, (ad583.add ((x36_3).toNat * 2)).off + 1, none⟩ = some (.int .i64 ((rd_T41 l2_3 x36_3).f1)) ∧ w'.cell? (ad583.add ((x36_3).toNat * 2)) = some (.int .i64 ((rd_T41 l2_3 x36_3).f0)) ∧ w'.cell? ⟨(ad583.add ((x36_3).toNat * 2)).block, (ad583.add ((x36_3).toNat * 2)).off + 1, none⟩ = some (.int .i64 ((rd_T41 l2_3 x36_3).f1))) (ds := [15]) #[false, false, false, false, false, false, false, false, false, false, false, false, false, false, false, false, false] (by kernel_rfl) rfl rfl ⟨(blk_cell BK570.out 0).trans rfl, (blk_cell BK570.out 1).trans rfl, (blk_cell BK570.out 2).trans rfl, (blk_cell BK570.out 3).trans rfl, (blk_cell BK570.out 4).trans rfl, hx583_0, hx583_1, hx584_0, hx584_1⟩ (fun hHeld => ?_); refine with_tabW spec_bareTo.tab13 spec_bareTo.bits13 (fun HT_ HW_ => ?_)
     generalize w35.drew = w37 at HO582 BK570 HK HB hx583_0 hx583_1 hx584_0 hx584_1 hHeld ⊢
     refine pure_ (i := 0) (N := some 47) (v := ?_) (a' := ?_) #[true, false, false, false, false, false, false, false, false, false, false, false, false, false, false, false, false] rfl rfl (any_of HT_.out (by kernel_rfl)) (fun _ _ _ h => h) (Or.inl ⟨by rfl, ?_⟩) ?_ ?_
     rotate_left
     ·
      intro w'
      go_simp
      with_reducible rfl
     rotate_left
     ·
      simp only [Act.put, List.setIfInBounds_toArray, List.set_cons_zero, List.set_cons_succ, i64_w, i32_w]
      rfl
     refine pure_ (i := 1) (N := some 48) (v := ?_) (a' := ?_) #[true, true, false, false, false, false, false, false, false, false, false, false, false, false, false, false, false] rfl rfl (any_of HT_.out (by kernel_rfl)) (fun _ _ _ h => h) (Or.inl ⟨by rfl, ?_⟩) ?_ ?_
     rotate_left
     ·
      intro w'
      go_simp
      with_reducible rfl
     rotate_left
     ·
      simp only [Act.put, List.setIfInBounds_toArray, List.set_cons_zero, List.set_cons_succ, i64_w, i32_w]
      rfl
     refine pure_ (i := 2) (N := some 49) (v := ?_) (a' := ?_) #[true, true, true, false, false, false, false, false, false, false, false, false, false, false, false, false, false] rfl rfl (any_of HT_.out (by kernel_rfl)) (fun _ _ _ h => h) (Or.inl ⟨by rfl, ?_⟩) ?_ ?_
     rotate_left
     ·
      intro w'
      go_simp
      with_reducible rfl
     rotate_left
     ·
      simp only [Act.put, List.setIfInBounds_toArray, List.set_cons_zero, List.set_cons_succ, i64_w, i32_w]
      rfl
     refine pure_ (i := 4) (N := some 51) (v := ?_) (a' := ?_) #[true, true, true, false, true, false, false, false, false, false, false, false, false, false, false, false, false] rfl rfl (any_of HT_.out (by kernel_rfl)) (fun _ _ _ h => h) (Or.inl ⟨by rfl, ?_⟩) ?_ ?_
     rotate_left
     ·
      intro w'
      go_simp
      with_reducible rfl
     rotate_left
     ·
      simp only [Act.put, List.setIfInBounds_toArray, List.set_cons_zero, List.set_cons_succ, i64_w, i32_w]
      rfl
     refine pure_ (i := 8) (N := some 55) (v := ?_) (a' := ?_) #[true, true, true, false, true, false, false, false, true, false, false, false, false, false, false, false, false] rfl rfl (any_of HT_.out (by kernel_rfl)) (fun _ _ _ h => h) (Or.inl ⟨by rfl, ?_⟩) ?_ ?_
     rotate_left
     ·
      intro w'
      go_simp
      with_reducible rfl
     rotate_left
     ·
      simp only [Act.put, List.setIfInBounds_toArray, List.set_cons_zero, List.set_cons_succ, i64_w, i32_w]
      rfl
     refine pure_ (i := 10) (N := some 57) (v := ?_) (a' := ?_) #[true, true, true, false, true, false, false, false, true, false, true, false, false, false, false, false, false] rfl rfl (any_of HT_.out (by kernel_rfl)) (fun _ _ _ h => h) (Or.inl ⟨by rfl, ?_⟩) ?_ ?_
     rotate_left
     ·
      intro w'
      go_simp
      with_reducible rfl
     rotate_left
     ·
      simp only [Act.put, List.setIfInBounds_toArray, List.set_cons_zero, List.set_cons_succ, i64_w, i32_w]
      rfl
     refine take_ (i := 3) (N := some 50) (v := ?_) (a' := ?_) #[true, true, true, true, true, false, false, false, true, false, true, false, false, false, false, false, false] rfl rfl (take_ofW HT_.out HW_.out (by kernel_rfl)) (fun _ _ _ h => h) (Or.inl ⟨by rfl, ?_⟩) hHeld ?_ ?_
     rotate_left
     ·
      rintro w' ⟨s0, s1, s2, s3, s4, s5, s6, s7, s8⟩
      go_simp
      with_reducible rfl
     rotate_left
     ·
      simp only [Act.put, List.setIfInBounds_toArray, List.set_cons_zero, List.set_cons_succ, i64_w, i32_w]
      rfl
     refine pure_ (i := 5) (N := some 52) (v := ?_) (a' := ?_) #[true, true, true, true, true, true, false, false, true, false, true, false, false, false, false, false, false] rfl rfl (any_of HT_.out (by kernel_rfl)) (fun _ _ _ h => h) (Or.inl ⟨by rfl, ?_⟩) ?_ ?_
     rotate_left
     ·
      intro w'
      go_simp
      with_reducible rfl
     rotate_left
     ·
      simp only [Act.put, List.setIfInBounds_toArray, List.set_cons_zero, List.set_cons_succ, i64_w, i32_w]
      rfl
     refine pure_ (i := 6) (N := some 53) (v := ?_) (a' := ?_) #[true, true, true, true, true, true, true, false, true, false, true, false, false, false, false, false, false] rfl rfl (any_of HT_.out (by kernel_rfl)) (fun _ _ _ h => h) (Or.inl ⟨by rfl, ?_⟩) ?_ ?_
     rotate_left
     ·
      intro w'
      go_simp
      with_reducible rfl
     rotate_left
     ·
      simp only [Act.put, List.setIfInBounds_toArray, List.set_cons_zero, List.set_cons_succ, i64_w, i32_w]
      rfl
     refine take_ (i := 7) (N := some 54) (v := ?_) (a' := ?_) #[true, true, true, true, true, true, true, true, true, false, true, false, false, false, false, false, false] rfl rfl (take_ofW HT_.out HW_.out (by kernel_rfl)) (fun _ _ _ h => h) (Or.inl ⟨by rfl, ?_⟩) hHeld ?_ ?_
     rotate_left
     ·
      rintro w' ⟨s0, s1, s2, s3, s4, s5, s6, s7, s8⟩
      go_simp
      with_reducible rfl
     rotate_left
     ·
      simp only [Act.put, List.setIfInBounds_toArray, List.set_cons_zero, List.set_cons_succ, i64_w, i32_w]
      rfl
     refine take_ (i := 9) (N := some 56) (v := ?_) (a' := ?_) #[true, true, true, true, true, true, true, true, true, true, true, false, false, false, false, false, false] rfl rfl (take_ofW HT_.out HW_.out (by kernel_rfl)) (fun _ _ _ h => h) (Or.inl ⟨by rfl, ?_⟩) hHeld ?_ ?_
     rotate_left
     ·
      rintro w' ⟨s0, s1, s2, s3, s4, s5, s6, s7, s8⟩
      go_simp
      with_reducible rfl
     rotate_left
     ·
      simp only [Act.put, List.setIfInBounds_toArray, List.set_cons_zero, List.set_cons_succ, i64_w, i32_w]
      rfl
     refine pure_ (i := 11) (N := some 58) (v := ?_) (a' := ?_) #[true, true, true, true, true, true, true, true, true, true, true, true, false, false, false, false, false] rfl rfl (any_of HT_.out (by kernel_rfl)) (fun _ _ _ h => h) (Or.inl ⟨by rfl, ?_⟩) ?_ ?_
     rotate_left
     ·
      intro w'
      go_simp
      with_reducible rfl
     rotate_left
     ·
      simp only [Act.put, List.setIfInBounds_toArray, List.set_cons_zero, List.set_cons_succ, i64_w, i32_w]
      rfl
     refine pure_ (i := 12) (N := some 59) (v := ?_) (a' := ?_) #[true, true, true, true, true, true, true, true, true, true, true, true, true, false, false, false, false] rfl rfl (any_of HT_.out (by kernel_rfl)) (fun _ _ _ h => h) (Or.inl ⟨by rfl, ?_⟩) ?_ ?_
     rotate_left
     ·
      intro w'
      go_simp
      with_reducible rfl
     rotate_left
     ·
      simp only [Act.put, List.setIfInBounds_toArray, List.set_cons_zero, List.set_cons_succ, i64_w, i32_w]
      rfl
     refine take_ (i := 13) (N := some 60) (v := ?_) (a' := ?_) #[true, true, true, true, true, true, true, true, true, true, true, true, true, true, false, false, false] rfl rfl (take_ofW HT_.out HW_.out (by kernel_rfl)) (fun _ _ _ h => h) (Or.inl ⟨by rfl, ?_⟩) hHeld ?_ ?_
     rotate_left
     ·
      rintro w' ⟨s0, s1, s2, s3, s4, s5, s6, s7, s8⟩
      go_simp
      with_reducible rfl
     rotate_left
     ·
      simp only [Act.put, List.setIfInBounds_toArray, List.set_cons_zero, List.set_cons_succ, i64_w, i32_w]
      rfl
     refine pure_ (i := 14) (N := some 61) (v := ?_) (a' := ?_) #[true, true, true, true, true, true, true, true, true, true, true, true, true, true, true, false, false] rfl rfl (any_of HT_.out (by kernel_rfl)) (fun _ _ _ h => h) (Or.inl ⟨by rfl, ?_⟩) ?_ ?_
     rotate_left
     ·
      intro w'
      go_simp
      with_reducible rfl
     rotate_left
     ·
      simp only [Act.put, List.setIfInBounds_toArray, List.set_cons_zero, List.set_cons_succ, i64_w, i32_w]
      rfl
     refine last_ (i := 15) (N := some 62) #[true, true, true, true, true, true, true, true, true, true, true, true, true, true, true, true, false] rfl rfl (one_of HT_.out (by kernel_rfl)) (by decide) (fun K hK => ?_)
     refine Kd.R_append_str_step (w0 := w0) w0.heap.size (by rfl) (.tmp 47) _ 32 9 5 rfl Try.underlying32 Try.underlying9 info5 v581 y580 (a1.extract (((rd_T41 l2_3 x36_3).f0) : Int).toNat (((rd_T41 l2_3 x36_3).f1) : Int).toNat) (fun k_ => (P0_ k_ ∨ w.heap.size ≤ k_)) rfl rfl ?aF ?aO ?aB ?aS ?aL ?_
     (case aB => exact (bl_ HB))
     (case aF => exact (fun k_ hk => (.inr (Nat.le_trans (kz_ HK) hk))))
     (case aO => exact (rp_ HO582))
     (case aS => exact (below_size (bl_ HB)))
     (case aL => have := LMc31.out; omega)
     intro v586 w38 ho hb hg hat
     rw [← Ny585.out] at ho
     have n0_ := a_ (blk_grown (g := gb570) (o := .cells #[.int .i64 a2_0, .int .i64 a2_1, .int .i64 a2_2, .slice (some ad583) l2_3.length c2_3, .slice A2_4 l2_4.length c2_4] 25 (0, 0)) (bk_ BK570) hg (Kd.R_ne HO582.out BK570.out (by decide)))
     have n1_ := a_ (hb)
     have n2_ := a_ (Kept.of_grown (S := (fun k_ => P0_ k_)) hg (kp_ HK) (fun k_ e_ => (HO582.out.1 k_ e_)))
     have n3_ := a_ (ho)
     clear BK570
     clear HB
     clear HK
     clear HO582
     have BK570 := n0_
     have HB := n1_
     have HK := n2_
     have HO587 := n3_
     clear n0_ n1_ n2_ n3_
     clear ho hb hg hat
     refine hK.out _ _ ?_
     clear hK K
     refine norm_ (a' := ?_) ?_ ?_
     rotate_left
     ·
      show Act.put _ (some 62) _ = _
      simp only [Act.put, List.setIfInBounds_toArray, List.set_cons_zero, List.set_cons_succ, i64_w, i32_w]
      rfl
     refine pure_ (i := 16) (N := some 0) (v := ?_) (a' := ?_) #[true, true, true, true, true, true, true, true, true, true, true, true, true, true, true, true, true] rfl rfl (any_of HT_.out (by kernel_rfl)) (fun _ _ _ h => h) (Or.inl ⟨by rfl, ?_⟩) ?_ ?_
     rotate_left
     ·
      intro w'
      go_simp
      with_reducible rfl
     rotate_left
     ·
      simp only [Act.put, List.setIfInBounds_toArray, List.set_cons_zero, List.set_cons_succ, i64_w, i32_w]
      rfl
     refine done_ (done_of HT_.out (by kernel_rfl)) ?_
     try go_wp2_with (first | ((with_reducible refine gate_builtin (b := .append) (xs := #[.tmp 63, .tmp 64]) rfl ?_); at_builtin; refine Kd.R_append (Kd.int .u8) (w0 := w0) w0.heap.size rfl (.tmp 63) (.tmp 64) 32 5 (.int .u8 0) 1 rfl Try.underlying32 info5 rfl (by decide) (by omega) v586 y585 58 [.int .u8 58] (fun k_ => (P0_ k_ ∨ w.heap.size ≤ k_)) (fun _ => False) rfl rfl ?aP (fun _ hk => hk.elim) ?aF ?aO ?aB ?aS ?aL ?_; (case aP => exact rfl); (case aB => exact (bl_ HB)); (case aF => exact (fun k_ hk => (.inr (Nat.le_trans (kz_ HK) hk)))); (case aO => exact (rp_ HO587)); (case aS => exact (below_size (bl_ HB))); (case aL => have := LMc32.out; omega); intro v589 w39 ho hb hg hat; rw [← Ny588.out] at ho; have n0_ := a_ (blk_grown (g := gb570) (o := .cells #[.int .i64 a2_0, .int .i64 a2_1, .int .i64 a2_2, .slice (some ad583) l2_3.length c2_3, .slice A2_4 l2_4.length c2_4] 25 (0, 0)) (bk_ BK570) hg (Kd.R_ne HO587.out BK570.out (by decide))); have n1_ := a_ (hb); have n2_ := a_ (Kept.of_grown (S := (fun k_ => P0_ k_)) hg (kp_ HK) (fun k_ e_ => (HO587.out.1 k_ e_))); have n3_ := a_ (ho); clear BK570 HB HK HO587; have BK570 := n0_; have HB := n1_; have HK := n2_; have HO590 := n3_; clear n0_ n1_ n2_ n3_ ho hb hg hat; have hcz40_0 := bc_ BK570 0 (.int .i64 a2_0); have hcz40_1 := bc_ BK570 1 (.int .i64 a2_1); have hcz40_2 := bc_ BK570 2 (.int .i64 a2_2); have hcz40_3 := bc_ BK570 3 (.slice (some ad583) l2_3.length c2_3); have hcz40_4 := bc_ BK570 4 (.slice A2_4 l2_4.length c2_4); have hfz40_0 := blk_frozen BK570.out 0; have hfz40_1 := blk_frozen BK570.out 1; have hfz40_2 := blk_frozen BK570.out 2; have hfz40_3 := blk_frozen BK570.out 3; have hfz40_4 := blk_frozen BK570.out 4; have p591 : 0 ≤ (x36_3 : Int) := of_decide_eq_true as_; have q591 : x36_3 < (l2_4.length : Int) := of_decide_eq_true as_; obtain ⟨ad591, A591_3, c591_3, A591_4, c591_4, e591, hx591_0, hx591_1, hx591_2, hx591_3, hx591_4, hl591_3, hi591_3, hl591_4, hi591_4⟩ := at_T25_w0 HR2_4.out HB.out x36_3 p591 q591; cases e591; have HR591_3 := a_ hi591_3; have HC591_3 := a_ hl591_3; clear hi591_3 hl591_3; have HR591_4 := a_ hi591_4; have HC591_4 := a_ hl591_4; clear hi591_4 hl591_4; replace p591 := eq_true p591; replace q591 := eq_true q591; obtain ⟨Ao41, co41, eo41⟩ := Kd.R_slice HO590.out; subst eo41) | ((with_reducible refine gate_callee (f := 14) rfl ?_); refine goesL_ (some 73) rfl rfl Try.func14 (by kernel_rfl) rfl #[.slice Ao41 y588.length co41, .string a1, .agg #[.int .i64 ((rd_T25 l2_4 x36_3).f0), .int .i64 ((rd_T25 l2_4 x36_3).f1), .int .i64 ((rd_T25 l2_4 x36_3).f2), .slice A591_3 ((rd_T25 l2_4 x36_3).f3).length c591_3, .slice A591_4 ((rd_T25 l2_4 x36_3).f4).length c591_4]] rfl ar_ ?_; (with_reducible refine (ih k3 (by have := HJ3.out; have := HJ15.out; have := HK3.out; omega) (fun k_ => some k_ = (.slice Ao41 y588.length co41 : Value).ownBlock) (.slice Ao41 y588.length co41) y588 a1 ((rd_T25 l2_4 x36_3).f0) ((rd_T25 l2_4 x36_3).f1) ((rd_T25 l2_4 x36_3).f2) _ _ ((rd_T25 l2_4 x36_3).f3) _ _ ((rd_T25 l2_4 x36_3).f4) t592 w0 _ ?side1 ?side2 ?side3 ?side4 ?side5 ?side6 A34.out).mono ?_); (case side1 => exact bl_ HB); (case side2 => exact Kd.R_tight rfl HO590.out); (case side3 => exact HR591_3.out); (case side4 => exact HC591_3.out); (case side5 => exact HR591_4.out); (case side6 => exact HC591_4.out); rintro e w42 ⟨v593, rfl, ho0, hb, hkp⟩; refine ⟨_, rfl, ?_⟩; have n0_ := a_ (blk_kept (bk_ BK570) hkp (fun hs_ => (fun e_ => (Kd.R_ne HO590.out BK570.out (by decide)) e_) hs_)); have n1_ := a_ (Kd.R_mono (ok' := fun k_ => (P0_ k_ ∨ w.heap.size ≤ k_)) ho0 (fun k_ hk_ => Or.elim hk_ (fun hs_ => (HO590.out.1 k_ (hs_).symm)) (fun hn_ => (.inr (Nat.le_trans (kz_ HK) hn_))))); have n2_ := a_ (Kept.then_ (S := (fun k_ => P0_ k_)) (kp_ HK) hkp (fun k_ hs_ => (fun e_ => (HO590.out.1 k_ e_.symm)) hs_)); have n3_ := a_ (hb); clear BK570 HK HB HO590; have BK570 := n0_; have HO594 := n1_; have HK := n2_; have HB := n3_; clear n0_ n1_ n2_ n3_ hb hkp ho0))
     go_roundg k3
     case measure => have := HJ3.out; have := HJ15.out; have := HK3.out; omega
     case rel => exact ⟨(t592), (wrap64 (x36_3 + 1)), rl_, H', ⟨by have := HJ3.out; have := HJ15.out; have := HK3.out; omega⟩, ⟨rp_ HO594⟩, ⟨bk_ BK570⟩, ⟨kp_ HK⟩, ⟨bl_ HB⟩⟩
end Go.Proofs.Ytapgjhgjhcfmoaa.PFnPrDefaultLaid
