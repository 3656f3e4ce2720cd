/- Contracts of Go functions of this seat: a Lean function over numbers and lists for each, and a proof that the Go function returns what it gives. Made by program. -/
import Derived.Test.YtnilbkfhfnofgaaPFnPrWidthMemberx0
import Derived.Test.YtnilbkfhfnofgaaPFnPrWidthMemberx9
namespace Go.Proofs.Ytnilbkfhfnofgaa.PFnPrWidthMember
open Go.RowKit Go.Proofs.YtnilbkfhfnofgaaW.PrintWords Go.Proofs.YtnilbkfhfnofgaaW.PrintLast Go.Proofs.YtnilbkfhfnofgaaW.PrintMore
attribute [local go_sem] max2_int min2_int max_two min_two max_three min_three max_four min_four   -- for this text's walks alone
set_option linter.unusedVariables false
set_option linter.unusedSimpArgs false
/-! ### spec_Laid: function 10 -/
def spec_Laid.f (k : Nat) (a0 : ByteArray) (a1_0 : Int) (a1_1 : Int) (a1_2 : Int) (l1_3 : List (S54)) (l1_4 : List (S28)) (a2 : ByteArray) (a3 : ByteArray) (a4 : Bool) : Option (ByteArray) := (sLa.f k ([] : List Int) a0 a1_0 a1_1 a1_2 l1_3 l1_4 a2 a3 a4).bind fun t424 => (if a2.size + (strOfNums t424).size ≤ 9223372036854775807 then (if (a2 ++ (strOfNums t424)).size + 1 ≤ 9223372036854775807 then (some ((a2 ++ (strOfNums t424)) ++ (⟨#[10]⟩ : ByteArray))) else (none)) else (none))
theorem spec_Laid.mono : ∀ a0 a1 a2 a3 a4 a5 a6 a7 a8 k, LeO (spec_Laid.f k a0 a1 a2 a3 a4 a5 a6 a7 a8) (spec_Laid.f (k + 1) a0 a1 a2 a3 a4 a5 a6 a7 a8) := by
 intro a0 a1 a2 a3 a4 a5 a6 a7 a8 k
 unfold spec_Laid.f
 repeat' first | (with_reducible first | apply sLa.mono | apply LeO.refl | apply LeO.none | refine LeO.ite ?_ ?_ | refine LeO.bind ?_ (fun _ => ?_)) | apply sLa.mono | apply LeO.none | refine LeO.ite ?_ ?_ | refine LeO.bind ?_ (fun _ => ?_)
set_option maxHeartbeats 8000000 in
set_option maxRecDepth 100000 in
theorem spec_Laid.calls (k : Nat) (a0 : ByteArray) (a1_0 : Int) (a1_1 : Int) (a1_2 : Int) (A1_3 : Option Addr) (c1_3 : Nat) (l1_3 : List (S54)) (A1_4 : Option Addr) (c1_4 : Nat) (l1_4 : List (S28)) (a2 : ByteArray) (a3 : ByteArray) (a4 : Bool) (r : ByteArray) (w : World) (hr1_3 : Kd.C k54 w A1_3 l1_3.length l1_3) (hc1_3 : l1_3.length ≤ c1_3) (hr1_4 : Kd.C k28 w A1_4 l1_4.length l1_4) (hc1_4 : l1_4.length ≤ c1_4) (h : spec_Laid.f k a0 a1_0 a1_1 a1_2 l1_3 l1_4 a2 a3 a4 = some r) :
  Calls Try.prog 10 #[.string a0, .agg #[.int .i64 a1_0, .int .i64 a1_1, .int .i64 a1_2, .slice A1_3 l1_3.length c1_3, .slice A1_4 l1_4.length c1_4], .string a2, .string a3, .bool a4] w fun e w' => e = .returned (.string r) ∧ Below w.heap.size w w' := by
 have hu28 := Try.underlying28
 have HR1_3 := a_ hr1_3
 have HC1_3 := a_ hc1_3
 clear hr1_3 hc1_3
 have HR1_4 := a_ hr1_4
 have HC1_4 := a_ hc1_4
 clear hr1_4 hc1_4
 have HB := a_ (Below.refl w.heap.size w)
 have H : ((sLa.f k ([] : List Int) a0 a1_0 a1_1 a1_2 l1_3 l1_4 a2 a3 a4).bind fun t424 => (if a2.size + (strOfNums t424).size ≤ 9223372036854775807 then (if (a2 ++ (strOfNums t424)).size + 1 ≤ 9223372036854775807 then (some ((a2 ++ (strOfNums t424)) ++ (⟨#[10]⟩ : ByteArray))) else (none)) else (none))) = some r := h
 clear h
 replace H := Option.bind_eq_some_iff.mp H
 obtain ⟨t424, A60, H⟩ := H
 replace H : (if a2.size + (strOfNums t424).size ≤ 9223372036854775807 then (if (a2 ++ (strOfNums t424)).size + 1 ≤ 9223372036854775807 then (some ((a2 ++ (strOfNums t424)) ++ (⟨#[10]⟩ : ByteArray))) else (none)) else (none)) = some r := H
 have A6 := a_ A60
 clear A60
 by_cases c7 : a2.size + (strOfNums t424).size ≤ 9223372036854775807
 rotate_left
 ·
  rw [if_neg c7] at H
  exact absurd H (by simp)
 rw [if_pos c7] at H
 have c7b0 := eq_true c7
 have c7b1 : decide (a2.size + (strOfNums t424).size ≤ 9223372036854775807) = true := decide_eq_true c7
 try have c7b2 : (9223372036854775807 < a2.size + (strOfNums t424).size) = False := eq_false (Nat.not_lt.2 c7)
 by_cases c8 : (a2 ++ (strOfNums t424)).size + 1 ≤ 9223372036854775807
 rotate_left
 ·
  rw [if_neg c8] at H
  exact absurd H (by simp)
 rw [if_pos c8] at H
 have c8b0 := eq_true c8
 have c8b1 : decide ((a2 ++ (strOfNums t424)).size + 1 ≤ 9223372036854775807) = true := decide_eq_true c8
 try have c8b2 : (9223372036854775807 < (a2 ++ (strOfNums t424)).size + 1) = False := eq_false (Nat.not_lt.2 c8)
 try (have c8b3 := c8b2; simp only [ByteArray.size_append] at c8b3)
 obtain rfl := Option.some.inj H
 go_enter Try.func10, Try.ntmps10
 go_wp2_with (first | ((with_reducible refine gate_dst (N := 6) rfl ?_); refine box_event ?hg (N := 6) ?hd (cs := #[.int .i64 a1_0, .int .i64 a1_1, .int .i64 a1_2, .slice A1_3 l1_3.length c1_3, .slice A1_4 l1_4.length c1_4]) (t := 28) ?hr ?_; (case hd => rfl); (case hg => rfl); (case hr => first | (go_simp; done) | (go_simp; rfl)); intro gb423 hg w9 hbox hb; have BK423 := a_ hbox; have GW423 := a_ ((by rw [hg]; exact (below_size (bl_ HB)) : w.heap.size ≤ gb423)); have GE423 := a_ ((by rw [hg]; exact (below_size (bl_ HB)) : w.heap.size ≤ gb423)); replace HB := a_ (below_step (bl_ HB) hb); clear hb hbox hg; obtain ⟨hcz10_0, hcz10_1, hcz10_2, hcz10_3, hcz10_4, hfz10_0, hfz10_1, hfz10_2, hfz10_3, hfz10_4⟩ := b5_ BK423) | ((with_reducible refine gate_callee (f := 16) rfl ?_); refine goesL_ (some 17) rfl rfl Try.func16 (by kernel_rfl) rfl #[.slice none 0 0, .string a0, .agg #[.int .i64 a1_0, .int .i64 a1_1, .int .i64 a1_2, .slice A1_3 l1_3.length c1_3, .slice A1_4 l1_4.length c1_4], .string a2, .string a3, .bool a4] rfl ar_ ?_; (refine (sLa.calls k (fun k_ => some k_ = (.slice none 0 0 : Value).ownBlock) (.slice none 0 0) ([] : List Int) a0 a1_0 a1_1 a1_2 _ _ l1_3 _ _ l1_4 a2 a3 a4 t424 w _ ?side1 ?side2 ?side3 ?side4 ?side5 ?side6 A6.out).mono ?_); (case side1 => exact bl_ HB); (case side2 => exact Kd.R_nil _ _ _ _ _); (case side3 => exact HR1_3.out); (case side4 => exact HC1_3.out); (case side5 => exact HR1_4.out); (case side6 => exact HC1_4.out); rintro e w11 ⟨v425, rfl, ho0, hb, hkp⟩; refine ⟨_, rfl, ?_⟩; replace BK423 := a_ (blk_kept (bk_ BK423) hkp (fun hs_ => (fun e_ => by simp [Value.ownBlock] at e_) hs_)); have HO426 := a_ (Kd.R_mono (ok' := fun k_ => True) ho0 (fun k_ hk_ => trivial)); replace HB := a_ hb; (try clear hb); (try clear hkp); (try clear ho0); have hcv12 := own_string (P := Try.prog) Try.underlying40 Try.underlying5 Try.underlying9 (Kd.own_of_R HO426.out)))
 go_ret
 exact ⟨by first | rfl | (simp [errW_none, errW_some] <;> rfl) | (simp [*, errW_none, errW_some] <;> rfl), bl_ HB⟩
/-! ### pSt: function 33 -/
mutual
def pSt.l0 : Nat → List Int → List Int → Int → Int → Int → Option (List Int × Int × Int × Bool)
  | 0, _, _, _, _, _ => none
  | k + 1, x0, x1, x2, x3, x12 => if x2 < (x1.length : Int) then (if 0 ≤ x2 then (if (rd x1 x2) = 34 then (pSt.l1 k x0 x1 x2 x3 x12 0 (wrap64 (x2 - 1))) else (pSt.l0 k x0 x1 (wrap64 (x2 + 1)) x3 x12)) else (none)) else (none)
def pSt.l1 : Nat → List Int → List Int → Int → Int → Int → Int → Int → Option (List Int × Int × Int × Bool)
  | 0, _, _, _, _, _, _, _ => none
  | k + 1, x0, x1, x2, x3, x12, x13, x14 => if x14 > x12 then (if 0 ≤ x14 then (if x14 < (x1.length : Int) then (if (rd x1 x14) = 92 then (pSt.l1 k x0 x1 x2 x3 x12 (wrap64 (x13 + 1)) (wrap64 (x14 - 1))) else (if (Int.tmod x13 2) = 1 then (pSt.l0 k x0 x1 (wrap64 (x2 + 1)) x3 x12) else (if 0 ≤ x12 then (if x12 ≤ (wrap64 (x2 + 1)) then (if (wrap64 (x2 + 1)) ≤ (x1.length : Int) then ((some ((x1.take ((wrap64 (x2 + 1)) : Int).toNat).drop (x12 : Int).toNat : List Int)).bind fun y429 => (if x0.length + y429.length < 140737488355328 then (some ((x0 ++ y429), wrap64 (x2 + 1), x3, true)) else (none))) else (none)) else (none)) else (none)))) else (none)) else (none)) else (if (Int.tmod x13 2) = 1 then (pSt.l0 k x0 x1 (wrap64 (x2 + 1)) x3 x12) else (if 0 ≤ x12 then (if x12 ≤ (wrap64 (x2 + 1)) then (if (wrap64 (x2 + 1)) ≤ (x1.length : Int) then ((some ((x1.take ((wrap64 (x2 + 1)) : Int).toNat).drop (x12 : Int).toNat : List Int)).bind fun y436 => (if x0.length + y436.length < 140737488355328 then (some ((x0 ++ y436), wrap64 (x2 + 1), x3, true)) else (none))) else (none)) else (none)) else (none)))
end
def pSt.f (k : Nat) (l0 : List Int) (l1 : List Int) (a2 : Int) (a3 : Int) : Option (List Int × Int × Int × Bool) := pSt.l0 k l0 l1 (wrap64 (a2 + 1)) a3 a2
theorem pSt.mono_l : ∀ k, (∀ y0 y1 y2 y3 y4, LeO (pSt.l0 k y0 y1 y2 y3 y4) (pSt.l0 (k + 1) y0 y1 y2 y3 y4)) ∧ (∀ y0 y1 y2 y3 y4 y5 y6, LeO (pSt.l1 k y0 y1 y2 y3 y4 y5 y6) (pSt.l1 (k + 1) y0 y1 y2 y3 y4 y5 y6))
 | 0 => ⟨fun _ _ _ _ _ r h => by simp [pSt.l0] at h, fun _ _ _ _ _ _ _ r h => by simp [pSt.l1] at h⟩
 | k + 1 => by
  obtain ⟨ih0, ih1⟩ := pSt.mono_l k
  refine ⟨?_, ?_⟩
  all_goals intros
  all_goals (first | unfold pSt.l0 | unfold pSt.l1)
  all_goals repeat' first | (with_reducible first | apply ih0 | apply ih1 | apply LeO.refl | apply LeO.none | refine LeO.ite ?_ ?_ | refine LeO.bind ?_ (fun _ => ?_)) | apply ih0 | apply ih1 | apply LeO.none | refine LeO.ite ?_ ?_ | refine LeO.bind ?_ (fun _ => ?_)
theorem pSt.mono : ∀ a0 a1 a2 a3 k, LeO (pSt.f k a0 a1 a2 a3) (pSt.f (k + 1) a0 a1 a2 a3) := by
 intro a0 a1 a2 a3 k
 obtain ⟨ih0, ih1⟩ := pSt.mono_l k
 unfold pSt.f
 repeat' first | (with_reducible first | apply ih0 | apply ih1 | apply LeO.refl | apply LeO.none | refine LeO.ite ?_ ?_ | refine LeO.bind ?_ (fun _ => ?_)) | apply ih0 | apply ih1 | apply LeO.none | refine LeO.ite ?_ ?_ | refine LeO.bind ?_ (fun _ => ?_)
set_option maxHeartbeats 8000000 in
set_option maxRecDepth 100000 in
theorem pSt.calls (k : Nat) (P0_ : Nat → Prop) (u9000_ : Value) (l0 : List Int) (A1 : Option Addr) (c1 : Nat) (l1 : List Int) (a2 : Int) (a3 : Int) (r1 : List Int) (r2 : Int) (r3 : Int) (r4 : Bool) (w0 w : World) (hB : Below w0.heap.size w0 w) (ho0 : Kd.R (Kd.int .u8) 5 w w0.heap.size P0_ u9000_ l0) (hr1 : ∀ W_, Kept w W_ (fun k_ => P0_ k_) → Kd.C (Kd.int .u8) W_ A1 l1.length l1) (hc1 : l1.length ≤ c1) (h : pSt.f k l0 l1 a2 a3 = some (r1, r2, r3, r4)) :
  Calls Try.prog 33 #[u9000_, .slice A1 l1.length c1, .int .i64 a2, .int .i64 a3] w fun e w' => ∃ v0_ : Value, e = .returned (.tuple #[v0_, .int .i64 r2, .int .i64 r3, .bool r4]) ∧ Kd.R (Kd.int .u8) 5 w' w0.heap.size (fun k_ => (P0_ k_ ∨ w.heap.size ≤ k_)) v0_ r1 ∧ Below w0.heap.size w0 w' ∧ Kept w w' (fun k_ => P0_ k_) := by
 have HO0 := a_ (show Kd.R (Kd.int .u8) 5 w w0.heap.size (fun k_ => (P0_ k_ ∨ w.heap.size ≤ k_)) u9000_ l0 from Kd.R_mono ho0 (fun k_ hk => (.inl hk)))
 have HR1 := a_ hr1
 have HC1 := a_ hc1
 clear hr1 hc1
 have HK := a_ (Kept.refl w (fun k_ => P0_ k_))
 have HW0 := a_ hB.size
 have HB := a_ hB
 clear hB
 have H : (pSt.l0 k l0 l1 (wrap64 (a2 + 1)) a3 a2) = some (r1, r2, r3, r4) := h
 clear h
 have H' := a_ H
 clear H
 go_enter Try.func33, Try.ntmps33
 go_wp2
 (try simp only [Act.put, List.setIfInBounds_toArray, List.set_cons_zero, List.set_cons_succ])
 go_loopg [2] k (fun kq v2 w' => ∃ (x2_1 : Int), v2 = .int .i64 x2_1 ∧ Aside0 (pSt.l0 kq l0 l1 x2_1 a3 a2 = some (r1, r2, r3, r4)) ∧ Aside0 (kq ≤ k) ∧ Aside0 (Kd.R (Kd.int .u8) 5 w' w0.heap.size (fun k_ => (P0_ k_ ∨ w.heap.size ≤ k_)) u9000_ l0) ∧ Aside0 (Kept w w' (fun k_ => P0_ k_)) ∧ Aside0 (Below w0.heap.size w0 w'))
 case atStart => exact ⟨(wrap64 (a2 + 1)), rl_, H', ⟨Nat.le_refl _⟩, ⟨rp_ HO0⟩, ⟨kp_ HK⟩, ⟨bl_ HB⟩⟩
 case round =>
  clear H'
  (try clear c1); (try clear p2); (try clear c3)
  obtain ⟨x2_1, rfl, HA, HK1, HO_0, HK, HB⟩ := hrel
  cases gk with
  | zero => exact absurd HA.out (by simp [pSt.l0])
  | succ k1 =>
   have H := HA.out
   clear HA
   simp only [pSt.l0] at H
   by_cases c5 : x2_1 < (l1.length : Int)
   rotate_left
   ·
    rw [if_neg c5] at H
    exact absurd H (by simp)
   rw [if_pos c5] at H
   have c5b0 : decide (x2_1 < (l1.length : Int)) = true := decide_eq_true c5
   clear c5
   by_cases c6 : 0 ≤ x2_1
   rotate_left
   ·
    rw [if_neg c6] at H
    exact absurd H (by simp)
   rw [if_pos c6] at H
   have c6b0 : decide (0 ≤ x2_1) = true := decide_eq_true c6
   clear c6
   by_cases c7 : (rd l1 x2_1) = 34
   rotate_left
   ·
    rw [if_neg c7] at H
    have c7b0 : ((rd l1 x2_1) == 34) = false := beq_eq_false_iff_ne.mpr c7
    have c7b1 : ((rd l1 x2_1) != 34) = true := bne_iff_ne.mpr c7
    have H' := a_ H
    clear H
    have p427 : 0 ≤ (x2_1 : Int) := of_decide_eq_true as_
    have q427 : x2_1 < (l1.length : Int) := of_decide_eq_true as_
    obtain ⟨ad427, e427, hx427_0⟩ := Kd.at_int (Kd.C_kept_now HR1.out HK.out) x2_1 p427 q427
    cases e427
    replace p427 := eq_true p427
    replace q427 := eq_true q427
    go_wp2
    go_roundg k1
    case measure => have := HK1.out; omega
    case rel => exact ⟨(wrap64 (x2_1 + 1)), rl_, H', ⟨by have := HK1.out; omega⟩, ⟨rp_ HO_0⟩, ⟨kp_ HK⟩, ⟨bl_ HB⟩⟩
   rw [if_pos c7] at H
   have c7b0 : ((rd l1 x2_1) == 34) = true := beq_iff_eq.mpr c7
   have c7b1 : ((rd l1 x2_1) != 34) = false := bne_eq_false_iff_eq.mpr c7
   clear c7
   have H' := a_ H
   clear H
   have p427 : 0 ≤ (x2_1 : Int) := of_decide_eq_true as_
   have q427 : x2_1 < (l1.length : Int) := of_decide_eq_true as_
   obtain ⟨ad427, e427, hx427_0⟩ := Kd.at_int (Kd.C_kept_now HR1.out HK.out) x2_1 p427 q427
   cases e427
   replace p427 := eq_true p427
   replace q427 := eq_true q427
   go_wp2
   (try simp only [Act.put, List.setIfInBounds_toArray, List.set_cons_zero, List.set_cons_succ])
   go_loopg [13, 14] k1 (fun kq v13 v14 w' => ∃ (x13_2 : Int) (x14_2 : Int), v13 = .int .i64 x13_2 ∧ v14 = .int .i64 x14_2 ∧ Aside0 (pSt.l1 kq l0 l1 x2_1 a3 a2 x13_2 x14_2 = some (r1, r2, r3, r4)) ∧ Aside0 (kq ≤ k1) ∧ Aside0 (Kd.R (Kd.int .u8) 5 w' w0.heap.size (fun k_ => (P0_ k_ ∨ w.heap.size ≤ k_)) u9000_ l0) ∧ Aside0 (Kept w w' (fun k_ => P0_ k_)) ∧ Aside0 (Below w0.heap.size w0 w'))
   case atStart => exact ⟨(0), (wrap64 (x2_1 - 1)), rl_, rl_, H', ⟨Nat.le_refl _⟩, ⟨rp_ HO_0⟩, ⟨kp_ HK⟩, ⟨bl_ HB⟩⟩
   case round =>
    clear H'
    (try clear c1); (try clear p2); (try clear c3); (try clear p4); (try clear q4); (try clear hx4); (try clear c5); (try clear c5b0); (try clear c6); (try clear c6b0); (try clear p6); (try clear c7); (try clear c7b0); (try clear c7b1); (try clear hx427_0); (try clear p2); (try clear p427); (try clear q427)
    obtain ⟨x13_2, x14_2, rfl, rfl, HA, HK2, HO_0, HK, HB⟩ := hrel
    cases gk with
    | zero => exact absurd HA.out (by simp [pSt.l1])
    | succ k2 =>
     have H := HA.out
     clear HA
     simp only [pSt.l1] at H
     by_cases c8 : x14_2 > a2
     rotate_left
     ·
      rw [if_neg c8] at H
      have c8b0 : decide (a2 < x14_2) = false := decide_eq_false c8
      clear c8
      by_cases c19 : (Int.tmod x13_2 2) = 1
      ·
       rw [if_pos c19] at H
       have c19b0 : ((Int.tmod x13_2 2) == 1) = true := beq_iff_eq.mpr c19
       have c19b1 : ((Int.tmod x13_2 2) != 1) = false := bne_eq_false_iff_eq.mpr c19
       clear c19
       have H' := a_ H
       clear H
       go_wp2
       go_roundg k2
       case measure => have := HK1.out; have := HK2.out; omega
       case rel => exact ⟨(wrap64 (x2_1 + 1)), rl_, H', ⟨by have := HK1.out; have := HK2.out; omega⟩, ⟨rp_ HO_0⟩, ⟨kp_ HK⟩, ⟨bl_ HB⟩⟩
      rw [if_neg c19] at H
      have c19b0 : ((Int.tmod x13_2 2) == 1) = false := beq_eq_false_iff_ne.mpr c19
      have c19b1 : ((Int.tmod x13_2 2) != 1) = true := bne_iff_ne.mpr c19
      by_cases c20 : 0 ≤ a2
      rotate_left
      ·
       rw [if_neg c20] at H
       exact absurd H (by simp)
      rw [if_pos c20] at H
      have c20b0 := eq_true c20
      have c20b1 : decide (0 ≤ a2) = true := decide_eq_true c20
      clear c20
      by_cases c21 : a2 ≤ (wrap64 (x2_1 + 1))
      rotate_left
      ·
       rw [if_neg c21] at H
       exact absurd H (by simp)
      rw [if_pos c21] at H
      have c21b0 := eq_true c21
      have c21b1 : decide (a2 ≤ (wrap64 (x2_1 + 1))) = true := decide_eq_true c21
      by_cases c22 : (wrap64 (x2_1 + 1)) ≤ (l1.length : Int)
      rotate_left
      ·
       rw [if_neg c22] at H
       exact absurd H (by simp)
      rw [if_pos c22] at H
      have c22b0 := eq_true c22
      have c22b1 : decide ((wrap64 (x2_1 + 1)) ≤ (l1.length : Int)) = true := decide_eq_true c22
      obtain ⟨y436, hy436⟩ : ∃ y_ : List Int, y_ = ((l1.take ((wrap64 (x2_1 + 1)) : Int).toNat).drop (a2 : Int).toNat) := ⟨_, rfl⟩
      replace H := lt_ H hy436
      have Ny436 := a_ hy436
      clear hy436
      by_cases c23 : l0.length + y436.length < 140737488355328
      rotate_left
      ·
       rw [if_neg c23] at H
       exact absurd H (by simp)
      rw [if_pos c23] at H
      have LMc23 := a_ c23
      clear c23
      obtain ⟨y440, hy440⟩ : ∃ y_ : List Int, y_ = (l0 ++ y436) := ⟨_, rfl⟩
      replace H : (some (y440, wrap64 (x2_1 + 1), a3, true)) = some (r1, r2, r3, r4) := by first | exact lt_ H hy440 | (rw [hy440]; exact H) | exact H
      have Ny440 := a_ hy440
      clear hy440
      simp only [Option.some.injEq, Prod.mk.injEq] at H
      obtain ⟨rfl, rfl, rfl, rfl⟩ := H
      have q24 : ((wrap64 (x2_1 + 1)) : Int) ≤ ((l1.length : Int) : Int) := of_decide_eq_true as_
      obtain ⟨i024, hi024, _, hsz24, _⟩ := info_parts info5
      have hroom24 : l1.length ≤ c1 := HC1.out
      have hC24 : Kd.C (Kd.int .u8) _ (some ad427) l1.length l1 := (Kd.C_kept_now HR1.out HK.out)
      have ql24 : (a2 : Int) ≤ ((wrap64 (x2_1 + 1)) : Int) := of_decide_eq_true as_
      have q024 : (0 : Int) ≤ (a2 : Int) := of_decide_eq_true as_
      have hcut24 := cut_mid (P := Try.prog) 40 5 .i64 .i64 Try.underlying40 hi024 1 hsz24 (some ad427) l1.length c1 a2 (wrap64 (x2_1 + 1)) q024 ql24 q24 hroom24
      have hr24 := Kd.C_mid (lo := (a2 : Int).toNat) (hi := ((wrap64 (x2_1 + 1)) : Int).toNat) (c := c1) hC24 (by omega) (by omega) hroom24
      obtain ⟨A24, hA24⟩ : ∃ A1_, A1_ = (if c1 = (a2 : Int).toNat then (some ad427) else ((some ad427) : Option Addr).map (·.add ((a2 : Int).toNat * 1))) := ⟨_, rfl⟩
      obtain ⟨c24, hc24⟩ : ∃ c1_, c1_ = c1 - (a2 : Int).toNat := ⟨_, rfl⟩
      have hy24 : y436.length = ((wrap64 (x2_1 + 1)) : Int).toNat - (a2 : Int).toNat := (by rw [Ny436.out, List.length_drop, List.length_take] <;> omega)
      rw [show ((l1).take ((wrap64 (x2_1 + 1)) : Int).toNat).drop (a2 : Int).toNat = y436 from Ny436.out.symm] at hr24
      replace hr24 : Kd.C (Kd.int .u8) _ A24 y436.length y436 := (by rw [hA24]; exact hr24)
      rw [← hy24, ← hA24, ← hc24] at hcut24
      have HR439 := a_ hr24
      have HC439 := a_ (show y436.length ≤ c24 from by rw [hy24, hc24]; exact Nat.sub_le_sub_right (Nat.le_trans (by omega) hroom24) _)
      clear hr24 hC24 hroom24 hi024 hsz24 hc24
      have KY24 := a_ hy24
      have KA24 := a_ hA24
      clear hy24 hA24
      have KL24 := a_ (show ((wrap64 (x2_1 + 1)) : Int).toNat ≤ l1.length from by omega)
      have KM24 := a_ (show (a2 : Int).toNat ≤ ((wrap64 (x2_1 + 1)) : Int).toNat from by omega)
      replace q24 := eq_true q24
      go_wp2_with (first | ((with_reducible refine gate_builtin (b := .append) (xs := #[.tmp 48, .tmp 52]) rfl ?_); at_builtin; refine Kd.R_append_rows (Kd.int .u8) (w0 := w0) w0.heap.size rfl (.tmp 48) (.tmp 52) 40 5 (.int .u8 0) 1 rfl Try.underlying40 info5 rfl (by decide) (by omega) u9000_ l0 y436 _ _ _ (fun k_ => (P0_ k_ ∨ w.heap.size ≤ k_)) (fun _ => False) rfl rfl ?aO ?aR (fun _ _ h => h) (fun _ h => h.elim) ?aF ?aB ?aS ?aL ?_; (case aR => repeat (first | exact (by repeat (first | (with_reducible exact HR439.out) | (with_reducible refine Kd.C_alloc ?_ _) | (with_reducible refine Kd.C_drewN ?_ _) | (with_reducible refine Kd.C_drew ?_) | exact HR439.out)) | (with_reducible refine Kd.C_alloc ?_ _) | (with_reducible refine Kd.C_drewN ?_ _) | (with_reducible refine Kd.C_drew ?_))); (case aB => exact (bl_ HB)); (case aF => exact (ki_ (kz_ HK))); (case aO => exact (rp_ HO_0)); (case aS => exact (below_size (bl_ HB))); (case aL => have := LMc23.out; omega); intro v441 w25 ho hb hg hat; rw [← Ny440.out] at ho; replace HB := a_ hb; replace HR439 := a_ ((show Kd.C (Kd.int .u8) w25 A24 y436.length y436 from by rw [Ny436.out, KA24.out]; exact Kd.C_mid (lo := (a2 : Int).toNat) (hi := ((wrap64 (x2_1 + 1)) : Int).toNat) (c := c1) (Kd.C_kept_now HR1.out (show Kept w w25 (fun k_ => P0_ k_) from (Kept.of_grown (S := (fun k_ => P0_ k_)) hg (kp_ HK) (fun k_ e_ => (HO_0.out.1 k_ e_))))) KM24.out KL24.out HC1.out)); replace HK := a_ (Kept.of_grown (S := (fun k_ => P0_ k_)) hg (kp_ HK) (fun k_ e_ => (HO_0.out.1 k_ e_))); have HO442 := a_ ho; clear HO_0; clear ho hb hg hat))
      refine bodyPost_ret (results_list (rs := [.tmp 8, .tmp 9, .tmp 10, .tmp 11]) rfl (by simp) (.tmp (.tmp (.tmp (.tmp .nil))))) rfl ?_
      exact ⟨_, by first | rfl | (simp [errW_none, errW_some] <;> rfl) | (simp [*, errW_none, errW_some] <;> rfl), rp_ HO442, bl_ HB, kp_ HK⟩
     rw [if_pos c8] at H
     have c8b0 : decide (a2 < x14_2) = true := decide_eq_true c8
     clear c8
     by_cases c9 : 0 ≤ x14_2
     rotate_left
     ·
      rw [if_neg c9] at H
      exact absurd H (by simp)
     rw [if_pos c9] at H
     have c9b0 : decide (0 ≤ x14_2) = true := decide_eq_true c9
     clear c9
     by_cases c10 : x14_2 < (l1.length : Int)
     rotate_left
     ·
      rw [if_neg c10] at H
      exact absurd H (by simp)
     rw [if_pos c10] at H
     have c10b0 : decide (x14_2 < (l1.length : Int)) = true := decide_eq_true c10
     clear c10
     by_cases c11 : (rd l1 x14_2) = 92
     ·
      rw [if_pos c11] at H
      have c11b0 : ((rd l1 x14_2) == 92) = true := beq_iff_eq.mpr c11
      have c11b1 : ((rd l1 x14_2) != 92) = false := bne_eq_false_iff_eq.mpr c11
      clear c11
      have H' := a_ H
      clear H
      have p428 : 0 ≤ (x14_2 : Int) := of_decide_eq_true as_
      have q428 : x14_2 < (l1.length : Int) := of_decide_eq_true as_
      obtain ⟨ad428, e428, hx428_0⟩ := Kd.at_int (Kd.C_kept_now HR1.out HK.out) x14_2 p428 q428
      obtain rfl : ad427 = ad428 := (by injection e428)
      replace p428 := eq_true p428
      replace q428 := eq_true q428
      go_wp2
      go_roundg k2
      case measure => have := HK1.out; have := HK2.out; omega
      case rel => exact ⟨(wrap64 (x13_2 + 1)), (wrap64 (x14_2 - 1)), rl_, rl_, H', ⟨by have := HK1.out; have := HK2.out; omega⟩, ⟨rp_ HO_0⟩, ⟨kp_ HK⟩, ⟨bl_ HB⟩⟩
     rw [if_neg c11] at H
     have c11b0 : ((rd l1 x14_2) == 92) = false := beq_eq_false_iff_ne.mpr c11
     have c11b1 : ((rd l1 x14_2) != 92) = true := bne_iff_ne.mpr c11
     by_cases c12 : (Int.tmod x13_2 2) = 1
     ·
      rw [if_pos c12] at H
      have c12b0 : ((Int.tmod x13_2 2) == 1) = true := beq_iff_eq.mpr c12
      have c12b1 : ((Int.tmod x13_2 2) != 1) = false := bne_eq_false_iff_eq.mpr c12
      clear c12
      have H' := a_ H
      clear H
      have p428 : 0 ≤ (x14_2 : Int) := of_decide_eq_true as_
      have q428 : x14_2 < (l1.length : Int) := of_decide_eq_true as_
      obtain ⟨ad428, e428, hx428_0⟩ := Kd.at_int (Kd.C_kept_now HR1.out HK.out) x14_2 p428 q428
      obtain rfl : ad427 = ad428 := (by injection e428)
      replace p428 := eq_true p428
      replace q428 := eq_true q428
      go_wp2
      go_roundg k2
      case measure => have := HK1.out; have := HK2.out; omega
      case rel => exact ⟨(wrap64 (x2_1 + 1)), rl_, H', ⟨by have := HK1.out; have := HK2.out; omega⟩, ⟨rp_ HO_0⟩, ⟨kp_ HK⟩, ⟨bl_ HB⟩⟩
     rw [if_neg c12] at H
     have c12b0 : ((Int.tmod x13_2 2) == 1) = false := beq_eq_false_iff_ne.mpr c12
     have c12b1 : ((Int.tmod x13_2 2) != 1) = true := bne_iff_ne.mpr c12
     by_cases c13 : 0 ≤ a2
     rotate_left
     ·
      rw [if_neg c13] at H
      exact absurd H (by simp)
     rw [if_pos c13] at H
     have c13b0 := eq_true c13
     have c13b1 : decide (0 ≤ a2) = true := decide_eq_true c13
     clear c13
     by_cases c14 : a2 ≤ (wrap64 (x2_1 + 1))
     rotate_left
     ·
      rw [if_neg c14] at H
      exact absurd H (by simp)
     rw [if_pos c14] at H
     have c14b0 := eq_true c14
     have c14b1 : decide (a2 ≤ (wrap64 (x2_1 + 1))) = true := decide_eq_true c14
     by_cases c15 : (wrap64 (x2_1 + 1)) ≤ (l1.length : Int)
     rotate_left
     ·
      rw [if_neg c15] at H
      exact absurd H (by simp)
     rw [if_pos c15] at H
     have c15b0 := eq_true c15
     have c15b1 : decide ((wrap64 (x2_1 + 1)) ≤ (l1.length : Int)) = true := decide_eq_true c15
     obtain ⟨y429, hy429⟩ : ∃ y_ : List Int, y_ = ((l1.take ((wrap64 (x2_1 + 1)) : Int).toNat).drop (a2 : Int).toNat) := ⟨_, rfl⟩
     replace H := lt_ H hy429
     have Ny429 := a_ hy429
     clear hy429
     by_cases c16 : l0.length + y429.length < 140737488355328
     rotate_left
     ·
      rw [if_neg c16] at H
      exact absurd H (by simp)
     rw [if_pos c16] at H
     have LMc16 := a_ c16
     clear c16
     obtain ⟨y433, hy433⟩ : ∃ y_ : List Int, y_ = (l0 ++ y429) := ⟨_, rfl⟩
     replace H : (some (y433, wrap64 (x2_1 + 1), a3, true)) = some (r1, r2, r3, r4) := by first | exact lt_ H hy433 | (rw [hy433]; exact H) | exact H
     have Ny433 := a_ hy433
     clear hy433
     simp only [Option.some.injEq, Prod.mk.injEq] at H
     obtain ⟨rfl, rfl, rfl, rfl⟩ := H
     have p428 : 0 ≤ (x14_2 : Int) := of_decide_eq_true as_
     have q428 : x14_2 < (l1.length : Int) := of_decide_eq_true as_
     obtain ⟨ad428, e428, hx428_0⟩ := Kd.at_int (Kd.C_kept_now HR1.out HK.out) x14_2 p428 q428
     obtain rfl : ad427 = ad428 := (by injection e428)
     replace p428 := eq_true p428
     replace q428 := eq_true q428
     have q17 : ((wrap64 (x2_1 + 1)) : Int) ≤ ((l1.length : Int) : Int) := of_decide_eq_true as_
     obtain ⟨i017, hi017, _, hsz17, _⟩ := info_parts info5
     have hroom17 : l1.length ≤ c1 := HC1.out
     have hC17 : Kd.C (Kd.int .u8) _ (some ad427) l1.length l1 := (Kd.C_kept_now HR1.out HK.out)
     have ql17 : (a2 : Int) ≤ ((wrap64 (x2_1 + 1)) : Int) := of_decide_eq_true as_
     have q017 : (0 : Int) ≤ (a2 : Int) := of_decide_eq_true as_
     have hcut17 := cut_mid (P := Try.prog) 40 5 .i64 .i64 Try.underlying40 hi017 1 hsz17 (some ad427) l1.length c1 a2 (wrap64 (x2_1 + 1)) q017 ql17 q17 hroom17
     have hr17 := Kd.C_mid (lo := (a2 : Int).toNat) (hi := ((wrap64 (x2_1 + 1)) : Int).toNat) (c := c1) hC17 (by omega) (by omega) hroom17
     obtain ⟨A17, hA17⟩ : ∃ A1_, A1_ = (if c1 = (a2 : Int).toNat then (some ad427) else ((some ad427) : Option Addr).map (·.add ((a2 : Int).toNat * 1))) := ⟨_, rfl⟩
     obtain ⟨c17, hc17⟩ : ∃ c1_, c1_ = c1 - (a2 : Int).toNat := ⟨_, rfl⟩
     have hy17 : y429.length = ((wrap64 (x2_1 + 1)) : Int).toNat - (a2 : Int).toNat := (by rw [Ny429.out, List.length_drop, List.length_take] <;> omega)
     rw [show ((l1).take ((wrap64 (x2_1 + 1)) : Int).toNat).drop (a2 : Int).toNat = y429 from Ny429.out.symm] at hr17
     replace hr17 : Kd.C (Kd.int .u8) _ A17 y429.length y429 := (by rw [hA17]; exact hr17)
     rw [← hy17, ← hA17, ← hc17] at hcut17
     have HR432 := a_ hr17
     have HC432 := a_ (show y429.length ≤ c17 from by rw [hy17, hc17]; exact Nat.sub_le_sub_right (Nat.le_trans (by omega) hroom17) _)
     clear hr17 hC17 hroom17 hi017 hsz17 hc17
     have KY17 := a_ hy17
     have KA17 := a_ hA17
     clear hy17 hA17
     have KL17 := a_ (show ((wrap64 (x2_1 + 1)) : Int).toNat ≤ l1.length from by omega)
     have KM17 := a_ (show (a2 : Int).toNat ≤ ((wrap64 (x2_1 + 1)) : Int).toNat from by omega)
     replace q17 := eq_true q17
     go_wp2_with (first | ((with_reducible refine gate_builtin (b := .append) (xs := #[.tmp 48, .tmp 52]) rfl ?_); at_builtin; refine Kd.R_append_rows (Kd.int .u8) (w0 := w0) w0.heap.size rfl (.tmp 48) (.tmp 52) 40 5 (.int .u8 0) 1 rfl Try.underlying40 info5 rfl (by decide) (by omega) u9000_ l0 y429 _ _ _ (fun k_ => (P0_ k_ ∨ w.heap.size ≤ k_)) (fun _ => False) rfl rfl ?aO ?aR (fun _ _ h => h) (fun _ h => h.elim) ?aF ?aB ?aS ?aL ?_; (case aR => repeat (first | exact (by repeat (first | (with_reducible exact HR432.out) | (with_reducible refine Kd.C_alloc ?_ _) | (with_reducible refine Kd.C_drewN ?_ _) | (with_reducible refine Kd.C_drew ?_) | exact HR432.out)) | (with_reducible refine Kd.C_alloc ?_ _) | (with_reducible refine Kd.C_drewN ?_ _) | (with_reducible refine Kd.C_drew ?_))); (case aB => exact (bl_ HB)); (case aF => exact (ki_ (kz_ HK))); (case aO => exact (rp_ HO_0)); (case aS => exact (below_size (bl_ HB))); (case aL => have := LMc16.out; omega); intro v434 w18 ho hb hg hat; rw [← Ny433.out] at ho; replace HB := a_ hb; replace HR432 := a_ ((show Kd.C (Kd.int .u8) w18 A17 y429.length y429 from by rw [Ny429.out, KA17.out]; exact Kd.C_mid (lo := (a2 : Int).toNat) (hi := ((wrap64 (x2_1 + 1)) : Int).toNat) (c := c1) (Kd.C_kept_now HR1.out (show Kept w w18 (fun k_ => P0_ k_) from (Kept.of_grown (S := (fun k_ => P0_ k_)) hg (kp_ HK) (fun k_ e_ => (HO_0.out.1 k_ e_))))) KM17.out KL17.out HC1.out)); replace HK := a_ (Kept.of_grown (S := (fun k_ => P0_ k_)) hg (kp_ HK) (fun k_ e_ => (HO_0.out.1 k_ e_))); have HO435 := a_ ho; clear HO_0; clear ho hb hg hat))
     refine bodyPost_ret (results_list (rs := [.tmp 8, .tmp 9, .tmp 10, .tmp 11]) rfl (by simp) (.tmp (.tmp (.tmp (.tmp .nil))))) rfl ?_
     exact ⟨_, by first | rfl | (simp [errW_none, errW_some] <;> rfl) | (simp [*, errW_none, errW_some] <;> rfl), rp_ HO435, bl_ HB, kp_ HK⟩
/-! ### pNan: function 34 -/
def pNan.f (l0 : List Int) : Option (Bool) := if 0 < (l0.length : Int) then (if (rd l0 0) = 105 then (some true) else (if (rd l0 0) = 73 then (some true) else (if (rd l0 0) = 43 then (some true) else (if (rd l0 0) = 78 then (some true) else (if (rd l0 0) = 110 then (if (l0.length : Int) > 1 then (if 1 < (l0.length : Int) then (some ((rd l0 1) != 117)) else (none)) else (some false)) else (some false)))))) else (none)
set_option maxHeartbeats 8000000 in
set_option maxRecDepth 100000 in
theorem pNan.calls (A0 : Option Addr) (c0 : Nat) (l0 : List Int) (r : Bool) (w : World) (hr0 : Kd.C (Kd.int .u8) w A0 l0.length l0) (hc0 : l0.length ≤ c0) (h : pNan.f l0 = some r) :
  Calls Try.prog 34 #[.slice A0 l0.length c0] w fun e w' => e = .returned (.bool r) ∧ Drawn0 w w' := by
 have HR0 := a_ hr0
 have HC0 := a_ hc0
 clear hr0 hc0
 have H : (if 0 < (l0.length : Int) then (if (rd l0 0) = 105 then (some true) else (if (rd l0 0) = 73 then (some true) else (if (rd l0 0) = 43 then (some true) else (if (rd l0 0) = 78 then (some true) else (if (rd l0 0) = 110 then (if (l0.length : Int) > 1 then (if 1 < (l0.length : Int) then (some ((rd l0 1) != 117)) else (none)) else (some false)) else (some false)))))) else (none)) = some r := h
 clear h
 by_cases c2 : 0 < (l0.length : Int)
 rotate_left
 ·
  rw [if_neg c2] at H
  exact absurd H (by simp)
 rw [if_pos c2] at H
 have c2b0 : decide (0 < (l0.length : Int)) = true := decide_eq_true c2
 have c2b1 : decide (0 < l0.length) = true := decide_eq_true (by omega)
 clear c2
 by_cases c3 : (rd l0 0) = 105
 ·
  rw [if_pos c3] at H
  have c3b0 : ((rd l0 0) == 105) = true := beq_iff_eq.mpr c3
  have c3b1 : ((rd l0 0) != 105) = false := bne_eq_false_iff_eq.mpr c3
  clear c3
  obtain rfl := Option.some.inj H
  have p443 : 0 ≤ (0 : Int) := (by omega)
  have q443 : 0 < (l0.length : Int) := of_decide_eq_true as_
  obtain ⟨ad443, e443, hx443_0⟩ := Kd.at_int HR0.out 0 p443 q443
  cases e443
  have qi443 : (0 < l0.length) = True := eq_true (by omega)
  (try rw [show ((0 : Int)).toNat = 0 from rfl] at hx443_0)
  (try rw [Addr.add_zero'] at hx443_0)
  replace p443 := eq_true p443
  replace q443 := eq_true q443
  go_enter Try.func34, Try.ntmps34
  go_wp2
  go_ret
  exact ⟨by first | rfl | (simp; done) | (simp [*]; done), by repeat (first | exact Drawn0.refl _ | apply Drawn0.step)⟩
 rw [if_neg c3] at H
 have c3b0 : ((rd l0 0) == 105) = false := beq_eq_false_iff_ne.mpr c3
 have c3b1 : ((rd l0 0) != 105) = true := bne_iff_ne.mpr c3
 by_cases c4 : (rd l0 0) = 73
 ·
  rw [if_pos c4] at H
  have c4b0 : ((rd l0 0) == 73) = true := beq_iff_eq.mpr c4
  have c4b1 : ((rd l0 0) != 73) = false := bne_eq_false_iff_eq.mpr c4
  clear c4
  obtain rfl := Option.some.inj H
  have p443 : 0 ≤ (0 : Int) := (by omega)
  have q443 : 0 < (l0.length : Int) := of_decide_eq_true as_
  obtain ⟨ad443, e443, hx443_0⟩ := Kd.at_int HR0.out 0 p443 q443
  cases e443
  have qi443 : (0 < l0.length) = True := eq_true (by omega)
  (try rw [show ((0 : Int)).toNat = 0 from rfl] at hx443_0)
  (try rw [Addr.add_zero'] at hx443_0)
  replace p443 := eq_true p443
  replace q443 := eq_true q443
  have p444 : 0 ≤ (0 : Int) := (by omega)
  have q444 : 0 < (l0.length : Int) := of_decide_eq_true as_
  obtain ⟨ad444, e444, hx444_0⟩ := Kd.at_int HR0.out 0 p444 q444
  obtain rfl : ad443 = ad444 := (by injection e444)
  have qi444 : (0 < l0.length) = True := eq_true (by omega)
  (try rw [show ((0 : Int)).toNat = 0 from rfl] at hx444_0)
  (try rw [Addr.add_zero'] at hx444_0)
  replace p444 := eq_true p444
  replace q444 := eq_true q444
  go_enter Try.func34, Try.ntmps34
  go_wp2
  go_ret
  exact ⟨by first | rfl | (simp; done) | (simp [*]; done), by repeat (first | exact Drawn0.refl _ | apply Drawn0.step)⟩
 rw [if_neg c4] at H
 have c4b0 : ((rd l0 0) == 73) = false := beq_eq_false_iff_ne.mpr c4
 have c4b1 : ((rd l0 0) != 73) = true := bne_iff_ne.mpr c4
 by_cases c5 : (rd l0 0) = 43
 ·
  rw [if_pos c5] at H
  have c5b0 : ((rd l0 0) == 43) = true := beq_iff_eq.mpr c5
  have c5b1 : ((rd l0 0) != 43) = false := bne_eq_false_iff_eq.mpr c5
  clear c5
  obtain rfl := Option.some.inj H
  have p443 : 0 ≤ (0 : Int) := (by omega)
  have q443 : 0 < (l0.length : Int) := of_decide_eq_true as_
  obtain ⟨ad443, e443, hx443_0⟩ := Kd.at_int HR0.out 0 p443 q443
  cases e443
  have qi443 : (0 < l0.length) = True := eq_true (by omega)
  (try rw [show ((0 : Int)).toNat = 0 from rfl] at hx443_0)
  (try rw [Addr.add_zero'] at hx443_0)
  replace p443 := eq_true p443
  replace q443 := eq_true q443
  have p444 : 0 ≤ (0 : Int) := (by omega)
  have q444 : 0 < (l0.length : Int) := of_decide_eq_true as_
  obtain ⟨ad444, e444, hx444_0⟩ := Kd.at_int HR0.out 0 p444 q444
  obtain rfl : ad443 = ad444 := (by injection e444)
  have qi444 : (0 < l0.length) = True := eq_true (by omega)
  (try rw [show ((0 : Int)).toNat = 0 from rfl] at hx444_0)
  (try rw [Addr.add_zero'] at hx444_0)
  replace p444 := eq_true p444
  replace q444 := eq_true q444
  have p445 : 0 ≤ (0 : Int) := (by omega)
  have q445 : 0 < (l0.length : Int) := of_decide_eq_true as_
  obtain ⟨ad445, e445, hx445_0⟩ := Kd.at_int HR0.out 0 p445 q445
  obtain rfl : ad443 = ad445 := (by injection e445)
  have qi445 : (0 < l0.length) = True := eq_true (by omega)
  (try rw [show ((0 : Int)).toNat = 0 from rfl] at hx445_0)
  (try rw [Addr.add_zero'] at hx445_0)
  replace p445 := eq_true p445
  replace q445 := eq_true q445
  go_enter Try.func34, Try.ntmps34
  go_wp2
  go_ret
  exact ⟨by first | rfl | (simp; done) | (simp [*]; done), by repeat (first | exact Drawn0.refl _ | apply Drawn0.step)⟩
 rw [if_neg c5] at H
 have c5b0 : ((rd l0 0) == 43) = false := beq_eq_false_iff_ne.mpr c5
 have c5b1 : ((rd l0 0) != 43) = true := bne_iff_ne.mpr c5
 by_cases c6 : (rd l0 0) = 78
 ·
  rw [if_pos c6] at H
  have c6b0 : ((rd l0 0) == 78) = true := beq_iff_eq.mpr c6
  have c6b1 : ((rd l0 0) != 78) = false := bne_eq_false_iff_eq.mpr c6
  clear c6
  obtain rfl := Option.some.inj H
  have p443 : 0 ≤ (0 : Int) := (by omega)
  have q443 : 0 < (l0.length : Int) := of_decide_eq_true as_
  obtain ⟨ad443, e443, hx443_0⟩ := Kd.at_int HR0.out 0 p443 q443
  cases e443
  have qi443 : (0 < l0.length) = True := eq_true (by omega)
  (try rw [show ((0 : Int)).toNat = 0 from rfl] at hx443_0)
  (try rw [Addr.add_zero'] at hx443_0)
  replace p443 := eq_true p443
  replace q443 := eq_true q443
  have p444 : 0 ≤ (0 : Int) := (by omega)
  have q444 : 0 < (l0.length : Int) := of_decide_eq_true as_
  obtain ⟨ad444, e444, hx444_0⟩ := Kd.at_int HR0.out 0 p444 q444
  obtain rfl : ad443 = ad444 := (by injection e444)
  have qi444 : (0 < l0.length) = True := eq_true (by omega)
  (try rw [show ((0 : Int)).toNat = 0 from rfl] at hx444_0)
  (try rw [Addr.add_zero'] at hx444_0)
  replace p444 := eq_true p444
  replace q444 := eq_true q444
  have p445 : 0 ≤ (0 : Int) := (by omega)
  have q445 : 0 < (l0.length : Int) := of_decide_eq_true as_
  obtain ⟨ad445, e445, hx445_0⟩ := Kd.at_int HR0.out 0 p445 q445
  obtain rfl : ad443 = ad445 := (by injection e445)
  have qi445 : (0 < l0.length) = True := eq_true (by omega)
  (try rw [show ((0 : Int)).toNat = 0 from rfl] at hx445_0)
  (try rw [Addr.add_zero'] at hx445_0)
  replace p445 := eq_true p445
  replace q445 := eq_true q445
  have p446 : 0 ≤ (0 : Int) := (by omega)
  have q446 : 0 < (l0.length : Int) := of_decide_eq_true as_
  obtain ⟨ad446, e446, hx446_0⟩ := Kd.at_int HR0.out 0 p446 q446
  obtain rfl : ad443 = ad446 := (by injection e446)
  have qi446 : (0 < l0.length) = True := eq_true (by omega)
  (try rw [show ((0 : Int)).toNat = 0 from rfl] at hx446_0)
  (try rw [Addr.add_zero'] at hx446_0)
  replace p446 := eq_true p446
  replace q446 := eq_true q446
  go_enter Try.func34, Try.ntmps34
  go_wp2
  go_ret
  exact ⟨by first | rfl | (simp; done) | (simp [*]; done), by repeat (first | exact Drawn0.refl _ | apply Drawn0.step)⟩
 rw [if_neg c6] at H
 have c6b0 : ((rd l0 0) == 78) = false := beq_eq_false_iff_ne.mpr c6
 have c6b1 : ((rd l0 0) != 78) = true := bne_iff_ne.mpr c6
 by_cases c7 : (rd l0 0) = 110
 rotate_left
 ·
  rw [if_neg c7] at H
  have c7b0 : ((rd l0 0) == 110) = false := beq_eq_false_iff_ne.mpr c7
  have c7b1 : ((rd l0 0) != 110) = true := bne_iff_ne.mpr c7
  obtain rfl := Option.some.inj H
  have p443 : 0 ≤ (0 : Int) := (by omega)
  have q443 : 0 < (l0.length : Int) := of_decide_eq_true as_
  obtain ⟨ad443, e443, hx443_0⟩ := Kd.at_int HR0.out 0 p443 q443
  cases e443
  have qi443 : (0 < l0.length) = True := eq_true (by omega)
  (try rw [show ((0 : Int)).toNat = 0 from rfl] at hx443_0)
  (try rw [Addr.add_zero'] at hx443_0)
  replace p443 := eq_true p443
  replace q443 := eq_true q443
  have p444 : 0 ≤ (0 : Int) := (by omega)
  have q444 : 0 < (l0.length : Int) := of_decide_eq_true as_
  obtain ⟨ad444, e444, hx444_0⟩ := Kd.at_int HR0.out 0 p444 q444
  obtain rfl : ad443 = ad444 := (by injection e444)
  have qi444 : (0 < l0.length) = True := eq_true (by omega)
  (try rw [show ((0 : Int)).toNat = 0 from rfl] at hx444_0)
  (try rw [Addr.add_zero'] at hx444_0)
  replace p444 := eq_true p444
  replace q444 := eq_true q444
  have p445 : 0 ≤ (0 : Int) := (by omega)
  have q445 : 0 < (l0.length : Int) := of_decide_eq_true as_
  obtain ⟨ad445, e445, hx445_0⟩ := Kd.at_int HR0.out 0 p445 q445
  obtain rfl : ad443 = ad445 := (by injection e445)
  have qi445 : (0 < l0.length) = True := eq_true (by omega)
  (try rw [show ((0 : Int)).toNat = 0 from rfl] at hx445_0)
  (try rw [Addr.add_zero'] at hx445_0)
  replace p445 := eq_true p445
  replace q445 := eq_true q445
  have p446 : 0 ≤ (0 : Int) := (by omega)
  have q446 : 0 < (l0.length : Int) := of_decide_eq_true as_
  obtain ⟨ad446, e446, hx446_0⟩ := Kd.at_int HR0.out 0 p446 q446
  obtain rfl : ad443 = ad446 := (by injection e446)
  have qi446 : (0 < l0.length) = True := eq_true (by omega)
  (try rw [show ((0 : Int)).toNat = 0 from rfl] at hx446_0)
  (try rw [Addr.add_zero'] at hx446_0)
  replace p446 := eq_true p446
  replace q446 := eq_true q446
  have p447 : 0 ≤ (0 : Int) := (by omega)
  have q447 : 0 < (l0.length : Int) := of_decide_eq_true as_
  obtain ⟨ad447, e447, hx447_0⟩ := Kd.at_int HR0.out 0 p447 q447
  obtain rfl : ad443 = ad447 := (by injection e447)
  have qi447 : (0 < l0.length) = True := eq_true (by omega)
  (try rw [show ((0 : Int)).toNat = 0 from rfl] at hx447_0)
  (try rw [Addr.add_zero'] at hx447_0)
  replace p447 := eq_true p447
  replace q447 := eq_true q447
  go_enter Try.func34, Try.ntmps34
  go_wp2
  go_ret
  exact ⟨by first | rfl | (simp; done) | (simp [*]; done), by repeat (first | exact Drawn0.refl _ | apply Drawn0.step)⟩
 rw [if_pos c7] at H
 have c7b0 : ((rd l0 0) == 110) = true := beq_iff_eq.mpr c7
 have c7b1 : ((rd l0 0) != 110) = false := bne_eq_false_iff_eq.mpr c7
 clear c7
 by_cases c8 : (l0.length : Int) > 1
 rotate_left
 ·
  rw [if_neg c8] at H
  have c8b0 : decide (1 < (l0.length : Int)) = false := decide_eq_false c8
  have c8b1 : decide (1 < l0.length) = false := decide_eq_false (by omega)
  clear c8
  obtain rfl := Option.some.inj H
  have p443 : 0 ≤ (0 : Int) := (by omega)
  have q443 : 0 < (l0.length : Int) := of_decide_eq_true as_
  obtain ⟨ad443, e443, hx443_0⟩ := Kd.at_int HR0.out 0 p443 q443
  cases e443
  have qi443 : (0 < l0.length) = True := eq_true (by omega)
  (try rw [show ((0 : Int)).toNat = 0 from rfl] at hx443_0)
  (try rw [Addr.add_zero'] at hx443_0)
  replace p443 := eq_true p443
  replace q443 := eq_true q443
  have p444 : 0 ≤ (0 : Int) := (by omega)
  have q444 : 0 < (l0.length : Int) := of_decide_eq_true as_
  obtain ⟨ad444, e444, hx444_0⟩ := Kd.at_int HR0.out 0 p444 q444
  obtain rfl : ad443 = ad444 := (by injection e444)
  have qi444 : (0 < l0.length) = True := eq_true (by omega)
  (try rw [show ((0 : Int)).toNat = 0 from rfl] at hx444_0)
  (try rw [Addr.add_zero'] at hx444_0)
  replace p444 := eq_true p444
  replace q444 := eq_true q444
  have p445 : 0 ≤ (0 : Int) := (by omega)
  have q445 : 0 < (l0.length : Int) := of_decide_eq_true as_
  obtain ⟨ad445, e445, hx445_0⟩ := Kd.at_int HR0.out 0 p445 q445
  obtain rfl : ad443 = ad445 := (by injection e445)
  have qi445 : (0 < l0.length) = True := eq_true (by omega)
  (try rw [show ((0 : Int)).toNat = 0 from rfl] at hx445_0)
  (try rw [Addr.add_zero'] at hx445_0)
  replace p445 := eq_true p445
  replace q445 := eq_true q445
  have p446 : 0 ≤ (0 : Int) := (by omega)
  have q446 : 0 < (l0.length : Int) := of_decide_eq_true as_
  obtain ⟨ad446, e446, hx446_0⟩ := Kd.at_int HR0.out 0 p446 q446
  obtain rfl : ad443 = ad446 := (by injection e446)
  have qi446 : (0 < l0.length) = True := eq_true (by omega)
  (try rw [show ((0 : Int)).toNat = 0 from rfl] at hx446_0)
  (try rw [Addr.add_zero'] at hx446_0)
  replace p446 := eq_true p446
  replace q446 := eq_true q446
  have p447 : 0 ≤ (0 : Int) := (by omega)
  have q447 : 0 < (l0.length : Int) := of_decide_eq_true as_
  obtain ⟨ad447, e447, hx447_0⟩ := Kd.at_int HR0.out 0 p447 q447
  obtain rfl : ad443 = ad447 := (by injection e447)
  have qi447 : (0 < l0.length) = True := eq_true (by omega)
  (try rw [show ((0 : Int)).toNat = 0 from rfl] at hx447_0)
  (try rw [Addr.add_zero'] at hx447_0)
  replace p447 := eq_true p447
  replace q447 := eq_true q447
  go_enter Try.func34, Try.ntmps34
  go_wp2
  go_ret
  exact ⟨by first | rfl | (simp; done) | (simp [*]; done), by repeat (first | exact Drawn0.refl _ | apply Drawn0.step)⟩
 rw [if_pos c8] at H
 have c8b0 : decide (1 < (l0.length : Int)) = true := decide_eq_true c8
 have c8b1 : decide (1 < l0.length) = true := decide_eq_true (by omega)
 clear c8
 by_cases c9 : 1 < (l0.length : Int)
 rotate_left
 ·
  rw [if_neg c9] at H
  exact absurd H (by simp)
 rw [if_pos c9] at H
 have c9b0 : decide (1 < (l0.length : Int)) = true := decide_eq_true c9
 have c9b1 : decide (1 < l0.length) = true := decide_eq_true (by omega)
 clear c9
 obtain rfl := Option.some.inj H
 have p443 : 0 ≤ (0 : Int) := (by omega)
 have q443 : 0 < (l0.length : Int) := of_decide_eq_true as_
 obtain ⟨ad443, e443, hx443_0⟩ := Kd.at_int HR0.out 0 p443 q443
 cases e443
 have qi443 : (0 < l0.length) = True := eq_true (by omega)
 (try rw [show ((0 : Int)).toNat = 0 from rfl] at hx443_0)
 (try rw [Addr.add_zero'] at hx443_0)
 replace p443 := eq_true p443
 replace q443 := eq_true q443
 have p444 : 0 ≤ (0 : Int) := (by omega)
 have q444 : 0 < (l0.length : Int) := of_decide_eq_true as_
 obtain ⟨ad444, e444, hx444_0⟩ := Kd.at_int HR0.out 0 p444 q444
 obtain rfl : ad443 = ad444 := (by injection e444)
 have qi444 : (0 < l0.length) = True := eq_true (by omega)
 (try rw [show ((0 : Int)).toNat = 0 from rfl] at hx444_0)
 (try rw [Addr.add_zero'] at hx444_0)
 replace p444 := eq_true p444
 replace q444 := eq_true q444
 have p445 : 0 ≤ (0 : Int) := (by omega)
 have q445 : 0 < (l0.length : Int) := of_decide_eq_true as_
 obtain ⟨ad445, e445, hx445_0⟩ := Kd.at_int HR0.out 0 p445 q445
 obtain rfl : ad443 = ad445 := (by injection e445)
 have qi445 : (0 < l0.length) = True := eq_true (by omega)
 (try rw [show ((0 : Int)).toNat = 0 from rfl] at hx445_0)
 (try rw [Addr.add_zero'] at hx445_0)
 replace p445 := eq_true p445
 replace q445 := eq_true q445
 have p446 : 0 ≤ (0 : Int) := (by omega)
 have q446 : 0 < (l0.length : Int) := of_decide_eq_true as_
 obtain ⟨ad446, e446, hx446_0⟩ := Kd.at_int HR0.out 0 p446 q446
 obtain rfl : ad443 = ad446 := (by injection e446)
 have qi446 : (0 < l0.length) = True := eq_true (by omega)
 (try rw [show ((0 : Int)).toNat = 0 from rfl] at hx446_0)
 (try rw [Addr.add_zero'] at hx446_0)
 replace p446 := eq_true p446
 replace q446 := eq_true q446
 have p447 : 0 ≤ (0 : Int) := (by omega)
 have q447 : 0 < (l0.length : Int) := of_decide_eq_true as_
 obtain ⟨ad447, e447, hx447_0⟩ := Kd.at_int HR0.out 0 p447 q447
 obtain rfl : ad443 = ad447 := (by injection e447)
 have qi447 : (0 < l0.length) = True := eq_true (by omega)
 (try rw [show ((0 : Int)).toNat = 0 from rfl] at hx447_0)
 (try rw [Addr.add_zero'] at hx447_0)
 replace p447 := eq_true p447
 replace q447 := eq_true q447
 have p448 : 0 ≤ (1 : Int) := (by omega)
 have q448 : 1 < (l0.length : Int) := of_decide_eq_true as_
 obtain ⟨ad448, e448, hx448_0⟩ := Kd.at_int HR0.out 1 p448 q448
 obtain rfl : ad443 = ad448 := (by injection e448)
 (try simp only [show (1 : Int).toNat = 1 from rfl, Nat.reduceMul, Nat.reduceEqDiff, Go.Addr.add, ↓reduceIte] at hx448_0)
 have qi448 : (1 < l0.length) = True := eq_true (by omega)
 (try rw [show ((1 : Int)).toNat = 1 from rfl] at hx448_0)
 replace p448 := eq_true p448
 replace q448 := eq_true q448
 go_enter Try.func34, Try.ntmps34
 go_wp2
 go_ret
 exact ⟨by first | rfl | (simp; done) | (simp [*]; done), by repeat (first | exact Drawn0.refl _ | apply Drawn0.step)⟩
end Go.Proofs.Ytnilbkfhfnofgaa.PFnPrWidthMember
