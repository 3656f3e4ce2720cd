/- Contracts of Go functions of this seat: a Lean function over numbers and lists for each, and a proof that the Go function returns what it gives. Made by program. -/
import Derived.Test.YtnilbkfhfnofgaaPFnPrWidthMemberx0
import Derived.Test.YtnilbkfhfnofgaaPFnPrWidthMemberx6
namespace Go.Proofs.Ytnilbkfhfnofgaa.PFnPrWidthMember
open Go.RowKit Go.Proofs.YtnilbkfhfnofgaaW.PrintWords Go.Proofs.YtnilbkfhfnofgaaW.PrintLast Go.Proofs.YtnilbkfhfnofgaaW.PrintMore
attribute [local go_sem] max2_int min2_int max_two min_two max_three min_three max_four min_four   -- for this text's walks alone
set_option linter.unusedVariables false
set_option linter.unusedSimpArgs false
/-! ### sQu: function 9 -/
mutual
def sQu.l0 : Nat → ByteArray → List Int → Int → Option (ByteArray)
  | 0, _, _, _ => none
  | k + 1, x0, x3, x4 => if x4 < (x0.size : Int) then (if 0 ≤ x4 then ((spec_shortOf.f (bt x0 x4)).bind fun bt295 => (if bt295.2 = true then (sQu.j1 k x0 x3 x4 (bt x0 x4) bt295.1 ((bt x0 x4) != 47)) else (sQu.j1 k x0 x3 x4 (bt x0 x4) bt295.1 false))) else (none)) else (if x3.length < 140737488355328 then (some (strOfNums (x3 ++ [34]))) else (none))
def sQu.j1 : Nat → ByteArray → List Int → Int → Int → Int → Bool → Option (ByteArray)
  | 0, _, _, _, _, _, _ => none
  | k + 1, x0, x3, x4, x5, x6, x27 => if x27 = true then ((some (([92, x6] : List Int) : List Int)).bind fun y297 => (if x3.length + y297.length < 140737488355328 then (sQu.l0 k x0 (x3 ++ y297) (wrap64 (x4 + 1))) else (none))) else (if x5 < 32 then ((spec_digitOf.f (wrap64 (Int.tmod x5 16)) false).bind fun t303 => ((some (([92, 117, 48, 48, (48 + ((Int.tdiv x5 16) % 256)) % 256, t303] : List Int) : List Int)).bind fun y304 => (if x3.length + y304.length < 140737488355328 then (sQu.l0 k x0 (x3 ++ y304) (wrap64 (x4 + 1))) else (none)))) else (if x3.length < 140737488355328 then (sQu.l0 k x0 (x3 ++ [x5]) (wrap64 (x4 + 1))) else (none)))
end
def sQu.f (k : Nat) (a0 : ByteArray) : Option (ByteArray) := sQu.l0 k a0 (([34] : List Int)) 0
theorem sQu.mono_l : ∀ k, (∀ y0 y1 y2, LeO (sQu.l0 k y0 y1 y2) (sQu.l0 (k + 1) y0 y1 y2)) ∧ (∀ y0 y1 y2 y3 y4 y5, LeO (sQu.j1 k y0 y1 y2 y3 y4 y5) (sQu.j1 (k + 1) y0 y1 y2 y3 y4 y5))
 | 0 => ⟨fun _ _ _ r h => by simp [sQu.l0] at h, fun _ _ _ _ _ _ r h => by simp [sQu.j1] at h⟩
 | k + 1 => by
  obtain ⟨ih0, ih1⟩ := sQu.mono_l k
  refine ⟨?_, ?_⟩
  all_goals intros
  all_goals (first | unfold sQu.l0 | unfold sQu.j1)
  all_goals repeat' first | (with_reducible first | apply ih0 | apply ih1 | apply LeO.refl | apply LeO.none | refine LeO.ite ?_ ?_ | refine LeO.bind ?_ (fun _ => ?_)) | apply ih0 | apply ih1 | apply LeO.none | refine LeO.ite ?_ ?_ | refine LeO.bind ?_ (fun _ => ?_)
theorem sQu.mono : ∀ a0 k, LeO (sQu.f k a0) (sQu.f (k + 1) a0) := by
 intro a0 k
 obtain ⟨ih0, ih1⟩ := sQu.mono_l k
 unfold sQu.f
 repeat' first | (with_reducible first | apply ih0 | apply ih1 | apply LeO.refl | apply LeO.none | refine LeO.ite ?_ ?_ | refine LeO.bind ?_ (fun _ => ?_)) | apply ih0 | apply ih1 | apply LeO.none | refine LeO.ite ?_ ?_ | refine LeO.bind ?_ (fun _ => ?_)
set_option maxHeartbeats 8000000 in
set_option maxRecDepth 100000 in
theorem sQu.calls (k : Nat) (a0 : ByteArray) (r : ByteArray) (w : World) (h : sQu.f k a0 = some r) :
  Calls Try.prog 9 #[.string a0] w fun e w' => e = .returned (.string r) ∧ Below w.heap.size w w' := by
 have HB := a_ (Below.refl w.heap.size w)
 have H : (sQu.l0 k a0 (([34] : List Int)) 0) = some r := h
 clear h
 obtain ⟨y289, hy289⟩ : ∃ y_ : List Int, y_ = (([34] : List Int)) := ⟨_, rfl⟩
 replace H : (sQu.l0 k a0 y289 0) = some r := by first | exact lt_ H hy289 | (rw [hy289]; exact H) | exact H
 have Ny289 := a_ hy289
 clear hy289
 have H' := a_ H
 clear H
 go_enter Try.func9, Try.ntmps9
 go_wp2_with (first | ((with_reducible refine gate_dst (N := 8) rfl ?_); refine Kd.R_lit (Kd.int .u8) _ 5 ?hg (N := 8) ?hd (xs := ([34] : List Int)) (inner := [.int .u8 34]) (ok := fun _ => True) (okp := fun _ => True) ?hr ?hp (fun _ hk => hk) trivial (Below.refl _ _) (Nat.le_refl _) (by simp) ?_; (case hd => rfl); (case hg => rfl); (case hr => first | (go_simp; done) | (go_simp; rfl)); (case hp => exact (Reps.one (show Kd.M (Kd.int .u8) _ _ _ 34 [.int .u8 34] from rfl) (Reps.none _ _))); intro v290 w2 ho3 hb hg_ hnew_; clear hg_ hnew_; (first | rw [← Ny289.out] at ho3 | (simp only [Int.reduceToNat] at ho3; rw [← Ny289.out] at ho3)); have HO291 := a_ (Kd.R_lower ho3 (below_size (bl_ HB))); replace HB := a_ (below_step (bl_ HB) hb); clear hb ho3))
 (try simp only [Act.put, List.setIfInBounds_toArray, List.set_cons_zero, List.set_cons_succ])
 go_loopg [3, 4] k (fun kq v3 v4 w' => ∃ (x3_1 : List Int) (x4_1 : Int), v4 = .int .i64 x4_1 ∧ Aside0 (sQu.l0 kq a0 x3_1 x4_1 = some r) ∧ Aside0 (kq ≤ k) ∧ Aside0 (Kd.R (Kd.int .u8) 5 w' w.heap.size (fun _ => True) v3 x3_1) ∧ Aside0 (Below w.heap.size w w'))
 case atStart => exact ⟨(y289), (0), rl_, H', ⟨Nat.le_refl _⟩, ⟨rp_ HO291⟩, ⟨bl_ HB⟩⟩
 case round =>
  clear H'
  (try clear p2)
  obtain ⟨x3_1, x4_1, rfl, HA, HK1, HO_3, HB⟩ := hrel
  cases gk with
  | zero => exact absurd HA.out (by simp [sQu.l0])
  | succ k1 =>
   have H := HA.out
   clear HA
   simp only [sQu.l0] at H
   by_cases c4 : x4_1 < (a0.size : Int)
   rotate_left
   ·
    rw [if_neg c4] at H
    have c4b0 : decide (x4_1 < (a0.size : Int)) = false := decide_eq_false c4
    clear c4
    by_cases c25 : x3_1.length < 140737488355328
    rotate_left
    ·
     rw [if_neg c25] at H
     exact absurd H (by simp)
    rw [if_pos c25] at H
    have LMc25 := a_ c25
    clear c25
    obtain ⟨y292, hy292⟩ : ∃ y_ : List Int, y_ = (x3_1 ++ [34]) := ⟨_, rfl⟩
    replace H : (some (strOfNums y292)) = some r := by first | exact lt_ H hy292 | (rw [hy292]; exact H) | exact H
    have Ny292 := a_ hy292
    clear hy292
    obtain rfl := Option.some.inj H
    go_wp2_with (first | ((with_reducible refine gate_builtin (b := .append) (xs := #[.tmp 50, .tmp 51]) rfl ?_); at_builtin; refine Kd.R_append (Kd.int .u8) (w0 := w) w.heap.size rfl (.tmp 50) (.tmp 51) 40 5 (.int .u8 0) 1 rfl Try.underlying40 info5 rfl (by decide) (by omega) u3 x3_1 34 [.int .u8 34] (fun _ => True) (fun _ => False) rfl rfl ?aP (fun _ hk => hk.elim) ?aF ?aO ?aB ?aS ?aL ?_; (case aP => exact rfl); (case aB => exact (bl_ HB)); (case aF => exact (fun _ _ => trivial)); (case aO => exact (rp_ HO_3)); (case aS => exact (below_size (bl_ HB))); (case aL => have := LMc25.out; omega); intro v293 w26 ho hb hg hat; rw [← Ny292.out] at ho; replace HB := a_ hb; have HO294 := a_ ho; clear HO_3; clear ho hb hg hat; have hcv27 := own_string (P := Try.prog) Try.underlying40 Try.underlying5 Try.underlying9 (Kd.own_of_R HO294.out)))
    go_ret
    exact ⟨by first | rfl | (simp [errW_none, errW_some] <;> rfl) | (simp [*, errW_none, errW_some] <;> rfl), bl_ HB⟩
   rw [if_pos c4] at H
   have c4b0 : decide (x4_1 < (a0.size : Int)) = true := decide_eq_true c4
   clear c4
   by_cases c5 : 0 ≤ x4_1
   rotate_left
   ·
    rw [if_neg c5] at H
    exact absurd H (by simp)
   rw [if_pos c5] at H
   have c5b0 : decide (0 ≤ x4_1) = true := decide_eq_true c5
   clear c5
   replace H := Option.bind_eq_some_iff.mp H
   obtain ⟨⟨t295, t296⟩, A70, H⟩ := H
   replace H : (if t296 = true then (sQu.j1 k1 a0 x3_1 x4_1 (bt a0 x4_1) t295 ((bt a0 x4_1) != 47)) else (sQu.j1 k1 a0 x3_1 x4_1 (bt a0 x4_1) t295 false)) = some r := H
   have A7 := a_ A70
   clear A70
   have HC8 := a_ H
   clear H
   have p6 : 0 ≤ (x4_1 : Int) := of_decide_eq_true as_
   have q6 : x4_1 < (a0.size : Int) := of_decide_eq_true as_
   have hx6 := bt_at a0 x4_1
   replace p6 := eq_true p6
   replace q6 := eq_true q6
   go_upto_region 8 with (first | ((with_reducible refine gate_callee (f := 14) rfl ?_); refine goesL_ (some 20) rfl rfl Try.func14 (by kernel_rfl) rfl #[.int .u8 (bt a0 x4_1)] rfl ar_ ?_; (with_reducible refine (spec_shortOf.calls (bt a0 x4_1) t295 t296 _ A7.out).mono ?_); rintro e w' ⟨rfl, ⟨nd, rfl⟩⟩; refine ⟨_, rfl, ?_⟩))
   (try simp only [Act.put, List.setIfInBounds_toArray, List.set_cons_zero, List.set_cons_succ])
   go_cut [27] (fun v27 wc => ∃ (kq : Nat) (x27_7 : Bool), v27 = .bool x27_7 ∧ Aside0 (sQu.j1 kq a0 x3_1 x4_1 (bt a0 x4_1) t295 x27_7 = some r) ∧ Aside0 (kq ≤ k1) ∧ Aside0 (Kd.R (Kd.int .u8) 5 wc w.heap.size (fun _ => True) u3 x3_1) ∧ Aside0 (Below w.heap.size w wc))
   case first =>
    have H := HC8.out
    clear HC8
    by_cases c9 : t296 = true
    ·
     subst c9
     rw [if_pos rfl] at H
     have H' := a_ H
     clear H
     go_wp2
     go_meet
     case rel => exact ⟨_, (((bt a0 x4_1) != 47)), rl_, H', ⟨by have := HK1.out; first | omega | exact Nat.le_refl _⟩, ⟨rp_ HO_3⟩, ⟨bl_ HB⟩⟩
    replace c9 := Bool.eq_false_iff.mpr c9
    subst c9
    rw [if_neg (show ¬ (false = true) by decide)] at H
    have H' := a_ H
    clear H
    go_wp2
    go_meet
    case rel => exact ⟨_, (false), rl_, H', ⟨by have := HK1.out; first | omega | exact Nat.le_refl _⟩, ⟨rp_ HO_3⟩, ⟨bl_ HB⟩⟩
   clear HC8
   (try clear c1); (try clear p2); (try clear c4); (try clear c4b0); (try clear c5); (try clear c5b0); (try clear p6); (try clear q6); (try clear hx6); (try clear c9); (try clear p2); (try clear p6); (try clear q6)
   obtain ⟨kq, x27_7, rfl, HA, HJ7, HO_3, HB⟩ := hcut
   cases kq with
   | zero => exact absurd HA.out (by simp [sQu.j1])
   | succ kj7 =>
    have H := HA.out
    clear HA
    simp only [sQu.j1] at H
    by_cases c10 : x27_7 = true
    ·
     subst c10
     rw [if_pos rfl] at H
     obtain ⟨y297, hy297⟩ : ∃ y_ : List Int, y_ = (([92, t295] : List Int)) := ⟨_, rfl⟩
     replace H := lt_ H hy297
     have Ny297 := a_ hy297
     clear hy297
     by_cases c11 : x3_1.length + y297.length < 140737488355328
     rotate_left
     ·
      rw [if_neg c11] at H
      exact absurd H (by simp)
     rw [if_pos c11] at H
     have LMc11 := a_ c11
     clear c11
     obtain ⟨y300, hy300⟩ : ∃ y_ : List Int, y_ = (x3_1 ++ y297) := ⟨_, rfl⟩
     replace H : (sQu.l0 kj7 a0 y300 (wrap64 (x4_1 + 1))) = some r := by first | exact lt_ H hy300 | (rw [hy300]; exact H) | exact H
     have Ny300 := a_ hy300
     clear hy300
     have H' := a_ H
     clear H
     go_wp2_with (first | ((with_reducible refine gate_dst (N := 35) rfl ?_); refine Kd.R_lit (Kd.int .u8) _ 5 ?hg (N := 35) ?hd (xs := ([92, t295] : List Int)) (inner := [.int .u8 92, .int .u8 t295]) (ok := fun _ => True) (okp := fun _ => True) ?hr ?hp (fun _ hk => hk) trivial (Below.refl _ _) (Nat.le_refl _) (by simp) ?_; (case hd => rfl); (case hg => rfl); (case hr => first | (go_simp; done) | (go_simp; rfl)); (case hp => exact (Reps.one (show Kd.M (Kd.int .u8) _ _ _ 92 [.int .u8 92] from rfl) (Reps.one (show Kd.M (Kd.int .u8) _ _ _ t295 [.int .u8 t295] from rfl) (Reps.none _ _)))); intro v298 w12 ho13 hb hg_ hnew_; clear hg_ hnew_; (first | rw [← Ny297.out] at ho13 | (simp only [Int.reduceToNat] at ho13; rw [← Ny297.out] at ho13)); have HO299 := a_ (Kd.R_lower (Kd.R_new' ho13 (Kd.R_lt (rp_ HO_3))) (below_size (bl_ HB))); replace HO_3 := a_ (Kd.R_elder' (rp_ HO_3) (Kd.R_base ho13) hb); replace HB := a_ (below_step (bl_ HB) hb); clear hb ho13; obtain ⟨Ao15, co15, eo15⟩ := Kd.R_slice HO299.out; subst eo15) | ((with_reducible refine gate_builtin (b := .append) (xs := #[.tmp 33, .tmp 35]) rfl ?_); at_builtin; refine Kd.R_append_rows (Kd.int .u8) (w0 := w) w.heap.size rfl (.tmp 33) (.tmp 35) 40 5 (.int .u8 0) 1 rfl Try.underlying40 info5 rfl (by decide) (by omega) u3 x3_1 y297 _ _ _ (fun k_ => some k_ ≠ (.slice Ao15 y297.length co15 : Value).ownBlock) (fun _ => False) rfl rfl ?aO ?aR (fun _ _ h => h) (fun _ h => h.elim) ?aF ?aB ?aS ?aL ?_; (case aR => repeat (first | exact (Kd.R_reads' HO299.out).2.2 | (with_reducible refine Kd.C_alloc ?_ _) | (with_reducible refine Kd.C_drewN ?_ _) | (with_reducible refine Kd.C_drew ?_))); (case aB => exact (bl_ HB)); (case aF => exact (fun k_ hk => Kd.fresh' (Kd.R_lt (rp_ HO299)) k_ hk)); (case aO => exact (by (with_reducible repeat (first | apply Kd.R_alloc | apply Kd.R_drewN | apply Kd.R_drew)); exact Kd.R_mono HO_3.out (fun _ hk => hk.2))); (case aS => exact (below_size (bl_ HB))); (case aL => have := LMc11.out; omega); intro v301 w14 ho hb hg hat; rw [← Ny300.out] at ho; replace HO299 := a_ (Kd.R_after (ok := (fun _ => True)) (rp_ HO299) hg hat); replace HB := a_ hb; have HO302 := a_ ho; clear HO_3; clear ho hb hg hat))
     go_roundg kj7
     case measure => have := HK1.out; have := HJ7.out; omega
     case rel => exact ⟨(y300), (wrap64 (x4_1 + 1)), rl_, H', ⟨by have := HK1.out; have := HJ7.out; omega⟩, ⟨by (with_reducible repeat (first | apply Kd.R_alloc | apply Kd.R_drewN | apply Kd.R_drew)); exact Kd.R_mono HO302.out (fun _ hk => trivial)⟩, ⟨bl_ HB⟩⟩
    replace c10 := Bool.eq_false_iff.mpr c10
    subst c10
    rw [if_neg (show ¬ (false = true) by decide)] at H
    by_cases c16 : (bt a0 x4_1) < 32
    rotate_left
    ·
     rw [if_neg c16] at H
     have c16b0 : decide ((bt a0 x4_1) < 32) = false := decide_eq_false c16
     clear c16
     by_cases c23 : x3_1.length < 140737488355328
     rotate_left
     ·
      rw [if_neg c23] at H
      exact absurd H (by simp)
     rw [if_pos c23] at H
     have LMc23 := a_ c23
     clear c23
     obtain ⟨y310, hy310⟩ : ∃ y_ : List Int, y_ = (x3_1 ++ [(bt a0 x4_1)]) := ⟨_, rfl⟩
     replace H : (sQu.l0 kj7 a0 y310 (wrap64 (x4_1 + 1))) = some r := by first | exact lt_ H hy310 | (rw [hy310]; exact H) | exact H
     have Ny310 := a_ hy310
     clear hy310
     have H' := a_ H
     clear H
     go_wp2_with (first | ((with_reducible refine gate_builtin (b := .append) (xs := #[.tmp 23, .tmp 25]) rfl ?_); at_builtin; refine Kd.R_append (Kd.int .u8) (w0 := w) w.heap.size rfl (.tmp 23) (.tmp 25) 40 5 (.int .u8 0) 1 rfl Try.underlying40 info5 rfl (by decide) (by omega) u3 x3_1 (bt a0 x4_1) [.int .u8 (bt a0 x4_1)] (fun _ => True) (fun _ => False) rfl rfl ?aP (fun _ hk => hk.elim) ?aF ?aO ?aB ?aS ?aL ?_; (case aP => exact rfl); (case aB => exact (bl_ HB)); (case aF => exact (fun _ _ => trivial)); (case aO => exact (rp_ HO_3)); (case aS => exact (below_size (bl_ HB))); (case aL => have := LMc23.out; omega); intro v311 w24 ho hb hg hat; rw [← Ny310.out] at ho; replace HB := a_ hb; have HO312 := a_ ho; clear HO_3; clear ho hb hg hat))
     go_roundg kj7
     case measure => have := HK1.out; have := HJ7.out; omega
     case rel => exact ⟨(y310), (wrap64 (x4_1 + 1)), rl_, H', ⟨by have := HK1.out; have := HJ7.out; omega⟩, ⟨rp_ HO312⟩, ⟨bl_ HB⟩⟩
    rw [if_pos c16] at H
    have c16b0 : decide ((bt a0 x4_1) < 32) = true := decide_eq_true c16
    clear c16
    replace H := Option.bind_eq_some_iff.mp H
    obtain ⟨t303, A170, H⟩ := H
    replace H : ((some (([92, 117, 48, 48, (48 + ((Int.tdiv (bt a0 x4_1) 16) % 256)) % 256, t303] : List Int) : List Int)).bind fun y304 => (if x3_1.length + y304.length < 140737488355328 then (sQu.l0 kj7 a0 (x3_1 ++ y304) (wrap64 (x4_1 + 1))) else (none))) = some r := H
    have A17 := a_ A170
    clear A170
    obtain ⟨y304, hy304⟩ : ∃ y_ : List Int, y_ = (([92, 117, 48, 48, (48 + ((Int.tdiv (bt a0 x4_1) 16) % 256)) % 256, t303] : List Int)) := ⟨_, rfl⟩
    replace H := lt_ H hy304
    have Ny304 := a_ hy304
    clear hy304
    by_cases c18 : x3_1.length + y304.length < 140737488355328
    rotate_left
    ·
     rw [if_neg c18] at H
     exact absurd H (by simp)
    rw [if_pos c18] at H
    have LMc18 := a_ c18
    clear c18
    obtain ⟨y307, hy307⟩ : ∃ y_ : List Int, y_ = (x3_1 ++ y304) := ⟨_, rfl⟩
    replace H : (sQu.l0 kj7 a0 y307 (wrap64 (x4_1 + 1))) = some r := by first | exact lt_ H hy307 | (rw [hy307]; exact H) | exact H
    have Ny307 := a_ hy307
    clear hy307
    have H' := a_ H
    clear H
    go_wp2_with (first | ((with_reducible refine gate_callee (f := 15) rfl ?_); refine goesL_ (some 47) rfl rfl Try.func15 (by kernel_rfl) rfl #[.int .i64 (wrap64 (Int.tmod (bt a0 x4_1) 16)), .bool false] rfl ar_ ?_; (with_reducible refine (spec_digitOf.calls (wrap64 (Int.tmod (bt a0 x4_1) 16)) false t303 _ A17.out).mono ?_); rintro e w' ⟨rfl, ⟨nd, rfl⟩⟩; refine ⟨_, rfl, ?_⟩) | ((with_reducible refine gate_dst (N := 48) rfl ?_); refine Kd.R_lit (Kd.int .u8) _ 5 ?hg (N := 48) ?hd (xs := ([92, 117, 48, 48, (48 + ((Int.tdiv (bt a0 x4_1) 16) % 256)) % 256, t303] : List Int)) (inner := [.int .u8 92, .int .u8 117, .int .u8 48, .int .u8 48, .int .u8 ((48 + ((Int.tdiv (bt a0 x4_1) 16) % 256)) % 256), .int .u8 t303]) (ok := fun _ => True) (okp := fun _ => True) ?hr ?hp (fun _ hk => hk) trivial (Below.refl _ _) (Nat.le_refl _) (by simp) ?_; (case hd => rfl); (case hg => rfl); (case hr => first | (go_simp; done) | (go_simp; rfl)); (case hp => exact (Reps.one (show Kd.M (Kd.int .u8) _ _ _ 92 [.int .u8 92] from rfl) (Reps.one (show Kd.M (Kd.int .u8) _ _ _ 117 [.int .u8 117] from rfl) (Reps.one (show Kd.M (Kd.int .u8) _ _ _ 48 [.int .u8 48] from rfl) (Reps.one (show Kd.M (Kd.int .u8) _ _ _ 48 [.int .u8 48] from rfl) (Reps.one (show Kd.M (Kd.int .u8) _ _ _ ((48 + ((Int.tdiv (bt a0 x4_1) 16) % 256)) % 256) [.int .u8 ((48 + ((Int.tdiv (bt a0 x4_1) 16) % 256)) % 256)] from rfl) (Reps.one (show Kd.M (Kd.int .u8) _ _ _ t303 [.int .u8 t303] from rfl) (Reps.none _ _)))))))); intro v305 w19 ho20 hb hg_ hnew_; clear hg_ hnew_; (first | rw [← Ny304.out] at ho20 | (simp only [Int.reduceToNat] at ho20; rw [← Ny304.out] at ho20)); have HO306 := a_ (Kd.R_lower (Kd.R_new' ho20 (Kd.R_lt (rp_ HO_3))) (below_size (bl_ HB))); replace HO_3 := a_ (Kd.R_elder' (rp_ HO_3) (Kd.R_base ho20) hb); replace HB := a_ (below_step (bl_ HB) hb); clear hb ho20; obtain ⟨Ao22, co22, eo22⟩ := Kd.R_slice HO306.out; subst eo22) | ((with_reducible refine gate_builtin (b := .append) (xs := #[.tmp 40, .tmp 48]) rfl ?_); at_builtin; refine Kd.R_append_rows (Kd.int .u8) (w0 := w) w.heap.size rfl (.tmp 40) (.tmp 48) 40 5 (.int .u8 0) 1 rfl Try.underlying40 info5 rfl (by decide) (by omega) u3 x3_1 y304 _ _ _ (fun k_ => some k_ ≠ (.slice Ao22 y304.length co22 : Value).ownBlock) (fun _ => False) rfl rfl ?aO ?aR (fun _ _ h => h) (fun _ h => h.elim) ?aF ?aB ?aS ?aL ?_; (case aR => repeat (first | exact (Kd.R_reads' HO306.out).2.2 | (with_reducible refine Kd.C_alloc ?_ _) | (with_reducible refine Kd.C_drewN ?_ _) | (with_reducible refine Kd.C_drew ?_))); (case aB => exact (bl_ HB)); (case aF => exact (fun k_ hk => Kd.fresh' (Kd.R_lt (rp_ HO306)) k_ hk)); (case aO => exact (by (with_reducible repeat (first | apply Kd.R_alloc | apply Kd.R_drewN | apply Kd.R_drew)); exact Kd.R_mono HO_3.out (fun _ hk => hk.2))); (case aS => exact (below_size (bl_ HB))); (case aL => have := LMc18.out; omega); intro v308 w21 ho hb hg hat; rw [← Ny307.out] at ho; replace HO306 := a_ (Kd.R_after (ok := (fun _ => True)) (rp_ HO306) hg hat); replace HB := a_ hb; have HO309 := a_ ho; clear HO_3; clear ho hb hg hat))
    go_roundg kj7
    case measure => have := HK1.out; have := HJ7.out; omega
    case rel => exact ⟨(y307), (wrap64 (x4_1 + 1)), rl_, H', ⟨by have := HK1.out; have := HJ7.out; omega⟩, ⟨by (with_reducible repeat (first | apply Kd.R_alloc | apply Kd.R_drewN | apply Kd.R_drew)); exact Kd.R_mono HO309.out (fun _ hk => trivial)⟩, ⟨bl_ HB⟩⟩
/-! ### sBa: function 22 -/
mutual
def sBa.j0 : Nat → List Int → ByteArray → Bool → Int → Int → Int → List (S54) → List (S28) → Option (List Int)
  | 0, _, _, _, _, _, _, _, _ => none
  | k + 1, x0, x1, x17, x314000, x314001, x314002, x314003, x314004 => if x17 = true then (if 0 ≤ x314001 then (if x314001 ≤ x314002 then (if x314002 ≤ (x1.size : Int) then (if x0.length + (x1.extract (x314001 : Int).toNat (x314002 : Int).toNat).size < 140737488355328 then (some (x0 ++ bytesOf (x1.extract (x314001 : Int).toNat (x314002 : Int).toNat))) else (none)) else (none)) else (none)) else (none)) else (none)
def sBa.f : Nat → List Int → ByteArray → Int → Int → Int → List (S54) → List (S28) → Option (List Int)
  | 0, _, _, _, _, _, _, _ => none
  | k + 1, l0, a1, a2_0, a2_1, a2_2, l2_3, l2_4 => if a2_0 = 5 then (sBa.j0 k l0 a1 false a2_0 a2_1 a2_2 l2_3 l2_4) else (sBa.j0 k l0 a1 (a2_0 != 6) a2_0 a2_1 a2_2 l2_3 l2_4)
end
theorem sBa.mono_l : ∀ k, (∀ y0 y1 y2 y3 y4 y5 y6, LeO (sBa.f k y0 y1 y2 y3 y4 y5 y6) (sBa.f (k + 1) y0 y1 y2 y3 y4 y5 y6)) ∧ (∀ y0 y1 y2 y3 y4 y5 y6 y7, LeO (sBa.j0 k y0 y1 y2 y3 y4 y5 y6 y7) (sBa.j0 (k + 1) y0 y1 y2 y3 y4 y5 y6 y7))
 | 0 => ⟨fun _ _ _ _ _ _ _ r h => by simp [sBa.f] at h, fun _ _ _ _ _ _ _ _ r h => by simp [sBa.j0] at h⟩
 | k + 1 => by
  obtain ⟨ih0, ih1⟩ := sBa.mono_l k
  refine ⟨?_, ?_⟩
  all_goals intros
  all_goals (first | unfold sBa.f | unfold sBa.j0)
  all_goals repeat' first | (with_reducible first | apply ih0 | apply ih1 | apply LeO.refl | apply LeO.none | refine LeO.ite ?_ ?_ | refine LeO.bind ?_ (fun _ => ?_)) | apply ih0 | apply ih1 | apply LeO.none | refine LeO.ite ?_ ?_ | refine LeO.bind ?_ (fun _ => ?_)
theorem sBa.mono : ∀ a0 a1 a2 a3 a4 a5 a6 k, LeO (sBa.f k a0 a1 a2 a3 a4 a5 a6) (sBa.f (k + 1) a0 a1 a2 a3 a4 a5 a6) := by
 intro a0 a1 a2 a3 a4 a5 a6 k
 obtain ⟨ih0, ih1⟩ := sBa.mono_l k
 exact ih0 a0 a1 a2 a3 a4 a5 a6
set_option maxHeartbeats 8000000 in
set_option maxRecDepth 100000 in
theorem sBa.calls (k : Nat) : ∀ (P0_ : Nat → Prop) (u9000_ : Value) (l0 : List Int) (a1 : ByteArray) (a2_0 : Int) (a2_1 : Int) (a2_2 : Int) (A2_3 : Option Addr) (c2_3 : Nat) (l2_3 : List (S54)) (A2_4 : Option Addr) (c2_4 : Nat) (l2_4 : List (S28)) (r : List Int) (w0 w : World) (hB : Below w0.heap.size w0 w) (ho0 : Kd.R (Kd.int .u8) 5 w w0.heap.size P0_ u9000_ l0) (hr2_3 : Kd.C k54 w0 A2_3 l2_3.length l2_3) (hc2_3 : l2_3.length ≤ c2_3) (hr2_4 : Kd.C k28 w0 A2_4 l2_4.length l2_4) (hc2_4 : l2_4.length ≤ c2_4) (h : sBa.f k l0 a1 a2_0 a2_1 a2_2 l2_3 l2_4 = some r),
  Calls Try.prog 22 #[u9000_, .string a1, .agg #[.int .i64 a2_0, .int .i64 a2_1, .int .i64 a2_2, .slice A2_3 l2_3.length c2_3, .slice A2_4 l2_4.length c2_4]] w fun e w' => ∃ v0_ : Value, e = .returned (v0_) ∧ Kd.R (Kd.int .u8) 5 w' w0.heap.size (fun k_ => (P0_ k_ ∨ w.heap.size ≤ k_)) v0_ r ∧ Below w0.heap.size w0 w' ∧ Kept w w' (fun k_ => P0_ k_) := by
 induction k using Nat.strongRecOn with
 | _ k ih =>
 intro P0_ u9000_ l0 a1 a2_0 a2_1 a2_2 A2_3 c2_3 l2_3 A2_4 c2_4 l2_4 r w0 w hB ho0 hr2_3 hc2_3 hr2_4 hc2_4 h
 cases k with
 | zero => exact absurd h (by simp [sBa.f])
 | succ k =>
 simp only [sBa.f] at h
 have hu28 := Try.underlying28
 have HO0 := a_ (show Kd.R (Kd.int .u8) 5 w w0.heap.size (fun k_ => (P0_ k_ ∨ w.heap.size ≤ k_)) u9000_ l0 from Kd.R_mono ho0 (fun k_ hk => (.inl hk)))
 have HR2_3 := a_ hr2_3
 have HC2_3 := a_ hc2_3
 clear hr2_3 hc2_3
 have HR2_4 := a_ hr2_4
 have HC2_4 := a_ hc2_4
 clear hr2_4 hc2_4
 have HK := a_ (Kept.refl w (fun k_ => P0_ k_))
 have HW0 := a_ hB.size
 have HB := a_ hB
 clear hB
 have H : (if a2_0 = 5 then (sBa.j0 k l0 a1 false a2_0 a2_1 a2_2 l2_3 l2_4) else (sBa.j0 k l0 a1 (a2_0 != 6) a2_0 a2_1 a2_2 l2_3 l2_4)) = some r := h
 clear h
 have HC4 := a_ H
 clear H
 go_enter Try.func22, Try.ntmps22
 go_upto_region 1 with (first | ((with_reducible refine gate_dst (N := 5) rfl ?_); refine box_event ?hg (N := 5) ?hd (cs := #[.int .i64 a2_0, .int .i64 a2_1, .int .i64 a2_2, .slice A2_3 l2_3.length c2_3, .slice A2_4 l2_4.length c2_4]) (t := 28) ?hr ?_; (case hd => rfl); (case hg => rfl); (case hr => first | (go_simp; done) | (go_simp; rfl)); intro gb313 hg w5 hbox hb; replace HO0 := a_ (Kd.R_below (rp_ HO0) hb); have BK313 := a_ hbox; have GW313 := a_ ((by rw [hg]; exact (kz_ HK) : w.heap.size ≤ gb313)); replace HK := a_ (Kept.below (S := (fun k_ => P0_ k_)) (kp_ HK) hb); have GE313 := a_ ((by rw [hg]; exact (below_size (bl_ HB)) : w0.heap.size ≤ gb313)); replace HB := a_ (below_step (bl_ HB) hb); clear hb hbox hg))
 (try simp only [Act.put, List.setIfInBounds_toArray, List.set_cons_zero, List.set_cons_succ])
 go_cut [17] (fun v17 wc => ∃ (kq : Nat) (x17_3 : Bool), v17 = .bool x17_3 ∧ Aside0 (sBa.j0 kq l0 a1 x17_3 a2_0 a2_1 a2_2 l2_3 l2_4 = some r) ∧ Aside0 (kq ≤ k) ∧ Aside0 (Kd.R (Kd.int .u8) 5 wc w0.heap.size (fun k_ => (P0_ k_ ∨ w.heap.size ≤ k_)) u9000_ l0) ∧ Aside0 (wc.heap[gb313]? = some (.cells #[.int .i64 a2_0, .int .i64 a2_1, .int .i64 a2_2, (.slice A2_3 l2_3.length c2_3), (.slice A2_4 l2_4.length c2_4)] 28 (0, 0))) ∧ Aside0 (Kept w wc (fun k_ => P0_ k_)) ∧ Aside0 (Below w0.heap.size w0 wc))
 case first =>
  have H := HC4.out
  clear HC4
  by_cases c6 : a2_0 = 5
  rotate_left
  ·
   rw [if_neg c6] at H
   have c6b0 : (a2_0 == 5) = false := beq_eq_false_iff_ne.mpr c6
   have c6b1 : (a2_0 != 5) = true := bne_iff_ne.mpr c6
   (first | rw [c6b0] | (simp only [i64_w, i32_w]; rw [c6b0]) | skip)
   have H' := a_ H
   clear H
   have hcz8_0 := bc_ BK313 0 (.int .i64 a2_0)
   have hcz8_1 := bc_ BK313 1 (.int .i64 a2_1)
   have hcz8_2 := bc_ BK313 2 (.int .i64 a2_2)
   have hcz8_3 := bc_ BK313 3 (.slice A2_3 l2_3.length c2_3)
   have hcz8_4 := bc_ BK313 4 (.slice A2_4 l2_4.length c2_4)
   have hfz8_0 := blk_frozen BK313.out 0
   have hfz8_1 := blk_frozen BK313.out 1
   have hfz8_2 := blk_frozen BK313.out 2
   have hfz8_3 := blk_frozen BK313.out 3
   have hfz8_4 := blk_frozen BK313.out 4
   go_wp2
   go_meet
   case rel => exact ⟨_, ((a2_0 != 6)), rl_, H', ⟨by first | omega | exact Nat.le_refl _⟩, ⟨rp_ HO0⟩, ⟨bk_ BK313⟩, ⟨kp_ HK⟩, ⟨bl_ HB⟩⟩
  rw [if_pos c6] at H
  have c6b0 : (a2_0 == 5) = true := beq_iff_eq.mpr c6
  have c6b1 : (a2_0 != 5) = false := bne_eq_false_iff_eq.mpr c6
  clear c6
  (first | rw [c6b0] | (simp only [i64_w, i32_w]; rw [c6b0]) | skip)
  have H' := a_ H
  clear H
  have hcz7_0 := bc_ BK313 0 (.int .i64 a2_0)
  have hcz7_1 := bc_ BK313 1 (.int .i64 a2_1)
  have hcz7_2 := bc_ BK313 2 (.int .i64 a2_2)
  have hcz7_3 := bc_ BK313 3 (.slice A2_3 l2_3.length c2_3)
  have hcz7_4 := bc_ BK313 4 (.slice A2_4 l2_4.length c2_4)
  have hfz7_0 := blk_frozen BK313.out 0
  have hfz7_1 := blk_frozen BK313.out 1
  have hfz7_2 := blk_frozen BK313.out 2
  have hfz7_3 := blk_frozen BK313.out 3
  have hfz7_4 := blk_frozen BK313.out 4
  go_wp2
  go_meet
  case rel => exact ⟨_, (false), rl_, H', ⟨by first | omega | exact Nat.le_refl _⟩, ⟨rp_ HO0⟩, ⟨bk_ BK313⟩, ⟨kp_ HK⟩, ⟨bl_ HB⟩⟩
 clear HC4
 (try clear c2); (try clear p2); (try clear c6); (try clear c6b0); (try clear c6b1); (try clear hcz7_0); (try clear hcz7_1); (try clear hcz7_2); (try clear hcz7_3); (try clear hcz7_4); (try clear hcz8_0); (try clear hcz8_1); (try clear hcz8_2); (try clear hcz8_3); (try clear hcz8_4); (try clear hfz7_0); (try clear hfz7_1); (try clear hfz7_2); (try clear hfz7_3); (try clear hfz7_4); (try clear hfz8_0); (try clear hfz8_1); (try clear hfz8_2); (try clear hfz8_3); (try clear hfz8_4)
 obtain ⟨kq, x17_3, rfl, HA, HJ3, HO_0, BK313, HK, HB⟩ := hcut
 cases kq with
 | zero => exact absurd HA.out (by simp [sBa.j0])
 | succ kj3 =>
  have H := HA.out
  clear HA
  simp only [sBa.j0] at H
  by_cases c9 : x17_3 = true
  rotate_left
  ·
   replace c9 := Bool.eq_false_iff.mpr c9
   subst c9
   rw [if_neg (show ¬ (false = true) by decide)] at H
   exact absurd H (by simp)
  subst c9
  rw [if_pos rfl] at H
  by_cases c10 : 0 ≤ a2_1
  rotate_left
  ·
   rw [if_neg c10] at H
   exact absurd H (by simp)
  rw [if_pos c10] at H
  have c10b0 := eq_true c10
  have c10b1 : decide (0 ≤ a2_1) = true := decide_eq_true c10
  clear c10
  by_cases c11 : a2_1 ≤ a2_2
  rotate_left
  ·
   rw [if_neg c11] at H
   exact absurd H (by simp)
  rw [if_pos c11] at H
  have c11b0 := eq_true c11
  have c11b1 : decide (a2_1 ≤ a2_2) = true := decide_eq_true c11
  clear c11
  by_cases c12 : a2_2 ≤ (a1.size : Int)
  rotate_left
  ·
   rw [if_neg c12] at H
   exact absurd H (by simp)
  rw [if_pos c12] at H
  have c12b0 := eq_true c12
  have c12b1 : decide (a2_2 ≤ (a1.size : Int)) = true := decide_eq_true c12
  clear c12
  by_cases c13 : l0.length + (a1.extract (a2_1 : Int).toNat (a2_2 : Int).toNat).size < 140737488355328
  rotate_left
  ·
   rw [if_neg c13] at H
   exact absurd H (by simp)
  rw [if_pos c13] at H
  have LMc13 := a_ c13
  clear c13
  obtain ⟨y314, hy314⟩ : ∃ y_ : List Int, y_ = (l0 ++ bytesOf (a1.extract (a2_1 : Int).toNat (a2_2 : Int).toNat)) := ⟨_, rfl⟩
  replace H : (some y314) = some r := by first | exact lt_ H hy314 | (rw [hy314]; exact H) | exact H
  have Ny314 := a_ hy314
  clear hy314
  obtain rfl := Option.some.inj H
  have hcz14_0 := bc_ BK313 0 (.int .i64 a2_0)
  have hcz14_1 := bc_ BK313 1 (.int .i64 a2_1)
  have hcz14_2 := bc_ BK313 2 (.int .i64 a2_2)
  have hcz14_3 := bc_ BK313 3 (.slice A2_3 l2_3.length c2_3)
  have hcz14_4 := bc_ BK313 4 (.slice A2_4 l2_4.length c2_4)
  have hfz14_0 := blk_frozen BK313.out 0
  have hfz14_1 := blk_frozen BK313.out 1
  have hfz14_2 := blk_frozen BK313.out 2
  have hfz14_3 := blk_frozen BK313.out 3
  have hfz14_4 := blk_frozen BK313.out 4
  go_wp2_with (first | (at_builtin; refine Kd.R_append_str (w0 := w0) w0.heap.size rfl (.tmp 18) _ 40 9 5 rfl Try.underlying40 Try.underlying9 info5 u9000_ l0 (a1.extract (a2_1 : Int).toNat (a2_2 : Int).toNat) (fun k_ => (P0_ k_ ∨ w.heap.size ≤ k_)) rfl rfl ?aF ?aO ?aB ?aS ?aL ?_; (case aB => exact (bl_ HB)); (case aF => exact (ki_ (kz_ HK))); (case aO => exact (rp_ HO_0)); (case aS => exact (below_size (bl_ HB))); (case aL => have := LMc13.out; omega); intro v315 w15 ho hb hg hat; rw [← Ny314.out] at ho; replace BK313 := a_ (blk_grown (g := gb313) (o := .cells #[.int .i64 a2_0, .int .i64 a2_1, .int .i64 a2_2, .slice A2_3 l2_3.length c2_3, .slice A2_4 l2_4.length c2_4] 28 (0, 0)) (bk_ BK313) hg (Kd.R_ne HO_0.out BK313.out (by decide))); replace HB := a_ hb; replace HK := a_ (Kept.of_grown (S := (fun k_ => P0_ k_)) hg (kp_ HK) (fun k_ e_ => (HO_0.out.1 k_ e_))); have HO316 := a_ ho; clear HO_0; clear ho hb hg hat))
  go_ret
  exact ⟨_, by first | rfl | (simp [errW_none, errW_some] <;> rfl) | (simp [*, errW_none, errW_some] <;> rfl), rp_ HO316, bl_ HB, kp_ HK⟩
/-! ### sOb: function 23 -/
mutual
def sOb.l0 : Nat → Bool → Int → Int → Int → Int → Int → List (S54) → List (S28) → Option (Bool)
  | 0, _, _, _, _, _, _, _, _ => none
  | k + 1, x3, x10, x11, x318000, x318001, x318002, x318003, x318004 => if x11 < x10 then (if x3 = true then (sOb.l0 k true x10 (wrap64 (x11 + 1)) x318000 x318001 x318002 x318003 x318004) else (if 0 ≤ x11 then (if x11 < (x318004.length : Int) then ((sOb.f k ((rd_T28 x318004 x11).f0) ((rd_T28 x318004 x11).f1) ((rd_T28 x318004 x11).f2) ((rd_T28 x318004 x11).f3) ((rd_T28 x318004 x11).f4)).bind fun t319 => (sOb.l0 k t319 x10 (wrap64 (x11 + 1)) x318000 x318001 x318002 x318003 x318004)) else (none)) else (none))) else (some x3)
def sOb.f : Nat → Int → Int → Int → List (S54) → List (S28) → Option (Bool)
  | 0, _, _, _, _, _ => none
  | k + 1, a0_0, a0_1, a0_2, l0_3, l0_4 => sOb.l0 k (a0_0 == 6) (l0_4.length : Int) 0 a0_0 a0_1 a0_2 l0_3 l0_4
end
theorem sOb.mono_l : ∀ k, (∀ y0 y1 y2 y3 y4, LeO (sOb.f k y0 y1 y2 y3 y4) (sOb.f (k + 1) y0 y1 y2 y3 y4)) ∧ (∀ y0 y1 y2 y3 y4 y5 y6 y7, LeO (sOb.l0 k y0 y1 y2 y3 y4 y5 y6 y7) (sOb.l0 (k + 1) y0 y1 y2 y3 y4 y5 y6 y7))
 | 0 => ⟨fun _ _ _ _ _ r h => by simp [sOb.f] at h, fun _ _ _ _ _ _ _ _ r h => by simp [sOb.l0] at h⟩
 | k + 1 => by
  obtain ⟨ih0, ih1⟩ := sOb.mono_l k
  refine ⟨?_, ?_⟩
  all_goals intros
  all_goals (first | unfold sOb.f | unfold sOb.l0)
  all_goals repeat' first | (with_reducible first | apply ih0 | apply ih1 | apply LeO.refl | apply LeO.none | refine LeO.ite ?_ ?_ | refine LeO.bind ?_ (fun _ => ?_)) | apply ih0 | apply ih1 | apply LeO.none | refine LeO.ite ?_ ?_ | refine LeO.bind ?_ (fun _ => ?_)
theorem sOb.mono : ∀ a0 a1 a2 a3 a4 k, LeO (sOb.f k a0 a1 a2 a3 a4) (sOb.f (k + 1) a0 a1 a2 a3 a4) := by
 intro a0 a1 a2 a3 a4 k
 obtain ⟨ih0, ih1⟩ := sOb.mono_l k
 exact ih0 a0 a1 a2 a3 a4
set_option maxHeartbeats 8000000 in
set_option maxRecDepth 100000 in
theorem sOb.calls (k : Nat) : ∀ (a0_0 : Int) (a0_1 : Int) (a0_2 : Int) (A0_3 : Option Addr) (c0_3 : Nat) (l0_3 : List (S54)) (A0_4 : Option Addr) (c0_4 : Nat) (l0_4 : List (S28)) (r : Bool) (w : World) (hr0_3 : Kd.C k54 w A0_3 l0_3.length l0_3) (hc0_3 : l0_3.length ≤ c0_3) (hr0_4 : Kd.C k28 w A0_4 l0_4.length l0_4) (hc0_4 : l0_4.length ≤ c0_4) (h : sOb.f k a0_0 a0_1 a0_2 l0_3 l0_4 = some r),
  Calls Try.prog 23 #[.agg #[.int .i64 a0_0, .int .i64 a0_1, .int .i64 a0_2, .slice A0_3 l0_3.length c0_3, .slice A0_4 l0_4.length c0_4]] w fun e w' => e = .returned (.bool r) ∧ Below w.heap.size w w' := by
 induction k using Nat.strongRecOn with
 | _ k ih =>
 intro a0_0 a0_1 a0_2 A0_3 c0_3 l0_3 A0_4 c0_4 l0_4 r w hr0_3 hc0_3 hr0_4 hc0_4 h
 cases k with
 | zero => exact absurd h (by simp [sOb.f])
 | succ k =>
 simp only [sOb.f] at h
 have hu28 := Try.underlying28
 have HR0_3 := a_ hr0_3
 have HC0_3 := a_ hc0_3
 clear hr0_3 hc0_3
 have HR0_4 := a_ hr0_4
 have HC0_4 := a_ hc0_4
 clear hr0_4 hc0_4
 have HB := a_ (Below.refl w.heap.size w)
 have H : (sOb.l0 k (a0_0 == 6) (l0_4.length : Int) 0 a0_0 a0_1 a0_2 l0_3 l0_4) = some r := h
 clear h
 have H' := a_ H
 clear H
 go_enter Try.func23, Try.ntmps23
 go_wp2_with (first | ((with_reducible refine gate_dst (N := 1) rfl ?_); refine box_event ?hg (N := 1) ?hd (cs := #[.int .i64 a0_0, .int .i64 a0_1, .int .i64 a0_2, .slice A0_3 l0_3.length c0_3, .slice A0_4 l0_4.length c0_4]) (t := 28) ?hr ?_; (case hd => rfl); (case hg => rfl); (case hr => first | (go_simp; done) | (go_simp; rfl)); intro gb317 hg w2 hbox hb; have BK317 := a_ hbox; have GW317 := a_ ((by rw [hg]; exact (below_size (bl_ HB)) : w.heap.size ≤ gb317)); have GE317 := a_ ((by rw [hg]; exact (below_size (bl_ HB)) : w.heap.size ≤ gb317)); replace HB := a_ (below_step (bl_ HB) hb); clear hb hbox hg; obtain ⟨hcz3_0, hcz3_1, hcz3_2, hcz3_3, hcz3_4, hfz3_0, hfz3_1, hfz3_2, hfz3_3, hfz3_4⟩ := b5_ BK317))
 (try simp only [Act.put, List.setIfInBounds_toArray, List.set_cons_zero, List.set_cons_succ])
 go_loopg [3, 11] k (fun kq v3 v11 w' => ∃ (x3_1 : Bool) (x11_1 : Int), v3 = .bool x3_1 ∧ v11 = .int .i64 x11_1 ∧ Aside0 (sOb.l0 kq x3_1 (l0_4.length : Int) x11_1 a0_0 a0_1 a0_2 l0_3 l0_4 = some r) ∧ Aside0 (kq ≤ k) ∧ Aside0 (w'.heap[gb317]? = some (.cells #[.int .i64 a0_0, .int .i64 a0_1, .int .i64 a0_2, (.slice A0_3 l0_3.length c0_3), (.slice A0_4 l0_4.length c0_4)] 28 (0, 0))) ∧ Aside0 (Below w.heap.size w w'))
 case atStart => exact ⟨((a0_0 == 6)), (0), rl_, rl_, H', ⟨Nat.le_refl _⟩, ⟨bk_ BK317⟩, ⟨bl_ HB⟩⟩
 case round =>
  clear H'
  (try clear c2); (try clear p2); (try clear hcz3_0); (try clear hcz3_1); (try clear hcz3_2); (try clear hcz3_3); (try clear hcz3_4); (try clear hfz3_0); (try clear hfz3_1); (try clear hfz3_2); (try clear hfz3_3); (try clear hfz3_4)
  obtain ⟨x3_1, x11_1, rfl, rfl, HA, HK1, BK317, HB⟩ := hrel
  cases gk with
  | zero => exact absurd HA.out (by simp [sOb.l0])
  | succ k1 =>
   have H := HA.out
   clear HA
   simp only [sOb.l0] at H
   by_cases c4 : x11_1 < (l0_4.length : Int)
   rotate_left
   ·
    rw [if_neg c4] at H
    have c4b0 : decide (x11_1 < (l0_4.length : Int)) = false := decide_eq_false c4
    clear c4
    obtain rfl := Option.some.inj H
    go_wp2
    go_ret
    exact ⟨by first | rfl | (simp [errW_none, errW_some] <;> rfl) | (simp [*, errW_none, errW_some] <;> rfl), bl_ HB⟩
   rw [if_pos c4] at H
   have c4b0 : decide (x11_1 < (l0_4.length : Int)) = true := decide_eq_true c4
   clear c4
   by_cases c5 : x3_1 = true
   ·
    subst c5
    rw [if_pos rfl] at H
    have H' := a_ H
    clear H
    go_wp2
    go_roundg k1
    case measure => have := HK1.out; omega
    case rel => exact ⟨(true), (wrap64 (x11_1 + 1)), rl_, rl_, H', ⟨by have := HK1.out; omega⟩, ⟨bk_ BK317⟩, ⟨bl_ HB⟩⟩
   replace c5 := Bool.eq_false_iff.mpr c5
   subst c5
   rw [if_neg (show ¬ (false = true) by decide)] at H
   by_cases c6 : 0 ≤ x11_1
   rotate_left
   ·
    rw [if_neg c6] at H
    exact absurd H (by simp)
   rw [if_pos c6] at H
   have c6b0 : decide (0 ≤ x11_1) = true := decide_eq_true c6
   clear c6
   by_cases c7 : x11_1 < (l0_4.length : Int)
   rotate_left
   ·
    rw [if_neg c7] at H
    exact absurd H (by simp)
   rw [if_pos c7] at H
   have c7b0 : decide (x11_1 < (l0_4.length : Int)) = true := decide_eq_true c7
   clear c7
   replace H := Option.bind_eq_some_iff.mp H
   obtain ⟨t319, A80, H⟩ := H
   replace H : (sOb.l0 k1 t319 (l0_4.length : Int) (wrap64 (x11_1 + 1)) a0_0 a0_1 a0_2 l0_3 l0_4) = some r := H
   have A8 := a_ A80
   clear A80
   have H' := a_ H
   clear H
   have hcz9_0 := bc_ BK317 0 (.int .i64 a0_0)
   have hcz9_1 := bc_ BK317 1 (.int .i64 a0_1)
   have hcz9_2 := bc_ BK317 2 (.int .i64 a0_2)
   have hcz9_3 := bc_ BK317 3 (.slice A0_3 l0_3.length c0_3)
   have hcz9_4 := bc_ BK317 4 (.slice A0_4 l0_4.length c0_4)
   have hfz9_0 := blk_frozen BK317.out 0
   have hfz9_1 := blk_frozen BK317.out 1
   have hfz9_2 := blk_frozen BK317.out 2
   have hfz9_3 := blk_frozen BK317.out 3
   have hfz9_4 := blk_frozen BK317.out 4
   have p318 : 0 ≤ (x11_1 : Int) := of_decide_eq_true as_
   have q318 : x11_1 < (l0_4.length : Int) := of_decide_eq_true as_
   obtain ⟨ad318, A318_3, c318_3, A318_4, c318_4, e318, hx318_0, hx318_1, hx318_2, hx318_3, hx318_4, hl318_3, hi318_3, hl318_4, hi318_4⟩ := at_T28 HR0_4.out x11_1 p318 q318
   cases e318
   replace hx318_0 := (HB.out.cell (World.block_lt_of_cell? w _ hx318_0)).trans hx318_0
   replace hx318_1 := (HB.out.cell (World.block_lt_of_cell? w _ hx318_1)).trans hx318_1
   replace hx318_2 := (HB.out.cell (World.block_lt_of_cell? w _ hx318_2)).trans hx318_2
   replace hx318_3 := (HB.out.cell (World.block_lt_of_cell? w _ hx318_3)).trans hx318_3
   replace hx318_4 := (HB.out.cell (World.block_lt_of_cell? w _ hx318_4)).trans hx318_4
   have HR318_3 := a_ hi318_3
   have HC318_3 := a_ hl318_3
   clear hi318_3 hl318_3
   have HR318_4 := a_ hi318_4
   have HC318_4 := a_ hl318_4
   clear hi318_4 hl318_4
   replace p318 := eq_true p318
   replace q318 := eq_true q318
   go_wp2_with (first | (go_at_call 23; (with_reducible refine (ih k1 (by have := HK1.out; omega) ((rd_T28 l0_4 x11_1).f0) ((rd_T28 l0_4 x11_1).f1) ((rd_T28 l0_4 x11_1).f2) _ _ ((rd_T28 l0_4 x11_1).f3) _ _ ((rd_T28 l0_4 x11_1).f4) t319 _ ?side1 ?side2 ?side3 ?side4 A8.out).mono ?_); (case side1 => repeat (first | exact (Kd.C_below HR318_3.out HB.out) | (with_reducible refine Kd.C_alloc ?_ _) | (with_reducible refine Kd.C_drewN ?_ _) | (with_reducible refine Kd.C_drew ?_))); (case side2 => exact HC318_3.out); (case side3 => repeat (first | exact (Kd.C_below HR318_4.out HB.out) | (with_reducible refine Kd.C_alloc ?_ _) | (with_reducible refine Kd.C_drewN ?_ _) | (with_reducible refine Kd.C_drew ?_))); (case side4 => exact HC318_4.out); rintro e w10 ⟨rfl, hb⟩; replace BK317 := a_ (blk_below (g := gb317) (o := .cells #[.int .i64 a0_0, .int .i64 a0_1, .int .i64 a0_2, .slice A0_3 l0_3.length c0_3, .slice (some ad318) l0_4.length c0_4] 28 (0, 0)) (bk_ BK317) hb); replace HB := a_ (below_step (bl_ HB) hb); (try clear hb); (try clear hb2); (try clear hk); (try clear hi)))
   go_roundg k1
   case measure => have := HK1.out; omega
   case rel => exact ⟨(t319), (wrap64 (x11_1 + 1)), rl_, rl_, H', ⟨by have := HK1.out; omega⟩, ⟨bk_ BK317⟩, ⟨bl_ HB⟩⟩
end Go.Proofs.Ytnilbkfhfnofgaa.PFnPrWidthMember
