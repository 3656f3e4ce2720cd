/- Contracts of Go functions of this seat: a Lean function over numbers and lists for each, and a proof that the Go function returns what it gives. Made by program. -/
import Derived.Test.YtnilbkfhfnofgaaPFnPrWidthMemberx0
import Derived.Test.YtnilbkfhfnofgaaPFnPrWidthMemberx12
import Derived.Test.YtnilbkfhfnofgaaPFnPrWidthMemberx16
namespace Go.Proofs.Ytnilbkfhfnofgaa.PFnPrWidthMember
open Go.RowKit Go.Proofs.YtnilbkfhfnofgaaW.PrintWords Go.Proofs.YtnilbkfhfnofgaaW.PrintLast Go.Proofs.YtnilbkfhfnofgaaW.PrintMore
attribute [local go_sem] max2_int min2_int max_two min_two max_three min_three max_four min_four   -- for this text's walks alone
set_option linter.unusedVariables false
set_option linter.unusedSimpArgs false

def pPo.g (k : Nat) (W : Int) (P I : ByteArray) (l1 : List Int) : Option (List Int) :=
  (pAn.f k (bytesOf P) l1 0 true W P I false 0 0 (-1)).bind fun x => if 0 < (x.1.length : Int) then (if x.1.length < 140737488355328 then some (x.1 ++ [10]) else none) else some x.1

set_option maxHeartbeats 4000000 in
set_option maxRecDepth 100000 in
theorem pPo.told (k : Nat) (A : Option Addr) (c : Nat) (l1 r : List Int) (g : Nat) (W : Int) (P I : ByteArray) (w0 w : World) (hB : Below w0.heap.size w0 w) (hC : Kd.C (Kd.int .u8) w A l1.length l1) (hc : l1.length ≤ c) (hl1 : l1.length ≤ 140737488355328) (hP : P.size ≤ 100000)
    (hbk : w.heap[g]? = some (.cells #[.int .i64 W, .string P, .string I, .bool false] 47 (0, 0))) (h : pPo.g k W P I l1 = some r) :
    Calls Try.prog 17 #[.slice A l1.length c, .pointer (some ⟨g, 0, none⟩)] w fun e w' => ∃ v : Value, e = .returned v ∧ Kd.R (Kd.int .u8) 5 w' w0.heap.size (fun _ => True) v r ∧ Below w0.heap.size w0 w' := by
  have hu47 := Try.underlying47
  unfold pPo.g at h
  obtain ⟨⟨q1, q2, q3, q4⟩, h1, h⟩ := Option.bind_eq_some_iff.mp h
  dsimp only at h1 h
  have H1 := Aside0.mk h1
  have H := Aside0.mk h
  clear h1 h
  have HF := Aside0.mk (Kd.C_F (Kd.heap_int _) hC)
  have HB := Aside0.mk hB
  have HL := Aside0.mk hl1
  have HC := Aside0.mk hc
  have HP := Aside0.mk hP
  have HBK := Aside0.mk hbk
  clear hC hB hl1 hc hP hbk
  go_enter Try.func17, Try.ntmps17
  go_upto_if 18 with (first | ((with_reducible refine gate_dst (N := 12) rfl ?_); refine Kd.R_make0 (Kd.int .u8) (w0 := w0) w0.heap.size 5 rfl (N := 12) rfl 40 _ _ rfl (l1.length : Int) rfl rfl Try.underlying40 (.int .u8 0) 1 info5 rfl (by decide) (by omega) (ok := fun _ => True) trivial (by omega) (by have := HL.out; simp; omega) HB.out HB.out.size ?_; intro v1 w1 hR hB1 hg hown; have BK := Aside0.mk (blk_grown HBK.out hg (by simp)); have hcz_0 := bc_ BK 0 (.int .i64 W); have hcz_1 := bc_ BK 1 (.string P); have hcz_2 := bc_ BK 2 (.string I); have hcz_3 := bc_ BK 3 (.bool false); have hfz_1 := blk_frozen BK.out 1; have HV1 := Aside0.mk (Kd.V_mk (e := 5) (base := w0.heap.size) HC.out (Kd.F_mono (ok' := fun k_ => True ∧ some k_ ≠ v1.ownBlock) (Kd.F_elder' (v := v1) HF.out (fun k hk => by obtain ⟨b, hb, hle⟩ := hown; rw [hb] at hk; injection hk with hk; omega) ⟨hg.os, hg.tape, hg.output, hg.size, fun k hk => hg.block k hk (by simp)⟩) (fun k_ hk => ⟨trivial, hk.2⟩))); have HR := Aside0.mk hR; have HB1 := Aside0.mk hB1; clear hg hown hR hB1 HF HB HBK))
  go_cut [5] (fun v5 wc => Aside0 (Kd.R (Kd.int .u8) 5 wc w0.heap.size (fun _ => True) v5 (bytesOf P)) ∧ Aside0 (Kd.V (Kd.int .u8) 5 wc w0.heap.size (fun k_ => True ∧ some k_ ≠ (v5 : Value).ownBlock) (.slice A l1.length c) l1) ∧ Aside0 (wc.heap[g]? = some (.cells #[.int .i64 W, .string P, .string I, .bool false] 47 (0, 0))) ∧ Aside0 (Below w0.heap.size w0 wc))
  case first =>
    by_cases c6 : (P.size : Int) = 0
    · have c6b0 : ((P.size : Int) == 0) = true := beq_iff_eq.mpr c6
      have c6b1 : ((P.size : Int) != 0) = false := bne_eq_false_iff_eq.mpr c6
      have e0 : bytesOf P = [] := List.eq_nil_of_length_eq_zero (by rw [bytesOf_length]; omega)
      clear c6
      (first | rw [c6b0] | (simp only [i64_w, i32_w]; rw [c6b0]) | skip)
      go_wp2
      go_meet
      case rel => exact ⟨⟨by rw [e0]; exact HR.out⟩, HV1, BK, HB1⟩
    have c6b0 : ((P.size : Int) == 0) = false := beq_eq_false_iff_ne.mpr c6
    have c6b1 : ((P.size : Int) != 0) = true := bne_iff_ne.mpr c6
    (first | rw [c6b0] | (simp only [i64_w, i32_w]; rw [c6b0]) | skip)
    go_wp2_with (first | (at_builtin; refine Kd.R_append_str (w0 := w0) w0.heap.size rfl (.tmp 19) _ 40 9 5 rfl Try.underlying40 Try.underlying9 info5 v1 [] P (fun _ => True) rfl rfl (fun _ _ => trivial) ?aO ?aB ?aS ?aL ?_; (case aB => exact HB1.out); (case aO => exact HR.out); (case aS => exact HB1.out.size); (case aL => have := HP.out; simp; omega); intro v2 w2 ho hb hg hat; have HR' := Aside0.mk ho; have HV' := Aside0.mk (Kd.V_afterv (ok := fun _ => True) HV1.out hg hat); have BK' := Aside0.mk (blk_grown BK.out hg (Kd.R_ne HR.out BK.out (by decide))); have HB' := Aside0.mk hb; clear ho hb hg hat HR HV1 BK HB1))
    go_meet
    case rel => exact ⟨⟨by have := HR'.out; rwa [List.nil_append] at this⟩, HV', BK', HB'⟩
  clear HR HV1 BK HB1 hcz_0 hcz_1 hcz_2 hcz_3 hfz_1
  obtain ⟨HR, HV, BK, HB⟩ := hcut
  have z0 : wc.cell? ⟨g, 0, none⟩ = some (.int .i64 W) := (blk_cell BK.out 0).trans rfl
  have z1 : wc.cell? ⟨g, 1, none⟩ = some (.string P) := (blk_cell BK.out 1).trans rfl
  have z2 : wc.cell? ⟨g, 2, none⟩ = some (.string I) := (blk_cell BK.out 2).trans rfl
  have z3 : wc.cell? ⟨g, 3, none⟩ = some (.bool false) := (blk_cell BK.out 3).trans rfl
  go_upto_region 6 with (fail)
  refine start_ (n := 25) (S := fun w' => w'.cell? ⟨g, 0, none⟩ = some (.int .i64 W) ∧ w'.cell? ⟨g, 1, none⟩ = some (.string P) ∧ w'.cell? ⟨g, 2, none⟩ = some (.string I) ∧ w'.cell? ⟨g, 3, none⟩ = some (.bool false)) (ds := [18]) #[false, false, false, false, false, false, false, false, false, false, false, false, false, false, false, false, false, false, false, false, false, false, false, false, false] (by kernel_rfl) rfl rfl ⟨z0, z1, z2, z3⟩ (fun hHeld => ?_)
  have HR2 := Aside0.mk (Kd.R_tight rfl (Kd.R_drew HR.out))
  have HF2 := Aside0.mk (Kd.F_drew (Kd.V_F HV.out))
  have HB2 := Aside0.mk (below_drew1 HB.out)
  clear HR HV HB BK z0 z1 z2 z3
  generalize wc.drew = w2 at HR2 HF2 HB2 hHeld ⊢
  refine pure_ (i := 0) (N := some 26) (v := ?_) (a' := ?_) #[true, false, false, false, false, false, false, false, false, false, false, false, false, false, false, false, false, false, false, false, false, false, false, false, false] rfl rfl (by kernel_rfl) (fun _ _ _ h => h) (Or.inl ⟨by rfl, ?_⟩) ?_ ?_
  rotate_left
  · intro w'
    go_simp
    with_reducible rfl
  rotate_left
  · simp only [Act.put, List.setIfInBounds_toArray, List.set_cons_zero, List.set_cons_succ, i64_w, i32_w]
    rfl
  refine pure_ (i := 1) (N := some 27) (v := ?_) (a' := ?_) #[true, true, false, false, false, false, false, false, false, false, false, false, false, false, false, false, false, false, false, false, false, false, false, false, false] rfl rfl (by kernel_rfl) (fun _ _ _ h => h) (Or.inl ⟨by rfl, ?_⟩) ?_ ?_
  rotate_left
  · intro w'
    go_simp
    with_reducible rfl
  rotate_left
  · simp only [Act.put, List.setIfInBounds_toArray, List.set_cons_zero, List.set_cons_succ, i64_w, i32_w]
    rfl
  refine pure_ (i := 2) (N := some 28) (v := ?_) (a' := ?_) #[true, true, true, false, false, false, false, false, false, false, false, false, false, false, false, false, false, false, false, false, false, false, false, false, false] rfl rfl (by kernel_rfl) (fun _ _ _ h => h) (Or.inl ⟨by rfl, ?_⟩) ?_ ?_
  rotate_left
  · intro w'
    go_simp
    with_reducible rfl
  rotate_left
  · simp only [Act.put, List.setIfInBounds_toArray, List.set_cons_zero, List.set_cons_succ, i64_w, i32_w]
    rfl
  refine pure_ (i := 3) (N := some 29) (v := ?_) (a' := ?_) #[true, true, true, true, false, false, false, false, false, false, false, false, false, false, false, false, false, false, false, false, false, false, false, false, false] rfl rfl (by kernel_rfl) (fun _ _ _ h => h) (Or.inl ⟨by rfl, ?_⟩) ?_ ?_
  rotate_left
  · intro w'
    go_simp
    with_reducible rfl
  rotate_left
  · simp only [Act.put, List.setIfInBounds_toArray, List.set_cons_zero, List.set_cons_succ, i64_w, i32_w]
    rfl
  refine pure_ (i := 4) (N := some 30) (v := ?_) (a' := ?_) #[true, true, true, true, true, false, false, false, false, false, false, false, false, false, false, false, false, false, false, false, false, false, false, false, false] rfl rfl (by kernel_rfl) (fun _ _ _ h => h) (Or.inl ⟨by rfl, ?_⟩) ?_ ?_
  rotate_left
  · intro w'
    go_simp
    with_reducible rfl
  rotate_left
  · simp only [Act.put, List.setIfInBounds_toArray, List.set_cons_zero, List.set_cons_succ, i64_w, i32_w]
    rfl
  refine pure_ (i := 6) (N := some 32) (v := ?_) (a' := ?_) #[true, true, true, true, true, false, true, false, false, false, false, false, false, false, false, false, false, false, false, false, false, false, false, false, false] rfl rfl (by kernel_rfl) (fun _ _ _ h => h) (Or.inl ⟨by rfl, ?_⟩) ?_ ?_
  rotate_left
  · intro w'
    go_simp
    with_reducible rfl
  rotate_left
  · simp only [Act.put, List.setIfInBounds_toArray, List.set_cons_zero, List.set_cons_succ, i64_w, i32_w]
    rfl
  refine pure_ (i := 7) (N := some 33) (v := ?_) (a' := ?_) #[true, true, true, true, true, false, true, true, false, false, false, false, false, false, false, false, false, false, false, false, false, false, false, false, false] rfl rfl (by kernel_rfl) (fun _ _ _ h => h) (Or.inl ⟨by rfl, ?_⟩) ?_ ?_
  rotate_left
  · intro w'
    go_simp
    with_reducible rfl
  rotate_left
  · simp only [Act.put, List.setIfInBounds_toArray, List.set_cons_zero, List.set_cons_succ, i64_w, i32_w]
    rfl
  refine pure_ (i := 8) (N := some 34) (v := ?_) (a' := ?_) #[true, true, true, true, true, false, true, true, true, false, false, false, false, false, false, false, false, false, false, false, false, false, false, false, false] rfl rfl (by kernel_rfl) (fun _ _ _ h => h) (Or.inl ⟨by rfl, ?_⟩) ?_ ?_
  rotate_left
  · intro w'
    go_simp
    with_reducible rfl
  rotate_left
  · simp only [Act.put, List.setIfInBounds_toArray, List.set_cons_zero, List.set_cons_succ, i64_w, i32_w]
    rfl
  refine pure_ (i := 10) (N := some 36) (v := ?_) (a' := ?_) #[true, true, true, true, true, false, true, true, true, false, true, false, false, false, false, false, false, false, false, false, false, false, false, false, false] rfl rfl (by kernel_rfl) (fun _ _ _ h => h) (Or.inl ⟨by rfl, ?_⟩) ?_ ?_
  rotate_left
  · intro w'
    go_simp
    with_reducible rfl
  rotate_left
  · simp only [Act.put, List.setIfInBounds_toArray, List.set_cons_zero, List.set_cons_succ, i64_w, i32_w]
    rfl
  refine pure_ (i := 11) (N := some 37) (v := ?_) (a' := ?_) #[true, true, true, true, true, false, true, true, true, false, true, true, false, false, false, false, false, false, false, false, false, false, false, false, false] rfl rfl (by kernel_rfl) (fun _ _ _ h => h) (Or.inl ⟨by rfl, ?_⟩) ?_ ?_
  rotate_left
  · intro w'
    go_simp
    with_reducible rfl
  rotate_left
  · simp only [Act.put, List.setIfInBounds_toArray, List.set_cons_zero, List.set_cons_succ, i64_w, i32_w]
    rfl
  refine pure_ (i := 12) (N := some 38) (v := ?_) (a' := ?_) #[true, true, true, true, true, false, true, true, true, false, true, true, true, false, false, false, false, false, false, false, false, false, false, false, false] rfl rfl (by kernel_rfl) (fun _ _ _ h => h) (Or.inl ⟨by rfl, ?_⟩) ?_ ?_
  rotate_left
  · intro w'
    go_simp
    with_reducible rfl
  rotate_left
  · simp only [Act.put, List.setIfInBounds_toArray, List.set_cons_zero, List.set_cons_succ, i64_w, i32_w]
    rfl
  refine pure_ (i := 14) (N := some 40) (v := ?_) (a' := ?_) #[true, true, true, true, true, false, true, true, true, false, true, true, true, false, true, false, false, false, false, false, false, false, false, false, false] rfl rfl (by kernel_rfl) (fun _ _ _ h => h) (Or.inl ⟨by rfl, ?_⟩) ?_ ?_
  rotate_left
  · intro w'
    go_simp
    with_reducible rfl
  rotate_left
  · simp only [Act.put, List.setIfInBounds_toArray, List.set_cons_zero, List.set_cons_succ, i64_w, i32_w]
    rfl
  refine pure_ (i := 15) (N := some 41) (v := ?_) (a' := ?_) #[true, true, true, true, true, false, true, true, true, false, true, true, true, false, true, true, false, false, false, false, false, false, false, false, false] rfl rfl (by kernel_rfl) (fun _ _ _ h => h) (Or.inl ⟨by rfl, ?_⟩) ?_ ?_
  rotate_left
  · intro w'
    go_simp
    with_reducible rfl
  rotate_left
  · simp only [Act.put, List.setIfInBounds_toArray, List.set_cons_zero, List.set_cons_succ, i64_w, i32_w]
    rfl
  refine pure_ (i := 16) (N := some 42) (v := ?_) (a' := ?_) #[true, true, true, true, true, false, true, true, true, false, true, true, true, false, true, true, true, false, false, false, false, false, false, false, false] rfl rfl (by kernel_rfl) (fun _ _ _ h => h) (Or.inl ⟨by rfl, ?_⟩) ?_ ?_
  rotate_left
  · intro w'
    go_simp
    with_reducible rfl
  rotate_left
  · simp only [Act.put, List.setIfInBounds_toArray, List.set_cons_zero, List.set_cons_succ, i64_w, i32_w]
    rfl
  refine take_ (i := 5) (N := some 31) (v := ?_) (a' := ?_) #[true, true, true, true, true, true, true, true, true, false, true, true, true, false, true, true, true, false, false, false, false, false, false, false, false] rfl rfl (by kernel_rfl) (fun _ _ _ h => h) (Or.inl ⟨by rfl, ?_⟩) hHeld ?_ ?_
  rotate_left
  · rintro w' ⟨s0, s1, s2, s3⟩
    go_simp
    with_reducible rfl
  rotate_left
  · simp only [Act.put, List.setIfInBounds_toArray, List.set_cons_zero, List.set_cons_succ, i64_w, i32_w]
    rfl
  refine take_ (i := 9) (N := some 35) (v := ?_) (a' := ?_) #[true, true, true, true, true, true, true, true, true, true, true, true, true, false, true, true, true, false, false, false, false, false, false, false, false] rfl rfl (by kernel_rfl) (fun _ _ _ h => h) (Or.inl ⟨by rfl, ?_⟩) hHeld ?_ ?_
  rotate_left
  · rintro w' ⟨s0, s1, s2, s3⟩
    go_simp
    with_reducible rfl
  rotate_left
  · simp only [Act.put, List.setIfInBounds_toArray, List.set_cons_zero, List.set_cons_succ, i64_w, i32_w]
    rfl
  refine take_ (i := 13) (N := some 39) (v := ?_) (a' := ?_) #[true, true, true, true, true, true, true, true, true, true, true, true, true, true, true, true, true, false, false, false, false, false, false, false, false] rfl rfl (by kernel_rfl) (fun _ _ _ h => h) (Or.inl ⟨by rfl, ?_⟩) hHeld ?_ ?_
  rotate_left
  · rintro w' ⟨s0, s1, s2, s3⟩
    go_simp
    with_reducible rfl
  rotate_left
  · simp only [Act.put, List.setIfInBounds_toArray, List.set_cons_zero, List.set_cons_succ, i64_w, i32_w]
    rfl
  refine take_ (i := 17) (N := some 43) (v := ?_) (a' := ?_) #[true, true, true, true, true, true, true, true, true, true, true, true, true, true, true, true, true, true, false, false, false, false, false, false, false] rfl rfl (by kernel_rfl) (fun _ _ _ h => h) (Or.inl ⟨by rfl, ?_⟩) hHeld ?_ ?_
  rotate_left
  · rintro w' ⟨s0, s1, s2, s3⟩
    go_simp
    with_reducible rfl
  rotate_left
  · simp only [Act.put, List.setIfInBounds_toArray, List.set_cons_zero, List.set_cons_succ, i64_w, i32_w]
    rfl
  refine last_ (i := 18) (N := some 44) #[true, true, true, true, true, true, true, true, true, true, true, true, true, true, true, true, true, true, true, false, false, false, false, false, false] rfl rfl (by kernel_rfl) (by decide) (fun K hK => ?_)
  refine goes_ Try.func25 (by kernel_rfl) rfl #[u5, .slice A l1.length c, .int .i64 0, .bool true, .int .i64 W, .string P, .string I, .bool false, .int .i64 0, .int .i64 0, .int .i64 (-1)] (by rfl) rfl rfl (by (try simp only [List.map_toArray, List.map_cons, List.map_nil]); first | done | rfl) ?_
  refine (pAn.calls k (fun k_ => some k_ = u5.ownBlock) u5 (bytesOf P) A c l1 0 true W P I false 0 0 (-1) q1 q2 q3 q4 w0 w2 HB2.out HR2.out (fun W_ hk => HF2.out W_ (fun k_ h1 h2 => hk.2 k_ h2 (fun e => h1.2 e))) HC.out H1.out).mono ?_
  rintro e w3 ⟨v3, rfl, hR3, hB3, hK3⟩
  obtain ⟨A3, c3, rfl⟩ := Kd.R_slice hR3
  refine ⟨_, rfl, ?_⟩
  have HR3 := Aside0.mk (Kd.R_mono (ok' := fun _ => True) hR3 (fun _ _ => trivial))
  have HB3 := Aside0.mk hB3
  clear hR3 hB3 hK3 HR2 HB2 HF2
  refine hK.out _ _ ?_
  clear hK K
  refine norm_ (a' := ?_) ?_ ?_
  rotate_left
  · show Act.put _ (some 44) _ = _
    simp only [Act.put, List.setIfInBounds_toArray, List.set_cons_zero, List.set_cons_succ, i64_w, i32_w]
    rfl
  refine pure_ (i := 19) (N := some 25) (v := ?_) (a' := ?_) #[true, true, true, true, true, true, true, true, true, true, true, true, true, true, true, true, true, true, true, true, false, false, false, false, false] rfl rfl (by kernel_rfl) (fun _ _ _ h => h) (Or.inl ⟨by rfl, ?_⟩) ?_ ?_
  rotate_left
  · intro w'
    go_simp
    with_reducible rfl
  rotate_left
  · simp only [Act.put, List.setIfInBounds_toArray, List.set_cons_zero, List.set_cons_succ, i64_w, i32_w]
    rfl
  refine pure_ (i := 20) (N := some 45) (v := ?_) (a' := ?_) #[true, true, true, true, true, true, true, true, true, true, true, true, true, true, true, true, true, true, true, true, true, false, false, false, false] rfl rfl (by kernel_rfl) (fun _ _ _ h => h) (Or.inl ⟨by rfl, ?_⟩) ?_ ?_
  rotate_left
  · intro w'
    go_simp
    with_reducible rfl
  rotate_left
  · simp only [Act.put, List.setIfInBounds_toArray, List.set_cons_zero, List.set_cons_succ, i64_w, i32_w]
    rfl
  refine pure_ (i := 21) (N := some 46) (v := ?_) (a' := ?_) #[true, true, true, true, true, true, true, true, true, true, true, true, true, true, true, true, true, true, true, true, true, true, false, false, false] rfl rfl (by kernel_rfl) (fun _ _ _ h => h) (Or.inl ⟨by rfl, ?_⟩) ?_ ?_
  rotate_left
  · intro w'
    go_simp
    with_reducible rfl
  rotate_left
  · simp only [Act.put, List.setIfInBounds_toArray, List.set_cons_zero, List.set_cons_succ, i64_w, i32_w]
    rfl
  refine pure_ (i := 22) (N := some 47) (v := ?_) (a' := ?_) #[true, true, true, true, true, true, true, true, true, true, true, true, true, true, true, true, true, true, true, true, true, true, true, false, false] rfl rfl (by kernel_rfl) (fun _ _ _ h => h) (Or.inl ⟨by rfl, ?_⟩) ?_ ?_
  rotate_left
  · intro w'
    go_simp
    with_reducible rfl
  rotate_left
  · simp only [Act.put, List.setIfInBounds_toArray, List.set_cons_zero, List.set_cons_succ, i64_w, i32_w]
    rfl
  refine pure_ (i := 23) (N := some 48) (v := ?_) (a' := ?_) #[true, true, true, true, true, true, true, true, true, true, true, true, true, true, true, true, true, true, true, true, true, true, true, true, false] rfl rfl (by kernel_rfl) (fun _ _ _ h => h) (Or.inl ⟨by rfl, ?_⟩) ?_ ?_
  rotate_left
  · intro w'
    go_simp
    with_reducible rfl
  rotate_left
  · simp only [Act.put, List.setIfInBounds_toArray, List.set_cons_zero, List.set_cons_succ, i64_w, i32_w]
    rfl
  refine pure_ (i := 24) (N := some 5) (v := ?_) (a' := ?_) #[true, true, true, true, true, true, true, true, true, true, true, true, true, true, true, true, true, true, true, true, true, true, true, true, true] rfl rfl (by kernel_rfl) (fun _ _ _ h => h) (Or.inl ⟨by rfl, ?_⟩) ?_ ?_
  rotate_left
  · intro w'
    go_simp
    with_reducible rfl
  rotate_left
  · simp only [Act.put, List.setIfInBounds_toArray, List.set_cons_zero, List.set_cons_succ, i64_w, i32_w]
    rfl
  refine done_ (by kernel_rfl) ?_
  by_cases c0 : 0 < (q1.length : Int)
  · have H' := H.out
    rw [if_pos c0] at H'
    have c0b : decide (0 < (q1.length : Int)) = true := decide_eq_true c0
    have c0n : decide (0 < q1.length) = true := decide_eq_true (by omega)
    by_cases c1 : q1.length < 140737488355328
    · rw [if_pos c1] at H'
      obtain rfl := Option.some.inj H'
      have LM := Aside0.mk c1
      clear c1 H' c0
      go_wp2_with (first | ((with_reducible refine gate_builtin (b := .append) (xs := #[.tmp 52, .tmp 53]) rfl ?_); at_builtin; refine Kd.R_append (Kd.int .u8) (w0 := w0) w0.heap.size rfl (.tmp 52) (.tmp 53) 40 5 (.int .u8 0) 1 rfl Try.underlying40 info5 rfl (by decide) (by omega) (.slice A3 q1.length c3) q1 10 [.int .u8 10] (fun _ => True) (fun _ => False) rfl rfl ?aP (fun _ hk => hk.elim) (fun _ _ => trivial) ?aO ?aB ?aS ?aL ?_; (case aP => exact rfl); (case aB => exact HB3.out); (case aO => exact HR3.out); (case aS => exact HB3.out.size); (case aL => have := LM.out; omega); intro v4 w4 ho hb hg hat))
      go_ret
      exact ⟨_, rfl, ho, hb⟩
    · rw [if_neg c1] at H'
      cases H'
  · have H' := H.out
    rw [if_neg c0] at H'
    obtain rfl := Option.some.inj H'
    have c0b : decide (0 < (q1.length : Int)) = false := decide_eq_false c0
    have c0n : decide (0 < q1.length) = false := decide_eq_false (by omega)
    clear H' c0
    go_wp2_with fail
    go_ret
    exact ⟨_, rfl, HR3.out, HB3.out⟩
def impl_PrPretty.f (k : Nat) (a0 : ByteArray) (a1_0 : Int) (a1_1 a1_2 : ByteArray) (a1_3 : Bool) : Option ByteArray := if a1_3 = true then none else (if a1_1.size ≤ 100000 then (if a0.size ≤ 140737488351232 then (pPo.g k a1_0 a1_1 a1_2 (bytesOf a0)).bind fun x => some (strOfNums x) else none) else none)
theorem impl_PrPretty.mono : ∀ a0 a1 a2 a3 a4 k, LeO (impl_PrPretty.f k a0 a1 a2 a3 a4) (impl_PrPretty.f (k + 1) a0 a1 a2 a3 a4) := by
  intro a0 a1 a2 a3 a4 k
  unfold impl_PrPretty.f pPo.g
  exact LeO.ite (LeO.refl _) (LeO.ite (LeO.ite (LeO.bind (LeO.bind (pAn.mono _ _ _ _ _ _ _ _ _ _ _ _) (fun _ => LeO.refl _)) (fun _ => LeO.refl _)) (LeO.refl _)) (LeO.refl _))
set_option maxHeartbeats 2000000 in
set_option maxRecDepth 100000 in
theorem impl_PrPretty.calls (k : Nat) (a0 : ByteArray) (a1_0 : Int) (a1_1 a1_2 : ByteArray) (a1_3 : Bool) (r : ByteArray) (w : World) (h : impl_PrPretty.f k a0 a1_0 a1_1 a1_2 a1_3 = some r) :
    Calls Try.prog 11 #[.string a0, .agg #[.int .i64 a1_0, .string a1_1, .string a1_2, .bool a1_3]] w fun e w' => e = .returned (.string r) ∧ Below w.heap.size w w' := by
  have hu23 := Try.underlying23
  have hu47 := Try.underlying47
  unfold impl_PrPretty.f at h
  cases a1_3 with
  | true => rw [if_pos rfl] at h; cases h
  | false =>
  rw [if_neg (by decide)] at h
  by_cases hp : a1_1.size ≤ 100000
  · rw [if_pos hp] at h
    by_cases hs : a0.size ≤ 140737488351232
    · rw [if_pos hs] at h
      obtain ⟨x, h1, h2⟩ := Option.bind_eq_some_iff.mp h
      obtain rfl := Option.some.inj h2
      have H1 := Aside0.mk h1
      have HS := Aside0.mk hs
      have HP := Aside0.mk hp
      clear h h1 h2 hs hp
      have kb := fun W => print_bytes (P := Try.prog) 9 40 5 Try.underlying9 Try.underlying40 Try.underlying5 a0 W
      have hbl : (bytesOf a0).length = a0.size := bytesOf_length a0
      have HBL := Aside0.mk hbl
      clear hbl
      go_enter Try.func11, Try.ntmps11
      go_wp2_with (first | ((with_reducible refine gate_dst (N := 3) rfl ?_); refine box_event ?hg (N := 3) ?hd (cs := #[.int .i64 a1_0, .string a1_1, .string a1_2, .bool false]) (t := 23) ?hr ?_; (case hd => rfl); (case hg => rfl); (case hr => first | (go_simp; done) | (go_simp; rfl)); intro gb1 hg1 w3 hbox hb; have HB1 := Aside0.mk (bytes_below (below_step (Below.refl w.heap.size w) hb) hb.size 5 a0); have BK1 := Aside0.mk (blk_below hbox (bytes_below (Below.refl w3.heap.size w3) (Nat.le_refl _) 5 a0)); have hcz_0 := bc_ BK1 0 (.int .i64 a1_0); have hcz_1 := bc_ BK1 1 (.string a1_1); have hcz_2 := bc_ BK1 2 (.string a1_2); have hcz_3 := bc_ BK1 3 (.bool false); have hr1 := bytes_reads w3 5 a0 (by have := HS.out; omega); have HR1 := Aside0.mk hr1; clear hr1 hbox hb hg1) | ((with_reducible refine gate_dst (N := 16) rfl ?_); refine box_event ?hg (N := 16) ?hd (cs := #[.int .i64 a1_0, .string a1_1, .string a1_2, .bool false]) (t := 47) ?hr ?_; (case hd => rfl); (case hg => rfl); (case hr => first | (go_simp; done) | (go_simp; rfl)); intro gb2 hg2 w4 hbox hb; have HB2 := Aside0.mk (below_step HB1.out hb); have BK2 := Aside0.mk hbox; have HR2 := Aside0.mk (Kd.C_below (d := Kd.int .u8) (by have hn := HBL.out; have hr := HR1.out; rw [← hn] at hr; exact Kd.C_of_reads (readsInt_of.mp hr)) hb); clear hbox hb hg2))
      have key := pPo.told k (some ⟨w3.heap.size, 0, none⟩) (grownCap w3 a0.size 0 5) (bytesOf a0) x gb2 a1_0 a1_1 a1_2 w w4 HB2.out HR2.out (by have hn := HBL.out; have := grownCap_ge w3 a0.size 0 5; omega) (by have hn := HBL.out; have := HS.out; omega) HP.out BK2.out H1.out
      rw [HBL.out] at key
      refine key.mono ?_
      rintro e w5 ⟨v2, rfl, hR, hB⟩
      have hcv := own_string (P := Try.prog) Try.underlying40 Try.underlying5 Try.underlying9 (Kd.own_of_R hR)
      go_wp2_with fail
      go_ret
      exact ⟨rfl, hB⟩
    · rw [if_neg hs] at h
      cases h
  · rw [if_neg hp] at h
    cases h

end Go.Proofs.Ytnilbkfhfnofgaa.PFnPrWidthMember
