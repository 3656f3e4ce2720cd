/- Contracts of Go functions of this seat: for each a Lean function over numbers and lists and a proof that the Go function, called in any memory, returns what it gives. Made by program. -/
import Derived.Test.YtapgjhgjhcfmoaaPFnPrDefaultLaidx0
import Derived.Test.YtapgjhgjhcfmoaaPFnPrDefaultLaidx11
import Derived.Test.YtapgjhgjhcfmoaaPFnPrDefaultLaidx8
namespace Go.Proofs.Ytapgjhgjhcfmoaa.PFnPrDefaultLaid
open Go.RowKit Go.Proofs.YtapgjhgjhcfmoaaW.PrintWords Go.Proofs.YtapgjhgjhcfmoaaW.PrintLast Go.Proofs.YtapgjhgjhcfmoaaW.PrintMore
attribute [local go_sem] max2_int min2_int max_two min_two max_three min_three max_four min_four   -- for this text's walks alone
set_option linter.unusedVariables false
set_option linter.unusedSimpArgs false

def pretty_PrettyOptions.g (k : Nat) (W : Int) (P I : ByteArray) (l1 : List Int) : Option (List Int) :=
  (pretty_appendPrettyAny.f k (bytesOf P) l1 0 true W P I false 0 0 (-1)).bind fun x => if 0 < (x.1.length : Int) then (if x.1.length < 140737488355328 then some (x.1 ++ [10]) else none) else some x.1

set_option maxHeartbeats 2000000 in
set_option maxRecDepth 100000 in
theorem pretty_PrettyOptions.nil (k : Nat) (A : Option Addr) (c : Nat) (l1 r : List Int) (w0 w : World) (hB : Below w0.heap.size w0 w) (hC : Kd.C (Kd.int .u8) w A l1.length l1) (hc : l1.length ≤ c) (hl1 : l1.length ≤ 140737488355328) (h : pretty_PrettyOptions.g k 80 ⟨#[]⟩ ⟨#[32, 32]⟩ l1 = some r) :
    Calls Try.prog 13 #[.slice A l1.length c, .pointer none] w fun e w' => ∃ v : Value, e = .returned v ∧ Kd.R (Kd.int .u8) 5 w' w0.heap.size (fun _ => True) v r ∧ Below w0.heap.size w0 w' := by
  have hu52 := Try.underlying52
  unfold pretty_PrettyOptions.g at h
  obtain ⟨⟨q1, q2, q3, q4⟩, h1, h⟩ := Option.bind_eq_some_iff.mp h
  dsimp only at h1 h
  have H1 := Aside0.mk h1
  have H := Aside0.mk h
  clear h1 h
  have HF := Aside0.mk (Kd.C_F (Kd.heap_int _) hC)
  have HB := Aside0.mk hB
  have HL := Aside0.mk hl1
  have HC := Aside0.mk hc
  clear hC hB hl1 hc
  go_enter Try.func13, Try.ntmps13
  go_wp2_with (first | ((with_reducible refine gate_dst (N := 12) rfl ?_); refine Kd.R_make0 (Kd.int .u8) (w0 := w0) w0.heap.size 5 rfl (N := 12) rfl 32 _ _ rfl (l1.length : Int) rfl rfl Try.underlying32 (.int .u8 0) 1 info5 rfl (by decide) (by omega) (ok := fun _ => True) trivial (by omega) (by have := HL.out; simp; omega) (below_alloc HB.out _) (Nat.le_trans HB.out.size (by simp)) ?_; intro v1 w1 hR hB1 hg hown; have BK := blk_grown (blk_new w (.cells #[.int .i64 80, .string ⟨#[]⟩, .string ⟨#[32, 32]⟩, .bool false] 52)) hg (by simp); have z0 : w1.cell? ⟨w.heap.size, 0, none⟩ = some (.int .i64 80) := (blk_cell BK 0).trans rfl; have z1 : w1.cell? ⟨w.heap.size, 1, none⟩ = some (.string ⟨#[]⟩) := (blk_cell BK 1).trans rfl; have z2 : w1.cell? ⟨w.heap.size, 2, none⟩ = some (.string ⟨#[32, 32]⟩) := (blk_cell BK 2).trans rfl; have z3 : w1.cell? ⟨w.heap.size, 3, none⟩ = some (.bool false) := (blk_cell BK 3).trans rfl; have HF1 := Aside0.mk (Kd.F_elder' (v := v1) (Kd.F_alloc HF.out (.cells #[.int .i64 80, .string ⟨#[]⟩, .string ⟨#[32, 32]⟩, .bool false] 52)) (fun k hk => by obtain ⟨b, hb, hle⟩ := hown; rw [hb] at hk; injection hk with hk; omega) ⟨hg.os, hg.tape, hg.output, hg.size, fun k hk => hg.block k hk (by simp)⟩); have HR := Aside0.mk hR; have HB1 := Aside0.mk hB1; have BKA := Aside0.mk BK; clear BK hg hown hR hB1 HF HB))
  refine start_ (n := 25) (S := fun w' => w'.cell? ⟨w.heap.size, 0, none⟩ = some (.int .i64 80) ∧ w'.cell? ⟨w.heap.size, 1, none⟩ = some (.string ⟨#[]⟩) ∧ w'.cell? ⟨w.heap.size, 2, none⟩ = some (.string ⟨#[32, 32]⟩) ∧ w'.cell? ⟨w.heap.size, 3, none⟩ = some (.bool false)) (ds := [18]) #[false, false, false, false, false, false, false, false, false, false, false, false, false, false, false, false, false, false, false, false, false, false, false, false, false] (by kernel_rfl) rfl rfl ⟨z0, z1, z2, z3⟩ (fun hHeld => ?_)
  have HR2 := Aside0.mk (Kd.R_drew HR.out)
  have HF2 := Aside0.mk (Kd.F_drew HF1.out)
  have HB2 := Aside0.mk (below_drew1 HB1.out)
  clear HR HF1 HB1 BKA z0 z1 z2 z3
  generalize w1.drew = w2 at HR2 HF2 HB2 hHeld ⊢
  refine pure_ (i := 0) (N := some 26) (v := ?_) (a' := ?_) #[true, false, false, false, false, false, false, false, false, false, false, false, false, false, false, false, false, false, false, false, false, false, false, false, false] rfl rfl (by kernel_rfl) (fun _ _ _ h => h) (Or.inl ⟨by rfl, ?_⟩) ?_ ?_
  rotate_left
  · intro w'
    go_simp
    with_reducible rfl
  rotate_left
  · simp only [Act.put, List.setIfInBounds_toArray, List.set_cons_zero, List.set_cons_succ, i64_w, i32_w]
    rfl
  refine pure_ (i := 1) (N := some 27) (v := ?_) (a' := ?_) #[true, true, false, false, false, false, false, false, false, false, false, false, false, false, false, false, false, false, false, false, false, false, false, false, false] rfl rfl (by kernel_rfl) (fun _ _ _ h => h) (Or.inl ⟨by rfl, ?_⟩) ?_ ?_
  rotate_left
  · intro w'
    go_simp
    with_reducible rfl
  rotate_left
  · simp only [Act.put, List.setIfInBounds_toArray, List.set_cons_zero, List.set_cons_succ, i64_w, i32_w]
    rfl
  refine pure_ (i := 2) (N := some 28) (v := ?_) (a' := ?_) #[true, true, true, false, false, false, false, false, false, false, false, false, false, false, false, false, false, false, false, false, false, false, false, false, false] rfl rfl (by kernel_rfl) (fun _ _ _ h => h) (Or.inl ⟨by rfl, ?_⟩) ?_ ?_
  rotate_left
  · intro w'
    go_simp
    with_reducible rfl
  rotate_left
  · simp only [Act.put, List.setIfInBounds_toArray, List.set_cons_zero, List.set_cons_succ, i64_w, i32_w]
    rfl
  refine pure_ (i := 3) (N := some 29) (v := ?_) (a' := ?_) #[true, true, true, true, false, false, false, false, false, false, false, false, false, false, false, false, false, false, false, false, false, false, false, false, false] rfl rfl (by kernel_rfl) (fun _ _ _ h => h) (Or.inl ⟨by rfl, ?_⟩) ?_ ?_
  rotate_left
  · intro w'
    go_simp
    with_reducible rfl
  rotate_left
  · simp only [Act.put, List.setIfInBounds_toArray, List.set_cons_zero, List.set_cons_succ, i64_w, i32_w]
    rfl
  refine pure_ (i := 4) (N := some 30) (v := ?_) (a' := ?_) #[true, true, true, true, true, false, false, false, false, false, false, false, false, false, false, false, false, false, false, false, false, false, false, false, false] rfl rfl (by kernel_rfl) (fun _ _ _ h => h) (Or.inl ⟨by rfl, ?_⟩) ?_ ?_
  rotate_left
  · intro w'
    go_simp
    with_reducible rfl
  rotate_left
  · simp only [Act.put, List.setIfInBounds_toArray, List.set_cons_zero, List.set_cons_succ, i64_w, i32_w]
    rfl
  refine pure_ (i := 6) (N := some 32) (v := ?_) (a' := ?_) #[true, true, true, true, true, false, true, false, false, false, false, false, false, false, false, false, false, false, false, false, false, false, false, false, false] rfl rfl (by kernel_rfl) (fun _ _ _ h => h) (Or.inl ⟨by rfl, ?_⟩) ?_ ?_
  rotate_left
  · intro w'
    go_simp
    with_reducible rfl
  rotate_left
  · simp only [Act.put, List.setIfInBounds_toArray, List.set_cons_zero, List.set_cons_succ, i64_w, i32_w]
    rfl
  refine pure_ (i := 7) (N := some 33) (v := ?_) (a' := ?_) #[true, true, true, true, true, false, true, true, false, false, false, false, false, false, false, false, false, false, false, false, false, false, false, false, false] rfl rfl (by kernel_rfl) (fun _ _ _ h => h) (Or.inl ⟨by rfl, ?_⟩) ?_ ?_
  rotate_left
  · intro w'
    go_simp
    with_reducible rfl
  rotate_left
  · simp only [Act.put, List.setIfInBounds_toArray, List.set_cons_zero, List.set_cons_succ, i64_w, i32_w]
    rfl
  refine pure_ (i := 8) (N := some 34) (v := ?_) (a' := ?_) #[true, true, true, true, true, false, true, true, true, false, false, false, false, false, false, false, false, false, false, false, false, false, false, false, false] rfl rfl (by kernel_rfl) (fun _ _ _ h => h) (Or.inl ⟨by rfl, ?_⟩) ?_ ?_
  rotate_left
  · intro w'
    go_simp
    with_reducible rfl
  rotate_left
  · simp only [Act.put, List.setIfInBounds_toArray, List.set_cons_zero, List.set_cons_succ, i64_w, i32_w]
    rfl
  refine pure_ (i := 10) (N := some 36) (v := ?_) (a' := ?_) #[true, true, true, true, true, false, true, true, true, false, true, false, false, false, false, false, false, false, false, false, false, false, false, false, false] rfl rfl (by kernel_rfl) (fun _ _ _ h => h) (Or.inl ⟨by rfl, ?_⟩) ?_ ?_
  rotate_left
  · intro w'
    go_simp
    with_reducible rfl
  rotate_left
  · simp only [Act.put, List.setIfInBounds_toArray, List.set_cons_zero, List.set_cons_succ, i64_w, i32_w]
    rfl
  refine pure_ (i := 11) (N := some 37) (v := ?_) (a' := ?_) #[true, true, true, true, true, false, true, true, true, false, true, true, false, false, false, false, false, false, false, false, false, false, false, false, false] rfl rfl (by kernel_rfl) (fun _ _ _ h => h) (Or.inl ⟨by rfl, ?_⟩) ?_ ?_
  rotate_left
  · intro w'
    go_simp
    with_reducible rfl
  rotate_left
  · simp only [Act.put, List.setIfInBounds_toArray, List.set_cons_zero, List.set_cons_succ, i64_w, i32_w]
    rfl
  refine pure_ (i := 12) (N := some 38) (v := ?_) (a' := ?_) #[true, true, true, true, true, false, true, true, true, false, true, true, true, false, false, false, false, false, false, false, false, false, false, false, false] rfl rfl (by kernel_rfl) (fun _ _ _ h => h) (Or.inl ⟨by rfl, ?_⟩) ?_ ?_
  rotate_left
  · intro w'
    go_simp
    with_reducible rfl
  rotate_left
  · simp only [Act.put, List.setIfInBounds_toArray, List.set_cons_zero, List.set_cons_succ, i64_w, i32_w]
    rfl
  refine pure_ (i := 14) (N := some 40) (v := ?_) (a' := ?_) #[true, true, true, true, true, false, true, true, true, false, true, true, true, false, true, false, false, false, false, false, false, false, false, false, false] rfl rfl (by kernel_rfl) (fun _ _ _ h => h) (Or.inl ⟨by rfl, ?_⟩) ?_ ?_
  rotate_left
  · intro w'
    go_simp
    with_reducible rfl
  rotate_left
  · simp only [Act.put, List.setIfInBounds_toArray, List.set_cons_zero, List.set_cons_succ, i64_w, i32_w]
    rfl
  refine pure_ (i := 15) (N := some 41) (v := ?_) (a' := ?_) #[true, true, true, true, true, false, true, true, true, false, true, true, true, false, true, true, false, false, false, false, false, false, false, false, false] rfl rfl (by kernel_rfl) (fun _ _ _ h => h) (Or.inl ⟨by rfl, ?_⟩) ?_ ?_
  rotate_left
  · intro w'
    go_simp
    with_reducible rfl
  rotate_left
  · simp only [Act.put, List.setIfInBounds_toArray, List.set_cons_zero, List.set_cons_succ, i64_w, i32_w]
    rfl
  refine pure_ (i := 16) (N := some 42) (v := ?_) (a' := ?_) #[true, true, true, true, true, false, true, true, true, false, true, true, true, false, true, true, true, false, false, false, false, false, false, false, false] rfl rfl (by kernel_rfl) (fun _ _ _ h => h) (Or.inl ⟨by rfl, ?_⟩) ?_ ?_
  rotate_left
  · intro w'
    go_simp
    with_reducible rfl
  rotate_left
  · simp only [Act.put, List.setIfInBounds_toArray, List.set_cons_zero, List.set_cons_succ, i64_w, i32_w]
    rfl
  refine take_ (i := 5) (N := some 31) (v := ?_) (a' := ?_) #[true, true, true, true, true, true, true, true, true, false, true, true, true, false, true, true, true, false, false, false, false, false, false, false, false] rfl rfl (by kernel_rfl) (fun _ _ _ h => h) (Or.inl ⟨by rfl, ?_⟩) hHeld ?_ ?_
  rotate_left
  · rintro w' ⟨s0, s1, s2, s3⟩
    go_simp
    with_reducible rfl
  rotate_left
  · simp only [Act.put, List.setIfInBounds_toArray, List.set_cons_zero, List.set_cons_succ, i64_w, i32_w]
    rfl
  refine take_ (i := 9) (N := some 35) (v := ?_) (a' := ?_) #[true, true, true, true, true, true, true, true, true, true, true, true, true, false, true, true, true, false, false, false, false, false, false, false, false] rfl rfl (by kernel_rfl) (fun _ _ _ h => h) (Or.inl ⟨by rfl, ?_⟩) hHeld ?_ ?_
  rotate_left
  · rintro w' ⟨s0, s1, s2, s3⟩
    go_simp
    with_reducible rfl
  rotate_left
  · simp only [Act.put, List.setIfInBounds_toArray, List.set_cons_zero, List.set_cons_succ, i64_w, i32_w]
    rfl
  refine take_ (i := 13) (N := some 39) (v := ?_) (a' := ?_) #[true, true, true, true, true, true, true, true, true, true, true, true, true, true, true, true, true, false, false, false, false, false, false, false, false] rfl rfl (by kernel_rfl) (fun _ _ _ h => h) (Or.inl ⟨by rfl, ?_⟩) hHeld ?_ ?_
  rotate_left
  · rintro w' ⟨s0, s1, s2, s3⟩
    go_simp
    with_reducible rfl
  rotate_left
  · simp only [Act.put, List.setIfInBounds_toArray, List.set_cons_zero, List.set_cons_succ, i64_w, i32_w]
    rfl
  refine take_ (i := 17) (N := some 43) (v := ?_) (a' := ?_) #[true, true, true, true, true, true, true, true, true, true, true, true, true, true, true, true, true, true, false, false, false, false, false, false, false] rfl rfl (by kernel_rfl) (fun _ _ _ h => h) (Or.inl ⟨by rfl, ?_⟩) hHeld ?_ ?_
  rotate_left
  · rintro w' ⟨s0, s1, s2, s3⟩
    go_simp
    with_reducible rfl
  rotate_left
  · simp only [Act.put, List.setIfInBounds_toArray, List.set_cons_zero, List.set_cons_succ, i64_w, i32_w]
    rfl
  refine last_ (i := 18) (N := some 44) #[true, true, true, true, true, true, true, true, true, true, true, true, true, true, true, true, true, true, true, false, false, false, false, false, false] rfl rfl (by kernel_rfl) (by decide) (fun K hK => ?_)
  refine goes_ Try.func24 (by kernel_rfl) rfl #[v1, .slice A l1.length c, .int .i64 0, .bool true, .int .i64 80, .string ⟨#[]⟩, .string ⟨#[32, 32]⟩, .bool false, .int .i64 0, .int .i64 0, .int .i64 (-1)] (by rfl) rfl rfl (by (try simp only [List.map_toArray, List.map_cons, List.map_nil]); first | done | rfl) ?_
  refine (pretty_appendPrettyAny.calls k (fun _ => True) v1 [] (fun _ => True) A c l1 0 true 80 ⟨#[]⟩ ⟨#[32, 32]⟩ false 0 0 (-1) q1 q2 q3 q4 w0 w2 HB2.out HR2.out (Kd.V_mk HC.out (Kd.F_mono HF2.out (fun k_ hk => ⟨trivial, hk.2⟩))) H1.out).mono ?_
  rintro e w3 ⟨v3, rfl, hR3, hB3, hK3⟩
  obtain ⟨A3, c3, rfl⟩ := Kd.R_slice hR3
  refine ⟨_, rfl, ?_⟩
  have HR3 := Aside0.mk (Kd.R_mono (ok' := fun _ => True) hR3 (fun _ _ => trivial))
  have HB3 := Aside0.mk hB3
  clear hR3 hB3 hK3 HR2 HB2 HF2
  refine hK.out _ _ ?_
  clear hK K
  refine norm_ (a' := ?_) ?_ ?_
  rotate_left
  · show Act.put _ (some 44) _ = _
    simp only [Act.put, List.setIfInBounds_toArray, List.set_cons_zero, List.set_cons_succ, i64_w, i32_w]
    rfl
  refine pure_ (i := 19) (N := some 25) (v := ?_) (a' := ?_) #[true, true, true, true, true, true, true, true, true, true, true, true, true, true, true, true, true, true, true, true, false, false, false, false, false] rfl rfl (by kernel_rfl) (fun _ _ _ h => h) (Or.inl ⟨by rfl, ?_⟩) ?_ ?_
  rotate_left
  · intro w'
    go_simp
    with_reducible rfl
  rotate_left
  · simp only [Act.put, List.setIfInBounds_toArray, List.set_cons_zero, List.set_cons_succ, i64_w, i32_w]
    rfl
  refine pure_ (i := 20) (N := some 45) (v := ?_) (a' := ?_) #[true, true, true, true, true, true, true, true, true, true, true, true, true, true, true, true, true, true, true, true, true, false, false, false, false] rfl rfl (by kernel_rfl) (fun _ _ _ h => h) (Or.inl ⟨by rfl, ?_⟩) ?_ ?_
  rotate_left
  · intro w'
    go_simp
    with_reducible rfl
  rotate_left
  · simp only [Act.put, List.setIfInBounds_toArray, List.set_cons_zero, List.set_cons_succ, i64_w, i32_w]
    rfl
  refine pure_ (i := 21) (N := some 46) (v := ?_) (a' := ?_) #[true, true, true, true, true, true, true, true, true, true, true, true, true, true, true, true, true, true, true, true, true, true, false, false, false] rfl rfl (by kernel_rfl) (fun _ _ _ h => h) (Or.inl ⟨by rfl, ?_⟩) ?_ ?_
  rotate_left
  · intro w'
    go_simp
    with_reducible rfl
  rotate_left
  · simp only [Act.put, List.setIfInBounds_toArray, List.set_cons_zero, List.set_cons_succ, i64_w, i32_w]
    rfl
  refine pure_ (i := 22) (N := some 47) (v := ?_) (a' := ?_) #[true, true, true, true, true, true, true, true, true, true, true, true, true, true, true, true, true, true, true, true, true, true, true, false, false] rfl rfl (by kernel_rfl) (fun _ _ _ h => h) (Or.inl ⟨by rfl, ?_⟩) ?_ ?_
  rotate_left
  · intro w'
    go_simp
    with_reducible rfl
  rotate_left
  · simp only [Act.put, List.setIfInBounds_toArray, List.set_cons_zero, List.set_cons_succ, i64_w, i32_w]
    rfl
  refine pure_ (i := 23) (N := some 48) (v := ?_) (a' := ?_) #[true, true, true, true, true, true, true, true, true, true, true, true, true, true, true, true, true, true, true, true, true, true, true, true, false] rfl rfl (by kernel_rfl) (fun _ _ _ h => h) (Or.inl ⟨by rfl, ?_⟩) ?_ ?_
  rotate_left
  · intro w'
    go_simp
    with_reducible rfl
  rotate_left
  · simp only [Act.put, List.setIfInBounds_toArray, List.set_cons_zero, List.set_cons_succ, i64_w, i32_w]
    rfl
  refine pure_ (i := 24) (N := some 5) (v := ?_) (a' := ?_) #[true, true, true, true, true, true, true, true, true, true, true, true, true, true, true, true, true, true, true, true, true, true, true, true, true] rfl rfl (by kernel_rfl) (fun _ _ _ h => h) (Or.inl ⟨by rfl, ?_⟩) ?_ ?_
  rotate_left
  · intro w'
    go_simp
    with_reducible rfl
  rotate_left
  · simp only [Act.put, List.setIfInBounds_toArray, List.set_cons_zero, List.set_cons_succ, i64_w, i32_w]
    rfl
  refine done_ (by kernel_rfl) ?_
  by_cases c0 : 0 < (q1.length : Int)
  · have H' := H.out
    rw [if_pos c0] at H'
    have c0b : decide (0 < (q1.length : Int)) = true := decide_eq_true c0
    have c0n : decide (0 < q1.length) = true := decide_eq_true (by omega)
    by_cases c1 : q1.length < 140737488355328
    · rw [if_pos c1] at H'
      obtain rfl := Option.some.inj H'
      have LM := Aside0.mk c1
      clear c1 H' c0
      go_wp2_with (first | ((with_reducible refine gate_builtin (b := .append) (xs := #[.tmp 52, .tmp 53]) rfl ?_); at_builtin; refine Kd.R_append (Kd.int .u8) (w0 := w0) w0.heap.size rfl (.tmp 52) (.tmp 53) 32 5 (.int .u8 0) 1 rfl Try.underlying32 info5 rfl (by decide) (by omega) (.slice A3 q1.length c3) q1 10 [.int .u8 10] (fun _ => True) (fun _ => False) rfl rfl ?aP (fun _ hk => hk.elim) (fun _ _ => trivial) ?aO ?aB ?aS ?aL ?_; (case aP => exact rfl); (case aB => exact HB3.out); (case aO => exact HR3.out); (case aS => exact HB3.out.size); (case aL => have := LM.out; omega); intro v4 w4 ho hb hg hat))
      go_ret
      exact ⟨_, rfl, ho, hb⟩
    · rw [if_neg c1] at H'
      cases H'
  · have H' := H.out
    rw [if_neg c0] at H'
    obtain rfl := Option.some.inj H'
    have c0b : decide (0 < (q1.length : Int)) = false := decide_eq_false c0
    have c0n : decide (0 < q1.length) = false := decide_eq_false (by omega)
    clear H' c0
    go_wp2_with fail
    go_ret
    exact ⟨_, rfl, HR3.out, HB3.out⟩

set_option maxHeartbeats 2000000 in
set_option maxRecDepth 100000 in
theorem pretty_Pretty.nil (k : Nat) (A : Option Addr) (c : Nat) (l1 r : List Int) (w0 w : World) (hB : Below w0.heap.size w0 w) (hC : Kd.C (Kd.int .u8) w A l1.length l1) (hc : l1.length ≤ c) (hl1 : l1.length ≤ 140737488355328) (h : pretty_PrettyOptions.g k 80 ⟨#[]⟩ ⟨#[32, 32]⟩ l1 = some r) :
    Calls Try.prog 9 #[.slice A l1.length c] w fun e w' => ∃ v : Value, e = .returned v ∧ Kd.R (Kd.int .u8) 5 w' w0.heap.size (fun _ => True) v r ∧ Below w0.heap.size w0 w' := by
  have H1 := Aside0.mk hB
  have H2 := Aside0.mk hC
  have H3 := Aside0.mk hc
  have H4 := Aside0.mk hl1
  have H5 := Aside0.mk h
  clear hB hC hc hl1 h
  go_enter Try.func9, Try.ntmps9
  go_wp2_with (first | ((with_reducible refine gate_callee (f := 13) rfl ?_); refine goesL_ (some 4) rfl rfl Try.func13 (by kernel_rfl) rfl #[.slice A l1.length c, .pointer none] rfl (by (try simp only [List.map_toArray, List.map_cons, List.map_nil]); first | done | rfl) ?_; refine (pretty_PrettyOptions.nil k A c l1 r w0 _ H1.out H2.out H3.out H4.out H5.out).mono ?_; rintro e w1 ⟨v1, rfl, hR, hB1⟩; refine ⟨_, rfl, ?_⟩))
  go_ret
  exact ⟨_, rfl, hR, hB1⟩
def impl_PrDefault.f (k : Nat) (a0 : ByteArray) : Option ByteArray := if a0.size ≤ 140737488351232 then (pretty_PrettyOptions.g k 80 ⟨#[]⟩ ⟨#[32, 32]⟩ (bytesOf a0)).bind fun x => some (strOfNums x) else none
theorem impl_PrDefault.mono : ∀ a0 k, LeO (impl_PrDefault.f k a0) (impl_PrDefault.f (k + 1) a0) := by
  intro a0 k
  unfold impl_PrDefault.f pretty_PrettyOptions.g
  exact LeO.ite (LeO.bind (LeO.bind (pretty_appendPrettyAny.mono _ _ _ _ _ _ _ _ _ _ _ _) (fun _ => LeO.refl _)) (fun _ => LeO.refl _)) (LeO.refl _)
set_option maxHeartbeats 2000000 in
set_option maxRecDepth 100000 in
theorem impl_PrDefault.calls (k : Nat) (a0 : ByteArray) (r : ByteArray) (w : World) (h : impl_PrDefault.f k a0 = some r) :
    Calls Try.prog 6 #[.string a0] w fun e w' => e = .returned (.string r) ∧ Below w.heap.size w w' := by
  unfold impl_PrDefault.f at h
  by_cases hs : a0.size ≤ 140737488351232
  · rw [if_pos hs] at h
    obtain ⟨x, h1, h2⟩ := Option.bind_eq_some_iff.mp h
    obtain rfl := Option.some.inj h2
    have H1 := Aside0.mk h1
    have HS := Aside0.mk hs
    clear h h1 h2 hs
    have kb := fun W => print_bytes (P := Try.prog) 9 32 5 Try.underlying9 Try.underlying32 Try.underlying5 a0 W
    have hbl : (bytesOf a0).length = a0.size := bytesOf_length a0
    have HBL := Aside0.mk hbl
    clear hbl
    go_enter Try.func6, Try.ntmps6
    go_wp2_with fail
    have key := pretty_Pretty.nil k (some ⟨w.heap.size, 0, none⟩) (grownCap w a0.size 0 5) (bytesOf a0) x w (Lib.bytesWorld w 5 a0) (bytes_below (Below.refl _ _) (Nat.le_refl _) 5 a0)
      (by have hr := bytes_reads w 5 a0 (by have := HS.out; omega); have hn := HBL.out; rw [hn]; exact Kd.C_of_reads (readsInt_of.mp hr)) (by have hn := HBL.out; have := grownCap_ge w a0.size 0 5; omega) (by have hn := HBL.out; have := HS.out; omega) H1.out
    rw [HBL.out] at key
    refine key.mono ?_
    rintro e w2 ⟨v2, rfl, hR, hB⟩
    have hcv := own_string (P := Try.prog) Try.underlying32 Try.underlying5 Try.underlying9 (Kd.own_of_R hR)
    go_wp2_with fail
    go_ret
    exact ⟨rfl, hB⟩
  · rw [if_neg hs] at h
    cases h

end Go.Proofs.Ytapgjhgjhcfmoaa.PFnPrDefaultLaid
