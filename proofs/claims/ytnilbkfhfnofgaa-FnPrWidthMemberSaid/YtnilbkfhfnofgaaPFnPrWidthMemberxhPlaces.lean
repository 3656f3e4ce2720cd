/- Contracts of Go functions of this seat: a Lean function over numbers and lists for each, and a proof that the Go function returns what it gives. Made by program. -/
import Derived.Test.YtnilbkfhfnofgaaPFnPrWidthMemberx0
import Derived.Test.YtnilbkfhfnofgaaPFnPrWidthMemberx1
import Derived.Test.YtnilbkfhfnofgaaPFnPrWidthMemberx3
import Derived.Test.YtnilbkfhfnofgaaPFnPrWidthMemberx4
namespace Go.Proofs.Ytnilbkfhfnofgaa.PFnPrWidthMember
open Go.RowKit Go.Proofs.YtnilbkfhfnofgaaW.PrintWords Go.Proofs.YtnilbkfhfnofgaaW.PrintLast Go.Proofs.YtnilbkfhfnofgaaW.PrintMore
attribute [local go_sem] max2_int min2_int max_two min_two max_three min_three max_four min_four   -- for this text's walks alone
set_option linter.unusedVariables false
set_option linter.unusedSimpArgs false

def spec_Places.f (k : Nat) (a0 : ByteArray) : Option (Int × Int × Int × List (S54) × List (S28) × Bool) :=
  (sr_blanks.f k a0 0).bind fun b1 => (sr_value.f k b1.1 b1.2).bind fun v =>
    if v.2.2.2.2.2.1 = true then
      (sr_blanks.f k v.2.2.2.2.2.2.1 v.2.2.2.2.2.2.2).bind fun b2 => if b2.2 = (a0.size : Int) then some (v.1, v.2.1, v.2.2.1, v.2.2.2.1, v.2.2.2.2.1, true) else some (0, 0, 0, [], [], false)
    else some (0, 0, 0, [], [], false)

theorem spec_Places.mono : ∀ a0 k, LeO (spec_Places.f k a0) (spec_Places.f (k + 1) a0) := by
  intro a0 k
  unfold spec_Places.f
  refine LeO.bind (sr_blanks.mono _ _ _) (fun b1 => LeO.bind (sr_value.mono _ _ _) (fun v => LeO.ite (LeO.bind (sr_blanks.mono _ _ _) (fun b2 => LeO.refl _)) (LeO.refl _)))

set_option maxHeartbeats 2000000 in
set_option maxRecDepth 100000 in
theorem spec_Places.calls (k : Nat) (a0 : ByteArray) (r1 r2 r3 : Int) (r4 : List (S54)) (r5 : List (S28)) (r6 : Bool) (w : World) (h : spec_Places.f k a0 = some (r1, r2, r3, r4, r5, r6)) :
    Calls Try.prog 12 #[.string a0] w fun e w' => ∃ v3_ v4_ : Value, e = .returned (.tuple #[.agg #[.int .i64 r1, .int .i64 r2, .int .i64 r3, v3_, v4_], .bool r6]) ∧ Kd.R k54 54 w' w.heap.size (fun _ => True) v3_ r4 ∧ Kd.R k28 28 w' w.heap.size (fun k_ => some k_ ≠ (v3_ : Value).ownBlock) v4_ r5 ∧ Below w.heap.size w w' := by
  have huA := Try.underlying28
  have huB := Try.underlying49
  unfold spec_Places.f at h
  obtain ⟨⟨s1, at1⟩, h1, h⟩ := Option.bind_eq_some_iff.mp h
  obtain ⟨⟨q1, q2, q3, q4, q5, q6, s2, at2⟩, h2, h⟩ := Option.bind_eq_some_iff.mp h
  dsimp only at h2 h
  have H1 := Aside0.mk h1
  have H2 := Aside0.mk h2
  have H := Aside0.mk h
  clear h1 h2 h
  go_enter Try.func12, Try.ntmps12
  go_wp2_with fail
  have I0 : IsS49 w ((w.alloc (.cells #[.int .i64 0, .int .i64 0, .int .i64 0, .slice none 0 0, .slice none 0 0] 28)).alloc (.cells #[.string a0, .int .i64 0] 49)) (w.heap.size + 1) a0 0 := by
    have h0 := IsS49.new w (w.alloc (.cells #[.int .i64 0, .int .i64 0, .int .i64 0, .slice none 0 0, .slice none 0 0] 28)) a0 0 (below_alloc (Below.refl _ _) _)
    simpa using h0
  have B0 : Below w.heap.size w ((w.alloc (.cells #[.int .i64 0, .int .i64 0, .int .i64 0, .slice none 0 0, .slice none 0 0] 28)).alloc (.cells #[.string a0, .int .i64 0] 49)) := below_alloc (below_alloc (Below.refl _ _) _) _
  have Z0 := blk_alloc (blk_new w (.cells #[.int .i64 0, .int .i64 0, .int .i64 0, .slice none 0 0, .slice none 0 0] 28)) (.cells #[.string a0, .int .i64 0] 49)
  have L0 := blk_lt I0.1
  refine (sr_blanks.calls k (w.heap.size + 1) a0 0 s1 at1 w _ I0 B0 H1.out).mono ?_
  rintro e w1 ⟨rfl, I1, B1, K1⟩
  have Z1 := K1.blk Z0 (by omega) (by simp)
  have L1 := blk_lt I1.1
  clear I0 Z0
  go_wp2_with fail
  refine (sr_value.calls k (w.heap.size + 1) s1 at1 q1 q2 q3 q4 q5 q6 s2 at2 w w1 I1 B1 H2.out).mono ?_
  rintro e w2 ⟨v3, v4, rfl, R3, R4, I2, B2, K2⟩
  have Z2 := K2.blk Z1 (by omega) (by simp)
  have L2 := blk_lt I2.1
  clear I1 Z1
  obtain ⟨A3, c3, rfl⟩ := Kd.R_slice R3
  obtain ⟨A4, c4, rfl⟩ := Kd.R_slice R4
  have z0 : w2.cell? ⟨w.heap.size, 0, none⟩ = some (.int .i64 0) := (blk_cell Z2 0).trans rfl
  have z1 : w2.cell? ⟨w.heap.size, 1, none⟩ = some (.int .i64 0) := (blk_cell Z2 1).trans rfl
  have z2 : w2.cell? ⟨w.heap.size, 2, none⟩ = some (.int .i64 0) := (blk_cell Z2 2).trans rfl
  have z3 : w2.cell? ⟨w.heap.size, 3, none⟩ = some (.slice none 0 0) := (blk_cell Z2 3).trans rfl
  have z4 : w2.cell? ⟨w.heap.size, 4, none⟩ = some (.slice none 0 0) := (blk_cell Z2 4).trans rfl
  have f0 := blk_frozen Z2 0
  have f1 := blk_frozen Z2 1
  have f2 := blk_frozen Z2 2
  have f3 := blk_frozen Z2 3
  have f4 := blk_frozen Z2 4
  have LZ := blk_lt Z2
  by_cases c : q6 = true
  · subst c
    have H' := Aside0.mk H.out
    clear H
    go_wp2_with fail
    have I2' := I2.alloc (.cells #[.int .i64 q1, .int .i64 q2, .int .i64 q3, .slice A3 q4.length c3, .slice A4 q5.length c4] 28)
    have B2' := below_alloc B2 (.cells #[.int .i64 q1, .int .i64 q2, .int .i64 q3, .slice A3 q4.length c3, .slice A4 q5.length c4] 28)
    have Z2' := blk_alloc Z2 (.cells #[.int .i64 q1, .int .i64 q2, .int .i64 q3, .slice A3 q4.length c3, .slice A4 q5.length c4] 28)
    have P2 := blk_new w2 (.cells #[.int .i64 q1, .int .i64 q2, .int .i64 q3, .slice A3 q4.length c3, .slice A4 q5.length c4] 28)
    have Q3 := (Kd.R_bound (Kd.R_alloc R3 (.cells #[.int .i64 q1, .int .i64 q2, .int .i64 q3, .slice A3 q4.length c3, .slice A4 q5.length c4] 28)))
    have Q4 := (Kd.R_bound (Kd.R_alloc R4 (.cells #[.int .i64 q1, .int .i64 q2, .int .i64 q3, .slice A3 q4.length c3, .slice A4 q5.length c4] 28)))
    clear z0 z1 z2 z3 z4 f0 f1 f2 f3 f4
    obtain ⟨⟨s3, at3⟩, h3, h⟩ := Option.bind_eq_some_iff.mp H'.out
    dsimp only at h3 h
    have H3 := Aside0.mk h3
    have H := Aside0.mk h
    clear h3 h H'
    refine (sr_blanks.calls k (w.heap.size + 1) s2 at2 s3 at3 w _ I2' B2' H3.out).mono ?_
    rintro e w3 ⟨rfl, I3, B3, K3⟩
    have Z3 := K3.blk Z2' (by omega) (by simp)
    have P3 := K3.blk P2 (by omega) (by simp)
    have L3 := blk_lt I3.1
    have LP := blk_lt P3
    have R3' := Kd.R_keep Q3 K3 (fun k hk => by have := hk.2.1; omega)
    have R4' := Kd.R_keep Q4 K3 (fun k hk => by have := hk.2.1; omega)
    clear Q3 Q4 I2' B2' Z2' Z2 K2 K3 P2
    have LZ3 := blk_lt Z3
    have g0 := cellS49_1 I3.1
    have z0 : w3.cell? ⟨w.heap.size, 0, none⟩ = some (.int .i64 0) := (blk_cell Z3 0).trans rfl
    have z1 : w3.cell? ⟨w.heap.size, 1, none⟩ = some (.int .i64 0) := (blk_cell Z3 1).trans rfl
    have z2 : w3.cell? ⟨w.heap.size, 2, none⟩ = some (.int .i64 0) := (blk_cell Z3 2).trans rfl
    have z3 : w3.cell? ⟨w.heap.size, 3, none⟩ = some (.slice none 0 0) := (blk_cell Z3 3).trans rfl
    have z4 : w3.cell? ⟨w.heap.size, 4, none⟩ = some (.slice none 0 0) := (blk_cell Z3 4).trans rfl
    have p0 : w3.cell? ⟨w2.heap.size, 0, none⟩ = some (.int .i64 q1) := (blk_cell P3 0).trans rfl
    have p1 : w3.cell? ⟨w2.heap.size, 1, none⟩ = some (.int .i64 q2) := (blk_cell P3 1).trans rfl
    have p2 : w3.cell? ⟨w2.heap.size, 2, none⟩ = some (.int .i64 q3) := (blk_cell P3 2).trans rfl
    have p3 : w3.cell? ⟨w2.heap.size, 3, none⟩ = some (.slice A3 q4.length c3) := (blk_cell P3 3).trans rfl
    have p4 : w3.cell? ⟨w2.heap.size, 4, none⟩ = some (.slice A4 q5.length c4) := (blk_cell P3 4).trans rfl
    have f0 := blk_frozen Z3 0
    have f1 := blk_frozen Z3 1
    have f2 := blk_frozen Z3 2
    have f3 := blk_frozen Z3 3
    have f4 := blk_frozen Z3 4
    by_cases c2 : at3 = (a0.size : Int)
    · have H' := H.out
      rw [if_pos c2] at H'
      simp only [Option.some.injEq, Prod.mk.injEq] at H'
      obtain ⟨rfl, rfl, rfl, rfl, rfl, rfl⟩ := H'
      clear H
      have cc : (at3 != (a0.size : Int)) = false := bne_eq_false_iff_eq.mpr c2
      have c2' := Aside0.mk c2
      clear c2
      go_wp2_with fail
      refine bodyPost_ret (results_ct rfl _ _ w.heap.size 28 #[.int .i64 q1, .int .i64 q2, .int .i64 q3, .slice A3 q4.length c3, .slice A4 q5.length c4] (0, 0) _ rfl
        (blk_put (blk_put (blk_put (blk_put (blk_put Z3 0 _ rfl) 1 _ rfl) 2 _ rfl) 3 _ rfl) 4 _ rfl) Try.underlying28 rfl (by kernel_rfl)) rfl ?_
      refine ⟨_, _, rfl, ?_, ?_, ((((B3.setCell (Nat.le_refl _) _).setCell (Nat.le_refl _) _).setCell (Nat.le_refl _) _).setCell (Nat.le_refl _) _).setCell (Nat.le_refl _) _⟩
      · exact Kd.R_mono (Kd.R_lower (base := w1.heap.size) (Kd.R_far (Kd.R_far (Kd.R_far (Kd.R_far (Kd.R_far R3' (fun k hk => by have := hk.2.1; show k ≠ w.heap.size; omega) _) (fun k hk => by have := hk.2.1; show k ≠ w.heap.size; omega) _) (fun k hk => by have := hk.2.1; show k ≠ w.heap.size; omega) _) (fun k hk => by have := hk.2.1; show k ≠ w.heap.size; omega) _) (fun k hk => by have := hk.2.1; show k ≠ w.heap.size; omega) _) (by omega)) (fun _ _ => trivial)
      · exact Kd.R_mono (Kd.R_lower (base := w1.heap.size) (Kd.R_far (Kd.R_far (Kd.R_far (Kd.R_far (Kd.R_far R4' (fun k hk => by have := hk.2.1; show k ≠ w.heap.size; omega) _) (fun k hk => by have := hk.2.1; show k ≠ w.heap.size; omega) _) (fun k hk => by have := hk.2.1; show k ≠ w.heap.size; omega) _) (fun k hk => by have := hk.2.1; show k ≠ w.heap.size; omega) _) (fun k hk => by have := hk.2.1; show k ≠ w.heap.size; omega) _) (by omega)) (fun _ hk => hk.1)
    · have H' := H.out
      rw [if_neg c2] at H'
      simp only [Option.some.injEq, Prod.mk.injEq] at H'
      obtain ⟨rfl, rfl, rfl, rfl, rfl, rfl⟩ := H'
      clear H
      have cc : (at3 != (a0.size : Int)) = true := bne_iff_ne.mpr c2
      go_wp2_with fail
      refine bodyPost_ret (results_ct rfl _ _ w.heap.size 28 #[.int .i64 0, .int .i64 0, .int .i64 0, .slice none 0 0, .slice none 0 0] (0, 0) _ rfl
        (blk_put (blk_put (blk_put (blk_put (blk_put Z3 0 _ rfl) 1 _ rfl) 2 _ rfl) 3 _ rfl) 4 _ rfl) Try.underlying28 rfl (by kernel_rfl)) rfl ?_
      exact ⟨_, _, rfl, Kd.R_nil _ _ _ _ _, Kd.R_nil _ _ _ _ _, ((((B3.setCell (Nat.le_refl _) _).setCell (Nat.le_refl _) _).setCell (Nat.le_refl _) _).setCell (Nat.le_refl _) _).setCell (Nat.le_refl _) _⟩
  · replace c := Bool.eq_false_iff.mpr c
    subst c
    have H' := H.out
    simp only [Bool.false_eq_true, if_false, Option.some.injEq, Prod.mk.injEq] at H'
    obtain ⟨rfl, rfl, rfl, rfl, rfl, rfl⟩ := H'
    clear H
    go_wp2_with fail
    refine bodyPost_ret (results_ct rfl _ _ w.heap.size 28 #[.int .i64 0, .int .i64 0, .int .i64 0, .slice none 0 0, .slice none 0 0] (0, 0) _ rfl
      (blk_alloc (blk_put (blk_put (blk_put (blk_put (blk_put Z2 0 _ rfl) 1 _ rfl) 2 _ rfl) 3 _ rfl) 4 _ rfl) _) Try.underlying28 rfl (by kernel_rfl)) rfl ?_
    exact ⟨_, _, rfl, Kd.R_nil _ _ _ _ _, Kd.R_nil _ _ _ _ _, below_alloc (((((B2.setCell (Nat.le_refl _) _).setCell (Nat.le_refl _) _).setCell (Nat.le_refl _) _).setCell (Nat.le_refl _) _).setCell (Nat.le_refl _) _) _⟩

end Go.Proofs.Ytnilbkfhfnofgaa.PFnPrWidthMember
