/- Plain lemmas for this claim: the reference's text, Quote, the guards, and the law itself. -/
import Derived.Test.YtnilbkfhfnofgaaPFnPrWidthMemberq1
import Derived.Test.YtnilbkfhfnofgaaPFnPrWidthMemberx5
import Derived.Test.YtnilbkfhfnofgaaPFnPrWidthMemberx6
import Derived.Test.YtnilbkfhfnofgaaPFnPrWidthMemberx7
import Derived.Test.YtnilbkfhfnofgaaPFnPrWidthMemberx9
import Derived.Test.YtnilbkfhfnofgaaPFnPrWidthMemberxhPrWidth
import Derived.Test.YtnilbkfhfnofgaaPFnPrWidthMemberx17
namespace Go.Proofs.Ytnilbkfhfnofgaa.PFnPrWidthMember
open Go.RowKit Go.Proofs.YtnilbkfhfnofgaaW.PrintWords Go.Proofs.YtnilbkfhfnofgaaW.PrintLast Go.Proofs.YtnilbkfhfnofgaaW.PrintMore
set_option linter.unusedVariables false
set_option linter.unusedSimpArgs false
/-! ### the reference's text -/
/-- a scalar's place -/
def Leaf (s : ByteArray) (p : S28) : Prop := p.f0 ≠ 5 ∧ p.f0 ≠ 6 ∧ 0 ≤ p.f1 ∧ p.f1 ≤ p.f2 ∧ p.f2 ≤ s.size ∧ p.f4 = []
theorem val_isleaf {s : ByteArray} {a b : Int} {p : S28} (h : Val s a b p) (hk : p.f0 < 5) : Leaf s p := by
  have := val_leaf h hk
  exact ⟨by omega, by omega, by omega, by omega, by omega, this.2.2.2.2.2.1⟩
theorem els_leaf {s : ByteArray} : ∀ {c b : Int} {ks : List S28}, Els s c b ks → (∀ p ∈ ks, p.f0 < 5) → ∀ p ∈ ks, Leaf s p
  | _, _, _, .last h hb h1 hc, hk, q, hq => by have e : q = _ := List.mem_singleton.mp hq; rw [e]; exact val_isleaf h (hk _ (by simp))
  | _, _, _, .more h hb h1 hc hf r, hk, q, hq => by
    rcases List.mem_cons.mp hq with e | hq
    · rw [e]; exact val_isleaf h (hk _ (by simp))
    · exact els_leaf r (fun p hp => hk p (by simp [hp])) q hq
theorem sub_ext {s : ByteArray} {p : S28} (h : Leaf s p) : ((s.extract p.f1.toNat p.f2.toNat).size : Int) = p.f2 - p.f1 := by
  have := sub_len s p.f1 p.f2 h.2.2.1 h.2.2.2.1 h.2.2.2.2.1
  unfold sub at this
  rwa [bytesOf_length] at this
theorem drop_cons {α : Type} {l : List α} {j : Nat} {x : α} {r : List α} (z : α) (h : l.drop j = x :: r) : l.getD j z = x ∧ j < l.length ∧ l.drop (j + 1) = r := by
  have hj : j < l.length := by
    rcases Nat.lt_or_ge j l.length with h1 | h1
    · exact h1
    · rw [List.drop_eq_nil_of_le h1] at h; cases h
  have e := List.drop_eq_getElem_cons hj
  rw [h] at e
  injection e with e1 e2
  exact ⟨by rw [List.getD_eq_getElem?_getD, List.getElem?_eq_getElem hj]; exact e1.symm, hj, e2.symm⟩
theorem rd_drop {ks : List S28} {j : Nat} {p : S28} {r : List S28} (h : ks.drop j = p :: r) : rd_T28 ks (j : Int) = p ∧ (j : Int) < ks.length ∧ ks.drop (j + 1) = r := by
  obtain ⟨h1, h2, h3⟩ := drop_cons z28 h
  exact ⟨by unfold rd_T28; simpa using h1, by omega, h3⟩
theorem line_leaf (s : ByteArray) (hs : s.size ≤ 100000) (pre : List Int) (hb : pre.length ≤ 80000000000000) {p : S28} (h : Leaf s p) : Ev (fun k => sLi.f k pre s p.f0 p.f1 p.f2 p.f3 p.f4) (pre ++ sub s p.f1 p.f2) := by
  have hx := sub_ext h
  refine Ev.step (f := fun _ => some _) (fun k => ?_) (Ev.now _)
  rw [sLi.f, if_neg h.1, if_pos h.2.2.1, if_pos h.2.2.2.1, if_pos h.2.2.2.2.1, if_pos (by have := h.2.2; omega)]
  rfl
theorem line_row (s : ByteArray) (hs : s.size ≤ 100000) (a b : Int) (ns : List S54) (ks : List S28) (hl : ks.length ≤ 100000) : ∀ (rest : List S28) (j : Nat) (pre : List Int), j ≤ ks.length → ks.drop j = rest → (∀ p ∈ rest, Leaf s p) → (pre.length : Int) + (ks.length - j) * 300000 ≤ 80000000000000 →
    Ev (fun k => sLi.l0 k pre s (ks.length : Int) (j : Int) 5 a b ns ks) (pre ++ rowL s sep j rest ++ [93])
  | [], j, pre, hj, hd, hk, hb => by
    have hj2 : ks.length ≤ j := List.drop_eq_nil_iff.mp hd
    refine Ev.step (f := fun _ => some _) (fun k => ?_) (Ev.now _)
    rw [sLi.l0, if_neg (by omega), if_pos (by omega)]
    simp [rowL]
  | p :: r, j, pre, hj, hd, hk, hb => by
    obtain ⟨e1, e2, e3⟩ := rd_drop hd
    have hp := hk p (by simp)
    have hx := sub_ext hp
    have hsp := sep_len (j : Int)
    have hbt : (bytesOf (s.extract p.f1.toNat p.f2.toNat)).length = (s.extract p.f1.toNat p.f2.toNat).size := bytesOf_length _
    have hsub : (sub s p.f1 p.f2).length = (s.extract p.f1.toNat p.f2.toNat).size := hbt
    have L := line_leaf s hs (pre ++ sep j) (by rw [List.length_append]; omega) hp
    have R := line_row s hs a b ns ks hl r (j + 1) (pre ++ sep j ++ sub s p.f1 p.f2) (by omega) e3 (fun q hq => hk q (by simp [hq])) (by have := hp.2.2; simp only [List.length_append]; push_cast; omega)
    have key : Ev (fun k => (sLi.f k (pre ++ sep j) s p.f0 p.f1 p.f2 p.f3 p.f4).bind fun x => sLi.l0 k x s (ks.length : Int) ((j + 1 : Nat) : Int) 5 a b ns ks) (pre ++ rowL s sep j (p :: r) ++ [93]) := by
      refine Ev.bind L ?_
      simpa [rowL] using R
    refine Ev.step (fun k => ?_) key
    rw [sLi.l0, if_pos e2, e1, w64 (x := (j : Int) + 1) (by omega) (by omega)]
    by_cases c : (j : Int) > 0
    · have ec : sep (j : Int) = [44, 32] := by unfold sep; rw [if_pos c]
      rw [if_pos c, ec]
      simp only [Option.bind_some]
      rw [if_pos (by simp; omega), if_pos (by omega), if_pos e2]
      rfl
    · have ec : sep (j : Int) = [] := by unfold sep; rw [if_neg c]
      rw [if_neg c, ec, List.append_nil, if_pos (by omega), if_pos e2]
      rfl
theorem line_arr (s : ByteArray) (hs : s.size ≤ 100000) (a b : Int) (ns : List S54) (ks : List S28) (hl : ks.length ≤ 100000) (hk : ∀ p ∈ ks, Leaf s p) : Ev (fun k => sLi.f k [] s 5 a b ns ks) (lineL s ks) := by
  have R := line_row s hs a b ns ks hl ks 0 [91] (by omega) rfl hk (by simp; omega)
  refine Ev.step (fun k => ?_) (by simpa [lineL] using R)
  rw [sLi.f, if_pos rfl, if_pos (by simp)]
  rfl
theorem obj_leaf {s : ByteArray} {p : S28} (h : Leaf s p) : Ev (fun k => sOb.f k p.f0 p.f1 p.f2 p.f3 p.f4) false := by
  refine Ev.step (f := fun k => sOb.l0 k false 0 0 p.f0 p.f1 p.f2 p.f3 p.f4) (fun k => ?_) (Ev.step (f := fun _ => some _) (fun k => ?_) (Ev.now _))
  · rw [sOb.f, h.2.2.2.2.2, beq_eq_false_iff_ne.mpr h.2.1]; rfl
  · rw [sOb.l0, if_neg (by omega)]
theorem obj_row (s : ByteArray) (a b : Int) (ns : List S54) (ks : List S28) (hl : ks.length ≤ 100000) : ∀ (rest : List S28) (j : Nat), ks.drop j = rest → (∀ p ∈ rest, Leaf s p) →
    Ev (fun k => sOb.l0 k false (ks.length : Int) (j : Int) 5 a b ns ks) false
  | [], j, hd, hk => by
    have hj2 : ks.length ≤ j := List.drop_eq_nil_iff.mp hd
    refine Ev.step (f := fun _ => some _) (fun k => ?_) (Ev.now _)
    rw [sOb.l0, if_neg (by omega)]
  | p :: r, j, hd, hk => by
    obtain ⟨e1, e2, e3⟩ := rd_drop hd
    have R := obj_row s a b ns ks hl r (j + 1) e3 (fun q hq => hk q (by simp [hq]))
    have key : Ev (fun k => (sOb.f k p.f0 p.f1 p.f2 p.f3 p.f4).bind fun x => sOb.l0 k x (ks.length : Int) ((j + 1 : Nat) : Int) 5 a b ns ks) false := Ev.bind (obj_leaf (hk p (by simp))) R
    refine Ev.step (fun k => ?_) key
    rw [sOb.l0, if_pos e2, if_neg (by simp), if_pos (by omega), if_pos e2, e1, w64 (x := (j : Int) + 1) (by omega) (by omega)]
    rfl
/-- The reference on one line. -/
theorem laid_wide (s : ByteArray) (hs : s.size ≤ 100000) (a b : Int) (ns : List S54) (ks : List S28) (hl : ks.length ≤ 100000) (hk : ∀ p ∈ ks, Leaf s p) (hne : ks ≠ []) (ahead I : ByteArray) : Ev (fun k => sLa.f k [] s 5 a b ns ks ahead I true) (lineL s ks) := by
  have hz : ¬ (ks.length : Int) = 0 := fun e => hne (List.eq_nil_of_length_eq_zero (by omega))
  have O : Ev (fun k => sOb.f k 5 a b ns ks) false := Ev.step (fun k => by rw [sOb.f]; rfl) (obj_row s a b ns ks hl ks 0 rfl hk)
  refine Ev.step (f := ?_) (fun k => ?_) ?_
  rotate_left 1
  · conv => (lhs; rw [sLa.f, if_neg hz, if_pos rfl])
  refine Ev.bind O ?_
  simp only [Bool.false_eq_true, if_false]
  exact Ev.bind (line_arr s hs a b ns ks hl hk) (Ev.now _)
theorem laid_leaf (s : ByteArray) (hs : s.size ≤ 100000) (pre : List Int) (hb : pre.length ≤ 80000000000000) {p : S28} (h : Leaf s p) (ahead I : ByteArray) : Ev (fun k => sLa.f k pre s p.f0 p.f1 p.f2 p.f3 p.f4 ahead I false) (pre ++ sub s p.f1 p.f2) := by
  have hx := sub_ext h
  have B : Ev (fun k => sBa.f k pre s p.f0 p.f1 p.f2 p.f3 p.f4) (pre ++ sub s p.f1 p.f2) := by
    refine Ev.step (f := fun k => sBa.j0 k pre s true p.f0 p.f1 p.f2 p.f3 p.f4) (fun k => ?_) (Ev.step (f := fun _ => some _) (fun k => ?_) (Ev.now _))
    · rw [sBa.f, if_neg h.1, bne_iff_ne.mpr h.2.1]
    · rw [sBa.j0, if_pos rfl, if_pos h.2.2.1, if_pos h.2.2.2.1, if_pos h.2.2.2.2.1, if_pos (by have := h.2.2; omega)]; rfl
  refine Ev.step (f := fun k => (sBa.f k pre s p.f0 p.f1 p.f2 p.f3 p.f4).bind fun x => some x) (fun k => ?_) (Ev.bind B (Ev.now _))
  rw [sLa.f, if_pos (by rw [h.2.2.2.2.2]; rfl)]
theorem laid_end (s : ByteArray) (pre : List Int) (hpre : pre.length ≤ 100000000000000) (kind a b : Int) (ns : List S54) (ks : List S28) (ahead I : ByteArray) (ha : ahead.size ≤ 10000000) (cl : Int) (j : Int) (hj : j = ks.length) :
    Ev (fun k => sLa.l0 k pre s ahead I false cl (ks.length : Int) j kind a b ns ks) (pre ++ [10] ++ bytesOf ahead ++ [cl]) := by
  have hl := bytesOf_length ahead
  refine Ev.step (f := fun _ => some _) (fun k => ?_) (Ev.now _)
  rw [sLa.l0, if_neg (by omega), if_pos (by omega)]
  simp only [Option.bind_some]
  rw [if_pos (by simp only [List.length_append, List.length_cons, List.length_nil]; omega), if_pos (by simp only [List.length_append, List.length_cons, List.length_nil]; omega)]
theorem laid_elem (s : ByteArray) (hs : s.size ≤ 100000) (pre : List Int) (hpre : pre.length ≤ 70000000000000) (a b : Int) (ns : List S54) (ks : List S28) (ahead I : ByteArray) (ha : ahead.size ≤ 10000000) (hI : I.size ≤ 1000) (j : Int) (hj0 : 0 ≤ j) (hj : j < ks.length) (hj2 : j ≤ 2147483647)
    {p : S28} (hp : rd_T28 ks j = p) (hlf : Leaf s p) {r : List Int}
    (hr : Ev (fun k => sLa.l0 k (pre ++ comma j ++ [10] ++ bytesOf ahead ++ bytesOf I ++ sub s p.f1 p.f2) s ahead I false 93 (ks.length : Int) (j + 1) 5 a b ns ks) r) :
    Ev (fun k => sLa.l0 k pre s ahead I false 93 (ks.length : Int) j 5 a b ns ks) r := by
  have hl := bytesOf_length ahead
  have hlI := bytesOf_length I
  have hcl := comma_len j
  have hv := laid_leaf s hs (pre ++ comma j ++ [10] ++ bytesOf ahead ++ bytesOf I) (by simp only [List.length_append, List.length_cons, List.length_nil]; omega) hlf (ahead ++ I) I
  refine Ev.step (f := fun k => (sLa.f k (pre ++ comma j ++ [10] ++ bytesOf ahead ++ bytesOf I) s p.f0 p.f1 p.f2 p.f3 p.f4 (ahead ++ I) I false).bind fun x => sLa.l0 k x s ahead I false 93 (ks.length : Int) (j + 1) 5 a b ns ks) (fun k => ?_) (Ev.bind hv hr)
  rw [sLa.l0, if_pos hj, hp, w64 (x := j + 1) (by omega) (by omega)]
  by_cases hjj : j > 0
  · have ec : comma j = [44] := by unfold comma; rw [if_pos hjj]
    rw [if_pos hjj, if_pos (by omega), ec]
    simp only [Option.bind_some]
    rw [if_pos (by simp; omega), if_pos (by simp only [List.length_append, List.length_cons, List.length_nil]; omega), if_pos (by simp only [List.length_append, List.length_cons, List.length_nil]; omega), if_neg (by omega), if_pos hj0, if_pos hj, if_pos (by omega)]
  · have ec : comma j = [] := by unfold comma; rw [if_neg hjj]
    rw [if_neg hjj, if_pos (by omega), ec, List.append_nil]
    simp only [Option.bind_some]
    rw [if_pos (by simp only [List.length_append, List.length_cons, List.length_nil]; omega), if_pos (by simp only [List.length_append, List.length_cons, List.length_nil]; omega), if_neg (by omega), if_pos hj0, if_pos hj, if_pos (by omega)]
/-- what the reference puts ahead of an element -/
def leadR (ahead I : ByteArray) (j : Int) : List Int := comma j ++ [10] ++ bytesOf ahead ++ bytesOf I
theorem laid_row (s : ByteArray) (hs : s.size ≤ 100000) (a b : Int) (ns : List S54) (ks : List S28) (hl : ks.length ≤ 100000) (ahead I : ByteArray) (ha : ahead.size ≤ 100000) (hI : I.size ≤ 1000) : ∀ (rest : List S28) (j : Nat) (pre : List Int), j ≤ ks.length → ks.drop j = rest → (∀ p ∈ rest, Leaf s p) → (pre.length : Int) + (ks.length - j) * 300000 ≤ 70000000000000 →
    Ev (fun k => sLa.l0 k pre s ahead I false 93 (ks.length : Int) (j : Int) 5 a b ns ks) (pre ++ rowL s (leadR ahead I) j rest ++ [10] ++ bytesOf ahead ++ [93])
  | [], j, pre, hj, hd, hk, hb => by
    have hj2 : ks.length ≤ j := List.drop_eq_nil_iff.mp hd
    simpa [rowL] using laid_end s pre (by omega) 5 a b ns ks ahead I (by omega) 93 j (by omega)
  | p :: r, j, pre, hj, hd, hk, hb => by
    obtain ⟨e1, e2, e3⟩ := rd_drop hd
    have hp := hk p (by simp)
    have hx := sub_ext hp
    have hlA := bytesOf_length ahead
    have hlI := bytesOf_length I
    have hcl := comma_len (j : Int)
    have hsl := sub_len s p.f1 p.f2 hp.2.2.1 hp.2.2.2.1 hp.2.2.2.2.1
    have R := laid_row s hs a b ns ks hl ahead I ha hI r (j + 1) (pre ++ comma j ++ [10] ++ bytesOf ahead ++ bytesOf I ++ sub s p.f1 p.f2) (by omega) e3 (fun q hq => hk q (by simp [hq])) (by have := hp.2.2; simp only [List.length_append, List.length_cons, List.length_nil]; push_cast; omega)
    have key := laid_elem s hs pre (by omega) a b ns ks ahead I (by omega) hI (j : Int) (by omega) e2 (by omega) e1 hp R
    simpa [rowL, leadR] using key
theorem laid_lines (s : ByteArray) (hs : s.size ≤ 100000) (a b : Int) (ns : List S54) (ks : List S28) (hl : ks.length ≤ 100000) (hk : ∀ p ∈ ks, Leaf s p) (hne : ks ≠ []) (ahead I : ByteArray) (ha : ahead.size ≤ 100000) (hI : I.size ≤ 1000) (pre : List Int) (hb : pre.length ≤ 30000000000000) :
    Ev (fun k => sLa.f k pre s 5 a b ns ks ahead I false) (pre ++ ([91] ++ rowL s (leadR ahead I) 0 ks ++ [10] ++ bytesOf ahead ++ [93])) := by
  have hz : ¬ (ks.length : Int) = 0 := fun e => hne (List.eq_nil_of_length_eq_zero (by omega))
  have R := laid_row s hs a b ns ks hl ahead I ha hI ks 0 (pre ++ [91]) (by omega) rfl hk (by simp; omega)
  refine Ev.step (f := fun k => sLa.j0 k pre s ahead I false 91 93 5 a b ns ks) (fun k => ?_) (Ev.step (fun k => ?_) (by simpa using R))
  · rw [sLa.f, if_neg hz, if_neg (by simp), if_neg (by omega)]
  · rw [sLa.j0, if_pos (by omega)]
/-- The reference on an object of one member. -/
theorem laid_one (s : ByteArray) (hs : s.size ≤ 100000) (a b : Int) {c d : Int} {p : S28} (h0 : 0 ≤ c) (h1 : c ≤ d) (h2 : d ≤ s.size) (ahead I : ByteArray) (ha : ahead.size ≤ 100000) (hI : I.size ≤ 1000) {o : List Int} (ho : o.length ≤ 60000000000000)
    (hv : Ev (fun k => sLa.f k ([123, 10] ++ bytesOf ahead ++ bytesOf I ++ sub s c d ++ [58, 32]) s p.f0 p.f1 p.f2 p.f3 p.f4 (ahead ++ I) I false) ([123, 10] ++ bytesOf ahead ++ bytesOf I ++ sub s c d ++ [58, 32] ++ o)) :
    Ev (fun k => sLa.f k [] s 6 a b [⟨c, d⟩] [p] ahead I false) ([123, 10] ++ bytesOf ahead ++ bytesOf I ++ sub s c d ++ [58, 32] ++ o ++ [10] ++ bytesOf ahead ++ [125]) := by
  have hl := bytesOf_length ahead
  have hlI := bytesOf_length I
  have hsl := sub_len s c d h0 h1 h2
  have hsl2 : ((s.extract c.toNat d.toNat).size : Int) = d - c := by
    unfold sub at hsl
    rwa [bytesOf_length] at hsl
  have hn : rd_T54 [⟨c, d⟩] 0 = ⟨c, d⟩ := rfl
  have hp : rd_T28 [p] 0 = p := rfl
  have E := laid_end s ([123, 10] ++ bytesOf ahead ++ bytesOf I ++ sub s c d ++ [58, 32] ++ o) (by simp only [List.length_append, List.length_cons, List.length_nil]; omega) 6 a b [⟨c, d⟩] [p] ahead I (by omega) 125 1 rfl
  refine Ev.step (f := fun k => sLa.j0 k [] s ahead I false 123 125 6 a b [⟨c, d⟩] [p]) (fun k => ?_) (Ev.step (f := fun k => sLa.l0 k [123] s ahead I false 125 1 0 6 a b [⟨c, d⟩] [p]) (fun k => ?_) ?_)
  · rw [sLa.f, if_neg (by simp), if_neg (by simp), if_pos rfl]
  · rw [sLa.j0, if_pos (by simp)]
    rfl
  · refine Ev.step (f := fun k => (sLa.f k ([123, 10] ++ bytesOf ahead ++ bytesOf I ++ sub s c d ++ [58, 32]) s p.f0 p.f1 p.f2 p.f3 p.f4 (ahead ++ I) I false).bind fun x => sLa.l0 k x s ahead I false 125 1 1 6 a b [⟨c, d⟩] [p]) (fun k => ?_) (Ev.bind hv E)
    rw [sLa.l0, if_pos (by omega), if_neg (by omega), if_pos (by simp), hn, hp, w64 (x := (0 : Int) + 1) (by omega) (by omega)]
    simp only [Option.bind_some]
    rw [if_pos (by simp only [List.length_append, List.length_cons, List.length_nil]; omega), if_pos (by simp only [List.length_append, List.length_cons, List.length_nil]; omega), if_pos trivial, if_pos (by omega), if_pos (by simp), if_pos h0, if_pos h1, if_pos h2, if_pos (by simp only [List.length_append, List.length_cons, List.length_nil]; omega),
      if_pos (by simp only [List.length_append, List.length_cons, List.length_nil, bytesOf_length]; omega), if_pos (by simp), if_pos (by omega)]
    rfl

/-! ### Quote -/
/-- the inside of a string and its closing mark, as numbers -/
inductive InsL : List Int → Prop
  | close : InsL [34]
  | plain {c : Int} {r : List Int} (h1 : c ≠ 34) (h2 : 32 ≤ c) (h3 : c ≠ 92) (h4 : c ≤ 255) (h : InsL r) : InsL (c :: r)
  | short {c : Int} {r : List Int} (h1 : IsShort c) (h : InsL r) : InsL (92 :: c :: r)
  | uni {a b c d : Int} {r : List Int} (h1 : IsHex a) (h2 : IsHex b) (h3 : IsHex c) (h4 : IsHex d) (h : InsL r) : InsL (92 :: 117 :: a :: b :: c :: d :: r)
theorem bytes_nums {xs : List Int} (h : ∀ x ∈ xs, 0 ≤ x ∧ x ≤ 255) : bytesOf (strOfNums xs) = xs := by
  unfold bytesOf strOfNums
  simp only [List.map_map]
  conv => rhs; rw [← List.map_id xs]
  apply List.map_congr_left
  intro x hx
  have := h x hx
  simp only [Function.comp, id]
  rw [UInt8.toNat_ofNat']
  omega
theorem str_size (xs : List Int) : (strOfNums xs).size = xs.length := by
  simp [strOfNums, ByteArray.size]
theorem insl_range {xs : List Int} (h : InsL xs) : ∀ x ∈ xs, 0 ≤ x ∧ x ≤ 255 := by
  induction h with
  | close => intro x hx; simp at hx; omega
  | plain h1 h2 h3 h4 h ih => intro x hx; rcases List.mem_cons.mp hx with e | e; · omega
                              · exact ih x e
  | short h1 h ih =>
    intro x hx
    unfold IsShort at h1
    simp only [List.mem_cons] at hx
    rcases hx with e | e | e
    · omega
    · omega
    · exact ih x e
  | uni h1 h2 h3 h4 h ih =>
    intro x hx
    unfold IsHex at h1 h2 h3 h4
    simp only [List.mem_cons] at hx
    rcases hx with e | e | e | e | e | e | e
    · omega
    · omega
    · omega
    · omega
    · omega
    · omega
    · exact ih x e
theorem bt_at {s : ByteArray} {pre : List Int} {c : Int} {r : List Int} (h : bytesOf s = pre ++ c :: r) : bt s pre.length = c := by
  rw [← rd_bytesOf, h]
  unfold Go.Proofs.YtnilbkfhfnofgaaW.PrintWords.rd
  simp
theorem ins_of {s : ByteArray} {xs : List Int} (hx : InsL xs) : ∀ pre : List Int, bytesOf s = pre ++ xs → Ins s pre.length s.size := by
  have hl := bytesOf_length s
  induction hx with
  | close =>
    intro pre h
    have hc := bt_at h
    have : s.size = pre.length + 1 := by rw [← hl, h]; simp
    rw [show ((s.size : Nat) : Int) = (pre.length : Int) + 1 by omega]
    exact .close (by omega) (by omega) hc
  | @plain c r h1 h2 h3 h4 h ih =>
    intro pre e
    have hc := bt_at e
    have hs : s.size = pre.length + (r.length + 1) := by rw [← hl, e]; simp
    have I := ih (pre ++ [c]) (by rw [e]; simp)
    rw [show ((pre ++ [c]).length : Int) = (pre.length : Int) + 1 by simp] at I
    exact .plain (by omega) (by omega) (by omega) (by omega) (by omega) I
  | @short c r h1 h ih =>
    intro pre e
    have hc := bt_at e
    have e2 : bytesOf s = (pre ++ [92]) ++ c :: r := by rw [e]; simp
    have hd := bt_at e2
    have hs : s.size = pre.length + (r.length + 2) := by rw [← hl, e]; simp
    have I := ih (pre ++ [92, c]) (by rw [e]; simp)
    rw [show ((pre ++ [92, c]).length : Int) = (pre.length : Int) + 2 by simp] at I
    have hl92 : ((pre ++ [92]).length : Int) = (pre.length : Int) + 1 := by simp
    rw [hl92] at hd
    exact .short (by omega) (by omega) hc (by rw [hd]; exact h1) I
  | @uni x0 x1 x2 x3 r h1 h2 h3 h4 h ih =>
    intro pre e
    have hc := bt_at e
    have k1 := bt_at (s := s) (pre := pre ++ [92]) (c := 117) (r := x0 :: x1 :: x2 :: x3 :: r) (by rw [e]; simp)
    have k2 := bt_at (s := s) (pre := pre ++ [92, 117]) (c := x0) (r := x1 :: x2 :: x3 :: r) (by rw [e]; simp)
    have k3 := bt_at (s := s) (pre := pre ++ [92, 117, x0]) (c := x1) (r := x2 :: x3 :: r) (by rw [e]; simp)
    have k4 := bt_at (s := s) (pre := pre ++ [92, 117, x0, x1]) (c := x2) (r := x3 :: r) (by rw [e]; simp)
    have k5 := bt_at (s := s) (pre := pre ++ [92, 117, x0, x1, x2]) (c := x3) (r := r) (by rw [e]; simp)
    simp only [List.length_append, List.length_cons, List.length_nil] at k1 k2 k3 k4 k5
    have hs : s.size = pre.length + (r.length + 6) := by rw [← hl, e]; simp
    have I := ih (pre ++ [92, 117, x0, x1, x2, x3]) (by rw [e]; simp)
    rw [show ((pre ++ [92, 117, x0, x1, x2, x3]).length : Int) = (pre.length : Int) + 6 by simp] at I
    refine .uni (by omega) (by omega) hc (by push_cast at k1; simpa using k1) (fun j g1 g2 => ?_) I
    push_cast at k2 k3 k4 k5
    rcases (by omega : j = 2 ∨ j = 3 ∨ j = 4 ∨ j = 5) with rfl | rfl | rfl | rfl
    · rw [show (pre.length : Int) + 2 = pre.length + 1 + 1 by omega, k2]; exact h1
    · rw [show (pre.length : Int) + 3 = pre.length + 1 + 1 + 1 by omega, k3]; exact h2
    · rw [show (pre.length : Int) + 4 = pre.length + 1 + 1 + 1 + 1 by omega, k4]; exact h3
    · rw [show (pre.length : Int) + 5 = pre.length + 1 + 1 + 1 + 1 + 1 by omega, k5]; exact h4
theorem digit_ok (d : Int) (h0 : 0 ≤ d) (h1 : d < 16) : ∃ x, spec_digitOf.f d false = some x ∧ IsHex x := by
  unfold spec_digitOf.f IsHex
  by_cases c : d < 10
  · rw [if_pos c, w64 (by omega) (by omega)]
    exact ⟨_, rfl, by omega⟩
  · rw [if_neg c, if_neg (by simp), w64 (x := 97 + d) (by omega) (by omega), w64 (by omega) (by omega)]
    exact ⟨_, rfl, by omega⟩
theorem quote_l0 (s : ByteArray) (hs : s.size ≤ 1024) (d : Nat) : ∀ (acc : List Int) (i : Int), 0 ≤ i → i + d = s.size → (acc.length : Int) + 6 * d ≤ 1000000 →
    ∃ rest, Ev (fun k => sQu.l0 k s acc i) (strOfNums (acc ++ rest)) ∧ InsL rest ∧ rest.length ≤ 6 * d + 1 := by
  induction d with
  | zero =>
    intro acc i h0 h1 hb
    refine ⟨[34], Ev.step (f := fun _ => some _) (fun k => ?_) (Ev.now _), .close, by simp⟩
    rw [sQu.l0, if_neg (by omega), if_pos (by omega)]
  | succ d ih =>
    intro acc i h0 h1 hb
    have hr := bt_range s i
    have e1 : wrap64 (i + 1) = i + 1 := w64 (by omega) (by omega)
    -- a short escape
    have sh : ∀ c : Int, IsShort c → spec_shortOf.f (bt s i) = some (c, true) → bt s i ≠ 47 → ∃ rest, Ev (fun k => sQu.l0 k s acc i) (strOfNums (acc ++ rest)) ∧ InsL rest ∧ rest.length ≤ 6 * (d + 1) + 1 := by
      intro c hc hf h47
      obtain ⟨rest, E, I, L⟩ := ih (acc ++ [92, c]) (i + 1) (by omega) (by omega) (by simp; omega)
      refine ⟨92 :: c :: rest, Ev.step (f := fun k => sQu.j1 k s acc i (bt s i) c true) (fun k => ?_) (Ev.step (fun k => ?_) (by simpa using E)), .short hc I, by simp; omega⟩
      · rw [sQu.l0, if_pos (by omega), if_pos h0, hf]
        simp only [Option.bind_some, if_true]
        rw [bne_iff_ne.mpr h47]
      · rw [sQu.j1, if_pos rfl]
        simp only [Option.bind_some]
        rw [if_pos (by simp; omega), e1]
    -- as it is
    have pl : ∀ x b, spec_shortOf.f (bt s i) = some (x, b) → (b = true → bt s i = 47) → 32 ≤ bt s i → bt s i ≠ 34 → bt s i ≠ 92 → ∃ rest, Ev (fun k => sQu.l0 k s acc i) (strOfNums (acc ++ rest)) ∧ InsL rest ∧ rest.length ≤ 6 * (d + 1) + 1 := by
      intro x b hf hb2 h32 h34 h92
      obtain ⟨rest, E, I, L⟩ := ih (acc ++ [bt s i]) (i + 1) (by omega) (by omega) (by simp; omega)
      refine ⟨bt s i :: rest, Ev.step (f := fun k => sQu.j1 k s acc i (bt s i) x false) (fun k => ?_) (Ev.step (fun k => ?_) (by simpa using E)), .plain h34 h32 h92 hr.2 I, by simp; omega⟩
      · rw [sQu.l0, if_pos (by omega), if_pos h0, hf]
        simp only [Option.bind_some]
        cases b with
        | false => simp
        | true => rw [if_pos rfl, hb2 rfl]; rfl
      · rw [sQu.j1, if_neg (by simp), if_neg (by omega), if_pos (by omega), e1]
    unfold spec_shortOf.f at sh pl
    by_cases c1 : bt s i = 8
    · exact sh 98 (by unfold IsShort; omega) (by rw [if_pos c1]) (by omega)
    by_cases c2 : bt s i = 12
    · exact sh 102 (by unfold IsShort; omega) (by rw [if_neg c1, if_pos c2]) (by omega)
    by_cases c3 : bt s i = 10
    · exact sh 110 (by unfold IsShort; omega) (by rw [if_neg c1, if_neg c2, if_pos c3]) (by omega)
    by_cases c4 : bt s i = 13
    · exact sh 114 (by unfold IsShort; omega) (by rw [if_neg c1, if_neg c2, if_neg c3, if_pos c4]) (by omega)
    by_cases c5 : bt s i = 9
    · exact sh 116 (by unfold IsShort; omega) (by rw [if_neg c1, if_neg c2, if_neg c3, if_neg c4, if_pos c5]) (by omega)
    by_cases c6 : bt s i = 34
    · exact sh (bt s i) (by unfold IsShort; omega) (by rw [if_neg c1, if_neg c2, if_neg c3, if_neg c4, if_neg c5, if_pos c6]) (by omega)
    by_cases c7 : bt s i = 92
    · exact sh (bt s i) (by unfold IsShort; omega) (by rw [if_neg c1, if_neg c2, if_neg c3, if_neg c4, if_neg c5, if_neg c6, if_pos c7]) (by omega)
    by_cases c8 : bt s i = 47
    · exact pl (bt s i) true (by rw [if_neg c1, if_neg c2, if_neg c3, if_neg c4, if_neg c5, if_neg c6, if_neg c7, if_pos c8]) (fun _ => c8) (by omega) c6 c7
    by_cases c9 : 32 ≤ bt s i
    · exact pl 0 false (by rw [if_neg c1, if_neg c2, if_neg c3, if_neg c4, if_neg c5, if_neg c6, if_neg c7, if_neg c8]) (fun e => by cases e) c9 c6 c7
    · have et : Int.tmod (bt s i) 16 = bt s i % 16 := Int.tmod_eq_emod_of_nonneg hr.1
      have ed : Int.tdiv (bt s i) 16 = bt s i / 16 := Int.tdiv_eq_ediv_of_nonneg hr.1
      obtain ⟨x, hx, hh⟩ := digit_ok (bt s i % 16) (by omega) (by omega)
      obtain ⟨rest, E, I, L⟩ := ih (acc ++ [92, 117, 48, 48, (48 + ((bt s i / 16) % 256)) % 256, x]) (i + 1) (by omega) (by omega) (by simp; omega)
      refine ⟨92 :: 117 :: 48 :: 48 :: ((48 + ((bt s i / 16) % 256)) % 256) :: x :: rest, Ev.step (f := fun k => sQu.j1 k s acc i (bt s i) 0 false) (fun k => ?_) (Ev.step (fun k => ?_) (by simpa using E)), .uni (by unfold IsHex; omega) (by unfold IsHex; omega) (by unfold IsHex; omega) hh I, by simp; omega⟩
      · rw [sQu.l0, if_pos (by omega), if_pos h0, spec_shortOf.f, if_neg c1, if_neg c2, if_neg c3, if_neg c4, if_neg c5, if_neg c6, if_neg c7, if_neg c8]
        simp
      · rw [sQu.j1, if_neg (by simp), if_pos (by omega), et, ed, w64 (by omega) (by omega), hx]
        simp only [Option.bind_some]
        rw [if_pos (by simp; omega), e1]
        simp
/-- Quote gives a string of a JSON text. -/
theorem quote_ev (s : ByteArray) (hs : s.size ≤ 1024) : ∃ q, Ev (fun k => sQu.f k s) q ∧ Str q 0 q.size ∧ q.size ≤ 6147 := by
  obtain ⟨rest, E, I, L⟩ := quote_l0 s hs s.size [34] 0 (by omega) (by omega) (by simp; omega)
  have hb : bytesOf (strOfNums ([34] ++ rest)) = [34] ++ rest := bytes_nums (fun x hx => by
    rcases List.mem_cons.mp hx with e | e
    · omega
    · exact insl_range I x e)
  have hz := str_size ([34] ++ rest)
  simp only [List.length_append, List.length_cons, List.length_nil] at hz
  refine ⟨_, Ev.congr (fun k => by rw [sQu.f]) E, ⟨by omega, by omega, ?_, ?_⟩, by omega⟩
  · have := bt_at (s := strOfNums ([34] ++ rest)) (pre := []) (c := 34) (r := rest) hb
    simpa using this
  · have := ins_of (s := strOfNums ([34] ++ rest)) I [34] hb
    simpa using this
/-! ### UTF8: it answers -/
theorem char_l0 (s : ByteArray) (hs : s.size ≤ 100000) (a m l : Int) (h0 : 0 ≤ a) (hm : 1 ≤ m) (hm3 : m ≤ 3) (hin : a + m < s.size) (d : Nat) : ∀ (c j : Int), 1 ≤ j → j + d = m + 1 →
    ∃ c' n ok, Ev (fun k => sCh.l0 k s a c m l j) (c', n, ok) ∧ (1 ≤ n ∧ n ≤ 4) := by
  induction d with
  | zero =>
    intro c j h1 h2
    have ew : wrap64 (m + 1) = m + 1 := w64 (by omega) (by omega)
    have fin : ∃ r : Int × Int × Bool, (if c < l then (some ((65533 : Int), (1 : Int), false)) else (if c > 1114111 then (some (65533, 1, false)) else ((spec_high.f c).bind fun t284 => (if t284 = true then (some (65533, 1, false)) else ((spec_low.f c).bind fun t285 => (if t285 = true then (some (65533, 1, false)) else (some (c, m + 1, true)))))))) = some r ∧ (1 ≤ r.2.1 ∧ r.2.1 ≤ 4) := by
      have hh : ∃ b, spec_high.f c = some b := by unfold spec_high.f; split <;> exact ⟨_, rfl⟩
      have hl : ∃ b, spec_low.f c = some b := by unfold spec_low.f; split <;> exact ⟨_, rfl⟩
      obtain ⟨b1, hh⟩ := hh
      obtain ⟨b2, hl⟩ := hl
      rw [hh, hl]
      simp only [Option.bind_some]
      split
      · exact ⟨_, rfl, by simp⟩
      split
      · exact ⟨_, rfl, by simp⟩
      split
      · exact ⟨_, rfl, by simp⟩
      split
      · exact ⟨_, rfl, by simp⟩
      · exact ⟨_, rfl, by simp; omega⟩
    obtain ⟨r, hr, hn⟩ := fin
    refine ⟨r.1, r.2.1, r.2.2, Ev.step (f := fun _ => some r) (fun k => ?_) (Ev.now _), hn⟩
    rw [sCh.l0, if_neg (by omega), ew, hr]
  | succ d ih =>
    intro c j h1 h2
    have ej : wrap64 (a + j) = a + j := w64 (by omega) (by omega)
    have e1 : wrap64 (j + 1) = j + 1 := w64 (by omega) (by omega)
    by_cases c1 : wrap64 (bt s (a + j)) < 128
    · refine ⟨65533, 1, false, Ev.step (f := fun _ => some _) (fun k => ?_) (Ev.now _), by omega⟩
      rw [sCh.l0, if_pos (by omega), ej, if_pos (by omega), if_pos (by omega), if_pos c1]
    by_cases c2 : wrap64 (bt s (a + j)) > 191
    · refine ⟨65533, 1, false, Ev.step (f := fun _ => some _) (fun k => ?_) (Ev.now _), by omega⟩
      rw [sCh.l0, if_pos (by omega), ej, if_pos (by omega), if_pos (by omega), if_neg c1, if_pos c2]
    obtain ⟨c', n, ok, E, hn⟩ := ih (wrap64 ((wrap64 ((wrap64 (c * 64)) + (wrap64 (bt s (a + j))))) - 128)) (j + 1) (by omega) (by omega)
    refine ⟨c', n, ok, Ev.step (fun k => ?_) E, hn⟩
    rw [sCh.l0, if_pos (by omega), ej, if_pos (by omega), if_pos (by omega), if_neg c1, if_neg c2, e1]
theorem char_ev (s : ByteArray) (hs : s.size ≤ 100000) (a : Int) (h0 : 0 ≤ a) (h1 : a < s.size) : ∃ c n ok, Ev (fun k => sCh.f k s a) (c, n, ok) ∧ (1 ≤ n ∧ n ≤ 4) := by
  have J2 : ∀ c m l : Int, 1 ≤ m → m ≤ 3 → ∃ c' n ok, Ev (fun k => sCh.j2 k s a c m l) (c', n, ok) ∧ (1 ≤ n ∧ n ≤ 4) := by
    intro c m l hm hm3
    have ew : wrap64 ((s.size : Int) - a) = s.size - a := w64 (by omega) (by omega)
    by_cases g : (s.size : Int) - a ≤ m
    · refine ⟨65533, 1, false, Ev.step (f := fun _ => some _) (fun k => ?_) (Ev.now _), by omega⟩
      rw [sCh.j2, ew, if_pos g]
    · obtain ⟨c', n, ok, E, hn⟩ := char_l0 s hs a m l h0 hm hm3 (by omega) m.toNat c 1 (by omega) (by omega)
      refine ⟨c', n, ok, Ev.step (fun k => ?_) E, hn⟩
      rw [sCh.j2, ew, if_neg g]
  have J1 : ∀ (c : Int) (b : Bool), ∃ c' n ok, Ev (fun k => sCh.j1 k s a c b) (c', n, ok) ∧ (1 ≤ n ∧ n ≤ 4) := by
    intro c b
    cases b with
    | true =>
      obtain ⟨c', n, ok, E, hn⟩ := J2 (wrap64 (c - 224)) 2 2048 (by omega) (by omega)
      exact ⟨c', n, ok, Ev.step (fun k => by rw [sCh.j1, if_pos rfl]) E, hn⟩
    | false =>
      by_cases g : 240 ≤ c
      · by_cases g2 : c ≤ 244
        · obtain ⟨c', n, ok, E, hn⟩ := J2 (wrap64 (c - 240)) 3 65536 (by omega) (by omega)
          exact ⟨c', n, ok, Ev.step (fun k => by rw [sCh.j1, if_neg (by simp), if_pos g, if_pos g2]) E, hn⟩
        · exact ⟨65533, 1, false, Ev.step (f := fun _ => some _) (fun k => by rw [sCh.j1, if_neg (by simp), if_pos g, if_neg g2]) (Ev.now _), by omega⟩
      · exact ⟨65533, 1, false, Ev.step (f := fun _ => some _) (fun k => by rw [sCh.j1, if_neg (by simp), if_neg g]) (Ev.now _), by omega⟩
  have J0 : ∀ (c : Int) (b : Bool), ∃ c' n ok, Ev (fun k => sCh.j0 k s a c b) (c', n, ok) ∧ (1 ≤ n ∧ n ≤ 4) := by
    intro c b
    cases b with
    | true =>
      obtain ⟨c', n, ok, E, hn⟩ := J2 (wrap64 (c - 192)) 1 128 (by omega) (by omega)
      exact ⟨c', n, ok, Ev.step (fun k => by rw [sCh.j0, if_pos rfl]) E, hn⟩
    | false =>
      by_cases g : 224 ≤ c
      · obtain ⟨c', n, ok, E, hn⟩ := J1 c (decide (c ≤ 239))
        exact ⟨c', n, ok, Ev.step (fun k => by rw [sCh.j0, if_neg (by simp), if_pos g]) E, hn⟩
      · obtain ⟨c', n, ok, E, hn⟩ := J1 c false
        exact ⟨c', n, ok, Ev.step (fun k => by rw [sCh.j0, if_neg (by simp), if_neg g]) E, hn⟩
  by_cases g : wrap64 (bt s a) < 128
  · exact ⟨_, 1, true, Ev.congr (f := fun _ => some _) (fun k => by rw [sCh.f, if_pos h0, if_pos h1, if_pos g]) (Ev.now _), by omega⟩
  by_cases g2 : 194 ≤ wrap64 (bt s a)
  · obtain ⟨c', n, ok, E, hn⟩ := J0 (wrap64 (bt s a)) (decide ((wrap64 (bt s a)) ≤ 223))
    exact ⟨c', n, ok, Ev.congr (fun k => by rw [sCh.f, if_pos h0, if_pos h1, if_neg g, if_pos g2]) E, hn⟩
  · obtain ⟨c', n, ok, E, hn⟩ := J0 (wrap64 (bt s a)) false
    exact ⟨c', n, ok, Ev.congr (fun k => by rw [sCh.f, if_pos h0, if_pos h1, if_neg g, if_neg g2]) E, hn⟩
theorem utf8_l0 (s : ByteArray) (hs : s.size ≤ 100000) (d : Nat) : ∀ a : Int, 0 ≤ a → a ≤ s.size + 4 → (s.size : Int) + 4 - a ≤ d → ∃ b, Ev (fun k => sUt.l0 k s a) b := by
  induction d with
  | zero =>
    intro a h0 h1 h2
    exact ⟨true, Ev.step (f := fun _ => some _) (fun k => by rw [sUt.l0, if_neg (by omega)]) (Ev.now _)⟩
  | succ d ih =>
    intro a h0 h1 h2
    by_cases g : a < s.size
    · obtain ⟨c, n, ok, E, hn⟩ := char_ev s hs a h0 g
      cases ok with
      | false =>
        refine ⟨false, Ev.step (f := ?_) (fun k => ?_) ?_⟩
        rotate_left 1
        · conv => (lhs; rw [sUt.l0, if_pos g])
        exact Ev.bind E (Ev.congr (f := fun _ => some false) (fun k => by simp) (Ev.now _))
      | true =>
        obtain ⟨b, E2⟩ := ih (a + n) (by omega) (by omega) (by omega)
        refine ⟨b, Ev.step (f := ?_) (fun k => ?_) ?_⟩
        rotate_left 1
        · conv => (lhs; rw [sUt.l0, if_pos g])
        refine Ev.bind E (Ev.congr (fun k => ?_) E2)
        simp only [if_true]
        rw [w64 (by omega) (by omega)]
    · exact ⟨true, Ev.step (f := fun _ => some _) (fun k => by rw [sUt.l0, if_neg g]) (Ev.now _)⟩
theorem utf8_ev (s : ByteArray) (hs : s.size ≤ 100000) : ∃ b, Ev (fun k => sUt.f k s) b := by
  obtain ⟨b, E⟩ := utf8_l0 s hs (s.size + 4) 0 (by omega) (by omega) (by omega)
  exact ⟨b, Ev.congr (fun k => by rw [sUt.f]) E⟩
/-! ### the guards -/
theorem flat_l0 (kind a b : Int) (ns : List S54) (ks : List S28) (hl : ks.length ≤ 1000000) (d : Nat) : ∀ j : Nat, j + d = ks.length →
    ∃ r, Ev (fun k => lFa.l0 k (ks.length : Int) j kind a b ns ks) r ∧ (r = true → kind = 5 ∧ ks ≠ [] ∧ ∀ q ∈ ks.drop j, q.f0 < 5) := by
  induction d with
  | zero =>
    intro j hj
    by_cases c : kind = 5
    · refine ⟨decide ((ks.length : Int) > 0), Ev.step (f := fun _ => some _) (fun k => by rw [lFa.l0, if_neg (by omega), if_pos c]) (Ev.now _), fun e => ⟨c, fun e2 => ?_, fun q hq => ?_⟩⟩
      · rw [e2] at e; simp at e
      · rw [List.drop_eq_nil_of_le (by omega)] at hq; cases hq
    · exact ⟨false, Ev.step (f := fun _ => some _) (fun k => by rw [lFa.l0, if_neg (by omega), if_neg c]) (Ev.now _), fun e => by cases e⟩
  | succ d ih =>
    intro j hj
    have hjl : j < ks.length := by omega
    have hdr := List.drop_eq_getElem_cons hjl
    obtain ⟨e1, e2, e3⟩ := rd_drop hdr
    by_cases c : ks[j].f0 ≥ 5
    · exact ⟨false, Ev.step (f := fun _ => some _) (fun k => by rw [lFa.l0, if_pos e2, if_pos (by omega), if_pos e2, e1, if_pos c]) (Ev.now _), fun e => by cases e⟩
    · obtain ⟨r, E, hr⟩ := ih (j + 1) (by omega)
      refine ⟨r, Ev.step (fun k => ?_) E, fun e => ⟨(hr e).1, (hr e).2.1, fun q hq => ?_⟩⟩
      · rw [lFa.l0, if_pos e2, if_pos (by omega), if_pos e2, e1, if_neg c, w64 (x := (j : Int) + 1) (by omega) (by omega)]; rfl
      · rw [hdr] at hq
        rcases List.mem_cons.mp hq with hq | hq
        · rw [hq]; omega
        · exact (hr e).2.2 q hq
theorem flat_ev (kind a b : Int) (ns : List S54) (ks : List S28) (hl : ks.length ≤ 1000000) : ∃ r, Ev (fun k => lFa.f k kind a b ns ks) r ∧ (r = true → kind = 5 ∧ ks ≠ [] ∧ ∀ q ∈ ks, q.f0 < 5) := by
  obtain ⟨r, E, h⟩ := flat_l0 kind a b ns ks hl ks.length 0 (by omega)
  exact ⟨r, Ev.congr (fun k => by rw [lFa.f]; rfl) E, h⟩
theorem blank_l1 (x : ByteArray) (hx : x.size ≤ 2147483647) (l : List ByteArray) (m j : Int) (R : Bool → Prop) (hf : R false) (hn : x.size ≤ 64 → ∃ r, Ev (fun k => lBl.l0 k l m (wrap64 (j + 1))) r ∧ R r) (d : Nat) : ∀ i : Int, 0 ≤ i → i + d = x.size →
    ∃ r, Ev (fun k => lBl.l1 k x i l m j) r ∧ R r := by
  induction d with
  | zero =>
    intro i h0 h1
    by_cases c : (x.size : Int) > 64
    · exact ⟨false, Ev.step (f := fun _ => some _) (fun k => by rw [lBl.l1, if_neg (by omega), if_pos c]) (Ev.now _), hf⟩
    · obtain ⟨r, E, h⟩ := hn (by omega)
      exact ⟨r, Ev.step (fun k => by rw [lBl.l1, if_neg (by omega), if_neg c]) E, h⟩
  | succ d ih =>
    intro i h0 h1
    obtain ⟨r, E, h⟩ := ih (i + 1) (by omega) (by omega)
    by_cases c : bt x i = 32
    · exact ⟨r, Ev.step (fun k => by rw [lBl.l1, if_pos (by omega), if_pos h0, if_pos c, w64 (by omega) (by omega)]) E, h⟩
    by_cases c2 : bt x i = 9
    · exact ⟨r, Ev.step (fun k => by rw [lBl.l1, if_pos (by omega), if_pos h0, if_neg c, if_pos c2, w64 (by omega) (by omega)]) E, h⟩
    · exact ⟨false, Ev.step (f := fun _ => some _) (fun k => by rw [lBl.l1, if_pos (by omega), if_pos h0, if_neg c, if_neg c2]) (Ev.now _), hf⟩
theorem blank_ev (W : Int) (P I : ByteArray) (S : Bool) (hP : P.size ≤ 2147483647) (hI : I.size ≤ 2147483647) : ∃ r, Ev (fun k => lBl.f k W P I S) r ∧ (r = true → P.size ≤ 64 ∧ I.size ≤ 64) := by
  have L2 : ∃ r, Ev (fun k => lBl.l0 k [P, I] 2 2) r ∧ (r = true → True) := ⟨true, Ev.step (f := fun _ => some _) (fun k => by rw [lBl.l0, if_neg (by omega)]) (Ev.now _), fun _ => trivial⟩
  have e2 : wrap64 (1 + 1) = 2 := w64 (by omega) (by omega)
  have e1 : wrap64 (0 + 1) = 1 := w64 (by omega) (by omega)
  obtain ⟨r1, E1, h1⟩ := blank_l1 I hI [P, I] 2 1 (fun r => r = true → I.size ≤ 64) (fun e => by cases e) (fun hle => by rw [e2]; obtain ⟨r, E, _⟩ := L2; exact ⟨r, E, fun _ => hle⟩) I.size 0 (by omega) (by omega)
  have L1 : Ev (fun k => lBl.l0 k [P, I] 2 1) r1 := Ev.step (fun k => by rw [lBl.l0, if_pos (by omega), if_pos (by omega), if_pos (by simp)]; rfl) E1
  obtain ⟨r0, E0, h0⟩ := blank_l1 P hP [P, I] 2 0 (fun r => r = true → P.size ≤ 64 ∧ I.size ≤ 64) (fun e => by cases e) (fun hle => by rw [e1]; exact ⟨r1, L1, fun e => ⟨hle, h1 e⟩⟩) P.size 0 (by omega) (by omega)
  refine ⟨r0, Ev.congr (fun k => by rw [lBl.f]; rfl) (Ev.step (g := fun k => lBl.l0 k [P, I] 2 0) (fun k => by rw [lBl.l0, if_pos (by omega), if_pos (by omega), if_pos (by simp)]; rfl) E0), h0⟩

mutual
theorem val_bd {s : ByteArray} : ∀ {a b : Int} {p : S28}, Val s a b p → 0 ≤ a ∧ a < b ∧ b ≤ s.size ∧ (p.f4.length : Int) ≤ b - a
  | _, _, _, .null h => by have := word_bound h (by decide); exact ⟨this.1, this.2.1, this.2.2, by simp; omega⟩
  | _, _, _, .false h => by have := word_bound h (by decide); exact ⟨this.1, this.2.1, this.2.2, by simp; omega⟩
  | _, _, _, .true h => by have := word_bound h (by decide); exact ⟨this.1, this.2.1, this.2.2, by simp; omega⟩
  | _, _, _, .num h0 h1 c h => by have := num_inner h; exact ⟨this.1, this.2.1, this.2.2.1, by simp; omega⟩
  | _, _, _, .str h => by have := str_bound h; exact ⟨this.1, by omega, this.2.2.1, by simp; omega⟩
  | _, _, _, .arr0 h0 h1 ha hb h2 hc => by have := hb.2.1; exact ⟨h0, by omega, by omega, by simp; omega⟩
  | _, _, _, .arr h0 h1 ha hb h => by have := els_bd h; have := hb.2.1; exact ⟨h0, by omega, by omega, by dsimp only; omega⟩
  | _, _, _, .obj0 h0 h1 ha hb h2 hc => by have := hb.2.1; exact ⟨h0, by omega, by omega, by simp; omega⟩
  | _, _, _, .obj h0 h1 ha hb h => by have := mems_bd h; have := hb.2.1; exact ⟨h0, by omega, by omega, by dsimp only; omega⟩
theorem els_bd {s : ByteArray} : ∀ {c b : Int} {ks : List S28}, Els s c b ks → 0 ≤ c ∧ c < b ∧ b ≤ s.size ∧ (ks.length : Int) ≤ b - c
  | _, _, _, .last h hb h1 hc => by have := val_bd h; have := hb.2.1; exact ⟨by omega, by omega, by omega, by simp; omega⟩
  | _, _, _, .more h hb h1 hc hf r => by have := val_bd h; have := hb.2.1; have := hf.2.1; have := els_bd r; exact ⟨by omega, by omega, by omega, by simp; omega⟩
theorem mems_bd {s : ByteArray} : ∀ {c b : Int} {ns : List S54} {ks : List S28}, Mems s c b ns ks → 0 ≤ c ∧ c < b ∧ b ≤ s.size ∧ (ks.length : Int) ≤ b - c
  | _, _, _, _, .last hn hb h1 hc hf hv hg h2 hh => by have := str_bound hn; have := hb.2.1; have := hf.2.1; have := val_bd hv; have := hg.2.1; exact ⟨by omega, by omega, by omega, by simp; omega⟩
  | _, _, _, _, .more hn hb h1 hc hf hv hg h2 hh hi r => by have := str_bound hn; have := hb.2.1; have := hf.2.1; have := val_bd hv; have := hg.2.1; have := hi.2.1; have := mems_bd r; exact ⟨by omega, by omega, by omega, by simp; omega⟩
end
/-! ### joined texts -/
theorem bytes_app (x y : ByteArray) : bytesOf (x ++ y) = bytesOf x ++ bytesOf y := by simp [bytesOf]
theorem lies_mid {s s' : ByteArray} {pre post : List Int} (h : bytesOf s' = pre ++ bytesOf s ++ post) : Lies s s' pre.length := by
  have hl := bytesOf_length s
  have hl' := bytesOf_length s'
  have hs : s'.size = pre.length + s.size + post.length := by rw [← hl', h, ← hl]; simp [Nat.add_assoc]
  refine ⟨by omega, by omega, fun j h0 h1 => ?_⟩
  rw [← rd_bytesOf, ← rd_bytesOf, h]
  unfold Go.Proofs.YtnilbkfhfnofgaaW.PrintWords.rd
  rw [show (j + (pre.length : Int)).toNat = pre.length + j.toNat by omega, List.append_assoc, List.getD_eq_getElem?_getD, List.getD_eq_getElem?_getD, List.getElem?_append_right (by omega), List.getElem?_append_left (by omega)]
  congr 2
  omega
theorem sub_all (s : ByteArray) : sub s 0 s.size = bytesOf s := by
  rw [← sub_eq]
  have hl := bytesOf_length s
  simp [← hl]
theorem nums_app (xs ys : List Int) : strOfNums (xs ++ ys) = strOfNums xs ++ strOfNums ys := by
  apply ByteArray.ext
  simp [strOfNums]
theorem nums_bytes (s : ByteArray) : strOfNums (bytesOf s) = s := by
  apply ByteArray.ext
  unfold strOfNums bytesOf
  simp only [List.map_map]
  have : (fun n : Int => UInt8.ofNat n.toNat) ∘ (fun b : UInt8 => (b.toNat : Int)) = id := by
    funext b
    simp
  rw [this]
  simp
/-! ### rows in another text -/
theorem row_up {s s' : ByteArray} {off : Int} (L : Lies s s' off) (pre : Int → List Int) : ∀ (ks : List S28) (j : Int), (∀ p ∈ ks, Leaf s p) → rowL s' pre j (ks.map (up off)) = rowL s pre j ks
  | [], j, _ => rfl
  | p :: ks, j, h => by
    have hp := h p (by simp)
    show pre j ++ sub s' (p.f1 + off) (p.f2 + off) ++ rowL s' pre (j + 1) (ks.map (up off)) = _
    rw [L.sub hp.2.2.1 hp.2.2.2.1 hp.2.2.2.2.1, row_up L pre ks (j + 1) (fun q hq => h q (by simp [hq]))]
    rfl
theorem row_len {s : ByteArray} (hs : s.size ≤ 100000) (pre : Int → List Int) (hp : ∀ j, (pre j).length ≤ 100000) : ∀ (ks : List S28) (j : Int), (∀ p ∈ ks, Leaf s p) → (rowL s pre j ks).length ≤ ks.length * 200000
  | [], j, _ => by simp [rowL]
  | p :: ks, j, h => by
    have q := h p (by simp)
    have a := sub_len s p.f1 p.f2 q.2.2.1 q.2.2.2.1 q.2.2.2.2.1
    have b := row_len hs pre hp ks (j + 1) (fun q hq => h q (by simp [hq]))
    have c := hp j
    have d := q.2.2
    simp only [rowL, List.length_append, List.length_cons]
    omega
theorem up_leaf {s s' : ByteArray} {off : Int} (L : Lies s s' off) {ks : List S28} (h : ∀ p ∈ ks, Leaf s p) : ∀ p ∈ ks.map (up off), Leaf s' p := by
  intro p hp
  obtain ⟨q, hq, rfl⟩ := List.mem_map.mp hp
  have l0 := L.1
  have l1 := L.2.1
  obtain ⟨h1, h2, h3, h4, h5, h6⟩ := h q hq
  refine ⟨h1, h2, ?_, ?_, ?_, rfl⟩
  · show 0 ≤ q.f1 + off; omega
  · show q.f1 + off ≤ q.f2 + off; omega
  · show q.f2 + off ≤ s'.size; omega
theorem up_kind {off : Int} {ks : List S28} (h : ∀ p ∈ ks, p.f0 < 5) : ∀ p ∈ ks.map (up off), p.f0 < 5 := by
  intro p hp
  obtain ⟨q, hq, rfl⟩ := List.mem_map.mp hp
  exact h q hq
theorem lead_eq (P I : ByteArray) : lead P I 1 = leadR (P ++ I) I := by
  funext j
  unfold lead leadR
  rw [tabs_succ, tabs_succ, tabs_zero, bytes_app]
  simp only [List.append_assoc]

/-! ### the whole text: a brace, the name, a colon, the array, a brace -/
structure Whole (q t w : ByteArray) (a b c : Int) (ks : List S28) : Prop where
  hq : Str q 0 q.size
  hqs : q.size ≤ 6147
  ht : t.size ≤ 4096
  hw : bytesOf w = [123] ++ bytesOf q ++ [58] ++ bytesOf t ++ [125]
  hB : Blanks t 0 a
  ha : bt t a = 91
  hB2 : Blanks t (a + 1) c
  hE : Els t c b ks
  hk : ∀ p ∈ ks, p.f0 < 5
  hC : Blanks t b t.size
theorem Whole.facts {q t w : ByteArray} {a b c : Int} {ks : List S28} (H : Whole q t w a b c ks) :
    (w.size : Int) = q.size + t.size + 3 ∧ Lies t w (q.size + 2) ∧ Lies q w 1 ∧ bt w 0 = 123 ∧ bt w (q.size + 1) = 58 ∧ bt w (w.size - 1) = 125 ∧ Str w 1 (q.size + 1) ∧ sub w 1 (q.size + 1) = bytesOf q := by
  have hl := bytesOf_length w
  have hlq := bytesOf_length q
  have hlt := bytesOf_length t
  have hs : w.size = q.size + t.size + 3 := by rw [← hl, H.hw]; simp only [List.length_append, List.length_cons, List.length_nil]; omega
  have L1 : Lies t w (q.size + 2) := by
    have := lies_mid (s := t) (s' := w) (pre := [123] ++ bytesOf q ++ [58]) (post := [125]) H.hw
    rwa [show (([123] ++ bytesOf q ++ [58] : List Int).length : Int) = q.size + 2 by simp only [List.length_append, List.length_cons, List.length_nil]; omega] at this
  have L2 : Lies q w 1 := by
    have := lies_mid (s := q) (s' := w) (pre := [123]) (post := [58] ++ bytesOf t ++ [125]) (by rw [H.hw]; simp)
    simpa using this
  have b0 := bt_at (s := w) (pre := []) (c := 123) (r := bytesOf q ++ [58] ++ bytesOf t ++ [125]) (by rw [H.hw]; simp)
  have b1 := bt_at (s := w) (pre := [123] ++ bytesOf q) (c := 58) (r := bytesOf t ++ [125]) (by rw [H.hw]; simp)
  have b2 := bt_at (s := w) (pre := [123] ++ bytesOf q ++ [58] ++ bytesOf t) (c := 125) (r := []) (by rw [H.hw])
  have n1 : (([123] ++ bytesOf q : List Int).length : Int) = q.size + 1 := by simp only [List.length_append, List.length_cons, List.length_nil]; omega
  have n2 : (([123] ++ bytesOf q ++ [58] ++ bytesOf t : List Int).length : Int) = (w.size : Int) - 1 := by simp only [List.length_append, List.length_cons, List.length_nil]; omega
  rw [n1] at b1
  rw [n2] at b2
  have S := L2.str H.hq
  have e := L2.sub (a := 0) (b := q.size) (by omega) (by omega) (by omega)
  rw [sub_all] at e
  simp only [Int.zero_add] at S e
  exact ⟨by omega, L1, L2, by simpa using b0, b1, b2, S, e⟩
theorem Whole.read {q : ByteArray} {t : ByteArray} {w : ByteArray} {a : Int} {b : Int} {c : Int} {ks : List S28} (H : Whole q t w a b c ks) : Ev (fun k => spec_Places.f k w) (6, 0, (w.size : Int), [⟨1, (q.size : Int) + 1⟩], [⟨5, a + (q.size + 2), b + (q.size + 2), [], ks.map (up (q.size + 2))⟩], true) := by
  obtain ⟨hs, L, L2, b0, b1, b2, S, e⟩ := H.facts
  have hqs := H.hqs
  have ht := H.ht
  have B1 := L.blanks H.hB
  have B2 := L.blanks H.hB2
  have B3 := L.blanks H.hC
  have hE := L.els H.hE H.hk
  have q1 := H.hB.1
  have q2 := H.hB.2.1
  have q3 := H.hB2.2.1
  have q4 := H.hB2.2.2.1
  have ea := els_bound H.hE H.hk
  have ha := L.at_ (j := a) (by omega) (by omega) H.ha
  rw [show (0 : Int) + (q.size + 2) = q.size + 1 + 1 by omega] at B1
  rw [show a + 1 + ((q.size : Int) + 2) = a + (q.size + 2) + 1 by omega] at B2
  have V := value_flat w (by omega) (a := a + (q.size + 2)) (by omega) (by omega) ha B2 hE (up_kind H.hk)
  have F := value_one w (by omega) (a := 0) (d := (q.size : Int) + 1) (f := a + (q.size + 2)) (g := b + (q.size + 2)) (h := (w.size : Int) - 1) (p := ⟨5, a + (q.size + 2), b + (q.size + 2), [], ks.map (up (q.size + 2))⟩) (by omega) (by omega) b0 S (by omega) b1 B1 (by unfold IsBlk; omega) V rfl (by rwa [show (t.size : Int) + (q.size + 2) = (w.size : Int) - 1 by omega] at B3) (by omega) b2
  rw [show (w.size : Int) - 1 + 1 = w.size by omega] at F
  exact places_one w (p := ⟨6, 0, w.size, [⟨1, (q.size : Int) + 1⟩], [⟨5, a + (q.size + 2), b + (q.size + 2), [], ks.map (up (q.size + 2))⟩]⟩) (by omega) (by omega) (by unfold IsBlk; omega) F
/-- What is written of the whole, when the array is written as o. -/
theorem Whole.print {q : ByteArray} {t : ByteArray} {w : ByteArray} {a : Int} {b : Int} {c : Int} {ks : List S28} (H : Whole q t w a b c ks) {W : Int} {P I : ByteArray} (hP : P.size ≤ 64) (hI : I.size ≤ 64) {o : List Int} {qo : Int} (hol : o.length ≤ 30000000000000) (ho : LastIs o qo) (hqo : qo ≠ 32)
    (hv : ∀ buf : List Int, (buf.length : Int) = 2 * P.size + I.size + q.size + 4 → ∃ nl, Ev (fun k => pOb.f k buf (bytesOf w) (a + (q.size + 2)) 91 93 true W P I false ((1 : Nat) : Int) ((P.size : Int) + 1) (-1)) (buf ++ o, b + (q.size + 2), nl, true)) :
    Ev (fun k => pPo.g k W P I (bytesOf w)) (bytesOf P ++ [123, 10] ++ bytesOf P ++ bytesOf I ++ bytesOf q ++ [58, 32] ++ o ++ [10] ++ bytesOf P ++ [125, 10]) := by
  obtain ⟨hs, L, L2, b0, b1, b2, S, e⟩ := H.facts
  have hqs := H.hqs
  have ht := H.ht
  have B1 := L.blanks H.hB
  have B3 := L.blanks H.hC
  have q1 := H.hB.1
  have q2 := H.hB.2.1
  have q3 := H.hB2.2.1
  have q4 := H.hB2.2.2.1
  have ea := els_bound H.hE H.hk
  have ha := L.at_ (j := a) (by omega) (by omega) H.ha
  have hlP := bytesOf_length P
  have hlI := bytesOf_length I
  have hlq := bytesOf_length q
  have hT1 : (tabsL P I 1).length = P.size + I.size := by rw [tabs_succ, tabs_zero, List.length_append]; omega
  have hT0 : (tabsL P I 0).length = P.size := by rw [tabs_zero]; omega
  have hbuf : ((bytesOf P ++ [123] ++ [10] ++ tabsL P I 1 ++ sub w 1 (q.size + 1) ++ [58, 32]).length : Int) = 2 * P.size + I.size + q.size + 4 := by
    rw [e]
    simp only [List.length_append, List.length_cons, List.length_nil]; omega
  obtain ⟨nl, A⟩ := hv _ hbuf
  have A2 := any_arr w (by omega) _ true W P I ((1 : Nat) : Int) ((P.size : Int) + 1) (-1) (a + (q.size + 2)) (by omega) (by omega) _ ha A
  have A3 := any_from w (by omega) _ true W P I ((1 : Nat) : Int) ((P.size : Int) + 1) (-1) _ (q.size + 1) (a + (q.size + 2)) (by omega) (by omega) (by omega) (fun j g1 g2 => by
    by_cases c1 : j = q.size + 1
    · subst c1; omega
    · exact .inl (blk_le B1 j (by omega) g2)) A2
  have hlen5 : ((bytesOf P ++ [123] ++ [10] ++ tabsL P I 1 ++ sub w 1 (q.size + 1) ++ [58, 32] ++ o).length : Int) = 2 * P.size + I.size + q.size + 4 + o.length := by rw [List.length_append]; push_cast; omega
  have C := ol_close w (by omega) (bytesOf P ++ [123] ++ [10] ++ tabsL P I 1 ++ sub w 1 (q.size + 1) ++ [58, 32] ++ o) W P I 0 (by omega) 1 ((w.size : Int) - 1) (by omega) (by omega) b2 (by omega) (by omega) (by omega) (by omega) (by omega) (LastIs.app _ ho) hqo
  have C2 := ol_skips w (by omega) _ W P I ((0 : Nat) : Int) 1 _ ((w.size : Int) - 1) (by omega) ((w.size : Int) - 1 - (b + (q.size + 2))).toNat (b + (q.size + 2)) (by omega) (by omega) (fun j g1 g2 => blk_le B3 j g1 (by omega)) C
  have hn : ((bytesOf P ++ [123]).length : Int) = (P.size : Int) + 1 := by simp; omega
  have M := ol_member w (by omega) (bytesOf P ++ [123]) W P I 1 _ 0 (by omega) (by omega) (by omega) (show (tabsL P I 1).length ≤ 10000000 by omega) (by simp; omega) S (LastIs.one _ 123) (by omega) (b := b + (q.size + 2)) (nl2 := nl) (ok := true) (by omega) (by omega) (by rw [hn]; exact A3) C2
  have O := any_obj w (by omega) (bytesOf P) true W P I 0 0 (-1) 0 (by omega) (by omega) _ b0 (obj_enter w (by omega) (bytesOf P) W P I 0 0 0 (by omega) (by omega) _ (by omega) M)
  have O2 := any_from w (by omega) (bytesOf P) true W P I 0 0 (-1) _ 0 0 (by omega) (by omega) (by omega) (fun j g1 g2 => by omega) O
  unfold pPo.g
  refine Ev.bind O2 (Ev.congr (f := fun _ => some _) (fun k => ?_) (Ev.now _))
  have hfin : ((bytesOf P ++ [123] ++ [10] ++ tabsL P I 1 ++ sub w 1 (q.size + 1) ++ [58, 32] ++ o ++ [10] ++ tabsL P I 0 ++ [125]).length : Int) = 3 * P.size + I.size + q.size + 6 + o.length := by
    rw [List.length_append, List.length_append, List.length_append]; push_cast; simp only [List.length_cons, List.length_nil]; omega
  simp only
  rw [if_pos (by omega), if_pos (by omega), e, tabs_zero, tabs_succ, tabs_zero]
  simp only [List.append_assoc, List.cons_append, List.nil_append]
/-- The last byte of a row in brackets. -/
theorem line_last (s : ByteArray) (ks : List S28) : LastIs (lineL s ks) 93 := LastIs.one _ _
theorem lines_last (s : ByteArray) (P I : ByteArray) (t : Nat) (ks : List S28) : LastIs (linesL s P I t ks) 93 := LastIs.one _ _

/-! ### the statement -/
def wholeB (q t : ByteArray) : ByteArray := ((((⟨#[123]⟩ : ByteArray) ++ q) ++ (⟨#[58]⟩ : ByteArray)) ++ t) ++ (⟨#[125]⟩ : ByteArray)
theorem whole_bytes (q t : ByteArray) : bytesOf (wholeB q t) = [123] ++ bytesOf q ++ [58] ++ bytesOf t ++ [125] := by
  unfold wholeB
  rw [bytes_app, bytes_app, bytes_app, bytes_app]
  rfl
theorem pretty_some {w P I : ByteArray} {W : Int} {l : List Int} (hw : w.size ≤ 100000) (hP : P.size ≤ 64) (h : Ev (fun k => pPo.g k W P I (bytesOf w)) l) : Ev (fun k => impl_PrPretty.f k w W P I false) (strOfNums l) := by
  refine Ev.congr (fun k => ?_) (Ev.bind (f := fun _ x => some (strOfNums x)) h (Ev.now _))
  rw [impl_PrPretty.f, if_neg (by simp), if_pos (by omega), if_pos (by omega)]
theorem laid_some {t p : ByteArray} {kind a b : Int} {ns : List S54} {ks : List S28} {I : ByteArray} {wide : Bool} {l : List Int} (hp : p.size ≤ 1000) (hl : l.length ≤ 100000000000) (h : Ev (fun k => sLa.f k [] t kind a b ns ks p I wide) l) :
    Ev (fun k => spec_Laid.f k t kind a b ns ks p I wide) ((p ++ strOfNums l) ++ (⟨#[10]⟩ : ByteArray)) := by
  have hs := str_size l
  refine Ev.congr (fun k => by rw [spec_Laid.f]) (Ev.bind h (Ev.congr (f := fun _ => some _) (fun k => ?_) (Ev.now _)))
  rw [if_pos (by omega), if_pos (by rw [ByteArray.size_append]; omega)]
theorem lit_nums : (⟨#[10]⟩ : ByteArray) = strOfNums [10] ∧ (⟨#[123, 10]⟩ : ByteArray) = strOfNums [123, 10] ∧ (⟨#[58, 32]⟩ : ByteArray) = strOfNums [58, 32] ∧ (⟨#[125, 10]⟩ : ByteArray) = strOfNums [125, 10] := by
  refine ⟨?_, ?_, ?_, ?_⟩ <;> rfl
theorem j2_fits {q t w : ByteArray} {a b c : Int} {ks : List S28} (H : Whole q t w a b c ks) {W : Int} {P I : ByteArray} (hP : P.size ≤ 64) (hI : I.size ≤ 64) (hW : W ≤ 1073741824)
    (h3 : W - P.size - I.size - q.size - 3 > 3) (hfit : ((lineL t ks).length : Int) ≤ W - P.size - I.size - q.size - 3) :
    Ev (fun k => lFn.j2 k q (strOfNums (lineL t ks ++ [10])) w true W P I false) true := by
  obtain ⟨hs, L, L2, b0, b1, b2, S, e⟩ := H.facts
  have hqs := H.hqs
  have ht := H.ht
  have B2 := L.blanks H.hB2
  have q1 := H.hB.1
  have q2 := H.hB.2.1
  have q3 := H.hB2.2.1
  have q4 := H.hB2.2.2.1
  have ea := els_bound H.hE H.hk
  rw [show a + 1 + ((q.size : Int) + 2) = a + (q.size + 2) + 1 by omega] at B2
  have hlf := els_leaf H.hE H.hk
  have hline : lineL w (ks.map (up (q.size + 2))) = lineL t ks := by unfold lineL; rw [row_up L sep ks 0 hlf]
  have hll : (lineL t ks).length ≤ 30000000000 := by omega
  have G := H.print (W := W) hP hI (o := lineL t ks) (qo := 93) (by omega) (line_last t ks) (by omega) (fun buf hbuf => ⟨(P.size : Int) + 1, by
    have := arr_fits w (by omega) (i := a + (q.size + 2)) (by omega) B2 (L.els H.hE H.hk) (up_kind H.hk) buf (by omega) W (by omega) (by omega) P I ((1 : Nat) : Int) ((P.size : Int) + 1) (by omega) (by omega) (by omega) (by rw [hline]; omega)
    rwa [hline] at this⟩)
  have T := pretty_some (by omega) hP G
  have hsz := str_size (lineL t ks ++ [10])
  rw [List.length_append] at hsz
  simp only [List.length_cons, List.length_nil] at hsz
  have z1 : (⟨#[123, 10]⟩ : ByteArray).size = 2 := rfl
  have z2 : (⟨#[58, 32]⟩ : ByteArray).size = 2 := rfl
  obtain ⟨n0, n1, n2, n3⟩ := lit_nums
  have heq : strOfNums (bytesOf P ++ [123, 10] ++ bytesOf P ++ bytesOf I ++ bytesOf q ++ [58, 32] ++ lineL t ks ++ [10] ++ bytesOf P ++ [125, 10]) =
      ((((((((P ++ (⟨#[123, 10]⟩ : ByteArray)) ++ P) ++ I) ++ q) ++ (⟨#[58, 32]⟩ : ByteArray)) ++ (strOfNums (lineL t ks ++ [10]))) ++ P) ++ (⟨#[125, 10]⟩ : ByteArray)) := by
    simp only [n1, n2, n3, nums_app, nums_bytes, ByteArray.append_assoc]
  refine Ev.step (f := ?_) (fun k => ?_) ?_
  rotate_left 1
  · conv => (lhs; rw [lFn.j2, if_pos rfl])
  refine Ev.bind T (Ev.congr (f := fun _ => some true) (fun k => ?_) (Ev.now _))
  rw [heq]
  simp only [ByteArray.size_append, z1, z2]
  rw [if_pos (by omega), if_pos (by omega), if_pos (by omega), if_pos (by omega), if_pos (by omega), if_pos (by omega), if_pos (by omega), if_pos (by omega)]
  simp
theorem j2_lines {q t w : ByteArray} {a b c : Int} {ks : List S28} (H : Whole q t w a b c ks) {W : Int} {P I : ByteArray} (hP : P.size ≤ 64) (hI : I.size ≤ 64) (hW0 : 0 ≤ W) (hW : W ≤ 1073741824) (hne : ks ≠ []) (line : ByteArray)
    (hno : ¬ (W - P.size - I.size - q.size - 3 > 3 ∧ ((lineL t ks).length : Int) ≤ W - P.size - I.size - q.size - 3)) :
    Ev (fun k => lFn.j2 k q line w false W P I false) true := by
  obtain ⟨hs, L, L2, b0, b1, b2, S, e⟩ := H.facts
  have hqs := H.hqs
  have ht := H.ht
  have B2 := L.blanks H.hB2
  have q1 := H.hB.1
  have q2 := H.hB.2.1
  have q3 := H.hB2.2.1
  have q4 := H.hB2.2.2.1
  have ea := els_bound H.hE H.hk
  rw [show a + 1 + ((q.size : Int) + 2) = a + (q.size + 2) + 1 by omega] at B2
  have hlf := els_leaf H.hE H.hk
  have hlf2 := up_leaf L hlf
  have hkl : (ks.map (up ((q.size : Int) + 2))).length = ks.length := by simp
  have hlP := bytesOf_length P
  have hlI := bytesOf_length I
  have hlq := bytesOf_length q
  have hline : lineL w (ks.map (up (q.size + 2))) = lineL t ks := by unfold lineL; rw [row_up L sep ks 0 hlf]
  have hll : (lineL t ks).length ≤ 30000000000 := by
    have := row_len (s := t) (by omega) sep (fun j => by have := sep_len j; omega) ks 0 hlf
    unfold lineL
    simp only [List.length_append, List.length_cons, List.length_nil]
    omega
  have hT1 : (tabsL P I 1).length = P.size + I.size := by rw [tabs_succ, tabs_zero, List.length_append]; omega
  have hT2 : (tabsL P I (1 + 1)).length = P.size + I.size + I.size := by rw [tabs_succ, List.length_append]; omega
  have hld : ∀ j, (lead P I 1 j).length ≤ 100000 := by
    intro j
    have := comma_len j
    unfold lead
    simp only [List.length_append, List.length_cons, List.length_nil]
    omega
  have hlen : (linesL w P I 1 (ks.map (up (q.size + 2)))).length ≤ 30000000000 := by
    have := row_len (s := w) (by omega) (lead P I 1) hld (ks.map (up (q.size + 2))) 0 hlf2
    unfold linesL
    simp only [List.length_append, List.length_cons, List.length_nil]
    omega
  have G := H.print (W := W) hP hI (o := linesL w P I 1 (ks.map (up (q.size + 2)))) (qo := 93) (by omega) (lines_last _ _ _ _ _) (by omega) (fun buf hbuf =>
    arr_long w (by omega) (i := a + (q.size + 2)) (by omega) B2 (L.els H.hE H.hk) (up_kind H.hk) buf (by omega) W hW0 (by omega) P I (by omega) (by omega) 1 (by omega) (by omega) ((P.size : Int) + 1) (by omega) (by omega) (by rw [hline]; intro g; exact hno ⟨by omega, by omega⟩) (by rw [hline]; omega))
  have T := pretty_some (by omega) hP G
  have hPI : (P ++ I).size ≤ 128 := by rw [ByteArray.size_append]; omega
  have A := laid_lines w (by omega) (a + (q.size + 2)) (b + (q.size + 2)) [] (ks.map (up (q.size + 2))) (by omega) hlf2 (by simpa using hne) (P ++ I) I (by omega) (by omega) ([123, 10] ++ bytesOf P ++ bytesOf I ++ sub w 1 (q.size + 1) ++ [58, 32]) (by rw [e]; simp only [List.length_append, List.length_cons, List.length_nil]; omega)
  have hoeq : [91] ++ rowL w (leadR (P ++ I) I) 0 (ks.map (up (q.size + 2))) ++ [10] ++ bytesOf (P ++ I) ++ [93] = linesL w P I 1 (ks.map (up (q.size + 2))) := by
    unfold linesL
    rw [lead_eq, tabs_succ, tabs_zero, bytes_app]
  rw [hoeq] at A
  have O := laid_one w (by omega) 0 w.size (c := 1) (d := (q.size : Int) + 1) (p := ⟨5, a + (q.size + 2), b + (q.size + 2), [], ks.map (up (q.size + 2))⟩) (by omega) (by omega) (by omega) P I (by omega) (by omega) (o := linesL w P I 1 (ks.map (up (q.size + 2)))) (by omega) A
  have F := laid_some (by omega) (by rw [e]; simp only [List.length_append, List.length_cons, List.length_nil]; omega) O
  have R := H.read
  obtain ⟨n0, n1, n2, n3⟩ := lit_nums
  have heq : strOfNums (bytesOf P ++ [123, 10] ++ bytesOf P ++ bytesOf I ++ bytesOf q ++ [58, 32] ++ linesL w P I 1 (ks.map (up (q.size + 2))) ++ [10] ++ bytesOf P ++ [125, 10]) =
      (P ++ strOfNums ([123, 10] ++ bytesOf P ++ bytesOf I ++ sub w 1 (q.size + 1) ++ [58, 32] ++ linesL w P I 1 (ks.map (up (q.size + 2))) ++ [10] ++ bytesOf P ++ [125])) ++ (⟨#[10]⟩ : ByteArray) := by
    have h125 : strOfNums [125, 10] = strOfNums [125] ++ strOfNums [10] := rfl
    rw [e, n0]
    simp only [nums_app, nums_bytes, ByteArray.append_assoc, h125]
  refine Ev.step (f := ?_) (fun k => ?_) ?_
  rotate_left 1
  · conv => (lhs; rw [lFn.j2, if_neg (by simp)])
  refine Ev.bind R (Ev.bind T (Ev.bind F (Ev.congr (f := fun _ => some true) (fun k => ?_) (Ev.now _))))
  rw [heq]
  simp
theorem width_member (name t : ByteArray) (W : Int) (P I : ByteArray) (S : Bool) : ∃ k, lFn.f k name t W P I S = some true := by
  have J0 : Ev (fun k => lFn.j0 k name t true W P I S) true := Ev.step (f := fun _ => some true) (fun k => by rw [lFn.j0, if_pos rfl]) (Ev.now _)
  have J1 : ∀ x0 x1 x2 x3 x4, Ev (fun k => lFn.j1 k name t true W P I S x0 x1 x2 x3 x4) true := fun x0 x1 x2 x3 x4 => Ev.step (f := fun _ => some true) (fun k => by rw [lFn.j1, if_pos rfl]) (Ev.now _)
  have go : Ev (fun k => lFn.f k name t W P I S) true := by
    by_cases h1 : (name.size : Int) > 2147483647
    · exact Ev.congr (fun k => by rw [lFn.f, if_pos h1]) J0
    by_cases h2 : (t.size : Int) > 2147483647
    · exact Ev.congr (fun k => by rw [lFn.f, if_neg h1, if_pos h2]) J0
    by_cases h3 : (P.size : Int) > 2147483647
    · exact Ev.congr (fun k => by rw [lFn.f, if_neg h1, if_neg h2, laws_zzFits7.f, if_pos h3]; rfl) J0
    by_cases h4 : (I.size : Int) > 2147483647
    · exact Ev.congr (fun k => by rw [lFn.f, if_neg h1, if_neg h2, laws_zzFits7.f, if_neg h3, if_pos h4]; rfl) J0
    refine Ev.congr (fun k => by rw [lFn.f, if_neg h1, if_neg h2, laws_zzFits7.f, if_neg h3, if_neg h4]; rfl) (?_ : Ev (fun k => lFn.j0 k name t false W P I S) true)
    refine Ev.step (f := ?_) (fun k => ?_) ?_
    rotate_left 1
    · conv => (lhs; rw [lFn.j0, if_neg (by simp)])
    by_cases h5 : (t.size : Int) > 4096
    · refine Ev.bind (a := (0, 0, 0, [], [], false)) (Ev.congr (f := fun _ => some _) (fun k => by rw [laws_prPlaces.f, if_pos h5]) (Ev.now _)) (Ev.congr (fun k => ?_) (J1 0 0 0 [] []))
      simp
    have ht : t.size ≤ 4096 := by omega
    obtain ⟨p, ok, E, hj⟩ := places_ev t (by omega)
    have E2 : Ev (fun k => laws_prPlaces.f k t) (p.f0, p.f1, p.f2, p.f3, p.f4, ok) := by
      refine Ev.congr (fun k => ?_) (Ev.bind E (Ev.now _))
      rw [laws_prPlaces.f, if_neg h5]
    refine Ev.bind E2 ?_
    cases ok with
    | false => exact Ev.congr (fun k => by simp) (J1 p.f0 p.f1 p.f2 p.f3 p.f4)
    | true =>
    obtain ⟨a, b, c0, hB, hV, hC, hc⟩ := hj rfl
    have vb := val_bd hV
    have hB1 := hB.2.1
    have hC1 := hC.2.1
    simp only [if_true]
    obtain ⟨fl, Fl, hfl⟩ := flat_ev p.f0 p.f1 p.f2 p.f3 p.f4 (by omega)
    refine Ev.bind Fl ?_
    cases fl with
    | false => exact Ev.congr (fun k => by simp) (J1 p.f0 p.f1 p.f2 p.f3 p.f4)
    | true =>
    obtain ⟨k5, hne, hk⟩ := hfl rfl
    simp only [if_true]
    obtain ⟨bl, Bl, hbl⟩ := blank_ev W P I S (by omega) (by omega)
    refine Ev.bind Bl ?_
    cases bl with
    | false => exact Ev.congr (fun k => by simp) (J1 p.f0 p.f1 p.f2 p.f3 p.f4)
    | true =>
    obtain ⟨hP, hI⟩ := hbl rfl
    simp only [if_true]
    cases S with
    | true => exact Ev.congr (fun k => by simp) (J1 p.f0 p.f1 p.f2 p.f3 p.f4)
    | false =>
    simp only [Bool.false_eq_true, if_false]
    by_cases h6 : W > 1073741824
    · exact Ev.congr (fun k => by rw [if_pos h6]) (J1 p.f0 p.f1 p.f2 p.f3 p.f4)
    by_cases h7 : W < 0
    · exact Ev.congr (fun k => by rw [if_neg h6, if_pos h7]) (J1 p.f0 p.f1 p.f2 p.f3 p.f4)
    by_cases h8 : (name.size : Int) > 1024
    · exact Ev.congr (fun k => by rw [if_neg h6, if_neg h7, if_pos h8]) (J1 p.f0 p.f1 p.f2 p.f3 p.f4)
    simp only [if_neg h6, if_neg h7, if_neg h8]
    obtain ⟨u, U⟩ := utf8_ev name (by omega)
    refine Ev.bind U ?_
    cases u with
    | false => exact J1 p.f0 p.f1 p.f2 p.f3 p.f4
    | true =>
    obtain ⟨q, Q, hq, hqs⟩ := quote_ev name (by omega)
    -- the array
    obtain ⟨c, ks, hp4, h91, hB2, hE⟩ : ∃ c ks, p.f4 = ks ∧ bt t a = 91 ∧ Blanks t (a + 1) c ∧ Els t c b ks := by
      cases hV with
      | null h => simp at k5
      | «false» h => simp at k5
      | «true» h => simp at k5
      | num h0 h1 c h => simp at k5
      | str h => simp at k5
      | arr0 => exact absurd rfl hne
      | arr h0 h1 ha hb h => exact ⟨_, _, rfl, ha, hb, h⟩
      | obj0 => simp at k5
      | obj => simp at k5
    rw [hp4] at hk hne ⊢
    have H : Whole q t (wholeB q t) a b c ks := ⟨hq, hqs, ht, whole_bytes q t, hB, h91, hB2, hE, hk, by rwa [hc] at hC⟩
    have hlf := els_leaf hE hk
    have eb := els_bound hE hk
    have q4 := hB2.2.2.1
    have hll : (lineL t ks).length ≤ 30000000000 := by
      have := row_len (s := t) (by omega) sep (fun j => by have := sep_len j; omega) ks 0 hlf
      unfold lineL
      simp only [List.length_append, List.length_cons, List.length_nil]
      omega
    have Lw := laid_some (p := ⟨#[]⟩) (by decide) (by omega) (laid_wide t (by omega) p.f1 p.f2 p.f3 ks (by omega) hlf hne ⟨#[]⟩ ⟨#[]⟩)
    have hline : ((⟨#[]⟩ : ByteArray) ++ strOfNums (lineL t ks)) ++ (⟨#[10]⟩ : ByteArray) = strOfNums (lineL t ks ++ [10]) := by
      rw [nums_app, lit_nums.1, show (⟨#[]⟩ : ByteArray) = ByteArray.empty from rfl, ByteArray.empty_append]
    rw [hline] at Lw
    rw [k5]
    have hsz := str_size (lineL t ks ++ [10])
    rw [List.length_append] at hsz
    simp only [List.length_cons, List.length_nil] at hsz
    have z1 : (⟨#[123]⟩ : ByteArray).size = 1 := rfl
    have z2 : (⟨#[58]⟩ : ByteArray).size = 1 := rfl
    have ew : wrap64 ((wrap64 ((wrap64 ((wrap64 (W - (P.size : Int))) - (I.size : Int))) - (q.size : Int))) - 3) = W - P.size - I.size - q.size - 3 := by
      rw [w64 (x := W - (P.size : Int)) (by omega) (by omega), w64 (x := W - (P.size : Int) - I.size) (by omega) (by omega), w64 (x := W - (P.size : Int) - I.size - q.size) (by omega) (by omega), w64 (by omega) (by omega)]
    have el : wrap64 (((strOfNums (lineL t ks ++ [10])).size : Int) - 1) = (lineL t ks).length := by rw [w64 (by omega) (by omega)]; omega
    refine Ev.step (f := ?_) (fun k => ?_) ?_
    rotate_left 1
    · conv => (lhs; rw [lFn.j1, if_neg (by simp)])
    refine Ev.bind Q (Ev.bind Lw ?_)
    simp only [ByteArray.size_append, z1, z2, ew, el]
    simp only [if_pos (show 1 + q.size ≤ 9223372036854775807 by omega), if_pos (show 1 + q.size + 1 ≤ 9223372036854775807 by omega), if_pos (show 1 + q.size + 1 + t.size ≤ 9223372036854775807 by omega), if_pos (show 1 + q.size + 1 + t.size + 1 ≤ 9223372036854775807 by omega)]
    by_cases g : W - P.size - I.size - q.size - 3 > 3
    · simp only [if_pos g]
      by_cases g2 : ((lineL t ks).length : Int) ≤ W - P.size - I.size - q.size - 3
      · rw [decide_eq_true g2]
        exact j2_fits H hP hI (by omega) g g2
      · rw [decide_eq_false g2]
        exact j2_lines H hP hI (by omega) (by omega) hne _ (fun x => g2 x.2)
    · simp only [if_neg g]
      exact j2_lines H hP hI (by omega) (by omega) hne _ (fun x => g x.1)
  exact go.rounds

end Go.Proofs.Ytnilbkfhfnofgaa.PFnPrWidthMember
