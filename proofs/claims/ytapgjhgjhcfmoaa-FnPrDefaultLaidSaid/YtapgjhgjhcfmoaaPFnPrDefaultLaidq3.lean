/- Plain lemmas for this claim: what the Lean functions of the contracts compute, over numbers and lists. -/
import Derived.Test.YtapgjhgjhcfmoaaPFnPrDefaultLaidq2
namespace Go.Proofs.Ytapgjhgjhcfmoaa.PFnPrDefaultLaid
open Go.RowKit Go.Proofs.YtapgjhgjhcfmoaaW.PrintWords Go.Proofs.YtapgjhgjhcfmoaaW.PrintLast Go.Proofs.YtapgjhgjhcfmoaaW.PrintMore
set_option linter.unusedVariables false
set_option linter.unusedSimpArgs false
/-! ### the statement -/
theorem str_nums (xs : List Int) : ((⟨#[]⟩ : ByteArray) ++ strOfNums xs) ++ (⟨#[10]⟩ : ByteArray) = strOfNums (xs ++ [10]) := by
  apply ByteArray.ext
  simp [strOfNums]
theorem str_size (xs : List Int) : (strOfNums xs).size = xs.length := by
  simp [strOfNums, ByteArray.size]
theorem top_ev (s : ByteArray) (hs : s.size ≤ 4096) {a b : Int} {p : S25} {c : Int} (hB : Blanks s 0 a) (hV : Val s a b p) (hC : Blanks s b c) (hc : c = s.size) (hna : NA p) :
    ∃ r, Ev (fun k => impl_PrDefault.f k s) r ∧ Ev (fun k => spec_Laid.f k s p.f0 p.f1 p.f2 p.f3 p.f4 ⟨#[]⟩ ⟨#[32, 32]⟩ false) r := by
  have r1 := hB.2.1
  have r2 := val_bound hV
  have r3 := hC.2.1
  have hfol : Fol s b := by
    by_cases e : b = s.size
    · exact .inl e
    · exact .inr ⟨by omega, .inl (blk_le hC b (by omega) (by omega))⟩
  obtain ⟨out, o1, ⟨q, o2, o5⟩, o3, o4⟩ := both_val (s := s) (by omega) (W := 80) (by omega) (P := ⟨#[]⟩) (I := ⟨#[32, 32]⟩) rfl rfl hV hna hfol 0 ⟨#[]⟩ (by rw [tabs_zero]) (by omega)
  obtain ⟨nl, ok, A⟩ := o4 [] 0 (by simp; omega)
  have A2 := any_from s (by omega) [] true 80 ⟨#[]⟩ ⟨#[32, 32]⟩ 0 0 (-1) _ 0 a (by omega) r1 (by omega) (fun j q1 q2 => .inl (blk_le hB j q1 q2)) A
  have L := o3 [] (by simp; omega)
  have hpos := o2.pos
  have e0 : bytesOf (⟨#[]⟩ : ByteArray) = [] := by decide
  refine ⟨strOfNums (out ++ [10]), ?_, ?_⟩
  · have G : Ev (fun k => pretty_PrettyOptions.g k 80 ⟨#[]⟩ ⟨#[32, 32]⟩ (bytesOf s)) (out ++ [10]) := by
      unfold pretty_PrettyOptions.g
      rw [e0]
      refine Ev.bind A2 (Ev.congr (f := fun _ => some (out ++ [10])) (fun k => ?_) (Ev.now _))
      simp only [List.nil_append]
      rw [if_pos (by omega), if_pos (by omega)]
    refine Ev.congr (fun k => ?_) (Ev.bind (f := fun _ x => some (strOfNums x)) G (Ev.now _))
    rw [impl_PrDefault.f, if_pos (by omega)]
  · refine Ev.congr (fun k => by rw [spec_Laid.f]) (Ev.bind L (Ev.congr (f := fun _ => some (strOfNums (out ++ [10]))) (fun k => ?_) (Ev.now _)))
    rw [List.nil_append, if_pos (by rw [str_size]; have : (⟨#[]⟩ : ByteArray).size = 0 := rfl; omega), if_pos (by rw [ByteArray.size_append, str_size]; have : (⟨#[]⟩ : ByteArray).size = 0 := rfl; omega), str_nums]
theorem default_laid (s : ByteArray) : ∃ k, laws_FnPrDefaultLaid.f k s = some true := by
  have go : Ev (fun k => laws_FnPrDefaultLaid.f k s) true := by
    by_cases h1 : (s.size : Int) > 2147483647
    · exact Ev.congr (fun k => by rw [laws_FnPrDefaultLaid.f, if_pos h1]) (Ev.now _)
    by_cases h2 : (s.size : Int) > 4096
    · refine Ev.congr (f := fun _ => some true) (fun k => ?_) (Ev.now _)
      rw [laws_FnPrDefaultLaid.f, if_neg h1, laws_prPlaces.f, if_pos h2]
      simp
    have hs : s.size ≤ 4096 := by omega
    obtain ⟨p, ok, E, hj⟩ := places_ev s (by omega)
    have E2 : Ev (fun k => laws_prPlaces.f k s) (p.f0, p.f1, p.f2, p.f3, p.f4, ok) := by
      refine Ev.congr (fun k => ?_) (Ev.bind E (Ev.now _))
      rw [laws_prPlaces.f, if_neg h2]
    refine Ev.congr (fun k => by rw [laws_FnPrDefaultLaid.f, if_neg h1]) (Ev.bind E2 ?_)
    cases ok with
    | false => exact Ev.congr (f := fun _ => some true) (fun k => by simp) (Ev.now _)
    | true =>
      obtain ⟨a, b, c, hB, hV, hC, hc⟩ := hj rfl
      obtain ⟨bl, Pa, hbl⟩ := pa_val (s := s) (by omega) hV
      simp only [if_true]
      refine Ev.bind Pa ?_
      cases bl with
      | true => exact Ev.congr (f := fun _ => some true) (fun k => by simp) (Ev.now _)
      | false =>
        obtain ⟨r, R1, R2⟩ := top_ev s hs hB hV hC hc (hbl rfl)
        simp only [Bool.false_eq_true, if_false]
        refine Ev.bind R1 (Ev.bind R2 ?_)
        exact Ev.congr (f := fun _ => some true) (fun k => by simp) (Ev.now _)
  exact go.rounds

end Go.Proofs.Ytapgjhgjhcfmoaa.PFnPrDefaultLaid
