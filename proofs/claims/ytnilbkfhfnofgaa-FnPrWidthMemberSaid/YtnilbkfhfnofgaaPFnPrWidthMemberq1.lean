/- Plain lemmas for this claim: arrays on one line and by lines, an object of one member. -/
import Derived.Test.YtnilbkfhfnofgaaPFnPrWidthMemberq0
namespace Go.Proofs.Ytnilbkfhfnofgaa.PFnPrWidthMember
open Go.RowKit Go.Proofs.YtnilbkfhfnofgaaW.PrintWords Go.Proofs.YtnilbkfhfnofgaaW.PrintLast Go.Proofs.YtnilbkfhfnofgaaW.PrintMore
set_option linter.unusedVariables false
set_option linter.unusedSimpArgs false
/-! ### rows of scalars -/
def sep (n : Int) : List Int := if 0 < n then [44, 32] else []
def comma (n : Int) : List Int := if 0 < n then [44] else []
theorem sep_len (n : Int) : (sep n).length ≤ 2 := by unfold sep; split <;> simp
theorem comma_len (n : Int) : (comma n).length ≤ 1 := by unfold comma; split <;> simp
/-- the elements of a row, each behind what stands ahead of it -/
def rowL (s : ByteArray) (pre : Int → List Int) : Int → List S28 → List Int
  | _, [] => []
  | j, p :: ks => pre j ++ sub s p.f1 p.f2 ++ rowL s pre (j + 1) ks
theorem blk_le {s : ByteArray} {a b : Int} (h : Blanks s a b) : ∀ j, a ≤ j → j < b → bt s j ≤ 32 := by
  intro j q1 q2
  have := h.2.2.2 j q1 q2
  unfold IsBlk at this; omega
theorem fol_of {s : ByteArray} {g h : Int} (hg : Blanks s g h) (h2 : h < s.size) (hh : bt s h = 44 ∨ bt s h = 93) : Fol s g := by
  by_cases e : g = h
  · subst e; exact ⟨h2, by omega⟩
  · have := hg.2.1
    exact ⟨by omega, .inl (blk_le hg g (by omega) (by omega))⟩
theorem word_bound {s w : ByteArray} {a b : Int} (h : Word s a b w) (hw : 0 < w.size) : 0 ≤ a ∧ a < b ∧ b ≤ s.size := ⟨h.1, by have := h.2.1; omega, h.2.2.1⟩
theorem word_last {s w : ByteArray} {a b : Int} (h : Word s a b w) (hw : 0 < w.size) (c : Int) (hc : LastIs (bytesOf w) c) : bt s (b - 1) = c := by
  have hb := word_bound h hw
  have e := (sub_last s a b hb.1 hb.2.1 hb.2.2).rd
  have e2 := hc.rd
  have : sub s a b = bytesOf w := by unfold sub; rw [h.2.2.2]
  rw [this] at e
  rw [← e, e2]
/-- What a scalar is: its place, its last byte. -/
theorem val_leaf {s : ByteArray} {a b : Int} {p : S28} (h : Val s a b p) (hk : p.f0 < 5) : 0 ≤ a ∧ a < b ∧ b ≤ s.size ∧ p.f1 = a ∧ p.f2 = b ∧ p.f4 = [] ∧ bt s (b - 1) ≠ 32 := by
  cases h with
  | null h => have := word_bound h (by decide); exact ⟨this.1, this.2.1, this.2.2, rfl, rfl, rfl, by rw [word_last h (by decide) 108 ⟨[110, 117, 108], by decide⟩]; omega⟩
  | «false» h => have := word_bound h (by decide); exact ⟨this.1, this.2.1, this.2.2, rfl, rfl, rfl, by rw [word_last h (by decide) 101 ⟨[102, 97, 108, 115], by decide⟩]; omega⟩
  | «true» h => have := word_bound h (by decide); exact ⟨this.1, this.2.1, this.2.2, rfl, rfl, rfl, by rw [word_last h (by decide) 101 ⟨[116, 114, 117], by decide⟩]; omega⟩
  | num h0 h1 c h => have := num_inner h; have hin := this.2.2.2 (b - 1) (by omega) (by omega); exact ⟨this.1, this.2.1, this.2.2.1, rfl, rfl, rfl, by unfold Inner at hin; omega⟩
  | str h => have := str_bound h; exact ⟨this.1, by omega, this.2.2.1, rfl, rfl, rfl, by omega⟩
  | arr0 => exact absurd hk (by simp)
  | arr => exact absurd hk (by simp)
  | obj0 => exact absurd hk (by simp)
  | obj => exact absurd hk (by simp)
theorem any_val (s : ByteArray) (hs : s.size ≤ 2147483647) (buf : List Int) (hb : buf.length ≤ 100000000000000) (pr : Bool) (W : Int) (P I : ByteArray) (tabs nl mx : Int) {a b : Int} {p : S28} (h : Val s a b p) (hk : p.f0 < 5) (hf : Fol s b) :
    Ev (fun k => pAn.l0 k buf (bytesOf s) a pr W P I false tabs nl mx) (buf ++ sub s p.f1 p.f2, b, nl, true) := by
  have hl := val_leaf h hk
  rw [hl.2.2.2.1, hl.2.2.2.2.1]
  cases h with
  | null h => exact any_word s hs buf pr W P I tabs nl mx a hl.1 (by omega) hb (.inl rfl) h
  | «false» h => exact any_word s hs buf pr W P I tabs nl mx a hl.1 (by omega) hb (.inr (.inl rfl)) h
  | «true» h => exact any_word s hs buf pr W P I tabs nl mx a hl.1 (by omega) hb (.inr (.inr rfl)) h
  | num h0 h1 c h => exact any_num s hs buf pr W P I tabs nl mx a hl.1 (by omega) hb c h hf
  | str h => exact any_str s hs buf pr W P I tabs nl mx a hl.1 (by omega) hb h
  | arr0 => exact absurd hk (by simp)
  | arr => exact absurd hk (by simp)
  | obj0 => exact absurd hk (by simp)
  | obj => exact absurd hk (by simp)
/-! ### an array on one line (C) -/
theorem cl_blank (s : ByteArray) (hs : s.size ≤ 2147483647) (buf : List Int) (W : Int) (P I : ByteArray) (tabs nl mx n i : Int) (h0 : 0 ≤ i) (h1 : i < s.size) (r : List Int × Int × Int × Bool) (hc : bt s i ≤ 32) (h : Ev (fun k => pObC.l0 k buf (bytesOf s) (i + 1) 91 93 false W P I false tabs nl mx n) r) :
    Ev (fun k => pObC.l0 k buf (bytesOf s) i 91 93 false W P I false tabs nl mx n) r := by
  have hl := blen s
  refine Ev.step (fun k => ?_) h
  rw [pObC.l0, if_neg (by simp), if_neg (by simp), if_pos rfl, if_pos (by omega), if_pos h0, rd_bytesOf, if_pos hc, w64 (by omega) (by omega)]
theorem cl_skips (s : ByteArray) (hs : s.size ≤ 2147483647) (buf : List Int) (W : Int) (P I : ByteArray) (tabs nl mx n : Int) (r : List Int × Int × Int × Bool) (c : Int) (hc : c ≤ s.size) (d : Nat) :
    ∀ i : Int, 0 ≤ i → i + d = c → (∀ j, i ≤ j → j < c → bt s j ≤ 32) →
    Ev (fun k => pObC.l0 k buf (bytesOf s) c 91 93 false W P I false tabs nl mx n) r → Ev (fun k => pObC.l0 k buf (bytesOf s) i 91 93 false W P I false tabs nl mx n) r := by
  induction d with
  | zero => intro i h0 h1 _ h; obtain rfl : i = c := by omega
            exact h
  | succ d ih =>
    intro i h0 h1 hsk h
    exact cl_blank s hs buf W P I tabs nl mx n i h0 (by omega) r (hsk i (by omega) (by omega)) (ih (i + 1) (by omega) (by omega) (fun j q1 q2 => hsk j (by omega) q2) h)
theorem cl_close (s : ByteArray) (hs : s.size ≤ 2147483647) (buf : List Int) (W : Int) (P I : ByteArray) (tabs nl mx n i : Int) (h0 : 0 ≤ i) (h1 : i < s.size) (hc : bt s i = 93) (hb : buf.length ≤ 100000000000000) :
    Ev (fun k => pObC.l0 k buf (bytesOf s) i 91 93 false W P I false tabs nl mx n) (buf ++ [93], i + 1, nl, true) := by
  have hl := blen s
  refine Ev.step (f := fun _ => some _) (fun k => ?_) (Ev.now _)
  rw [pObC.l0, if_neg (by simp), if_neg (by simp), if_pos rfl, if_pos (by omega), if_pos h0, rd_bytesOf, if_neg (by omega), if_pos hc, if_pos (by omega), w64 (by omega) (by omega)]
  rfl
theorem cl_elem (s : ByteArray) (hs : s.size ≤ 2147483647) (buf : List Int) (W : Int) (hW : 0 ≤ W) (P I : ByteArray) (tabs : Nat) (ht : tabs ≤ 1000000) (nl mx n i : Int) (hmx : mx ≠ -1) (h0 : 0 ≤ i) (h1 : i < s.size) (hc : ¬ bt s i ≤ 32) (hcc : bt s i ≠ 93) (hb : buf.length ≤ 90000000000000) (hn0 : 0 ≤ n) (hn : n ≤ 2147483647)
    {buf3 : List Int} {b nl2 : Int} (hb0 : 0 ≤ b) (hb1 : b ≤ s.size) (r : List Int × Int × Int × Bool)
    (hv : Ev (fun k => pAn.f k (buf ++ sep n) (bytesOf s) i false W P I false ((tabs : Int) + 1) nl mx) (buf3, b, nl2, true))
    (hr : Ev (fun k => pObC.l0 k buf3 (bytesOf s) b 91 93 false W P I false tabs nl2 mx (n + 1)) r) :
    Ev (fun k => pObC.l0 k buf (bytesOf s) i 91 93 false W P I false tabs nl mx n) r := by
  have hl := blen s
  have e1 : wrap64 (wrap64 (b - 1) + 1) = b := by rw [w64 (x := b - 1) (by omega) (by omega), w64 (x := b - 1 + 1) (by omega) (by omega)]; omega
  have e2 : wrap64 (n + 1) = n + 1 := w64 (by omega) (by omega)
  have e3 : wrap64 ((tabs : Int) + 1) = (tabs : Int) + 1 := w64 (by omega) (by omega)
  have J : Ev (fun k => pObC.j1 k (buf ++ sep n) (bytesOf s) i 91 93 false W P I false tabs nl mx n) r := by
    refine Ev.step (f := ?_) (fun k => ?_) ?_
    rotate_left 1
    · conv => (lhs; rw [pObC.j1, if_neg (by simp), if_neg (by simp), if_pos rfl, if_neg (by omega), e3, e2])
    refine Ev.bind hv ?_
    simp only [if_neg hmx, if_true, e1]
    exact hr
  by_cases hnn : 0 < n
  · have ec : sep n = [44, 32] := by unfold sep; rw [if_pos hnn]
    refine Ev.step (fun k => ?_) J
    rw [pObC.l0, if_neg (by simp), if_neg (by simp), if_pos rfl, if_pos (by omega), if_pos h0, rd_bytesOf, if_neg hc, if_neg hcc, if_pos (by omega), if_pos (by omega), ec]
    simp only [Option.bind_some]
    rw [if_neg (by omega), if_pos (by simp; omega)]
    simp only [List.append_assoc, List.cons_append, List.nil_append]
  · have ec : sep n = [] := by unfold sep; rw [if_neg hnn]
    rw [ec, List.append_nil] at J
    refine Ev.step (fun k => ?_) J
    rw [pObC.l0, if_neg (by simp), if_neg (by simp), if_pos rfl, if_pos (by omega), if_pos h0, rd_bytesOf, if_neg hc, if_neg hcc, if_neg (by omega)]
theorem els_bound {s : ByteArray} : ∀ {c b : Int} {ks : List S28}, Els s c b ks → (∀ p ∈ ks, p.f0 < 5) → 0 ≤ c ∧ c < b ∧ b ≤ s.size ∧ (ks.length : Int) ≤ b - c
  | _, _, _, .last h hb h1 hc, hk => by have := val_leaf h (hk _ (by simp)); have := hb.2.1; exact ⟨by omega, by omega, by omega, by simp; omega⟩
  | _, _, _, .more h hb h1 hc hf r, hk => by have := val_leaf h (hk _ (by simp)); have := hb.2.1; have := hf.2.1; have := els_bound r (fun p hp => hk p (by simp [hp])); exact ⟨by omega, by omega, by omega, by simp; omega⟩
theorem cl_row (s : ByteArray) (hs : s.size ≤ 100000) (W : Int) (hW : 0 ≤ W) (P I : ByteArray) (tabs : Nat) (ht : tabs ≤ 1000000) (nl mx : Int) (hmx : mx ≠ -1) : ∀ {c b : Int} {ks : List S28}, Els s c b ks → (∀ p ∈ ks, p.f0 < 5) →
    ∀ (i n : Int) (buf : List Int), 0 ≤ i → i ≤ c → (∀ j, i ≤ j → j < c → bt s j ≤ 32 ∨ bt s j = 44 ∨ bt s j = 58) → ¬ bt s i ≤ 32 → bt s i ≠ 93 → 0 ≤ n → n + (b - c) ≤ 2147483647 → (buf.length : Int) + (b - c) * 300000 ≤ 80000000000000 →
    Ev (fun k => pObC.l0 k buf (bytesOf s) i 91 93 false W P I false tabs nl mx n) (buf ++ rowL s sep n ks ++ [93], b, nl, true)
  | c, _, _, .last (d := d) (e := e) (p := p) h hb h1 hc, hk, i, n, buf, h0, hic, hsk, hi1, hi2, hn0, hn, hbl => by
    have hv := val_leaf h (hk _ (by simp))
    have q1 := hb.2.1
    have hsl := sub_len s p.f1 p.f2 (by omega) (by omega) (by omega)
    have hsp := sep_len n
    have A := any_from s (by omega) (buf ++ sep n) false W P I ((tabs : Int) + 1) nl mx _ i c h0 hic (by omega) hsk (any_val s (by omega) (buf ++ sep n) (by rw [List.length_append]; omega) false W P I ((tabs : Int) + 1) nl mx h (hk _ (by simp)) (fol_of hb h1 (.inr hc)))
    refine cl_elem s (by omega) buf W hW P I tabs ht nl mx n i hmx h0 (by omega) hi1 hi2 (by omega) hn0 (by omega) (by omega) (by omega) _ A ?_
    refine cl_skips s (by omega) _ W P I tabs nl mx (n + 1) _ e (by omega) (e - d).toNat d (by omega) (by omega) (blk_le hb) ?_
    have := cl_close s (by omega) (buf ++ sep n ++ sub s p.f1 p.f2) W P I tabs nl mx (n + 1) e (by omega) h1 hc (by simp only [List.length_append]; omega)
    simpa [rowL] using this
  | c, b, _, .more (d := d) (e := e) (f := f) (p := p) (ks := ks) h hb h1 hc hf r, hk, i, n, buf, h0, hic, hsk, hi1, hi2, hn0, hn, hbl => by
    have hv := val_leaf h (hk _ (by simp))
    have q1 := hb.2.1
    have q2 := hf.2.1
    have rb := els_bound r (fun p hp => hk p (by simp [hp]))
    have hsl := sub_len s p.f1 p.f2 (by omega) (by omega) (by omega)
    have hsp := sep_len n
    have A := any_from s (by omega) (buf ++ sep n) false W P I ((tabs : Int) + 1) nl mx _ i c h0 hic (by omega) hsk (any_val s (by omega) (buf ++ sep n) (by rw [List.length_append]; omega) false W P I ((tabs : Int) + 1) nl mx h (hk _ (by simp)) (fol_of hb h1 (.inl hc)))
    refine cl_elem s (by omega) buf W hW P I tabs ht nl mx n i hmx h0 (by omega) hi1 hi2 (by omega) hn0 (by omega) (by omega) (by omega) _ A ?_
    refine cl_skips s (by omega) _ W P I tabs nl mx (n + 1) _ e (by omega) (e - d).toNat d (by omega) (by omega) (blk_le hb) ?_
    have := cl_row s hs W hW P I tabs ht nl mx hmx r (fun p hp => hk p (by simp [hp])) e (n + 1) (buf ++ sep n ++ sub s p.f1 p.f2) (by omega) (by omega) (fun j g1 g2 => by
      by_cases e1 : j = e
      · subst e1; exact .inr (.inl hc)
      · exact .inl (blk_le hf j (by omega) g2)) (by omega) (by omega) (by omega) (by omega) (by simp only [List.length_append]; push_cast; omega)
    simpa [rowL] using this

/-! ### an array by lines (B) -/
theorem bl_blank (s : ByteArray) (hs : s.size ≤ 2147483647) (buf : List Int) (W : Int) (P I : ByteArray) (tabs n i : Int) (h0 : 0 ≤ i) (h1 : i < s.size) (r : List Int × Int × Int × Bool) (hc : bt s i ≤ 32) (h : Ev (fun k => pObB.l0 k buf (bytesOf s) (i + 1) 91 93 true W P I false tabs (-1) n) r) :
    Ev (fun k => pObB.l0 k buf (bytesOf s) i 91 93 true W P I false tabs (-1) n) r := by
  have hl := blen s
  refine Ev.step (fun k => ?_) h
  rw [pObB.l0, if_neg (by simp), if_pos rfl, if_pos rfl, if_pos rfl, if_pos (by omega), if_pos h0, rd_bytesOf, if_pos hc, w64 (by omega) (by omega)]
theorem bl_skips (s : ByteArray) (hs : s.size ≤ 2147483647) (buf : List Int) (W : Int) (P I : ByteArray) (tabs n : Int) (r : List Int × Int × Int × Bool) (c : Int) (hc : c ≤ s.size) (d : Nat) :
    ∀ i : Int, 0 ≤ i → i + d = c → (∀ j, i ≤ j → j < c → bt s j ≤ 32) →
    Ev (fun k => pObB.l0 k buf (bytesOf s) c 91 93 true W P I false tabs (-1) n) r → Ev (fun k => pObB.l0 k buf (bytesOf s) i 91 93 true W P I false tabs (-1) n) r := by
  induction d with
  | zero => intro i h0 h1 _ h; obtain rfl : i = c := by omega
            exact h
  | succ d ih =>
    intro i h0 h1 hsk h
    exact bl_blank s hs buf W P I tabs n i h0 (by omega) r (hsk i (by omega) (by omega)) (ih (i + 1) (by omega) (by omega) (fun j q1 q2 => hsk j (by omega) q2) h)
theorem bl_close (s : ByteArray) (hs : s.size ≤ 2147483647) (buf : List Int) (W : Int) (P I : ByteArray) (t : Nat) (ht : t ≤ 1000000) (n i : Int) (h0 : 0 ≤ i) (h1 : i < s.size) (hc : bt s i = 93) (hP : P.size ≤ 1000) (hI : I.size ≤ 1000) (hT : (tabsL P I t).length ≤ 10000000) (hb : buf.length ≤ 99000000000000) (hn : 0 < n) {q : Int} (hla : LastIs buf q) (hq : q ≠ 32) :
    Ev (fun k => pObB.l0 k buf (bytesOf s) i 91 93 true W P I false t (-1) n) (buf ++ [10] ++ tabsL P I t ++ [93], i + 1, (buf.length : Int), true) := by
  have hl := blen s
  have hr := hla.rd
  have hpos := hla.pos
  have hr2 := (LastIs.one buf 10).rd
  have hlen : ((buf ++ [10]).length : Int) = buf.length + 1 := by simp
  have hT2 := tabs_ev P I hP hI (buf ++ [10]) t ht (by simp; omega)
  have e3 : wrap64 (((buf ++ [10]).length : Int) - 1) = ((buf ++ [10]).length : Int) - 1 := w64 (by omega) (by omega)
  refine Ev.step (f := fun k => (pTb.f k (buf ++ [10]) P I t).bind fun x => if x.length < 140737488355328 then some (x ++ [93], i + 1, (buf.length : Int), (91 : Int) != 123) else none) (fun k => ?_) (Ev.bind hT2 ?_)
  · rw [pObB.l0, if_neg (by simp), if_pos rfl, if_pos rfl, if_pos rfl, if_pos (by omega), if_pos h0, rd_bytesOf, if_neg (by omega), if_pos hc, if_neg (by omega), if_pos hn, w64 (x := (buf.length : Int) - 1) (by omega) (by omega), if_pos (by omega), if_pos (by omega), hr, if_neg hq, if_pos (by omega)]
    simp only [Option.bind_some]
    rw [e3, if_pos (by omega), if_pos (by omega), hr2, if_neg (by omega), w64 (x := i + 1) (by omega) (by omega)]
  · refine Ev.congr (f := fun _ => some _) (fun k => ?_) (Ev.now _)
    rw [if_pos (by simp only [List.length_append, List.length_cons, List.length_nil]; omega)]
    rfl
theorem set_last (l : List Int) (c e : Int) : (l ++ [c]).set ((((l ++ [c]).length : Int) - 1)).toNat e = l ++ [e] := by
  have : ((((l ++ [c]).length : Int) - 1)).toNat = l.length := by simp
  rw [this]
  simp
theorem bl_elem (s : ByteArray) (hs : s.size ≤ 2147483647) (buf : List Int) (W : Int) (hW : 0 ≤ W) (P I : ByteArray) (t : Nat) (ht : t < 1000000) (n i : Int) (h0 : 0 ≤ i) (h1 : i < s.size) (hc : ¬ bt s i ≤ 32) (hcc : bt s i ≠ 93) (hP : P.size ≤ 1000) (hI : I.size ≤ 1000) (hT : (tabsL P I (t + 1)).length ≤ 10000000) (hb : buf.length ≤ 90000000000000) (hn0 : 0 ≤ n) (hn : n ≤ 2147483647)
    {q : Int} (hla : LastIs buf q) (hq : q ≠ 32) {b : Int} (hb0 : 0 ≤ b) (hb1 : b ≤ s.size) (r : List Int × Int × Int × Bool) (o : List Int)
    (hv : ∀ nl, Ev (fun k => pAn.f k (buf ++ comma n ++ [10] ++ tabsL P I (t + 1)) (bytesOf s) i true W P I false ((t : Int) + 1) nl (-1)) (buf ++ comma n ++ [10] ++ tabsL P I (t + 1) ++ o, b, nl, true))
    (hr : Ev (fun k => pObB.l0 k (buf ++ comma n ++ [10] ++ tabsL P I (t + 1) ++ o) (bytesOf s) b 91 93 true W P I false t (-1) (n + 1)) r) :
    Ev (fun k => pObB.l0 k buf (bytesOf s) i 91 93 true W P I false t (-1) n) r := by
  have hl := blen s
  have hcl := comma_len n
  have hbl : (buf ++ comma n ++ [10]).length ≤ 100000000000000 := by simp only [List.length_append, List.length_cons, List.length_nil]; omega
  have T := tabs_ev P I hP hI (buf ++ comma n ++ [10]) (t + 1) (by omega) hbl
  have e1 : wrap64 (wrap64 (b - 1) + 1) = b := by rw [w64 (x := b - 1) (by omega) (by omega), w64 (x := b - 1 + 1) (by omega) (by omega)]; omega
  have e2 : wrap64 (n + 1) = n + 1 := w64 (by omega) (by omega)
  have e3 : wrap64 ((t : Int) + 1) = (t : Int) + 1 := w64 (by omega) (by omega)
  have J3 : ∀ nl, Ev (fun k => pObB.j3 k (buf ++ comma n ++ [10] ++ tabsL P I (t + 1)) (bytesOf s) i 91 93 true W P I false t nl (-1) n) r := by
    intro nl
    refine Ev.step (f := ?_) (fun k => ?_) ?_
    rotate_left 1
    · conv => (lhs; rw [pObB.j3, if_neg (by simp), if_pos rfl, if_pos rfl, if_pos rfl, if_neg (by omega), e3, e2])
    refine Ev.bind (hv nl) ?_
    simp only [e1]
    exact hr
  by_cases hnn : 0 < n
  · have ec : comma n = [44] := by unfold comma; rw [if_pos hnn]
    rw [ec] at J3 T
    have hla2 := (LastIs.one (buf ++ [44]) 32).rd
    have hl2 : ((buf ++ [44] ++ [32]).length : Int) = buf.length + 2 := by simp
    have e4 : wrap64 (((buf ++ [44] ++ [32]).length : Int) - 1) = ((buf ++ [44] ++ [32]).length : Int) - 1 := w64 (by omega) (by omega)
    have J2 : Ev (fun k => pObB.j2 k (buf ++ [44] ++ [32]) (bytesOf s) i 91 93 true W P I false t (-1) n) r := by
      refine Ev.step (f := fun k => (pTb.f k (buf ++ [44] ++ [10]) P I ((t + 1 : Nat) : Int)).bind fun x => pObB.j3 k x (bytesOf s) i 91 93 true W P I false t ((buf ++ [44] ++ [32]).length : Int) (-1) n) (fun k => ?_) (Ev.bind T (J3 _))
      rw [pObB.j2, if_neg (by simp), if_pos rfl, if_pos rfl, if_pos rfl, e4, if_pos (by omega), if_pos (by omega), hla2, if_pos rfl, if_neg (by omega), set_last, e3]
      rfl
    refine Ev.step (fun k => ?_) J2
    rw [pObB.l0, if_neg (by simp), if_pos rfl, if_pos rfl, if_pos rfl, if_pos (by omega), if_pos h0, rd_bytesOf, if_neg hc, if_neg hcc, if_pos (by omega), if_pos (by omega)]
    simp only [Option.bind_some]
    rw [if_neg (by omega), if_pos (by simp; omega)]
  · have ec : comma n = [] := by unfold comma; rw [if_neg hnn]
    rw [ec, List.append_nil] at J3 T
    have hrd := hla.rd
    have hpos := hla.pos
    have e4 : wrap64 ((buf.length : Int) - 1) = (buf.length : Int) - 1 := w64 (by omega) (by omega)
    have J2 : Ev (fun k => pObB.j2 k buf (bytesOf s) i 91 93 true W P I false t (-1) n) r := by
      refine Ev.step (f := fun k => (pTb.f k (buf ++ [10]) P I ((t + 1 : Nat) : Int)).bind fun x => pObB.j3 k x (bytesOf s) i 91 93 true W P I false t (buf.length : Int) (-1) n) (fun k => ?_) (Ev.bind T (J3 _))
      rw [pObB.j2, if_neg (by simp), if_pos rfl, if_pos rfl, if_pos rfl, e4, if_pos (by omega), if_pos (by omega), hrd, if_neg hq, if_pos (by omega), if_neg (by omega), e3]
      rfl
    refine Ev.step (fun k => ?_) J2
    rw [pObB.l0, if_neg (by simp), if_pos rfl, if_pos rfl, if_pos rfl, if_pos (by omega), if_pos h0, rd_bytesOf, if_neg hc, if_neg hcc, if_neg (by omega)]
/-- what stands ahead of an element on a line of its own -/
def lead (P I : ByteArray) (t : Nat) (j : Int) : List Int := comma j ++ [10] ++ tabsL P I (t + 1)
theorem bl_row (s : ByteArray) (hs : s.size ≤ 100000) (W : Int) (hW : 0 ≤ W) (P I : ByteArray) (hP : P.size ≤ 1000) (hI : I.size ≤ 1000) (t : Nat) (ht : t < 1000000) (hT : (tabsL P I (t + 1)).length ≤ 100000) : ∀ {c b : Int} {ks : List S28}, Els s c b ks → (∀ p ∈ ks, p.f0 < 5) →
    ∀ (i n : Int) (buf : List Int) (q : Int), LastIs buf q → q ≠ 32 → 0 ≤ i → i ≤ c → (∀ j, i ≤ j → j < c → bt s j ≤ 32 ∨ bt s j = 44 ∨ bt s j = 58) → ¬ bt s i ≤ 32 → bt s i ≠ 93 → 0 ≤ n → n + (b - c) ≤ 2147483647 → (buf.length : Int) + (b - c) * 300000 ≤ 80000000000000 →
    ∃ nl, Ev (fun k => pObB.l0 k buf (bytesOf s) i 91 93 true W P I false t (-1) n) (buf ++ rowL s (lead P I t) n ks ++ [10] ++ tabsL P I t ++ [93], b, nl, true)
  | c, _, _, .last (d := d) (e := e) (p := p) h hb h1 hc, hk, i, n, buf, q, hla, hq, h0, hic, hsk, hi1, hi2, hn0, hn, hbl => by
    have hv := val_leaf h (hk _ (by simp))
    have q1 := hb.2.1
    have hsl := sub_len s p.f1 p.f2 (by omega) (by omega) (by omega)
    have hcm := comma_len n
    have hts : (tabsL P I t).length ≤ (tabsL P I (t + 1)).length := by rw [tabs_succ, List.length_append]; omega
    have hlast : LastIs (buf ++ comma n ++ [10] ++ tabsL P I (t + 1) ++ sub s p.f1 p.f2) (bt s (d - 1)) := by
      rw [hv.2.2.2.1, hv.2.2.2.2.1]; exact LastIs.app _ (sub_last s c d hv.1 hv.2.1 hv.2.2.1)
    have R := bl_close s (by omega) (buf ++ comma n ++ [10] ++ tabsL P I (t + 1) ++ sub s p.f1 p.f2) W P I t (by omega) (n + 1) e (by omega) h1 hc hP hI (by omega) (by simp only [List.length_append, List.length_cons, List.length_nil]; omega) (by omega) hlast hv.2.2.2.2.2.2
    have R2 := bl_skips s (by omega) _ W P I t (n + 1) _ e (by omega) (e - d).toNat d (by omega) (by omega) (blk_le hb) R
    have key := bl_elem s (by omega) buf W hW P I t ht n i h0 (by omega) hi1 hi2 hP hI (by omega) (by omega) hn0 (by omega) hla hq (b := d) (by omega) (by omega) _ (sub s p.f1 p.f2)
      (fun nl => any_from s (by omega) _ true W P I ((t : Int) + 1) nl (-1) _ i c h0 hic (by omega) hsk (any_val s (by omega) _ (by simp only [List.length_append, List.length_cons, List.length_nil]; omega) true W P I ((t : Int) + 1) nl (-1) h (hk _ (by simp)) (fol_of hb h1 (.inr hc)))) R2
    exact ⟨_, by simpa [rowL, lead] using key⟩
  | c, b, _, .more (d := d) (e := e) (f := f) (p := p) (ks := ks) h hb h1 hc hf r, hk, i, n, buf, q, hla, hq, h0, hic, hsk, hi1, hi2, hn0, hn, hbl => by
    have hv := val_leaf h (hk _ (by simp))
    have q1 := hb.2.1
    have q2 := hf.2.1
    have rb := els_bound r (fun p hp => hk p (by simp [hp]))
    have hsl := sub_len s p.f1 p.f2 (by omega) (by omega) (by omega)
    have hcm := comma_len n
    have hlast : LastIs (buf ++ comma n ++ [10] ++ tabsL P I (t + 1) ++ sub s p.f1 p.f2) (bt s (d - 1)) := by
      rw [hv.2.2.2.1, hv.2.2.2.2.1]; exact LastIs.app _ (sub_last s c d hv.1 hv.2.1 hv.2.2.1)
    obtain ⟨nl', E⟩ := bl_row s hs W hW P I hP hI t ht hT r (fun p hp => hk p (by simp [hp])) e (n + 1) (buf ++ comma n ++ [10] ++ tabsL P I (t + 1) ++ sub s p.f1 p.f2) _ hlast hv.2.2.2.2.2.2 (by omega) (by omega) (fun j g1 g2 => by
      by_cases e1 : j = e
      · subst e1; exact .inr (.inl hc)
      · exact .inl (blk_le hf j (by omega) g2)) (by omega) (by omega) (by omega) (by omega) (by simp only [List.length_append, List.length_cons, List.length_nil]; push_cast; omega)
    have R2 := bl_skips s (by omega) _ W P I t (n + 1) _ e (by omega) (e - d).toNat d (by omega) (by omega) (blk_le hb) E
    have key := bl_elem s (by omega) buf W hW P I t ht n i h0 (by omega) hi1 hi2 hP hI (by omega) (by omega) hn0 (by omega) hla hq (b := d) (by omega) (by omega) _ (sub s p.f1 p.f2)
      (fun nl => any_from s (by omega) _ true W P I ((t : Int) + 1) nl (-1) _ i c h0 hic (by omega) hsk (any_val s (by omega) _ (by simp only [List.length_append, List.length_cons, List.length_nil]; omega) true W P I ((t : Int) + 1) nl (-1) h (hk _ (by simp)) (fol_of hb h1 (.inl hc)))) R2
    exact ⟨nl', by simpa [rowL, lead] using key⟩

/-! ### arrays as a whole -/
theorem val_first {s : ByteArray} {a b : Int} {p : S28} (h : Val s a b p) (hk : p.f0 < 5) : ¬ bt s a ≤ 32 ∧ bt s a ≠ 93 := by
  have w : ∀ {w : ByteArray} {b : Int}, Word s a b w → 0 < w.size → 32 < bt w 0 → bt w 0 ≠ 93 → ¬ bt s a ≤ 32 ∧ bt s a ≠ 93 := by
    intro w b h h2 h3 h4
    have e := word_first h h2
    exact ⟨by omega, by omega⟩
  cases h with
  | null h => exact w h (by decide) (by decide) (by decide)
  | «false» h => exact w h (by decide) (by decide) (by decide)
  | «true» h => exact w h (by decide) (by decide) (by decide)
  | num h0 h1 c h => unfold IsDig at c; exact ⟨by omega, by omega⟩
  | str h => have := h.2.2.1; exact ⟨by omega, by omega⟩
  | arr0 => exact absurd hk (by simp)
  | arr => exact absurd hk (by simp)
  | obj0 => exact absurd hk (by simp)
  | obj => exact absurd hk (by simp)
theorem els_first {s : ByteArray} {c b : Int} {ks : List S28} (h : Els s c b ks) (hk : ∀ p ∈ ks, p.f0 < 5) : ¬ bt s c ≤ 32 ∧ bt s c ≠ 93 := by
  cases h with
  | last h => exact val_first h (hk _ (by simp))
  | more h => exact val_first h (hk _ (by simp))
/-- an array on one line -/
def lineL (s : ByteArray) (ks : List S28) : List Int := [91] ++ rowL s sep 0 ks ++ [93]
/-- an array by lines -/
def linesL (s : ByteArray) (P I : ByteArray) (t : Nat) (ks : List S28) : List Int := [91] ++ rowL s (lead P I t) 0 ks ++ [10] ++ tabsL P I t ++ [93]
theorem arr_line (s : ByteArray) (hs : s.size ≤ 100000) {i : Int} {c : Int} {b : Int} {ks : List S28} (h0 : 0 ≤ i) (hB : Blanks s (i + 1) c) (hE : Els s c b ks) (hk : ∀ p ∈ ks, p.f0 < 5) (buf : List Int) (hb : buf.length ≤ 40000000000000) (W : Int) (hW : W > 0) (P I : ByteArray) (nl mx : Int) (hmx : mx ≠ -1) :
    Ev (fun k => pOb.f k buf (bytesOf s) i 91 93 false W P I false 0 nl mx) (buf ++ lineL s ks, b, nl, true) := by
  have hf := els_first hE hk
  have hb2 := els_bound hE hk
  have q := hB.2.1
  refine Ev.step (f := fun k => pObC.f k buf (bytesOf s) i 91 93 false W P I false 0 nl mx) (fun k => by rw [pOb.f, if_neg (by omega), if_neg (by simp)]) ?_
  refine Ev.step (f := fun k => pObC.l0 k (buf ++ [91]) (bytesOf s) (i + 1) 91 93 false W P I false 0 nl mx 0) (fun k => ?_) ?_
  · rw [pObC.f, if_neg (by simp), if_neg (by simp), if_pos rfl, if_pos hW, if_neg hmx, if_neg (by omega), if_pos (by omega), w64 (by omega) (by omega)]
  · refine cl_skips s (by omega) (buf ++ [91]) W P I 0 nl mx 0 _ c (by omega) (c - (i + 1)).toNat (i + 1) (by omega) (by omega) (blk_le hB) ?_
    have := cl_row s hs W (by omega) P I 0 (by omega) nl mx hmx hE hk c 0 (buf ++ [91]) (by omega) (by omega) (fun j g1 g2 => by omega) hf.1 hf.2 (by omega) (by omega) (by simp; omega)
    simpa [lineL] using this
theorem arr_j0 (s : ByteArray) (hs : s.size ≤ 100000) {i : Int} {c : Int} {b : Int} {ks : List S28} (h0 : 0 ≤ i) (hB : Blanks s (i + 1) c) (hE : Els s c b ks) (hk : ∀ p ∈ ks, p.f0 < 5) (buf : List Int) (hb : buf.length ≤ 40000000000000) (W : Int) (hW : 0 ≤ W) (P I : ByteArray) (hP : P.size ≤ 1000) (hI : I.size ≤ 1000) (t : Nat) (ht : t < 1000000) (hT : (tabsL P I (t + 1)).length ≤ 100000) :
    ∃ nl, Ev (fun k => pObB.j0 k buf (bytesOf s) i 91 93 true W P I false t (-1)) (buf ++ linesL s P I t ks, b, nl, true) := by
  have hf := els_first hE hk
  have hb2 := els_bound hE hk
  have q := hB.2.1
  obtain ⟨nl, E⟩ := bl_row s hs W hW P I hP hI t ht hT hE hk c 0 (buf ++ [91]) 91 (LastIs.one _ _) (by omega) (by omega) (by omega) (fun j g1 g2 => by omega) hf.1 hf.2 (by omega) (by omega) (by simp; omega)
  have E2 := bl_skips s (by omega) (buf ++ [91]) W P I t 0 _ c (by omega) (c - (i + 1)).toNat (i + 1) (by omega) (by omega) (blk_le hB) E
  refine ⟨nl, Ev.step (fun k => ?_) (by simpa [linesL] using E2)⟩
  rw [pObB.j0, if_neg (by simp), if_pos rfl, if_pos rfl, if_pos rfl, if_pos (by omega), if_neg (by omega), w64 (by omega) (by omega)]
theorem arr_fits (s : ByteArray) (hs : s.size ≤ 100000) {i : Int} {c : Int} {b : Int} {ks : List S28} (h0 : 0 ≤ i) (hB : Blanks s (i + 1) c) (hE : Els s c b ks) (hk : ∀ p ∈ ks, p.f0 < 5) (buf : List Int) (hb : buf.length ≤ 40000000000000) (W : Int) (hW : W > 0) (hW2 : W ≤ 2147483647) (P I : ByteArray) (tabs nl : Int) (hn0 : 0 ≤ nl) (hn1 : nl ≤ buf.length) (h3 : W - (buf.length - nl) > 3) (hfit : ((lineL s ks).length : Int) ≤ W - (buf.length - nl)) :
    Ev (fun k => pOb.f k buf (bytesOf s) i 91 93 true W P I false tabs nl (-1)) (buf ++ lineL s ks, b, nl, true) := by
  have one := arr_line s hs h0 hB hE hk buf hb W hW P ⟨#[]⟩ 0 (W - (buf.length - nl)) (by omega)
  have e1 : wrap64 (W - (wrap64 ((buf.length : Int) - nl))) = W - (buf.length - nl) := by rw [w64 (x := (buf.length : Int) - nl) (by omega) (by omega), w64 (by omega) (by omega)]
  refine Ev.step (f := fun k => pObB.f k buf (bytesOf s) i 91 93 true W P I false tabs nl (-1)) (fun k => by rw [pOb.f, if_neg (by omega), if_pos rfl]) ?_
  refine Ev.step (f := ?_) (fun k => ?_) ?_
  rotate_left 1
  · conv => (lhs; rw [pObB.f, if_neg (by simp), if_pos rfl, if_pos rfl, if_pos rfl, if_pos hW, e1, if_pos h3])
  refine Ev.bind one (Ev.congr (f := fun _ => some _) (fun k => ?_) (Ev.now _))
  simp only [if_true]
  rw [w64 (by simp; omega) (by simp; omega), if_pos (by simp; omega)]
theorem arr_long (s : ByteArray) (hs : s.size ≤ 100000) {i : Int} {c : Int} {b : Int} {ks : List S28} (h0 : 0 ≤ i) (hB : Blanks s (i + 1) c) (hE : Els s c b ks) (hk : ∀ p ∈ ks, p.f0 < 5) (buf : List Int) (hb : buf.length ≤ 40000000000000) (W : Int) (hW : 0 ≤ W) (hW2 : W ≤ 2147483647) (P I : ByteArray) (hP : P.size ≤ 1000) (hI : I.size ≤ 1000) (t : Nat) (ht : t < 1000000) (hT : (tabsL P I (t + 1)).length ≤ 100000) (nl : Int) (hn0 : 0 ≤ nl) (hn1 : nl ≤ buf.length)
    (hno : ¬ (W - (buf.length - nl) > 3 ∧ ((lineL s ks).length : Int) ≤ W - (buf.length - nl))) (hll : (lineL s ks).length ≤ 40000000000000) :
    ∃ nl', Ev (fun k => pOb.f k buf (bytesOf s) i 91 93 true W P I false t nl (-1)) (buf ++ linesL s P I t ks, b, nl', true) := by
  have e1 : wrap64 (W - (wrap64 ((buf.length : Int) - nl))) = W - (buf.length - nl) := by rw [w64 (x := (buf.length : Int) - nl) (by omega) (by omega), w64 (by omega) (by omega)]
  obtain ⟨nl', E⟩ := arr_j0 s hs h0 hB hE hk buf hb W hW P I hP hI t ht hT
  refine ⟨nl', Ev.step (f := fun k => pObB.f k buf (bytesOf s) i 91 93 true W P I false t nl (-1)) (fun k => by rw [pOb.f, if_neg (by omega), if_pos rfl]) ?_⟩
  by_cases hW0 : W > 0
  · by_cases h3 : W - (buf.length - nl) > 3
    · have one := arr_line s hs h0 hB hE hk buf hb W hW0 P ⟨#[]⟩ 0 (W - (buf.length - nl)) (by omega)
      refine Ev.step (f := ?_) (fun k => ?_) ?_
      rotate_left 1
      · conv => (lhs; rw [pObB.f, if_neg (by simp), if_pos rfl, if_pos rfl, if_pos rfl, if_pos hW0, e1, if_pos h3])
      refine Ev.bind one (Ev.congr (fun k => ?_) E)
      simp only [if_true]
      rw [w64 (by simp; omega) (by simp; omega), if_neg (by simp; omega), if_pos (by omega), if_pos (by simp; omega)]
      congr 1
      simp
    · refine Ev.step (fun k => ?_) E
      rw [pObB.f, if_neg (by simp), if_pos rfl, if_pos rfl, if_pos rfl, if_pos hW0, e1, if_neg h3]
  · refine Ev.step (fun k => ?_) E
    rw [pObB.f, if_neg (by simp), if_pos rfl, if_pos rfl, if_pos rfl, if_neg hW0]

/-! ### appendPrettyObject of an object with one member (A) -/
theorem obj_enter (s : ByteArray) (hs : s.size ≤ 2147483647) (buf : List Int) (W : Int) (P I : ByteArray) (tabs nl : Int) (i : Int) (h0 : 0 ≤ i) (h1 : i < s.size) (r : List Int × Int × Int × Bool) (hb : buf.length ≤ 100000000000000)
    (h : Ev (fun k => pObA.l0 k (buf ++ [123]) (bytesOf s) (i + 1) 123 125 true W P I false tabs (-1) 0) r) :
    Ev (fun k => pOb.f k buf (bytesOf s) i 123 125 true W P I false tabs nl (-1)) r := by
  refine Ev.step (f := fun k => pObA.f k buf (bytesOf s) i 123 125 true W P I false tabs nl (-1)) (fun k => by rw [pOb.f, if_pos rfl]) ?_
  refine Ev.step (f := fun k => pObA.j0 k buf (bytesOf s) i 123 125 true W P I false tabs (-1)) (fun k => ?_) (Ev.step (fun k => ?_) h)
  · rw [pObA.f, if_neg (by simp), if_pos rfl, if_pos rfl, if_pos rfl]
    by_cases hW : W > 0
    · rw [if_pos hW, if_neg (by omega)]
    · rw [if_neg hW]
  · rw [pObA.j0, if_neg (by simp), if_pos rfl, if_pos rfl, if_pos rfl, if_pos (by omega), w64 (by omega) (by omega)]
theorem ol_blank (s : ByteArray) (hs : s.size ≤ 2147483647) (buf : List Int) (W : Int) (P I : ByteArray) (tabs n i : Int) (h0 : 0 ≤ i) (h1 : i < s.size) (r : List Int × Int × Int × Bool) (hc : bt s i ≤ 32) (h : Ev (fun k => pObA.l0 k buf (bytesOf s) (i + 1) 123 125 true W P I false tabs (-1) n) r) :
    Ev (fun k => pObA.l0 k buf (bytesOf s) i 123 125 true W P I false tabs (-1) n) r := by
  have hl := blen s
  refine Ev.step (fun k => ?_) h
  rw [pObA.l0, if_neg (by simp), if_pos rfl, if_pos rfl, if_pos rfl, if_pos (by omega), if_pos h0, rd_bytesOf, if_pos hc, w64 (by omega) (by omega)]
theorem ol_skips (s : ByteArray) (hs : s.size ≤ 2147483647) (buf : List Int) (W : Int) (P I : ByteArray) (tabs n : Int) (r : List Int × Int × Int × Bool) (c : Int) (hc : c ≤ s.size) (d : Nat) :
    ∀ i : Int, 0 ≤ i → i + d = c → (∀ j, i ≤ j → j < c → bt s j ≤ 32) →
    Ev (fun k => pObA.l0 k buf (bytesOf s) c 123 125 true W P I false tabs (-1) n) r → Ev (fun k => pObA.l0 k buf (bytesOf s) i 123 125 true W P I false tabs (-1) n) r := by
  induction d with
  | zero => intro i h0 h1 _ h; obtain rfl : i = c := by omega
            exact h
  | succ d ih =>
    intro i h0 h1 hsk h
    exact ol_blank s hs buf W P I tabs n i h0 (by omega) r (hsk i (by omega) (by omega)) (ih (i + 1) (by omega) (by omega) (fun j q1 q2 => hsk j (by omega) q2) h)
theorem ol_close (s : ByteArray) (hs : s.size ≤ 2147483647) (buf : List Int) (W : Int) (P I : ByteArray) (t : Nat) (ht : t ≤ 1000000) (n i : Int) (h0 : 0 ≤ i) (h1 : i < s.size) (hc : bt s i = 125) (hP : P.size ≤ 1000) (hI : I.size ≤ 1000) (hT : (tabsL P I t).length ≤ 10000000) (hb : buf.length ≤ 99000000000000) (hn : 0 < n) {q : Int} (hla : LastIs buf q) (hq : q ≠ 32) :
    Ev (fun k => pObA.l0 k buf (bytesOf s) i 123 125 true W P I false t (-1) n) (buf ++ [10] ++ tabsL P I t ++ [125], i + 1, (buf.length : Int), (123 : Int) != 123) := by
  have hl := blen s
  have hr := hla.rd
  have hpos := hla.pos
  have hr2 := (LastIs.one buf 10).rd
  have hlen : ((buf ++ [10]).length : Int) = buf.length + 1 := by simp
  have hT2 := tabs_ev P I hP hI (buf ++ [10]) t ht (by simp; omega)
  have e3 : wrap64 (((buf ++ [10]).length : Int) - 1) = ((buf ++ [10]).length : Int) - 1 := w64 (by omega) (by omega)
  refine Ev.step (f := fun k => (pTb.f k (buf ++ [10]) P I t).bind fun x => if x.length < 140737488355328 then some (x ++ [125], i + 1, (buf.length : Int), (123 : Int) != 123) else none) (fun k => ?_) (Ev.bind hT2 ?_)
  · rw [pObA.l0, if_neg (by simp), if_pos rfl, if_pos rfl, if_pos rfl, if_pos (by omega), if_pos h0, rd_bytesOf, if_neg (by omega), if_pos hc, if_pos hn, w64 (x := (buf.length : Int) - 1) (by omega) (by omega), if_pos (by omega), if_pos (by omega), hr, if_neg hq, if_pos (by omega)]
    simp only [Option.bind_some]
    rw [e3, if_pos (by omega), if_pos (by omega), hr2, if_neg (by omega), w64 (x := i + 1) (by omega) (by omega)]
  · refine Ev.congr (f := fun _ => some _) (fun k => ?_) (Ev.now _)
    rw [if_pos (by simp only [List.length_append, List.length_cons, List.length_nil]; omega)]
/-- The member, on a line of its own. -/
theorem ol_member (s : ByteArray) (hs : s.size ≤ 2147483647) (buf : List Int) (W : Int) (P I : ByteArray) (i : Int) (r : List Int × Int × Int × Bool) (t : Nat) (ht : t < 1000000) (hP : P.size ≤ 1000) (hI : I.size ≤ 1000)
    (hT : (tabsL P I (t + 1)).length ≤ 10000000) (hb : buf.length ≤ 90000000000000) {d : Int} (hstr : Str s i d) {q : Int} (hla : LastIs buf q) (hq : q ≠ 32)
    {buf3 : List Int} {b nl2 : Int} {ok : Bool} (hb0 : 0 ≤ b) (hb1 : b ≤ s.size)
    (hv : Ev (fun k => pAn.f k (buf ++ [10] ++ tabsL P I (t + 1) ++ sub s i d ++ [58, 32]) (bytesOf s) d true W P I false ((t : Int) + 1) (buf.length : Int) (-1)) (buf3, b, nl2, ok))
    (hr : Ev (fun k => pObA.l0 k buf3 (bytesOf s) b 123 125 true W P I false t (-1) 1) r) :
    Ev (fun k => pObA.l0 k buf (bytesOf s) i 123 125 true W P I false t (-1) 0) r := by
  have hl := blen s
  have hsb := str_bound hstr
  have hq34 := hstr.2.2.1
  have hrd := hla.rd
  have hpos := hla.pos
  have hbl : (buf ++ [10]).length ≤ 100000000000000 := by simp; omega
  have T := tabs_ev P I hP hI (buf ++ [10]) (t + 1) (by omega) hbl
  have hsl := sub_len s i d hsb.1 (by omega) hsb.2.2.1
  have S := str_ev s hs (buf ++ [10] ++ tabsL P I (t + 1)) (by simp only [List.length_append, List.length_cons, List.length_nil]; omega) (buf.length : Int) hstr
  have e1 : wrap64 (wrap64 (b - 1) + 1) = b := by rw [w64 (x := b - 1) (by omega) (by omega), w64 (x := b - 1 + 1) (by omega) (by omega)]; omega
  have e2 : wrap64 (0 + 1) = 1 := w64 (by omega) (by omega)
  have e3 : wrap64 ((t : Int) + 1) = (t : Int) + 1 := w64 (by omega) (by omega)
  have e4 : wrap64 ((buf.length : Int) - 1) = (buf.length : Int) - 1 := w64 (by omega) (by omega)
  refine Ev.step (f := fun k => (pTb.f k (buf ++ [10]) P I ((t + 1 : Nat) : Int)).bind fun x => (pSt.f k x (bytesOf s) i (buf.length : Int)).bind fun y => if y.1.length < 140737488355328 then ((some (y.1 ++ [58] : List Int)).bind fun z => if z.length < 140737488355328 then ((pAn.f k (z ++ [32]) (bytesOf s) y.2.1 true W P I false ((t : Int) + 1) y.2.2.1 (-1)).bind fun u => pObA.l0 k u.1 (bytesOf s) (wrap64 ((wrap64 (u.2.1 - 1)) + 1)) 123 125 true W P I false t (-1) 1) else none) else none) (fun k => ?_) (Ev.bind T (Ev.bind S ?_))
  · rw [pObA.l0, if_neg (by simp), if_pos rfl, if_pos rfl, if_pos rfl, if_pos (by omega), if_pos (by omega), rd_bytesOf, if_neg (by omega), if_neg (by omega), if_neg (by omega), if_pos hq34, if_neg (by omega), e4, if_pos (by omega), if_pos (by omega), hrd, if_neg hq, if_pos (by omega), e3, e2]
    rfl
  · refine Ev.congr (fun k => ?_) (Ev.bind (f := fun k (u : List Int × Int × Int × Bool) => pObA.l0 k u.1 (bytesOf s) (wrap64 ((wrap64 (u.2.1 - 1)) + 1)) 123 125 true W P I false t (-1) 1) hv (by simp only [e1]; exact hr))
    rw [if_pos (by simp only [List.length_append, List.length_cons, List.length_nil]; omega)]
    simp only [Option.bind_some]
    rw [if_pos (by simp only [List.length_append, List.length_cons, List.length_nil]; omega)]
    simp only [List.append_assoc, List.cons_append, List.nil_append]

end Go.Proofs.Ytnilbkfhfnofgaa.PFnPrWidthMember
