/- Plain lemmas for this claim: what the Lean functions of the contracts compute, over numbers and lists. -/
import Derived.Test.YtapgjhgjhcfmoaaPFnPrDefaultLaidq1
namespace Go.Proofs.Ytapgjhgjhcfmoaa.PFnPrDefaultLaid
open Go.RowKit Go.Proofs.YtapgjhgjhcfmoaaW.PrintWords Go.Proofs.YtapgjhgjhcfmoaaW.PrintLast Go.Proofs.YtapgjhgjhcfmoaaW.PrintMore
set_option linter.unusedVariables false
set_option linter.unusedSimpArgs false
/-! ### the two texts are one -/
inductive NA : S25 → Prop
  | mk {p : S25} (h : ¬ (p.f0 = 5 ∧ p.f4 ≠ [])) (hk : ∀ q, q ∈ p.f4 → NA q) : NA p
theorem NA.arr {p : S25} (h : NA p) : ¬ (p.f0 = 5 ∧ p.f4 ≠ []) := by cases h with | mk h hk => exact h
theorem NA.kids {p : S25} (h : NA p) : ∀ q, q ∈ p.f4 → NA q := by cases h with | mk h hk => exact hk
theorem blk_le {s : ByteArray} {a b : Int} (h : Blanks s a b) : ∀ j, a ≤ j → j < b → bt s j ≤ 32 := by
  intro j q1 q2
  have := h.2.2.2 j q1 q2
  unfold IsBlk at this; omega
theorem fol_of {s : ByteArray} {g h : Int} (hg : Blanks s g h) (h2 : h < s.size) (hh : bt s h = 44 ∨ bt s h = 93 ∨ bt s h = 125) : Fol s g := by
  by_cases e : g = h
  · subst e; exact .inr ⟨h2, by omega⟩
  · have := hg.2.1
    exact .inr ⟨by omega, .inl (blk_le hg g (by omega) (by omega))⟩
theorem word_bound {s w : ByteArray} {a b : Int} (h : Word s a b w) (hw : 0 < w.size) : 0 ≤ a ∧ a < b ∧ b ≤ s.size := ⟨h.1, by have := h.2.1; omega, h.2.2.1⟩
theorem els_ne {s : ByteArray} {c b : Int} {ks : List S25} (h : Els s c b ks) : ks ≠ [] := by cases h <;> simp
theorem mems_ne {s : ByteArray} {c b : Int} {ns : List S41} {ks : List S25} (h : Mems s c b ns ks) : ks ≠ [] := by cases h <;> simp
mutual
theorem val_bound {s : ByteArray} : ∀ {a b : Int} {p : S25}, Val s a b p → 0 ≤ a ∧ a < b ∧ b ≤ s.size ∧ p.f1 = a ∧ p.f2 = b
  | _, _, _, .null h => by have := word_bound h (by decide); exact ⟨this.1, this.2.1, this.2.2, rfl, rfl⟩
  | _, _, _, .false h => by have := word_bound h (by decide); exact ⟨this.1, this.2.1, this.2.2, rfl, rfl⟩
  | _, _, _, .true h => by have := word_bound h (by decide); exact ⟨this.1, this.2.1, this.2.2, rfl, rfl⟩
  | _, _, _, .num h0 h1 c h => by have := num_inner h; exact ⟨this.1, this.2.1, this.2.2.1, rfl, rfl⟩
  | _, _, _, .str h => by have := str_bound h; exact ⟨this.1, by omega, this.2.2.1, rfl, rfl⟩
  | _, _, _, .arr0 h0 h1 ha hb h2 hc => by have := hb.2.1; exact ⟨h0, by omega, by omega, rfl, rfl⟩
  | _, _, _, .arr h0 h1 ha hb h => by have := els_bound h; have := hb.2.1; exact ⟨h0, by omega, by omega, rfl, rfl⟩
  | _, _, _, .obj0 h0 h1 ha hb h2 hc => by have := hb.2.1; exact ⟨h0, by omega, by omega, rfl, rfl⟩
  | _, _, _, .obj h0 h1 ha hb h => by have := mems_bound h; have := hb.2.1; exact ⟨h0, by omega, by omega, rfl, rfl⟩
theorem els_bound {s : ByteArray} : ∀ {c b : Int} {ks : List S25}, Els s c b ks → 0 ≤ c ∧ c < b ∧ b ≤ s.size
  | _, _, _, .last h hb h1 hc => by have := val_bound h; have := hb.2.1; exact ⟨by omega, by omega, by omega⟩
  | _, _, _, .more h hb h1 hc hf r => by have := val_bound h; have := hb.2.1; have := hf.2.1; have := els_bound r; exact ⟨by omega, by omega, by omega⟩
theorem mems_bound {s : ByteArray} : ∀ {c b : Int} {ns : List S41} {ks : List S25}, Mems s c b ns ks → 0 ≤ c ∧ c < b ∧ b ≤ s.size
  | _, _, _, _, .last hn hb h1 hc hf hv hg h2 hh => by have := str_bound hn; have := hb.2.1; have := hf.2.1; have := val_bound hv; have := hg.2.1; exact ⟨by omega, by omega, by omega⟩
  | _, _, _, _, .more hn hb h1 hc hf hv hg h2 hh hi r => by have := str_bound hn; have := hb.2.1; have := hf.2.1; have := val_bound hv; have := hg.2.1; have := hi.2.1; have := mems_bound r; exact ⟨by omega, by omega, by omega⟩
end
/-- What is written for a value, by both: out. -/
def Both (s : ByteArray) (W : Int) (P I : ByteArray) (a b : Int) (p : S25) (t : Nat) (ahead : ByteArray) (out : List Int) : Prop :=
  (out.length : Int) ≤ (b - a) * 30000 ∧ (∃ q, LastIs out q ∧ q ≠ 32) ∧
  (∀ pre : List Int, (pre.length : Int) + (b - a) * 30000 ≤ 10000000000000 → Ev (fun k => spec_laidTo.f k pre s p.f0 p.f1 p.f2 p.f3 p.f4 ahead I false) (pre ++ out)) ∧
  (∀ (buf : List Int) (nl : Int), (buf.length : Int) + (b - a) * 30000 ≤ 10000000000000 → ∃ nl' ok, Ev (fun k => pretty_appendPrettyAny.l0 k buf (bytesOf s) a true W P I false t nl (-1)) (buf ++ out, b, nl', ok))
def BothM (s : ByteArray) (W : Int) (P I : ByteArray) (c b : Int) (ns0 : List S41) (ks0 : List S25) (j : Nat) (t : Nat) (ahead : ByteArray) (out : List Int) : Prop :=
  (out.length : Int) ≤ (b - c) * 30000 ∧ LastIs out 125 ∧
  (∀ (pre : List Int) (x y : Int), (pre.length : Int) + (b - c) * 30000 ≤ 10000000000000 → Ev (fun k => spec_laidTo.l0 k pre s ahead I false 125 (ks0.length : Int) j 6 x y ns0 ks0) (pre ++ out)) ∧
  (∀ (buf : List Int) (nl : Int) (q : Int), LastIs buf q → q ≠ 32 → (buf.length : Int) + (b - c) * 30000 ≤ 10000000000000 → ∃ nl' ok, Ev (fun k => pretty_appendPrettyObjectA.l0 k buf (bytesOf s) c 123 125 true W P I false t nl (-1) j) (buf ++ out, b, nl', ok))
theorem both_leaf (s : ByteArray) (hs : s.size ≤ 2147483647) (W : Int) (P I : ByteArray) (a b : Int) (kind : Int) (ns : List S41) (hk : kind ≠ 5) (hk6 : kind ≠ 6) (h0 : 0 ≤ a) (h1 : a < b) (h2 : b ≤ s.size) (t : Nat) (ahead : ByteArray) (hq : bt s (b - 1) ≠ 32)
    (hv : ∀ (buf : List Int) (nl : Int), buf.length ≤ 100000000000000 → Ev (fun k => pretty_appendPrettyAny.l0 k buf (bytesOf s) a true W P I false t nl (-1)) (buf ++ sub s a b, b, nl, true)) :
    Both s W P I a b ⟨kind, a, b, ns, []⟩ t ahead (sub s a b) := by
  have hl := sub_len s a b h0 (by omega) h2
  refine ⟨by omega, ⟨_, sub_last s a b h0 h1 h2, hq⟩, fun pre hp => ?_, fun buf nl hb => ⟨nl, true, hv buf nl (by omega)⟩⟩
  exact laid_bare s pre kind a b ns ahead I false (bare_leaf s pre (by omega) hs kind a b ns hk hk6 h0 (by omega) h2)
theorem word_last {s w : ByteArray} {a b : Int} (h : Word s a b w) (hw : 0 < w.size) (c : Int) (hc : LastIs (bytesOf w) c) : bt s (b - 1) = c := by
  have hb := word_bound h hw
  have e := (sub_last s a b hb.1 hb.2.1 hb.2.2).rd
  have e2 := hc.rd
  have : sub s a b = bytesOf w := by unfold sub; rw [h.2.2.2]
  rw [this] at e
  rw [← e, e2]
section
variable (s : ByteArray) (hs : s.size ≤ 2147483647) (W : Int) (hW : 0 ≤ W) (P I : ByteArray) (hP : P.size ≤ 1000) (hI : I.size ≤ 1000)
/-- One member in front of what follows (rest): by both. -/
theorem both_member (T0 : Int) {c d e f g h b : Int} {p : S25} (ns0 : List S41) (ks0 : List S25) (j : Nat) (t : Nat) (ahead : ByteArray) (hs : s.size ≤ 2147483647) (hW : 0 ≤ W) (hP : P.size ≤ 1000) (hI : I.size ≤ 1000)
    (ha : bytesOf ahead = tabsL P I t) (hT : (tabsL P I (t + 1)).length ≤ 22000) (ht : t < 100000) (hj : j ≤ 2147483646)
    (hn : Str s c d) (hb : Blanks s d e) (h1 : e < s.size) (hc : bt s e = 58) (hf : Blanks s (e + 1) f) (hv : Val s f g p) (hg : Blanks s g h) (h2 : h < s.size) (hgb : g < b) (hbs : b ≤ s.size)
    (hnj : rd_T41 ns0 j = ⟨c, d⟩) (hpj : rd_T25 ks0 j = p) (hjn : (j : Int) < ns0.length) (hjk : (j : Int) < ks0.length) {o1 rest : List Int}
    (hb1 : Both s W P I f g p (t + 1) (ahead ++ I) o1)
    (hrl : (rest.length : Int) ≤ (b - g) * 30000)
    (hlast : LastIs rest 125)
    (hrest : ∀ (pre : List Int) (x y : Int), (pre.length : Int) + (b - g) * 30000 ≤ 10000000000000 → Ev (fun k => spec_laidTo.l0 k pre s ahead I false 125 (ks0.length : Int) ((j : Int) + 1) 6 x y ns0 ks0) (pre ++ rest))
    (hrest2 : ∀ (buf : List Int) (nl : Int) (q : Int), LastIs buf q → q ≠ 32 → (buf.length : Int) + (b - g) * 30000 ≤ 10000000000000 → ∃ nl' ok, Ev (fun k => pretty_appendPrettyObjectA.l0 k buf (bytesOf s) g 123 125 true W P I false t nl (-1) ((j : Int) + 1)) (buf ++ rest, b, nl', ok)) :
    BothM s W P I c b ns0 ks0 j t ahead (comma j ++ [10] ++ tabsL P I (t + 1) ++ sub s c d ++ [58, 32] ++ o1 ++ rest) := by
  have s1 := str_bound hn
  have s2 := hb.2.1
  have s3 := hf.2.1
  have s4 := val_bound hv
  have s5 := hg.2.1
  have hsl := sub_len s c d s1.1 (by omega) s1.2.2.1
  have hcl := comma_len j
  have hal : ahead.size = (tabsL P I t).length := by rw [← ha, bytesOf_length]
  have hts : (tabsL P I (t + 1)).length = (tabsL P I t).length + I.size := by rw [tabs_succ, List.length_append, bytesOf_length]
  obtain ⟨b1, ⟨q1, b2, b3⟩, b4, b5⟩ := hb1
  have hlen : ((comma j ++ [10] ++ tabsL P I (t + 1) ++ sub s c d ++ [58, 32]).length : Int) ≤ 22004 + (d - c) := by
    simp only [List.length_append, List.length_cons, List.length_nil]; omega
  refine ⟨?_, LastIs.app _ hlast, fun pre x y hp => ?_, fun buf nl q hla hq hbl => ?_⟩
  · rw [List.length_append, List.length_append]; push_cast; omega
  · have hpl : ((pre ++ comma j ++ [10] ++ tabsL P I (t + 1) ++ sub s c d ++ [58, 32]).length : Int) ≤ pre.length + 22004 + (d - c) := by
      simp only [List.length_append, List.length_cons, List.length_nil] at hlen ⊢; omega
    have L := b4 (pre ++ comma j ++ [10] ++ tabsL P I (t + 1) ++ sub s c d ++ [58, 32]) (by omega)
    have R := hrest (pre ++ comma j ++ [10] ++ tabsL P I (t + 1) ++ sub s c d ++ [58, 32] ++ o1) x y (by rw [List.length_append]; push_cast; omega)
    have key := laid_member s hs pre (by omega) x y ns0 ks0 ahead I (by omega) hI 125 (j : Int) (by omega) hjn hjk (by omega) hnj hpj s1.1 (by omega) s1.2.2.1
      (x := pre ++ comma j ++ [10] ++ tabsL P I (t + 1) ++ sub s c d ++ [58, 32] ++ o1) (r := pre ++ comma j ++ [10] ++ tabsL P I (t + 1) ++ sub s c d ++ [58, 32] ++ o1 ++ rest)
      (by rw [ha, show pre ++ comma ↑j ++ [10] ++ tabsL P I t ++ bytesOf I = pre ++ comma ↑j ++ [10] ++ tabsL P I (t + 1) by rw [tabs_succ]; simp only [List.append_assoc]]; exact L) R
    simpa only [List.append_assoc] using key
  · have hpl : ((buf ++ comma j ++ [10] ++ tabsL P I (t + 1) ++ sub s c d ++ [58, 32]).length : Int) ≤ buf.length + 22004 + (d - c) := by
      simp only [List.length_append, List.length_cons, List.length_nil] at hlen ⊢; omega
    obtain ⟨nl1, ok1, A⟩ := b5 (buf ++ comma j ++ [10] ++ tabsL P I (t + 1) ++ sub s c d ++ [58, 32]) ((buf ++ comma j).length : Int) (by omega)
    obtain ⟨nl2, ok2, R⟩ := hrest2 (buf ++ comma j ++ [10] ++ tabsL P I (t + 1) ++ sub s c d ++ [58, 32] ++ o1) nl1 q1 (LastIs.app _ b2) b3 (by rw [List.length_append]; push_cast; omega)
    have A2 := any_from s hs _ true W P I ((t + 1 : Nat) : Int) ((buf ++ comma j).length : Int) (-1) _ d f (by omega) (by omega) (by omega) (fun z q1 q2 => by
      by_cases c1 : z < e
      · exact .inl (blk_le hb z q1 c1)
      · by_cases c2 : z = e
        · subst c2; omega
        · exact .inl (blk_le hf z (by omega) q2)) A
    have key := ol_member s hs buf W hW P I nl (j : Int) c _ t (by omega) hP hI (by omega) (by omega) (by omega) (by omega) hn hla hq (by omega) s4.2.2.1 A2 R
    exact ⟨nl2, ok2, by simpa only [List.append_assoc] using key⟩
end

mutual
theorem mems_len {s : ByteArray} : ∀ {c b : Int} {ns : List S41} {ks : List S25}, Mems s c b ns ks → ns.length = ks.length ∧ (ks.length : Int) ≤ b - c
  | _, _, _, _, .last hn hb h1 hc hf hv hg h2 hh => by have := str_bound hn; have := hb.2.1; have := hf.2.1; have := val_bound hv; have := hg.2.1; exact ⟨rfl, by simp; omega⟩
  | _, _, _, _, .more hn hb h1 hc hf hv hg h2 hh hi r => by have := str_bound hn; have := hb.2.1; have := hf.2.1; have := val_bound hv; have := hg.2.1; have := hi.2.1; have := mems_len r; exact ⟨by simp; omega, by simp; omega⟩
end
theorem els_len {s : ByteArray} : ∀ {c b : Int} {ks : List S25}, Els s c b ks → (ks.length : Int) ≤ b - c
  | _, _, _, .last h hb h1 hc => by have := val_bound h; have := hb.2.1; simp; omega
  | _, _, _, .more h hb h1 hc hf r => by have := val_bound h; have := hb.2.1; have := hf.2.1; have := els_len r; simp; omega
/-! ### prArrays -/
def PaOk (p : S25) : Prop := ∃ bl, Ev (fun k => laws_prArrays.f k p.f0 p.f1 p.f2 p.f3 p.f4) bl ∧ (bl = false → NA p)
theorem pa_loop (kind a b : Int) (ns : List S41) (ks : List S25) (hl : ks.length ≤ 2147483647) (hall : ∀ q, q ∈ ks → PaOk q) (d : Nat) : ∀ (j : Nat) (x : Bool), j + d = ks.length →
    ∃ bl, Ev (fun k => laws_prArrays.l0 k x (ks.length : Int) j kind a b ns ks) bl ∧ (bl = false → x = false ∧ ∀ q, q ∈ ks.drop j → NA q) := by
  induction d with
  | zero =>
    intro j x hj
    refine ⟨x, Ev.step (f := fun _ => some _) (fun k => ?_) (Ev.now _), fun e => ⟨e, fun q hq => by rw [List.drop_eq_nil_of_le (by omega)] at hq; cases hq⟩⟩
    rw [laws_prArrays.l0, if_neg (by omega)]
  | succ d ih =>
    intro j x hj
    have hjl : j < ks.length := by omega
    have hdr := List.drop_eq_getElem_cons hjl
    have hrd : rd_T25 ks j = ks[j] := by unfold rd_T25; simp [List.getD_eq_getElem?_getD, List.getElem?_eq_getElem hjl]
    cases x with
    | true =>
      obtain ⟨bl, E, hb⟩ := ih (j + 1) true (by omega)
      refine ⟨bl, Ev.step (fun k => ?_) E, fun e => by have := (hb e).1; cases this⟩
      rw [laws_prArrays.l0, if_pos (by omega), if_pos rfl, w64 (by omega) (by omega)]; rfl
    | false =>
      obtain ⟨b1, E1, h1⟩ := hall ks[j] (List.getElem_mem hjl)
      obtain ⟨bl, E, hb⟩ := ih (j + 1) b1 (by omega)
      refine ⟨bl, Ev.step (f := fun k => (laws_prArrays.f k ks[j].f0 ks[j].f1 ks[j].f2 ks[j].f3 ks[j].f4).bind fun x => laws_prArrays.l0 k x (ks.length : Int) ((j + 1 : Nat) : Int) kind a b ns ks) (fun k => ?_) (Ev.bind E1 E), fun e => ⟨rfl, fun q hq => ?_⟩⟩
      · rw [laws_prArrays.l0, if_pos (by omega), if_neg (by simp), if_pos (by omega), if_pos (by omega), w64 (by omega) (by omega), hrd]; rfl
      · rw [hdr] at hq
        rcases List.mem_cons.mp hq with hq | hq
        · rw [hq]; exact h1 (hb e).1
        · exact (hb e).2 q hq
theorem pa_mk (p : S25) (hl : p.f4.length ≤ 2147483647) (hall : ∀ q, q ∈ p.f4 → PaOk q) : PaOk p := by
  obtain ⟨bl, E, hb⟩ := pa_loop p.f0 p.f1 p.f2 p.f3 p.f4 hl hall p.f4.length 0 (if p.f0 = 5 then decide ((p.f4.length : Int) > 0) else false) (by omega)
  refine ⟨bl, ?_, fun e => .mk ?_ ((hb e).2)⟩
  · refine Ev.step (f := fun k => laws_prArrays.j0 k (if p.f0 = 5 then decide ((p.f4.length : Int) > 0) else false) p.f0 p.f1 p.f2 p.f3 p.f4) (fun k => ?_) (Ev.step (fun k => ?_) E)
    · rw [laws_prArrays.f]
      by_cases c : p.f0 = 5
      · rw [if_pos c, if_pos c]
      · rw [if_neg c, if_neg c]
    · rw [laws_prArrays.j0]; rfl
  · rintro ⟨h5, hne⟩
    have := (hb e).1
    rw [if_pos h5] at this
    have h2 := of_decide_eq_false this
    exact hne (List.eq_nil_of_length_eq_zero (by omega))
mutual
theorem pa_val {s : ByteArray} (hs : s.size ≤ 2147483647) : ∀ {a b : Int} {p : S25}, Val s a b p → PaOk p
  | _, _, _, .null h => pa_mk _ (by simp) (fun q hq => by cases hq)
  | _, _, _, .false h => pa_mk _ (by simp) (fun q hq => by cases hq)
  | _, _, _, .true h => pa_mk _ (by simp) (fun q hq => by cases hq)
  | _, _, _, .num h0 h1 c h => pa_mk _ (by simp) (fun q hq => by cases hq)
  | _, _, _, .str h => pa_mk _ (by simp) (fun q hq => by cases hq)
  | _, _, _, .arr0 h0 h1 ha hb h2 hc => pa_mk _ (by simp) (fun q hq => by cases hq)
  | _, _, _, .arr h0 h1 ha hb h => pa_mk _ (by have := els_len h; have := els_bound h; have := hb.2.1; dsimp only; omega) (pa_els hs h)
  | _, _, _, .obj0 h0 h1 ha hb h2 hc => pa_mk _ (by simp) (fun q hq => by cases hq)
  | _, _, _, .obj h0 h1 ha hb h => pa_mk _ (by have := mems_len h; have := mems_bound h; have := hb.2.1; dsimp only; omega) (pa_mems hs h)
theorem pa_els {s : ByteArray} (hs : s.size ≤ 2147483647) : ∀ {c b : Int} {ks : List S25}, Els s c b ks → ∀ q, q ∈ ks → PaOk q
  | _, _, _, .last h hb h1 hc, q, hq => by have e : q = _ := List.mem_singleton.mp hq; rw [e]; exact pa_val hs h
  | _, _, _, .more h hb h1 hc hf r, q, hq => by
    rcases List.mem_cons.mp hq with e | hq
    · rw [e]; exact pa_val hs h
    · exact pa_els hs r q hq
theorem pa_mems {s : ByteArray} (hs : s.size ≤ 2147483647) : ∀ {c b : Int} {ns : List S41} {ks : List S25}, Mems s c b ns ks → ∀ q, q ∈ ks → PaOk q
  | _, _, _, _, .last hn hb h1 hc hf hv hg h2 hh, q, hq => by have e : q = _ := List.mem_singleton.mp hq; rw [e]; exact pa_val hs hv
  | _, _, _, _, .more hn hb h1 hc hf hv hg h2 hh hi r, q, hq => by
    rcases List.mem_cons.mp hq with e | hq
    · rw [e]; exact pa_val hs hv
    · exact pa_mems hs r q hq
end

theorem drop_cons {α : Type} {l : List α} {j : Nat} {x : α} {r : List α} (z : α) (h : l.drop j = x :: r) : l.getD j z = x ∧ j < l.length ∧ l.drop (j + 1) = r := by
  have hj : j < l.length := by
    rcases Nat.lt_or_ge j l.length with h1 | h1
    · exact h1
    · rw [List.drop_eq_nil_of_le h1] at h; cases h
  have e := List.drop_eq_getElem_cons hj
  rw [h] at e
  injection e with e1 e2
  exact ⟨by rw [List.getD_eq_getElem?_getD, List.getElem?_eq_getElem hj]; exact e1.symm, hj, e2.symm⟩
mutual
theorem both_val {s : ByteArray} (hs : s.size ≤ 2147483647) {W : Int} (hW : 0 ≤ W) {P I : ByteArray} (hP : P.size = 0) (hI : I.size = 2) : ∀ {a b : Int} {p : S25}, Val s a b p → NA p → Fol s b → ∀ (t : Nat) (ahead : ByteArray), bytesOf ahead = tabsL P I t → 2 * (t : Int) + 2 * (b - a) ≤ 20000 → ∃ out, Both s W P I a b p t ahead out
  | _, _, _, .null (a := a) (b := b) h, _, _, t, ahead, _, _ => by
    have hb := word_bound h (by decide)
    exact ⟨_, both_leaf s hs W P I a b 0 [] (by omega) (by omega) hb.1 hb.2.1 hb.2.2 t ahead (by rw [word_last h (by decide) 108 ⟨[110, 117, 108], by decide⟩]; omega)
      (fun buf nl hbuf => any_word s hs buf true W P I t nl (-1) a hb.1 (by omega) hbuf (.inl rfl) h)⟩
  | _, _, _, .false (a := a) (b := b) h, _, _, t, ahead, _, _ => by
    have hb := word_bound h (by decide)
    exact ⟨_, both_leaf s hs W P I a b 1 [] (by omega) (by omega) hb.1 hb.2.1 hb.2.2 t ahead (by rw [word_last h (by decide) 101 ⟨[102, 97, 108, 115], by decide⟩]; omega)
      (fun buf nl hbuf => any_word s hs buf true W P I t nl (-1) a hb.1 (by omega) hbuf (.inr (.inl rfl)) h)⟩
  | _, _, _, .true (a := a) (b := b) h, _, _, t, ahead, _, _ => by
    have hb := word_bound h (by decide)
    exact ⟨_, both_leaf s hs W P I a b 2 [] (by omega) (by omega) hb.1 hb.2.1 hb.2.2 t ahead (by rw [word_last h (by decide) 101 ⟨[116, 114, 117], by decide⟩]; omega)
      (fun buf nl hbuf => any_word s hs buf true W P I t nl (-1) a hb.1 (by omega) hbuf (.inr (.inr rfl)) h)⟩
  | _, _, _, .num (a := a) (b := b) h0 h1 c h, _, hf, t, ahead, _, _ => by
    have hb := num_inner h
    have hin := hb.2.2.2 (b - 1) (by omega) (by omega)
    exact ⟨_, both_leaf s hs W P I a b 3 [] (by omega) (by omega) hb.1 hb.2.1 hb.2.2.1 t ahead (by unfold Inner at hin; omega)
      (fun buf nl hbuf => any_num s hs buf true W P I t nl (-1) a hb.1 (by omega) hbuf c h hf)⟩
  | _, _, _, .str (a := a) (b := b) h, _, _, t, ahead, _, _ => by
    have hb := str_bound h
    exact ⟨_, both_leaf s hs W P I a b 4 [] (by omega) (by omega) hb.1 (by omega) hb.2.2.1 t ahead (by omega)
      (fun buf nl hbuf => any_str s hs buf true W P I t nl (-1) a hb.1 (by omega) hbuf h)⟩
  | _, _, _, .arr0 (a := a) (c := c) h0 h1 ha hb h2 hc, _, _, t, ahead, _, hd => by
    have r1 := hb.2.1
    refine ⟨[91, 93], by simp; omega, ⟨93, ⟨[91], rfl⟩, by omega⟩, fun pre hp => laid_bare s pre 5 a (c + 1) [] ahead I false (by simpa using bare_empty s pre (by omega) 5 a (c + 1) [] (.inl rfl)), fun buf nl hbuf => ⟨nl, true, ?_⟩⟩
    exact any_arr s hs buf true W P I t nl (-1) a h0 h1 _ ha (arr0_ev s hs buf W P I t nl a c h0 (by omega) hb h2 hc)
  | _, _, _, .arr h0 h1 ha hb h, hna, _, _, _, _, _ => absurd ⟨rfl, els_ne h⟩ hna.arr
  | _, _, _, .obj0 (a := a) (c := c) h0 h1 ha hb h2 hc, _, _, t, ahead, _, hd => by
    have r1 := hb.2.1
    refine ⟨[123, 125], by simp; omega, ⟨125, ⟨[123], rfl⟩, by omega⟩, fun pre hp => laid_bare s pre 6 a (c + 1) [] ahead I false (by simpa using bare_empty s pre (by omega) 6 a (c + 1) [] (.inr rfl)), fun buf nl hbuf => ⟨nl, false, ?_⟩⟩
    refine any_obj s hs buf true W P I t nl (-1) a h0 h1 _ ha (obj_enter s hs buf W P I t nl a h0 h1 _ (by omega) ?_)
    refine ol_from s hs (buf ++ [123]) W P I t nl 0 _ (a + 1) c (by omega) r1 (by omega) (fun j q1 q2 => .inl (blk_le hb j q1 q2)) ?_
    rw [show buf ++ [123, 125] = buf ++ [123] ++ [125] by simp]
    exact ol_close0 s hs (buf ++ [123]) W P I t nl 0 c (by omega) h2 (by omega) hc (by simp; omega) rfl (LastIs.one _ _)
  | _, _, _, .obj (a := a) (b := b) (c := c) (ns := ns) (ks := ks) h0 h1 ha hb h, hna, _, t, ahead, he, hd => by
    have r1 := hb.2.1
    have r2 := mems_bound h
    obtain ⟨o, o1, o2, o3, o4⟩ := both_mems hs hW hP hI h hna.kids ns ks 0 rfl rfl (mems_len h).1 (by omega) t ahead he (by omega)
    refine ⟨123 :: o, by simp; omega, ⟨125, LastIs.app [123] o2, by omega⟩, fun pre hp => ?_, fun buf nl hbuf => ?_⟩
    · refine laid_enter s pre (by omega) 6 a b ns ks ahead I (.inr rfl) (mems_ne h) ?_
      have := o3 (pre ++ [123]) a b (by simp; omega)
      simpa using this
    · obtain ⟨nl', ok, E⟩ := o4 (buf ++ [123]) nl 123 (LastIs.one _ _) (by omega) (by simp; omega)
      refine ⟨nl', ok, any_obj s hs buf true W P I t nl (-1) a h0 h1 _ ha (obj_enter s hs buf W P I t nl a h0 h1 _ (by omega) ?_)⟩
      refine ol_from s hs (buf ++ [123]) W P I t nl 0 _ (a + 1) c (by omega) r1 (by omega) (fun j q1 q2 => .inl (blk_le hb j q1 q2)) ?_
      simpa using E
theorem both_mems {s : ByteArray} (hs : s.size ≤ 2147483647) {W : Int} (hW : 0 ≤ W) {P I : ByteArray} (hP : P.size = 0) (hI : I.size = 2) : ∀ {c b : Int} {ns : List S41} {ks : List S25}, Mems s c b ns ks → (∀ q, q ∈ ks → NA q) → ∀ (ns0 : List S41) (ks0 : List S25) (j : Nat), ns0.drop j = ns → ks0.drop j = ks → ns0.length = ks0.length → (j : Int) + (b - c) ≤ 2147483647 → ∀ (t : Nat) (ahead : ByteArray), bytesOf ahead = tabsL P I t → 2 * (t : Int) + 2 * (b - c) ≤ 19998 → ∃ out, BothM s W P I c b ns0 ks0 j t ahead out
  | _, _, _, _, .last (c := c) (d := d) (e := e) (f := f) (g := g) (h := h) (p := p) hn hb h1 hc hf hv hg h2 hh, hna, ns0, ks0, j, e1, e2, hlen, hj, t, ahead, ha, hd => by
    have s1 := str_bound hn
    have s2 := hb.2.1
    have s3 := hf.2.1
    have s4 := val_bound hv
    have s5 := hg.2.1
    obtain ⟨n1, n2, n3⟩ := drop_cons z41 e1
    obtain ⟨k1, k2, k3⟩ := drop_cons z25 e2
    have hkl : ks0.length = j + 1 := by
      have := congrArg List.length k3
      simp at this; omega
    have hal : bytesOf (ahead ++ I) = tabsL P I (t + 1) := by rw [tabs_succ, ← ha]; simp [bytesOf]
    have htl := tabs_len P I t
    have htl1 := tabs_len P I (t + 1)
    rw [hI] at htl htl1
    have hab : ahead.size = (tabsL P I t).length := by rw [← ha, bytesOf_length]
    obtain ⟨o1, b1⟩ := both_val hs hW hP hI hv (hna _ (by simp)) (fol_of hg h2 (by omega)) (t + 1) (ahead ++ I) hal (by omega)
    refine ⟨_, both_member s W P I 0 ns0 ks0 j t ahead hs hW (by omega) (by omega) ha (by omega) (by omega) (by omega) hn hb h1 hc hf hv hg h2 (b := h + 1) (by omega) (by omega) (by unfold rd_T41; simpa using n1) (by unfold rd_T25; simpa using k1) (by omega) (by omega) b1
      (rest := [10] ++ tabsL P I t ++ [125]) (by simp only [List.length_append, List.length_cons, List.length_nil]; omega) (LastIs.one _ _) (fun pre x y hp => ?_) (fun buf nl q hla hq hbl => ?_)⟩
    · have := laid_end s pre (by omega) 6 x y ns0 ks0 ahead I (by omega) false 125
      rw [show (j : Int) + 1 = (ks0.length : Int) by omega, ← ha]
      simpa only [List.append_assoc] using this
    · have key := ol_closeN s hs buf W P I t nl ((j : Int) + 1) h (by omega) h2 t rfl (by omega) (by omega) (by omega) (by omega) (by omega) hh (by omega) (by omega) hla hq
      have key2 := ol_from s hs buf W P I t nl _ _ g h (by omega) s5 (by omega) (fun z q1 q2 => .inl (blk_le hg z q1 q2)) key
      exact ⟨_, _, by simpa only [List.append_assoc] using key2⟩
  | _, _, _, _, .more (c := c) (d := d) (e := e) (f := f) (g := g) (h := h) (i := i) (b := b) (p := p) (ns := ns) (ks := ks) hn hb h1 hc hf hv hg h2 hh hi r, hna, ns0, ks0, j, e1, e2, hlen, hj, t, ahead, ha, hd => by
    have s1 := str_bound hn
    have s2 := hb.2.1
    have s3 := hf.2.1
    have s4 := val_bound hv
    have s5 := hg.2.1
    have s6 := hi.2.1
    have s7 := mems_bound r
    obtain ⟨n1, n2, n3⟩ := drop_cons z41 e1
    obtain ⟨k1, k2, k3⟩ := drop_cons z25 e2
    have hal : bytesOf (ahead ++ I) = tabsL P I (t + 1) := by rw [tabs_succ, ← ha]; simp [bytesOf]
    have htl := tabs_len P I t
    have htl1 := tabs_len P I (t + 1)
    rw [hI] at htl htl1
    obtain ⟨o1, b1⟩ := both_val hs hW hP hI hv (hna _ (by simp)) (fol_of hg h2 (by omega)) (t + 1) (ahead ++ I) hal (by omega)
    obtain ⟨o, r1, r2, r3, r4⟩ := both_mems hs hW hP hI r (fun q hq => hna q (by simp [hq])) ns0 ks0 (j + 1) n3 k3 hlen (by push_cast; omega) t ahead ha (by omega)
    refine ⟨_, both_member s W P I 0 ns0 ks0 j t ahead hs hW (by omega) (by omega) ha (by omega) (by omega) (by omega) hn hb h1 hc hf hv hg h2 (b := b) (by omega) s7.2.2 (by unfold rd_T41; simpa using n1) (by unfold rd_T25; simpa using k1) (by omega) (by omega) b1
      (rest := o) (by omega) r2 (fun pre x y hp => r3 pre x y (by omega)) (fun buf nl q hla hq hbl => ?_)⟩
    obtain ⟨nl', ok, E⟩ := r4 buf nl q hla hq (by omega)
    refine ⟨nl', ok, ol_from s hs buf W P I t nl _ _ g i (by omega) (by omega) (by omega) (fun z q1 q2 => ?_) E⟩
    by_cases c1 : z < h
    · exact .inl (blk_le hg z q1 c1)
    · by_cases c2 : z = h
      · subst c2; exact .inr ⟨rfl, by omega, by omega, by omega⟩
      · exact .inl (blk_le hi z (by omega) q2)
end

end Go.Proofs.Ytapgjhgjhcfmoaa.PFnPrDefaultLaid
