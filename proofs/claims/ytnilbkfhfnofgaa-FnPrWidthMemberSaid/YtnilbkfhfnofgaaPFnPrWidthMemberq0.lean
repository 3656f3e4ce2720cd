/- Plain lemmas for this claim: strings, numbers, the reader of JSON texts, over numbers and lists. -/
import Derived.Test.YtnilbkfhfnofgaaPFnPrWidthMemberxhGram
import Derived.Test.YtnilbkfhfnofgaaPFnPrWidthMemberxhPlaces
import Derived.Test.YtnilbkfhfnofgaaPFnPrWidthMemberx4
import Derived.Test.YtnilbkfhfnofgaaPFnPrWidthMemberx10
import Derived.Test.YtnilbkfhfnofgaaPFnPrWidthMemberx11
import Derived.Test.YtnilbkfhfnofgaaPFnPrWidthMemberx12
namespace Go.Proofs.Ytnilbkfhfnofgaa.PFnPrWidthMember
open Go.RowKit Go.Proofs.YtnilbkfhfnofgaaW.PrintWords Go.Proofs.YtnilbkfhfnofgaaW.PrintLast Go.Proofs.YtnilbkfhfnofgaaW.PrintMore
set_option linter.unusedVariables false
set_option linter.unusedSimpArgs false
/-! ### sub-texts -/
def sub (s : ByteArray) (a b : Int) : List Int := bytesOf (s.extract a.toNat b.toNat)
theorem sub_eq (s : ByteArray) (a b : Int) : ((bytesOf s).take b.toNat).drop a.toNat = sub s a b := by
  unfold sub bytesOf
  rw [ByteArray.data_extract, Array.toList_extract, List.extract_eq_take_drop]
  rw [← List.map_take, ← List.map_drop, List.drop_take]
theorem sub_len (s : ByteArray) (a b : Int) (h0 : 0 ≤ a) (h1 : a ≤ b) (h2 : b ≤ s.size) : ((sub s a b).length : Int) = b - a := by
  unfold sub
  rw [bytesOf_length, ByteArray.size_extract]
  omega
theorem blen (s : ByteArray) : ((bytesOf s).length : Int) = s.size := by rw [bytesOf_length]
/-- the last element -/
def LastIs (l : List Int) (c : Int) : Prop := ∃ m, l = m ++ [c]
theorem LastIs.rd {l : List Int} {c : Int} (h : LastIs l c) : rd l ((l.length : Int) - 1) = c := by
  obtain ⟨m, rfl⟩ := h
  unfold Go.Proofs.YtnilbkfhfnofgaaW.PrintWords.rd
  have : (((m ++ [c]).length : Int) - 1).toNat = m.length := by simp
  rw [this]
  simp
theorem LastIs.pos {l : List Int} {c : Int} (h : LastIs l c) : 0 < l.length := by obtain ⟨m, rfl⟩ := h; simp
theorem LastIs.app (l : List Int) {m : List Int} {c : Int} (h : LastIs m c) : LastIs (l ++ m) c := by obtain ⟨n, rfl⟩ := h; exact ⟨l ++ n, by simp⟩
theorem LastIs.one (l : List Int) (c : Int) : LastIs (l ++ [c]) c := ⟨l, rfl⟩
theorem sub_snoc (s : ByteArray) (a b : Int) (h0 : 0 ≤ a) (h1 : a ≤ b) (h2 : b < s.size) : sub s a (b + 1) = sub s a b ++ [bt s b] := by
  rw [← sub_eq, ← sub_eq]
  have e : (b + 1).toNat = b.toNat + 1 := by omega
  have hl : b.toNat < (bytesOf s).length := by have := blen s; omega
  rw [e, List.take_succ_eq_append_getElem hl, List.drop_append_of_le_length (by rw [List.length_take]; omega)]
  congr 2
  rw [← rd_bytesOf]
  unfold Go.Proofs.YtnilbkfhfnofgaaW.PrintWords.rd
  simp [List.getD_eq_getElem?_getD, List.getElem?_eq_getElem hl]
theorem sub_last (s : ByteArray) (a b : Int) (h0 : 0 ≤ a) (h1 : a < b) (h2 : b ≤ s.size) : LastIs (sub s a b) (bt s (b - 1)) := by
  have := sub_snoc s a (b - 1) h0 (by omega) (by omega)
  rw [show b - 1 + 1 = b by omega] at this
  rw [this]; exact LastIs.one _ _
theorem sub_nil (s : ByteArray) (a : Int) : sub s a a = [] := by
  unfold sub
  apply List.eq_nil_of_length_eq_zero
  rw [bytesOf_length, ByteArray.size_extract]; omega

/-! ### appendPrettyString -/
inductive Run (s : ByteArray) (lo : Int) : Int → Nat → Prop
  | stop {i : Int} (h : ¬ (lo < i - 1 ∧ bt s (i - 1) = 92)) : Run s lo i 0
  | more {i : Int} {n : Nat} (h : lo < i - 1) (c : bt s (i - 1) = 92) (r : Run s lo (i - 1) n) : Run s lo i (n + 1)
theorem run_le {s : ByteArray} {lo i : Int} {n : Nat} (h : Run s lo i n) (hi : lo < i) : (n : Int) < i - lo := by
  induction h with
  | stop => omega
  | more h c r ih => have := ih h; omega

theorem str_l1 (s : ByteArray) (hs : s.size ≤ 2147483647) (buf : List Int) (hb : buf.length ≤ 100000000000000) (nl lo x2 : Int) (hlo : 0 ≤ lo) (hx : x2 < s.size) (r : List Int × Int × Int × Bool) {i : Int} {n : Nat} (h : Run s lo i n) :
    ∀ c : Int, 0 ≤ c → c + n ≤ 2147483647 → lo < i → i ≤ x2 →
      (((c + n) % 2 = 1 ∧ Ev (fun k => pSt.l0 k buf (bytesOf s) (x2 + 1) nl lo) r) ∨ ((c + n) % 2 = 0 ∧ r = (buf ++ sub s lo (x2 + 1), x2 + 1, nl, true))) →
      Ev (fun k => pSt.l1 k buf (bytesOf s) x2 nl lo c (i - 1)) r := by
  have hl := blen s
  have fin : ∀ c : Int, 0 ≤ c → c ≤ 2147483647 → lo ≤ x2 →
      ((c % 2 = 1 ∧ Ev (fun k => pSt.l0 k buf (bytesOf s) (x2 + 1) nl lo) r) ∨ (c % 2 = 0 ∧ r = (buf ++ sub s lo (x2 + 1), x2 + 1, nl, true))) →
      Ev (fun k => (if (Int.tmod c 2) = 1 then (pSt.l0 k buf (bytesOf s) (wrap64 (x2 + 1)) nl lo) else (if 0 ≤ lo then (if lo ≤ (wrap64 (x2 + 1)) then (if (wrap64 (x2 + 1)) ≤ ((bytesOf s).length : Int) then ((some (((bytesOf s).take ((wrap64 (x2 + 1)) : Int).toNat).drop (lo : Int).toNat : List Int)).bind fun y295 => (if buf.length + y295.length < 140737488355328 then (some ((buf ++ y295), wrap64 (x2 + 1), nl, true)) else (none))) else (none)) else (none)) else (none)))) r := by
    intro c h0 h1 h2 h
    rw [w64 (x := x2 + 1) (by omega) (by omega)]
    have ht : Int.tmod c 2 = c % 2 := Int.tmod_eq_emod_of_nonneg h0
    rw [ht]
    rcases h with ⟨hc, h⟩ | ⟨hc, rfl⟩
    · simp only [if_pos hc]; exact h
    · have hsl := sub_len s lo (x2 + 1) hlo (by omega) (by omega)
      refine Ev.congr (f := fun _ => some _) (fun k => ?_) (Ev.now _)
      rw [if_neg (by omega), if_pos hlo, if_pos (by omega), if_pos (by omega), sub_eq]
      simp only [Option.bind_some]
      rw [if_pos (by omega)]
  induction h with
  | stop h =>
    rename_i i
    intro c h0 h1 h2 h3 hr
    have hf := fin c h0 (by omega) (by omega) (by simpa using hr)
    refine Ev.step ?_ hf
    intro k
    rw [pSt.l1]
    by_cases g : i - 1 > lo
    · rw [if_pos g, if_pos (by omega), if_pos (by omega), rd_bytesOf, if_neg (fun e => h ⟨g, e⟩)]
    · rw [if_neg g]
  | more h c r ih =>
    rename_i i n
    intro c' h0 h1 h2 h3 hr
    have := ih (c' + 1) (by omega) (by omega) h (by omega) (by rw [show c' + 1 + (n : Int) = c' + ((n + 1 : Nat) : Int) by omega]; exact hr)
    refine Ev.step (f := fun k => pSt.l1 k buf (bytesOf s) x2 nl lo (c' + 1) (i - 1 - 1)) (fun k => ?_) this
    rw [pSt.l1, if_pos (by omega), if_pos (by omega), if_pos (by omega), rd_bytesOf, if_pos c, w64 (by omega) (by omega), w64 (by omega) (by omega)]

theorem str_skip (s : ByteArray) (hs : s.size ≤ 2147483647) (buf : List Int) (nl lo i : Int) (r : List Int × Int × Int × Bool) (h0 : 0 ≤ i) (h1 : i < s.size) (c : bt s i ≠ 34)
    (h : Ev (fun k => pSt.l0 k buf (bytesOf s) (i + 1) nl lo) r) : Ev (fun k => pSt.l0 k buf (bytesOf s) i nl lo) r := by
  have hl := blen s
  refine Ev.step (fun k => ?_) h
  rw [pSt.l0, if_pos (by omega), if_pos h0, rd_bytesOf, if_neg c, w64 (by omega) (by omega)]
theorem str_quote (s : ByteArray) (hs : s.size ≤ 2147483647) (buf : List Int) (nl lo i : Int) (r : List Int × Int × Int × Bool) (h0 : 0 ≤ i) (h1 : i < s.size) (c : bt s i = 34)
    (h : Ev (fun k => pSt.l1 k buf (bytesOf s) i nl lo 0 (i - 1)) r) : Ev (fun k => pSt.l0 k buf (bytesOf s) i nl lo) r := by
  have hl := blen s
  refine Ev.step (fun k => ?_) h
  rw [pSt.l0, if_pos (by omega), if_pos h0, rd_bytesOf, if_pos c, w64 (by omega) (by omega)]

theorem str_ins (s : ByteArray) (hs : s.size ≤ 2147483647) (buf : List Int) (hb : buf.length ≤ 100000000000000) (nl lo : Int) (hlo : 0 ≤ lo) {i b : Int} (h : Ins s i b) :
    lo < i → (∃ n, Run s lo i (2 * n)) → Ev (fun k => pSt.l0 k buf (bytesOf s) i nl lo) (buf ++ sub s lo b, b, nl, true) := by
  induction h with
  | close h0 h1 c =>
    rename_i i
    rintro hi ⟨n, hn⟩
    have := run_le hn hi
    exact str_quote s hs buf nl lo i _ h0 h1 c (str_l1 s hs buf hb nl lo i hlo h1 _ hn 0 (by omega) (by omega) hi (by omega) (.inr ⟨by omega, rfl⟩))
  | plain h0 h1 c1 c2 c3 r ih =>
    rename_i i b
    rintro hi ⟨n, hn⟩
    exact str_skip s hs buf nl lo i _ h0 h1 c1 (ih (by omega) ⟨0, .stop (by rw [show i + 1 - 1 = i by omega]; exact fun e => c3 e.2)⟩)
  | short h0 h1 c e r ih =>
    rename_i i b
    rintro hi ⟨n, hn⟩
    have hr1 : Run s lo (i + 1) (2 * n + 1) := .more (by omega) (by rw [show i + 1 - 1 = i by omega]; exact c) (by rw [show i + 1 - 1 = i by omega]; exact hn)
    have := run_le hr1 (by omega)
    refine str_skip s hs buf nl lo i _ h0 (by omega) (by omega) ?_
    by_cases q : bt s (i + 1) = 34
    · refine str_quote s hs buf nl lo (i + 1) _ (by omega) h1 q (str_l1 s hs buf hb nl lo (i + 1) hlo h1 _ hr1 0 (by omega) (by omega) (by omega) (by omega) (.inl ⟨by omega, ?_⟩))
      rw [show i + 1 + 1 = i + 2 by omega]
      exact ih (by omega) ⟨0, .stop (by rw [show i + 2 - 1 = i + 1 by omega]; omega)⟩
    · refine str_skip s hs buf nl lo (i + 1) _ (by omega) h1 q ?_
      rw [show i + 1 + 1 = i + 2 by omega]
      refine ih (by omega) ?_
      by_cases q2 : bt s (i + 1) = 92
      · exact ⟨n + 1, .more (by omega) (by rw [show i + 2 - 1 = i + 1 by omega]; exact q2) (by rw [show i + 2 - 1 = i + 1 by omega]; exact hr1)⟩
      · exact ⟨0, .stop (by rw [show i + 2 - 1 = i + 1 by omega]; exact fun e => q2 e.2)⟩
  | uni h0 h1 c u hx r ih =>
    rename_i i b
    rintro hi ⟨n, hn⟩
    have hh : ∀ j, 2 ≤ j → j < 6 → bt s (i + j) ≠ 34 ∧ bt s (i + j) ≠ 92 := by
      intro j a1 a2
      have := hx j a1 a2
      unfold IsHex at this
      omega
    have e2 := hh 2 (by omega) (by omega)
    have e3 := hh 3 (by omega) (by omega)
    have e4 := hh 4 (by omega) (by omega)
    have e5 := hh 5 (by omega) (by omega)
    refine str_skip s hs buf nl lo i _ h0 (by omega) (by omega) (str_skip s hs buf nl lo (i + 1) _ (by omega) (by omega) (by omega) ?_)
    rw [show i + 1 + 1 = i + 2 by omega]
    refine str_skip s hs buf nl lo (i + 2) _ (by omega) (by omega) e2.1 ?_
    rw [show i + 2 + 1 = i + 3 by omega]
    refine str_skip s hs buf nl lo (i + 3) _ (by omega) (by omega) e3.1 ?_
    rw [show i + 3 + 1 = i + 4 by omega]
    refine str_skip s hs buf nl lo (i + 4) _ (by omega) (by omega) e4.1 ?_
    rw [show i + 4 + 1 = i + 5 by omega]
    refine str_skip s hs buf nl lo (i + 5) _ (by omega) (by omega) e5.1 ?_
    rw [show i + 5 + 1 = i + 6 by omega]
    exact ih (by omega) ⟨0, .stop (by rw [show i + 6 - 1 = i + 5 by omega]; exact fun e => e5.2 e.2)⟩
theorem ins_bound {s : ByteArray} {i b : Int} (h : Ins s i b) : 0 ≤ i ∧ i < b ∧ b ≤ s.size ∧ bt s (b - 1) = 34 := by
  induction h with
  | close h0 h1 c => exact ⟨h0, by omega, by omega, by rw [show ∀ i : Int, i + 1 - 1 = i by intro i; omega]; exact c⟩
  | plain h0 h1 c1 c2 c3 r ih => exact ⟨h0, by omega, ih.2.2⟩
  | short h0 h1 c e r ih => exact ⟨h0, by omega, ih.2.2⟩
  | uni h0 h1 c u hx r ih => exact ⟨h0, by omega, ih.2.2⟩
theorem str_bound {s : ByteArray} {a b : Int} (h : Str s a b) : 0 ≤ a ∧ a + 1 < b ∧ b ≤ s.size ∧ bt s (b - 1) = 34 := by
  have := ins_bound h.2.2.2
  exact ⟨h.1, by omega, this.2.2⟩
theorem str_ev (s : ByteArray) (hs : s.size ≤ 2147483647) (buf : List Int) (hb : buf.length ≤ 100000000000000) (nl : Int) {a b : Int} (h : Str s a b) :
    Ev (fun k => pSt.f k buf (bytesOf s) a nl) (buf ++ sub s a b, b, nl, true) := by
  obtain ⟨h0, h1, c, hi⟩ := h
  refine Ev.congr (fun k => ?_) (str_ins s hs buf hb nl a h0 hi (by omega) ⟨0, .stop (by omega)⟩)
  rw [pSt.f, w64 (by omega) (by omega)]

/-! ### appendPrettyNumber, appendTabs -/
def Fol (s : ByteArray) (b : Int) : Prop := b < s.size ∧ (bt s b ≤ 32 ∨ bt s b = 44 ∨ bt s b = 93)
def Inner (c : Int) : Prop := 32 < c ∧ c ≠ 44 ∧ c ≠ 58 ∧ c ≠ 93 ∧ c ≠ 125
theorem num_end (s : ByteArray) (buf : List Int) (hb : buf.length ≤ 100000000000000) (hs : s.size ≤ 2147483647) (nl lo x2 : Int) (hlo : 0 ≤ lo) (h1 : lo ≤ x2) (h2 : x2 ≤ s.size) :
    (if 0 ≤ lo then (if lo ≤ x2 then (if x2 ≤ ((bytesOf s).length : Int) then ((some (((bytesOf s).take (x2 : Int).toNat).drop (lo : Int).toNat : List Int)).bind fun y309 => (if buf.length + y309.length < 140737488355328 then (some ((buf ++ y309), x2, nl, true)) else (none))) else (none)) else (none)) else (none)) = some (buf ++ sub s lo x2, x2, nl, true) := by
  have hl := blen s
  have hsl := sub_len s lo x2 hlo h1 h2
  rw [if_pos hlo, if_pos h1, if_pos (by omega), sub_eq]
  simp only [Option.bind_some]
  rw [if_pos (by omega)]
theorem num_l0 (s : ByteArray) (hs : s.size ≤ 2147483647) (buf : List Int) (hb : buf.length ≤ 100000000000000) (nl lo b : Int) (hlo : 0 ≤ lo) (hf : Fol s b) (hbs : b ≤ s.size) (d : Nat) :
    ∀ i : Int, lo ≤ i → i + d = b → (∀ j, i ≤ j → j < b → Inner (bt s j)) → Ev (fun k => pNu.l0 k buf (bytesOf s) i nl lo) (buf ++ sub s lo b, b, nl, true) := by
  have hl := blen s
  induction d with
  | zero =>
    intro i h0 h1 hin
    obtain rfl : i = b := by omega
    have he := num_end s buf hb hs nl lo i hlo h0 hbs
    refine Ev.step (f := fun _ => some (buf ++ sub s lo i, i, nl, true)) (fun k => ?_) (Ev.now _)
    obtain ⟨hf, hc⟩ := hf
    rw [pNu.l0, if_pos (by omega), if_pos (by omega), rd_bytesOf]
    by_cases c1 : bt s i ≤ 32
    · rw [if_pos c1]; exact he
    · rw [if_neg c1]
      by_cases c2 : bt s i = 44
      · rw [if_pos c2]; exact he
      · rw [if_neg c2, if_neg (by omega), if_pos (by omega)]; exact he
  | succ d ih =>
    intro i h0 h1 hin
    obtain ⟨g1, g2, g3, g4, g5⟩ := hin i (by omega) (by omega)
    refine Ev.step (f := fun k => pNu.l0 k buf (bytesOf s) (i + 1) nl lo) (fun k => ?_) (ih (i + 1) (by omega) (by omega) (fun j a1 a2 => hin j (by omega) a2))
    rw [pNu.l0, if_pos (by omega), if_pos (by omega), rd_bytesOf, if_neg (by omega), if_neg g2, if_neg g3, if_neg g4, if_neg g5, w64 (by omega) (by omega)]
theorem num_inner {s : ByteArray} {a b : Int} (h : Num s a b) : 0 ≤ a ∧ a < b ∧ b ≤ s.size ∧ ∀ j, a ≤ j → j < b → Inner (bt s j) := by
  obtain ⟨h0, a', i, j, ha, hi, hj, hb⟩ := h
  have hdig : ∀ c, IsDig c → Inner c := by intro c hc; unfold IsDig at hc; unfold Inner; omega
  have e1 : a' < i ∧ i ≤ s.size ∧ ∀ q, a' ≤ q → q < i → Inner (bt s q) := by
    rcases hi with ⟨g1, g2, g3⟩ | ⟨g1, g2, g3⟩
    · refine ⟨by omega, by omega, fun q q1 q2 => ?_⟩
      obtain rfl : q = a' := by omega
      unfold Inner; omega
    · exact ⟨g1, g2.2.2.1, fun q q1 q2 => hdig _ (g2.2.2.2 q q1 q2)⟩
  have e2 : i ≤ j ∧ j ≤ s.size ∧ ∀ q, i ≤ q → q < j → Inner (bt s q) := by
    rcases hj with g | ⟨g1, g2, g3, g4⟩
    · exact ⟨by omega, by omega, fun q q1 q2 => by omega⟩
    · refine ⟨by omega, g4.2.2.1, fun q q1 q2 => ?_⟩
      by_cases e : q = i
      · subst e; unfold Inner; omega
      · exact hdig _ (g4.2.2.2 q (by omega) q2)
  have e3 : j ≤ b ∧ b ≤ s.size ∧ ∀ q, j ≤ q → q < b → Inner (bt s q) := by
    rcases hb with g | ⟨g1, g2, j', g3, g4, g5⟩
    · exact ⟨by omega, by omega, fun q q1 q2 => by omega⟩
    · refine ⟨by rcases g3 with g3 | g3 <;> omega, g5.2.2.1, fun q q1 q2 => ?_⟩
      by_cases e : q = j
      · subst e; unfold Inner; omega
      · by_cases e' : j' ≤ q
        · exact hdig _ (g5.2.2.2 q e' q2)
        · rcases g3 with g3 | ⟨g3, g6, g7⟩
          · omega
          · obtain rfl : q = j + 1 := by omega
            unfold Inner; omega
  refine ⟨h0, by rcases ha with ha | ha <;> omega, e3.2.1, fun q q1 q2 => ?_⟩
  by_cases c1 : q < a'
  · rcases ha with ha | ⟨ha, g1, g2⟩
    · omega
    · obtain rfl : q = a := by omega
      unfold Inner; omega
  by_cases c2 : q < i
  · exact e1.2.2 q (by omega) c2
  by_cases c3 : q < j
  · exact e2.2.2 q (by omega) c3
  · exact e3.2.2 q (by omega) q2
theorem num_ev (s : ByteArray) (hs : s.size ≤ 2147483647) (buf : List Int) (hb : buf.length ≤ 100000000000000) (nl : Int) {a b : Int} (h : Num s a b) (hf : Fol s b) :
    Ev (fun k => pNu.f k buf (bytesOf s) a nl) (buf ++ sub s a b, b, nl, true) := by
  obtain ⟨h0, h1, h2, h3⟩ := num_inner h
  refine Ev.congr (fun k => ?_) (num_l0 s hs buf hb nl a b h0 hf h2 (b - (a + 1)).toNat (a + 1) (by omega) (by omega) (fun j q1 q2 => h3 j (by omega) q2))
  rw [pNu.f, w64 (by omega) (by omega)]

def tabsL (P I : ByteArray) (t : Nat) : List Int := bytesOf P ++ (List.replicate t (bytesOf I)).flatten
theorem tabs_succ (P I : ByteArray) (t : Nat) : tabsL P I (t + 1) = tabsL P I t ++ bytesOf I := by
  unfold tabsL
  rw [List.replicate_succ', List.flatten_append, List.append_assoc]
  simp
theorem tabs_zero (P I : ByteArray) : tabsL P I 0 = bytesOf P := by simp [tabsL]
theorem tabs_len (P I : ByteArray) (t : Nat) : (tabsL P I t).length = P.size + t * I.size := by
  induction t with
  | zero => rw [tabs_zero, bytesOf_length]; omega
  | succ t ih => rw [tabs_succ, List.length_append, ih, bytesOf_length, Nat.succ_mul]; omega
theorem tabs_loop0 (d : Nat) : ∀ (x0 : List Int) (t i : Int), 0 ≤ i → i + d = t → t ≤ 1000000 → x0.length + 2 * d ≤ 120000000000000 →
    Ev (fun k => pTb.l0 k x0 t i) (x0 ++ (List.replicate d ([32, 32] : List Int)).flatten) := by
  induction d with
  | zero =>
    intro x0 t i h0 h1 h2 h3
    refine Ev.step (f := fun _ => some _) (fun k => ?_) (Ev.now _)
    rw [pTb.l0, if_neg (by omega)]; simp
  | succ d ih =>
    intro x0 t i h0 h1 h2 h3
    have := ih (x0 ++ [32, 32]) t (i + 1) (by omega) (by omega) h2 (by simp; omega)
    rw [List.replicate_succ, List.flatten_cons, ← List.append_assoc]
    refine Ev.step (fun k => ?_) this
    rw [pTb.l0, if_pos (by omega)]
    simp only [Option.bind_some]
    rw [if_pos (by simp; omega), w64 (by omega) (by omega)]
theorem tabs_loop1 (I : ByteArray) (hI : I.size ≤ 1000) (d : Nat) : ∀ (x0 : List Int) (t i : Int), 0 ≤ i → i + d = t → t ≤ 1000000 → x0.length + 1000 * d ≤ 120000000000000 →
    Ev (fun k => pTb.l1 k x0 I t i) (x0 ++ (List.replicate d (bytesOf I)).flatten) := by
  have hl := bytesOf_length I
  induction d with
  | zero =>
    intro x0 t i h0 h1 h2 h3
    refine Ev.step (f := fun _ => some _) (fun k => ?_) (Ev.now _)
    rw [pTb.l1, if_neg (by omega)]; simp
  | succ d ih =>
    intro x0 t i h0 h1 h2 h3
    have := ih (x0 ++ bytesOf I) t (i + 1) (by omega) (by omega) h2 (by rw [List.length_append]; omega)
    rw [List.replicate_succ, List.flatten_cons, ← List.append_assoc]
    refine Ev.step (fun k => ?_) this
    rw [pTb.l1, if_pos (by omega), if_pos (by omega), w64 (by omega) (by omega)]
theorem bytes_two (I : ByteArray) (h : (I.size : Int) = 2) (h0 : bt I 0 = 32) (h1 : bt I 1 = 32) : bytesOf I = [32, 32] := by
  have hl := bytesOf_length I
  have g0 := rd_bytesOf I 0
  have g1 := rd_bytesOf I 1
  rw [h0] at g0
  rw [h1] at g1
  match e : bytesOf I, hl with
  | [x, y], _ =>
    rw [e] at g0 g1
    simp [rd] at g0 g1
    rw [g0, g1]
  | [], hl => simp at hl; omega
  | [x], hl => simp at hl; omega
  | x :: y :: z :: l, hl => simp at hl; omega
theorem tabs_ev (P I : ByteArray) (hP : P.size ≤ 1000) (hI : I.size ≤ 1000) (buf : List Int) (t : Nat) (ht : t ≤ 1000000) (hb : buf.length ≤ 100000000000000) :
    Ev (fun k => pTb.f k buf P I t) (buf ++ tabsL P I t) := by
  have hl := bytesOf_length P
  have hlI := bytesOf_length I
  have main : ∀ x0 : List Int, x0.length ≤ 100000000001000 → Ev (fun k => pTb.j0 k x0 I t) (x0 ++ (List.replicate t (bytesOf I)).flatten) := by
    intro x0 hx
    have A := tabs_loop1 I hI t x0 t 0 (by omega) (by omega) (by omega) (by omega)
    have last : ∀ b : Bool, (b = true → bytesOf I = [32, 32]) → Ev (fun k => pTb.j1 k x0 I t b) (x0 ++ (List.replicate t (bytesOf I)).flatten) := by
      intro b hb2
      cases b with
      | false => exact Ev.step (fun k => by rw [pTb.j1]; simp) A
      | true =>
        have B := tabs_loop0 t x0 t 0 (by omega) (by omega) (by omega) (by omega)
        rw [hb2 rfl]
        exact Ev.step (fun k => by rw [pTb.j1]; simp) B
    by_cases c : (I.size : Int) = 2
    · by_cases c2 : bt I 0 = 32
      · refine Ev.step (fun k => ?_) (last (bt I 1 == 32) (fun e => bytes_two I c c2 (by simpa using e)))
        rw [pTb.j0, if_pos c, if_pos (by omega), if_pos c2, if_pos (by omega)]
      · refine Ev.step (fun k => ?_) (last false (fun e => by cases e))
        rw [pTb.j0, if_pos c, if_pos (by omega), if_neg c2]
    · refine Ev.step (fun k => ?_) (last false (fun e => by cases e))
      rw [pTb.j0, if_neg c]
  unfold tabsL
  rw [← List.append_assoc]
  by_cases c : (P.size : Int) = 0
  · have e : bytesOf P = [] := List.eq_nil_of_length_eq_zero (by omega)
    rw [e, List.append_nil]
    refine Ev.congr (fun k => ?_) (main buf (by omega))
    rw [pTb.f, if_pos c]
  · refine Ev.congr (fun k => ?_) (main (buf ++ bytesOf P) (by rw [List.length_append]; omega))
    rw [pTb.f, if_neg c, if_pos (by omega)]

/-! ### appendPrettyAny: one step -/
theorem drop_rd (s : ByteArray) (hs : s.size ≤ 2147483647) (i : Int) (h0 : 0 ≤ i) (h1 : i < s.size) (j : Nat) : rd ((bytesOf s).drop i.toNat) j = bt s (i + j) := by
  rw [← rd_bytesOf]
  unfold Go.Proofs.YtnilbkfhfnofgaaW.PrintWords.rd
  rw [show (i + (j : Int)).toNat = i.toNat + j by omega]
  simp
theorem nan_no (s : ByteArray) (hs : s.size ≤ 2147483647) (i : Int) (h0 : 0 ≤ i) (h1 : i < s.size) (c1 : bt s i ≠ 105) (c2 : bt s i ≠ 73) (c3 : bt s i ≠ 43) (c4 : bt s i ≠ 78) (c5 : bt s i = 110 → i + 1 < s.size ∧ bt s (i + 1) = 117) :
    pNan.f ((bytesOf s).drop i.toNat) = some false := by
  have hl := blen s
  have hd : (((bytesOf s).drop i.toNat).length : Int) = s.size - i := by rw [List.length_drop]; omega
  have e0 := drop_rd s hs i h0 h1 0
  have e1 := drop_rd s hs i h0 h1 1
  simp only [Int.natCast_zero, Int.add_zero] at e0
  rw [pNan.f, if_pos (by omega), e0, if_neg c1, if_neg c2, if_neg c3, if_neg c4]
  by_cases c : bt s i = 110
  · obtain ⟨g1, g2⟩ := c5 c
    have e2 : rd ((bytesOf s).drop i.toNat) 1 = 117 := by
      have := e1
      simp only [Int.natCast_one] at this
      rw [this]; exact g2
    rw [if_pos c, if_pos (by omega), if_pos (by omega), e2]; rfl
  · rw [if_neg c]
/-- What the byte at hand decides, when no string, number or bracket begins there. -/
theorem any_j1 (s : ByteArray) (hs : s.size ≤ 2147483647) (buf : List Int) (pr : Bool) (W : Int) (P : ByteArray) (I : ByteArray) (tabs : Int) (nl : Int) (mx : Int) (i : Int) (h0 : 0 ≤ i) (h1 : i < s.size) (r : List Int × Int × Int × Bool) (c0 : ¬ bt s i ≤ 32) (cq : bt s i ≠ 34) (cd : ¬ (48 ≤ bt s i ∧ bt s i ≤ 57)) (cm : bt s i ≠ 45) (c1 : bt s i ≠ 105) (c2 : bt s i ≠ 73) (c3 : bt s i ≠ 43) (c4 : bt s i ≠ 78) (c5 : bt s i = 110 → i + 1 < s.size ∧ bt s (i + 1) = 117)
    (h : Ev (fun k => pAn.j1 k buf (bytesOf s) i pr W P I false tabs nl mx false) r) : Ev (fun k => pAn.l0 k buf (bytesOf s) i pr W P I false tabs nl mx) r := by
  have hl := blen s
  have hn := nan_no s hs i h0 h1 c1 c2 c3 c4 c5
  refine Ev.step (fun k => ?_) h
  rw [pAn.l0, if_pos (by omega), if_pos h0, rd_bytesOf, if_neg c0, if_neg cq]
  by_cases g : bt s i ≥ 48
  · rw [if_pos g, if_neg (fun e => cd ⟨g, e⟩), if_neg cm, if_pos (by omega), hn]; rfl
  · rw [if_neg g, if_neg cm, if_pos (by omega), hn]; rfl
theorem any_skip (s : ByteArray) (hs : s.size ≤ 2147483647) (buf : List Int) (pr : Bool) (W : Int) (P : ByteArray) (I : ByteArray) (tabs : Int) (nl : Int) (mx : Int) (i : Int) (h0 : 0 ≤ i) (h1 : i < s.size) (r : List Int × Int × Int × Bool) (c : bt s i ≤ 32 ∨ bt s i = 44 ∨ bt s i = 58)
    (h : Ev (fun k => pAn.l0 k buf (bytesOf s) (i + 1) pr W P I false tabs nl mx) r) : Ev (fun k => pAn.l0 k buf (bytesOf s) i pr W P I false tabs nl mx) r := by
  have hl := blen s
  by_cases g : bt s i ≤ 32
  · refine Ev.step (fun k => ?_) h
    rw [pAn.l0, if_pos (by omega), if_pos h0, rd_bytesOf, if_pos g, w64 (by omega) (by omega)]
  · refine any_j1 s hs buf pr W P I tabs nl mx i h0 h1 r g (by omega) (by omega) (by omega) (by omega) (by omega) (by omega) (by omega) (by omega) ?_
    refine Ev.step (fun k => ?_) h
    rw [pAn.j1, if_neg (by simp), if_pos h0, if_pos (by omega), rd_bytesOf, if_neg (by omega), if_neg (by omega), if_neg (by omega), if_neg (by omega), if_neg (by omega), w64 (by omega) (by omega)]
theorem any_str (s : ByteArray) (hs : s.size ≤ 2147483647) (buf : List Int) (pr : Bool) (W : Int) (P : ByteArray) (I : ByteArray) (tabs : Int) (nl : Int) (mx : Int) (i : Int) (h0 : 0 ≤ i) (h1 : i < s.size) (hb : buf.length ≤ 100000000000000) {b : Int} (h : Str s i b) : Ev (fun k => pAn.l0 k buf (bytesOf s) i pr W P I false tabs nl mx) (buf ++ sub s i b, b, nl, true) := by
  have hl := blen s
  have hc := h.2.2.1
  refine Ev.step (f := fun k => (pSt.f k buf (bytesOf s) i nl).bind fun x => some (x.1, x.2.1, x.2.2.1, x.2.2.2)) (fun k => ?_) (Ev.bind (str_ev s hs buf hb nl h) (Ev.now _))
  rw [pAn.l0, if_pos (by omega), if_pos h0, rd_bytesOf, if_neg (by omega), if_pos hc]
theorem any_num (s : ByteArray) (hs : s.size ≤ 2147483647) (buf : List Int) (pr : Bool) (W : Int) (P : ByteArray) (I : ByteArray) (tabs : Int) (nl : Int) (mx : Int) (i : Int) (h0 : 0 ≤ i) (h1 : i < s.size) (hb : buf.length ≤ 100000000000000) {b : Int} (hc : bt s i = 45 ∨ IsDig (bt s i)) (h : Num s i b) (hf : Fol s b) : Ev (fun k => pAn.l0 k buf (bytesOf s) i pr W P I false tabs nl mx) (buf ++ sub s i b, b, nl, true) := by
  have hl := blen s
  have hN : Ev (fun k => pAn.j1 k buf (bytesOf s) i pr W P I false tabs nl mx true) (buf ++ sub s i b, b, nl, true) :=
    Ev.step (f := fun k => (pNu.f k buf (bytesOf s) i nl).bind fun x => some (x.1, x.2.1, x.2.2.1, x.2.2.2)) (fun k => by rw [pAn.j1, if_pos rfl]) (Ev.bind (num_ev s hs buf hb nl h hf) (Ev.now _))
  refine Ev.step (fun k => ?_) hN
  rw [pAn.l0, if_pos (by omega), if_pos h0, rd_bytesOf]
  unfold IsDig at hc
  rw [if_neg (by omega), if_neg (by omega)]
  by_cases g : bt s i = 45
  · rw [if_neg (by omega), if_pos g]
  · rw [if_pos (by omega), if_pos (by omega)]
theorem any_word (s : ByteArray) (hs : s.size ≤ 2147483647) (buf : List Int) (pr : Bool) (W : Int) (P : ByteArray) (I : ByteArray) (tabs : Int) (nl : Int) (mx : Int) (i : Int) (h0 : 0 ≤ i) (h1 : i < s.size) (hb : buf.length ≤ 100000000000000) {b : Int} {w : ByteArray} (hw : w = ⟨#[110, 117, 108, 108]⟩ ∨ w = ⟨#[102, 97, 108, 115, 101]⟩ ∨ w = ⟨#[116, 114, 117, 101]⟩) (h : Word s i b w) :
    Ev (fun k => pAn.l0 k buf (bytesOf s) i pr W P I false tabs nl mx) (buf ++ sub s i b, b, nl, true) := by
  have hl := blen s
  obtain ⟨g0, rfl, g2, g3⟩ := h
  have hsub : sub s i (i + w.size) = bytesOf w := by unfold sub; rw [g3]
  have hbt : ∀ j : Nat, j < w.size → bt s (i + j) = bt w j := by
    intro j hj
    have e1 := rd_bytesOf w j
    have e2 := rd_bytesOf s (i + j)
    rw [← e1, ← e2, ← hsub, ← sub_eq]
    unfold Go.Proofs.YtnilbkfhfnofgaaW.PrintWords.rd
    rw [show (i + (j : Int)).toNat = i.toNat + j by omega]
    simp only [List.getD_eq_getElem?_getD, List.getElem?_drop, Int.toNat_natCast]
    rw [List.getElem?_take_of_lt (by omega)]
  rw [hsub]
  rcases hw with rfl | rfl | rfl
  · have e0 := hbt 0 (by decide)
    have e1 := hbt 1 (by decide)
    have v0 : bt (⟨#[110, 117, 108, 108]⟩ : ByteArray) (0 : Nat) = 110 := by decide
    have v1 : bt (⟨#[110, 117, 108, 108]⟩ : ByteArray) (1 : Nat) = 117 := by decide
    rw [v0] at e0; rw [v1] at e1
    simp only [Int.natCast_zero, Int.add_zero] at e0
    have z : ((⟨#[110, 117, 108, 108]⟩ : ByteArray).size : Int) = 4 := by decide
    have zb : bytesOf (⟨#[110, 117, 108, 108]⟩ : ByteArray) = [110, 117, 108, 108] := by decide
    rw [z] at g2
    rw [z, zb]
    refine any_j1 s hs buf pr W P I tabs nl mx i h0 h1 _ (by omega) (by omega) (by omega) (by omega) (by omega) (by omega) (by omega) (by omega) (fun _ => ⟨by omega, by simpa using e1⟩) (Ev.step (f := fun _ => some _) (fun k => ?_) (Ev.now _))
    rw [pAn.j1, if_neg (by simp), if_pos h0, if_pos (by omega), rd_bytesOf, if_neg (by omega), if_neg (by omega), if_neg (by omega), if_neg (by omega), if_pos (by omega), w64 (by omega) (by omega)]
    simp only [Option.bind_some]
    rw [if_pos (by simp; omega)]
  · have e0 := hbt 0 (by decide)
    have v0 : bt (⟨#[102, 97, 108, 115, 101]⟩ : ByteArray) (0 : Nat) = 102 := by decide
    rw [v0] at e0
    simp only [Int.natCast_zero, Int.add_zero] at e0
    have z : ((⟨#[102, 97, 108, 115, 101]⟩ : ByteArray).size : Int) = 5 := by decide
    have zb : bytesOf (⟨#[102, 97, 108, 115, 101]⟩ : ByteArray) = [102, 97, 108, 115, 101] := by decide
    rw [z] at g2
    rw [z, zb]
    refine any_j1 s hs buf pr W P I tabs nl mx i h0 h1 _ (by omega) (by omega) (by omega) (by omega) (by omega) (by omega) (by omega) (by omega) (by omega) (Ev.step (f := fun _ => some _) (fun k => ?_) (Ev.now _))
    rw [pAn.j1, if_neg (by simp), if_pos h0, if_pos (by omega), rd_bytesOf, if_neg (by omega), if_neg (by omega), if_neg (by omega), if_pos (by omega), w64 (by omega) (by omega)]
    simp only [Option.bind_some]
    rw [if_pos (by simp; omega)]
  · have e0 := hbt 0 (by decide)
    have v0 : bt (⟨#[116, 114, 117, 101]⟩ : ByteArray) (0 : Nat) = 116 := by decide
    rw [v0] at e0
    simp only [Int.natCast_zero, Int.add_zero] at e0
    have z : ((⟨#[116, 114, 117, 101]⟩ : ByteArray).size : Int) = 4 := by decide
    have zb : bytesOf (⟨#[116, 114, 117, 101]⟩ : ByteArray) = [116, 114, 117, 101] := by decide
    rw [z] at g2
    rw [z, zb]
    refine any_j1 s hs buf pr W P I tabs nl mx i h0 h1 _ (by omega) (by omega) (by omega) (by omega) (by omega) (by omega) (by omega) (by omega) (by omega) (Ev.step (f := fun _ => some _) (fun k => ?_) (Ev.now _))
    rw [pAn.j1, if_neg (by simp), if_pos h0, if_pos (by omega), rd_bytesOf, if_neg (by omega), if_neg (by omega), if_pos (by omega), w64 (by omega) (by omega)]
    simp only [Option.bind_some]
    rw [if_pos (by simp; omega)]
theorem any_obj (s : ByteArray) (hs : s.size ≤ 2147483647) (buf : List Int) (pr : Bool) (W : Int) (P : ByteArray) (I : ByteArray) (tabs : Int) (nl : Int) (mx : Int) (i : Int) (h0 : 0 ≤ i) (h1 : i < s.size) (r : List Int × Int × Int × Bool) (c : bt s i = 123) (h : Ev (fun k => pOb.f k buf (bytesOf s) i 123 125 pr W P I false tabs nl mx) r) :
    Ev (fun k => pAn.l0 k buf (bytesOf s) i pr W P I false tabs nl mx) r := by
  have hl := blen s
  refine any_j1 s hs buf pr W P I tabs nl mx i h0 h1 r (by omega) (by omega) (by omega) (by omega) (by omega) (by omega) (by omega) (by omega) (by omega) ?_
  refine Ev.step (f := fun k => (pOb.f k buf (bytesOf s) i 123 125 pr W P I false tabs nl mx).bind fun x => some (x.1, x.2.1, x.2.2.1, x.2.2.2)) (fun k => ?_) (Ev.bind h (Ev.now _))
  rw [pAn.j1, if_neg (by simp), if_pos h0, if_pos (by omega), rd_bytesOf, if_pos c]
theorem any_arr (s : ByteArray) (hs : s.size ≤ 2147483647) (buf : List Int) (pr : Bool) (W : Int) (P : ByteArray) (I : ByteArray) (tabs : Int) (nl : Int) (mx : Int) (i : Int) (h0 : 0 ≤ i) (h1 : i < s.size) (r : List Int × Int × Int × Bool) (c : bt s i = 91) (h : Ev (fun k => pOb.f k buf (bytesOf s) i 91 93 pr W P I false tabs nl mx) r) :
    Ev (fun k => pAn.l0 k buf (bytesOf s) i pr W P I false tabs nl mx) r := by
  have hl := blen s
  refine any_j1 s hs buf pr W P I tabs nl mx i h0 h1 r (by omega) (by omega) (by omega) (by omega) (by omega) (by omega) (by omega) (by omega) (by omega) ?_
  refine Ev.step (f := fun k => (pOb.f k buf (bytesOf s) i 91 93 pr W P I false tabs nl mx).bind fun x => some (x.1, x.2.1, x.2.2.1, x.2.2.2)) (fun k => ?_) (Ev.bind h (Ev.now _))
  rw [pAn.j1, if_neg (by simp), if_pos h0, if_pos (by omega), rd_bytesOf, if_neg (by omega), if_pos c]
theorem any_skips (s : ByteArray) (hs : s.size ≤ 2147483647) (buf : List Int) (pr : Bool) (W : Int) (P I : ByteArray) (tabs nl mx : Int) (r : List Int × Int × Int × Bool) (c : Int) (hc : c ≤ s.size) (d : Nat) :
    ∀ i : Int, 0 ≤ i → i + d = c → (∀ j, i ≤ j → j < c → bt s j ≤ 32 ∨ bt s j = 44 ∨ bt s j = 58) →
    Ev (fun k => pAn.l0 k buf (bytesOf s) c pr W P I false tabs nl mx) r → Ev (fun k => pAn.l0 k buf (bytesOf s) i pr W P I false tabs nl mx) r := by
  induction d with
  | zero => intro i h0 h1 _ h; obtain rfl : i = c := by omega
            exact h
  | succ d ih =>
    intro i h0 h1 hsk h
    exact any_skip s hs buf pr W P I tabs nl mx i h0 (by omega) r (hsk i (by omega) (by omega)) (ih (i + 1) (by omega) (by omega) (fun j q1 q2 => hsk j (by omega) q2) h)
theorem any_from (s : ByteArray) (hs : s.size ≤ 2147483647) (buf : List Int) (pr : Bool) (W : Int) (P I : ByteArray) (tabs nl mx : Int) (r : List Int × Int × Int × Bool) (i c : Int) (h0 : 0 ≤ i) (h1 : i ≤ c) (hc : c ≤ s.size) (hsk : ∀ j, i ≤ j → j < c → bt s j ≤ 32 ∨ bt s j = 44 ∨ bt s j = 58)
    (h : Ev (fun k => pAn.l0 k buf (bytesOf s) c pr W P I false tabs nl mx) r) : Ev (fun k => pAn.f k buf (bytesOf s) i pr W P I false tabs nl mx) r :=
  Ev.step (fun k => by rw [pAn.f]) (any_skips s hs buf pr W P I tabs nl mx r c hc (c - i).toNat i h0 (by omega) hsk h)

/-! ### a text inside of another: the grammar moves with the bytes -/
/-- s stands in s' from off on. -/
def Lies (s s' : ByteArray) (off : Int) : Prop := 0 ≤ off ∧ (s.size : Int) + off ≤ s'.size ∧ ∀ j : Int, 0 ≤ j → j < s.size → bt s' (j + off) = bt s j
section
variable {s s' : ByteArray} {off : Int}
theorem Lies.blanks (L : Lies s s' off) {a b : Int} (h : Blanks s a b) : Blanks s' (a + off) (b + off) := by
  obtain ⟨h0, h1, h2, h3⟩ := h
  obtain ⟨l0, l1, l2⟩ := L
  refine ⟨by omega, by omega, by omega, fun i hi hi' => ?_⟩
  have := l2 (i - off) (by omega) (by omega)
  rw [show i - off + off = i by omega] at this
  rw [this]
  exact h3 _ (by omega) (by omega)
theorem Lies.digs (L : Lies s s' off) {a b : Int} (h : Digs s a b) : Digs s' (a + off) (b + off) := by
  obtain ⟨h0, h1, h2, h3⟩ := h
  obtain ⟨l0, l1, l2⟩ := L
  refine ⟨by omega, by omega, by omega, fun i hi hi' => ?_⟩
  have := l2 (i - off) (by omega) (by omega)
  rw [show i - off + off = i by omega] at this
  rw [this]
  exact h3 _ (by omega) (by omega)
theorem Lies.at_ (L : Lies s s' off) {j c : Int} (h0 : 0 ≤ j) (h1 : j < s.size) (h : bt s j = c) : bt s' (j + off) = c := by rw [L.2.2 j h0 h1, h]
theorem Lies.ins (L : Lies s s' off) {a b : Int} (h : Ins s a b) : Ins s' (a + off) (b + off) := by
  have l0 := L.1
  have l1 := L.2.1
  have l2 := L.2.2
  induction h with
  | @close i h0 h1 c => rw [show i + 1 + off = i + off + 1 by omega]; exact .close (by omega) (by omega) (by rw [l2 _ h0 h1]; exact c)
  | @plain i b h0 h1 c1 c2 c3 r ih => exact .plain (by omega) (by omega) (by rw [l2 _ h0 h1]; exact c1) (by rw [l2 _ h0 h1]; exact c2) (by rw [l2 _ h0 h1]; exact c3) (by rwa [show i + off + 1 = i + 1 + off by omega])
  | @short i b h0 h1 c e r ih =>
    refine .short (by omega) (by omega) (by rw [l2 _ h0 (by omega)]; exact c) ?_ (by rwa [show i + off + 2 = i + 2 + off by omega])
    rw [show i + off + 1 = i + 1 + off by omega, l2 _ (by omega) (by omega)]; exact e
  | @uni i b h0 h1 c u hx r ih =>
    refine .uni (by omega) (by omega) (by rw [l2 _ h0 (by omega)]; exact c) ?_ (fun j hj hj' => ?_) (by rwa [show i + off + 6 = i + 6 + off by omega])
    · rw [show i + off + 1 = i + 1 + off by omega, l2 _ (by omega) (by omega)]; exact u
    · rw [show i + off + j = i + j + off by omega, l2 _ (by omega) (by omega)]; exact hx j hj hj'
theorem Lies.str (L : Lies s s' off) {a b : Int} (h : Str s a b) : Str s' (a + off) (b + off) := by
  obtain ⟨h0, h1, h2, h3⟩ := h
  refine ⟨by have := L.1; omega, by have := L.2.1; omega, L.at_ h0 h1 h2, ?_⟩
  rw [show a + off + 1 = a + 1 + off by omega]
  exact L.ins h3
theorem Lies.exp (L : Lies s s' off) {i b : Int} (h0 : 0 ≤ i) (h : ExpPart s i b) : ExpPart s' (i + off) (b + off) := by
  have l0 := L.1
  have l1 := L.2.1
  have l2 := L.2.2
  rcases h with h | ⟨h1, h2, j, h3, h4, h5⟩
  · exact .inl (by omega)
  · refine .inr ⟨by omega, by rw [l2 _ h0 h1]; exact h2, j + off, ?_, by omega, L.digs h5⟩
    rcases h3 with h3 | ⟨h3, h6, h7⟩
    · exact .inl (by omega)
    · exact .inr ⟨by omega, by omega, by rw [show i + off + 1 = i + 1 + off by omega, l2 _ (by omega) h6]; exact h7⟩
theorem Lies.frac (L : Lies s s' off) {i j : Int} (h0 : 0 ≤ i) (h : FracPart s i j) : FracPart s' (i + off) (j + off) := by
  have l0 := L.1
  have l1 := L.2.1
  rcases h with h | ⟨h1, h2, h3, h4⟩
  · exact .inl (by omega)
  · refine .inr ⟨by omega, L.at_ h0 h1 h2, by omega, ?_⟩
    rw [show i + off + 1 = i + 1 + off by omega]
    exact L.digs h4
theorem Lies.int (L : Lies s s' off) {a i : Int} (h0 : 0 ≤ a) (h : IntPart s a i) : IntPart s' (a + off) (i + off) := by
  have l0 := L.1
  have l1 := L.2.1
  rcases h with ⟨h1, h2, h3⟩ | ⟨h1, h2, h3⟩
  · exact .inl ⟨by omega, L.at_ h0 h1 h2, by omega⟩
  · exact .inr ⟨by omega, L.digs h2, by rw [L.2.2 _ h0 (by have := h2.2.2.1; omega)]; exact h3⟩
theorem Lies.num (L : Lies s s' off) {a b : Int} (h : Num s a b) : Num s' (a + off) (b + off) := by
  have l0 := L.1
  have l1 := L.2.1
  obtain ⟨h0, a', i, j, h1, h2, h3, h4⟩ := h
  have ha : 0 ≤ a' := by rcases h1 with h | h <;> omega
  have hi : 0 ≤ i := by rcases h2 with h | h <;> omega
  have hj : 0 ≤ j := by rcases h3 with h | h <;> omega
  refine ⟨by omega, a' + off, i + off, j + off, ?_, L.int ha h2, L.frac hi h3, L.exp hj h4⟩
  rcases h1 with h1 | ⟨h1, h5, h6⟩
  · exact .inl (by omega)
  · exact .inr ⟨by omega, by omega, L.at_ h0 h5 h6⟩
end

theorem Lies.sub_ {s s' : ByteArray} {off : Int} (L : Lies s s' off) {a : Int} (h0 : 0 ≤ a) : ∀ d : Nat, a + d ≤ s.size → sub s' (a + off) (a + d + off) = sub s a (a + d)
  | 0, _ => by
    have e : a + ((0 : Nat) : Int) = a := by omega
    rw [e, sub_nil, sub_nil]
  | d + 1, h => by
    have l0 := L.1
    have l1 := L.2.1
    have e1 : a + ((d + 1 : Nat) : Int) + off = a + d + off + 1 := by omega
    have e2 : a + ((d + 1 : Nat) : Int) = a + d + 1 := by omega
    rw [e1, e2, sub_snoc s' (a + off) (a + d + off) (by omega) (by omega) (by omega), sub_snoc s a (a + d) h0 (by omega) (by omega), Lies.sub_ L h0 d (by omega), L.2.2 _ (by omega) (by omega)]
theorem Lies.sub {s s' : ByteArray} {off : Int} (L : Lies s s' off) {a b : Int} (h0 : 0 ≤ a) (h1 : a ≤ b) (h2 : b ≤ s.size) : sub s' (a + off) (b + off) = sub s a b := by
  have := L.sub_ h0 (b - a).toNat (by omega)
  rwa [show a + ((b - a).toNat : Int) = b by omega] at this
theorem nat_map_inj : ∀ {l m : List UInt8}, (l.map fun b => (b.toNat : Int)) = (m.map fun b => (b.toNat : Int)) → l = m
  | [], [], _ => rfl
  | [], _ :: _, h => by simp at h
  | _ :: _, [], h => by simp at h
  | p :: l, q :: m, h => by
    simp only [List.map_cons, List.cons.injEq] at h
    have e : p = q := UInt8.toNat_inj.mp (by omega)
    rw [e, nat_map_inj h.2]
theorem bytesOf_inj {x y : ByteArray} (h : bytesOf x = bytesOf y) : x = y := by
  have e : x.data.toList = y.data.toList := nat_map_inj h
  cases x; cases y; simp_all
theorem Lies.word {s s' : ByteArray} {off : Int} (L : Lies s s' off) {a b : Int} {w : ByteArray} (h : Word s a b w) : Word s' (a + off) (b + off) w := by
  obtain ⟨h0, h1, h2, h3⟩ := h
  have l0 := L.1
  have l1 := L.2.1
  refine ⟨by omega, by omega, by omega, bytesOf_inj ?_⟩
  have := L.sub h0 (by omega) h2
  unfold _root_.Go.Proofs.Ytnilbkfhfnofgaa.PFnPrWidthMember.sub at this
  rw [this, h3]
def up (off : Int) (p : S28) : S28 := ⟨p.f0, p.f1 + off, p.f2 + off, [], []⟩
theorem Lies.val {s s' : ByteArray} {off : Int} (L : Lies s s' off) {a b : Int} {p : S28} (h : Val s a b p) (hk : p.f0 < 5) : Val s' (a + off) (b + off) (up off p) := by
  have l0 := L.1
  have l1 := L.2.1
  cases h with
  | null h => exact .null (L.word h)
  | «false» h => exact .false (L.word h)
  | «true» h => exact .true (L.word h)
  | num h0 h1 c h => exact .num (by omega) (by omega) (by rw [L.2.2 _ h0 h1]; exact c) (L.num h)
  | str h => exact .str (L.str h)
  | arr0 => exact absurd hk (by simp)
  | arr => exact absurd hk (by simp)
  | obj0 => exact absurd hk (by simp)
  | obj => exact absurd hk (by simp)
theorem Lies.els {s s' : ByteArray} {off : Int} (L : Lies s s' off) : ∀ {c b : Int} {ks : List S28}, Els s c b ks → (∀ p ∈ ks, p.f0 < 5) → Els s' (c + off) (b + off) (ks.map (up off))
  | _, _, _, .last (e := e) h hb h1 hc, hk => by
    have l0 := L.1
    have l1 := L.2.1
    have he := hb.2.1
    have he0 := hb.1
    rw [show e + 1 + off = e + off + 1 by omega]
    exact .last (L.val h (hk _ (by simp))) (L.blanks hb) (by omega) (L.at_ (by omega) h1 hc)
  | _, _, _, .more (e := e) h hb h1 hc hf r, hk => by
    have l0 := L.1
    have l1 := L.2.1
    have he := hb.2.1
    have he0 := hb.1
    have hf2 := L.blanks hf
    rw [show e + 1 + off = e + off + 1 by omega] at hf2
    exact .more (L.val h (hk _ (by simp))) (L.blanks hb) (by omega) (L.at_ (by omega) h1 hc) hf2 (Lies.els L r (fun p hp => hk p (by simp [hp])))

/-! ### the reader goes over what the grammar tells -/
theorem hexes_all (s : ByteArray) (hs : s.size ≤ 2147483647) (d : Nat) : ∀ (j a : Int), 0 ≤ j → j + d = 4 → 0 ≤ a → a + d ≤ s.size → (∀ q, a ≤ q → q < a + d → IsHex (bt s q)) →
    Ev (fun k => sr_escape.l0 k j s a) (true, s, a + d) := by
  induction d with
  | zero =>
    intro j a hj hd h0 h1 _
    rw [show a + ((0 : Nat) : Int) = a by omega]
    refine Ev.step (f := fun _ => some _) (fun k => ?_) (Ev.now _)
    simp only [sr_escape.l0]
    rw [if_neg (by omega)]
  | succ d ih =>
    intro j a hj hd h0 h1 hx
    have hlt : a < (s.size : Int) := by omega
    obtain ⟨n, b, hv, hb⟩ := hex_f (bt s a) (bt_range s a)
    have hbt : b = true := hb.mpr (hx a (by omega) (by omega))
    subst hbt
    have h := ih (j + 1) (a + 1) (by omega) (by omega) (by omega) (by omega) (fun q q1 q2 => hx q (by omega) (by omega))
    rw [show a + ((d + 1 : Nat) : Int) = a + 1 + d by omega]
    refine Ev.step (f := fun k => (sHx.f k (bt s a)).bind fun r => if r.2 = true then sr_escape.l0 k (j + 1) s (a + 1) else some (false, s, a)) (fun k => ?_) (Ev.bind hv (by simpa using h))
    simp only [sr_escape.l0]
    rw [if_pos (by omega), here_in h0 hlt]
    simp only [Option.bind_some]
    rw [w64 (by omega) (by omega), w64 (by omega) (by omega)]
theorem escape_short (s : ByteArray) (hs : s.size ≤ 2147483647) (a : Int) (h0 : 0 ≤ a) (hlt : a < s.size) (hsh : IsShort (bt s a)) : Ev (fun k => sr_escape.f k s a) (true, s, a + 1) := by
  refine Ev.step (f := fun _ => some (true, s, a + 1)) (fun k => ?_) (Ev.now _)
  unfold sr_escape.f
  rw [here_in h0 hlt]
  simp only [Option.bind_some, sr_escape.j0]
  rw [w64 (by omega) (by omega)]
  rcases hsh with h | h | h | h | h | h | h | h <;> simp [h]
theorem escape_uni (s : ByteArray) (hs : s.size ≤ 2147483647) (a : Int) (h0 : 0 ≤ a) (hlt : a + 4 < s.size) (hu : bt s a = 117) (hx : ∀ j, 1 ≤ j → j < 5 → IsHex (bt s (a + j))) : Ev (fun k => sr_escape.f k s a) (true, s, a + 5) := by
  have h := hexes_all s hs 4 0 (a + 1) (by omega) (by omega) (by omega) (by omega) (fun q q1 q2 => by have := hx (q - a) (by omega) (by omega); rwa [show a + (q - a) = q by omega] at this)
  rw [show a + 1 + ((4 : Nat) : Int) = a + 5 by omega] at h
  refine Ev.step (f := fun k => sr_escape.l0 k 0 s (a + 1)) (fun k => ?_) h
  unfold sr_escape.f
  rw [here_in h0 (by omega)]
  simp only [Option.bind_some, sr_escape.j0]
  rw [w64 (by omega) (by omega)]
  simp [hu]
theorem quoted_ins (s : ByteArray) (hs : s.size ≤ 2147483647) {a b : Int} (h : Ins s a b) : Ev (fun k => sr_quoted.l0 k s a) (true, s, b) := by
  induction h with
  | @close i h0 h1 c =>
    refine Ev.step (f := fun _ => some _) (fun k => ?_) (Ev.now _)
    simp only [sr_quoted.l0]
    rw [if_pos h1, if_pos h0, if_pos c, w64 (by omega) (by omega)]
  | @plain i b h0 h1 c1 c2 c3 r ih =>
    refine Ev.step (f := fun k => sr_quoted.l0 k s (i + 1)) (fun k => ?_) ih
    simp only [sr_quoted.l0]
    rw [if_pos h1, if_pos h0, if_neg c1, if_neg (by omega), if_neg c3, w64 (by omega) (by omega)]
  | @short i b h0 h1 c e r ih =>
    have h := escape_short s hs (i + 1) (by omega) h1 e
    rw [show i + 1 + 1 = i + 2 by omega] at h
    refine Ev.step (f := fun k => (sr_escape.f k s (i + 1)).bind fun r => if r.1 = true then sr_quoted.l0 k r.2.1 r.2.2 else some (false, r.2.1, r.2.2)) (fun k => ?_) (Ev.bind h (by simpa using ih))
    simp only [sr_quoted.l0]
    rw [if_pos (by omega), if_pos h0, if_neg (by omega), if_neg (by omega), if_pos c, w64 (by omega) (by omega)]
  | @uni i b h0 h1 c u hx r ih =>
    have h := escape_uni s hs (i + 1) (by omega) (by omega) u (fun j q1 q2 => by have := hx (j + 1) (by omega) (by omega); rwa [show i + (j + 1) = i + 1 + j by omega] at this)
    rw [show i + 1 + 5 = i + 6 by omega] at h
    refine Ev.step (f := fun k => (sr_escape.f k s (i + 1)).bind fun r => if r.1 = true then sr_quoted.l0 k r.2.1 r.2.2 else some (false, r.2.1, r.2.2)) (fun k => ?_) (Ev.bind h (by simpa using ih))
    simp only [sr_quoted.l0]
    rw [if_pos (by omega), if_pos h0, if_neg (by omega), if_neg (by omega), if_pos c, w64 (by omega) (by omega)]
theorem quoted_str (s : ByteArray) (hs : s.size ≤ 2147483647) {a b : Int} (h : Str s a b) : Ev (fun k => sr_quoted.f k s a) (true, s, b) := by
  obtain ⟨h0, h1, h2, h3⟩ := h
  refine Ev.congr (fun k => ?_) (quoted_ins s hs h3)
  unfold sr_quoted.f
  rw [w64 (by omega) (by omega)]
theorem blanks_all (s : ByteArray) (hs : s.size ≤ 2147483647) {a b : Int} (h : Blanks s a b) (hn : ¬ (b < s.size ∧ IsBlk (bt s b))) : Ev (fun k => sr_blanks.f k s a) (s, b) := by
  obtain ⟨b', h1, h2, h3⟩ := blanks_at s hs a h.1 (by have := h.2.1; have := h.2.2.1; omega)
  have e : b' = b := by
    rcases Int.lt_trichotomy b' b with g | g | g
    · exact absurd ⟨by have := h.2.2.1; omega, h.2.2.2 b' h2.2.1 g⟩ h3
    · exact g
    · exact absurd ⟨by have := h2.2.2.1; omega, h2.2.2.2 b h.2.1 g⟩ hn
  rw [← e]; exact h1
theorem digits_all (s : ByteArray) (hs : s.size ≤ 2147483647) {a b : Int} (h : Digs s a b) (hab : a < b) (hn : ¬ (b < s.size ∧ IsDig (bt s b))) : Ev (fun k => sr_digits.f k s a) (true, s, b) := by
  obtain ⟨b', h1, h2, h3⟩ := digits_ev s hs a h.1 (by have := h.2.1; have := h.2.2.1; omega)
  have e : b' = b := by
    rcases Int.lt_trichotomy b' b with g | g | g
    · exact absurd ⟨by have := h.2.2.1; omega, h.2.2.2 b' h2.2.1 g⟩ h3
    · exact g
    · exact absurd ⟨by have := h2.2.2.1; omega, h2.2.2.2 b h.2.1 g⟩ hn
  subst e
  rwa [decide_eq_true (by omega)] at h1

/-- What stands behind a number. -/
def NumEnd (s : ByteArray) (b : Int) : Prop := ¬ (b < s.size ∧ (IsDig (bt s b) ∨ bt s b = 46 ∨ bt s b = 101 ∨ bt s b = 69))
theorem num_j2 (s : ByteArray) (hs : s.size ≤ 2147483647) (a j b : Int) (h0 : 0 ≤ a) (hj : j = a ∨ j = a + 1 ∧ a < s.size ∧ (bt s a = 43 ∨ bt s a = 45)) (hjb : j < b) (hd : Digs s j b) (hn : NumEnd s b) :
    Ev (fun k => sr_number.j2 k true s a) (true, s, b) := by
  have hd2 := digits_all s hs hd hjb (fun h => hn ⟨h.1, .inl h.2⟩)
  have hb := hd.2.2.1
  have hja := hd.2.2.2 j (by omega) hjb
  unfold IsDig at hja
  rcases hj with rfl | ⟨rfl, hlt, h43 | h45⟩
  · have t3 := take_no (s := s) (a := j) (c := 43) h0 (fun h => by omega)
    have u3 := take_no (s := s) (a := j) (c := 45) h0 (fun h => by omega)
    exact Ev.step (f := fun k => (sr_digits.f k s j).bind fun r => some (r.1, r.2.1, r.2.2)) (fun k => by simp [sr_number.j2, t3, u3]) (Ev.bind hd2 (Ev.now _))
  · have t3 := take_yes hs h0 hlt h43
    exact Ev.step (f := fun k => (sr_digits.f k s (a + 1)).bind fun r => some (r.1, r.2.1, r.2.2)) (fun k => by simp [sr_number.j2, t3]) (Ev.bind hd2 (Ev.now _))
  · have t3 := take_no (s := s) (c := 43) h0 (fun h => by omega)
    have u3 := take_yes hs h0 hlt h45
    exact Ev.step (f := fun k => (sr_digits.f k s (a + 1)).bind fun r => some (r.1, r.2.1, r.2.2)) (fun k => by simp [sr_number.j2, t3, u3]) (Ev.bind hd2 (Ev.now _))
theorem num_j1 (s : ByteArray) (hs : s.size ≤ 2147483647) (a b : Int) (h0 : 0 ≤ a) (h : ExpPart s a b) (hn : NumEnd s b) : Ev (fun k => sr_number.j1 k false s a) (true, s, b) := by
  rcases h with rfl | ⟨h1, h2, j, h3, h4, h5⟩
  · have t3 := take_no (s := s) (a := b) (c := 101) h0 (fun h => hn ⟨h.1, .inr (.inr (.inl h.2))⟩)
    have u3 := take_no (s := s) (a := b) (c := 69) h0 (fun h => hn ⟨h.1, .inr (.inr (.inr h.2))⟩)
    exact Ev.step (f := fun k => sr_number.j2 k false s b) (fun k => by simp [sr_number.j1, t3, u3]) (Ev.step (f := fun _ => some (true, s, b)) (fun k => by simp [sr_number.j2]) (Ev.now _))
  · have hj2 := num_j2 s hs (a + 1) j b (by omega) (by rcases h3 with h | ⟨h, h6, h7⟩; exact .inl h; exact .inr ⟨by omega, h6, h7⟩) h4 h5 hn
    rcases h2 with h2 | h2
    · have t3 := take_yes hs h0 h1 h2
      exact Ev.step (f := fun k => sr_number.j2 k true s (a + 1)) (fun k => by simp [sr_number.j1, t3]) hj2
    · have t3 := take_no (s := s) (a := a) (c := 101) h0 (fun h => by omega)
      have u3 := take_yes hs h0 h1 h2
      exact Ev.step (f := fun k => sr_number.j2 k true s (a + 1)) (fun k => by simp [sr_number.j1, t3, u3]) hj2
theorem exp_end {s : ByteArray} {j b : Int} (h : ExpPart s j b) (hn : NumEnd s b) : ¬ (j < s.size ∧ (IsDig (bt s j) ∨ bt s j = 46)) := by
  rcases h with rfl | ⟨h1, h2, _⟩
  · exact fun h => hn ⟨h.1, by rcases h.2 with h | h; exact .inl h; exact .inr (.inl h)⟩
  · intro h; unfold IsDig at h; omega
theorem num_j0 (s : ByteArray) (hs : s.size ≤ 2147483647) (a j b : Int) (h0 : 0 ≤ a) (hf : FracPart s a j) (he : ExpPart s j b) (hn : NumEnd s b) : Ev (fun k => sr_number.j0 k false s a) (true, s, b) := by
  have hx := exp_end he hn
  rcases hf with rfl | ⟨h1, h2, h3, h4⟩
  · have t3 := take_no (s := s) (a := j) (c := 46) h0 (fun h => hx ⟨h.1, .inr h.2⟩)
    exact Ev.step (f := fun k => sr_number.j1 k false s j) (fun k => by simp [sr_number.j0, t3]) (num_j1 s hs j b h0 he hn)
  · have t3 := take_yes hs h0 h1 h2
    have hd := digits_all s hs h4 h3 (fun h => hx ⟨h.1, .inl h.2⟩)
    exact Ev.step (f := fun k => (sr_digits.f k s (a + 1)).bind fun r => sr_number.j1 k (!r.1) r.2.1 r.2.2) (fun k => by simp [sr_number.j0, t3]) (Ev.bind hd (num_j1 s hs j b (by omega) he hn))
theorem frac_end {s : ByteArray} {i j b : Int} (hf : FracPart s i j) (he : ExpPart s j b) (hn : NumEnd s b) : ¬ (i < s.size ∧ IsDig (bt s i)) := by
  rcases hf with rfl | ⟨h1, h2, _⟩
  · exact fun h => exp_end he hn ⟨h.1, .inl h.2⟩
  · intro h; unfold IsDig at h; omega
theorem number_num (s : ByteArray) (hs : s.size ≤ 2147483647) {a b : Int} (h : Num s a b) (hn : NumEnd s b) : Ev (fun k => sr_number.f k s a) (true, s, b) := by
  obtain ⟨h0, a', i, j, h1, h2, h3, h4⟩ := h
  have ha : 0 ≤ a' := by rcases h1 with h | h <;> omega
  have main : Ev (fun k => (sr_take.f s a' 48).bind fun r => if r.1 = true then sr_number.j0 k false r.2.1 r.2.2 else (sr_digits.f k r.2.1 r.2.2).bind fun t => sr_number.j0 k (!t.1) t.2.1 t.2.2) (true, s, b) := by
    rcases h2 with ⟨g1, g2, rfl⟩ | ⟨g1, g2, g3⟩
    · have t3 := take_yes hs ha g1 g2
      exact Ev.congr (fun k => by rw [t3]; rfl) (num_j0 s hs (a' + 1) j b (by omega) h3 h4 hn)
    · have t3 := take_no (s := s) (a := a') (c := 48) ha (fun h => g3 h.2)
      have hd := digits_all s hs g2 g1 (frac_end h3 h4 hn)
      exact Ev.congr (fun k => by rw [t3]; rfl) (Ev.bind hd (num_j0 s hs i j b (by omega) h3 h4 hn))
  rcases h1 with rfl | ⟨rfl, h5, h6⟩
  · have hd0 : bt s a' = 48 ∨ IsDig (bt s a') := by
      rcases h2 with ⟨g1, g2, _⟩ | ⟨g1, g2, g3⟩
      · exact .inl g2
      · exact .inr (g2.2.2.2 _ (by omega) g1)
    have t3 := take_no (s := s) (a := a') (c := 45) h0 (fun h => by unfold IsDig at hd0; omega)
    exact Ev.congr (fun k => by unfold sr_number.f; rw [t3]; rfl) main
  · have t3 := take_yes hs h0 h5 h6
    exact Ev.congr (fun k => by unfold sr_number.f; rw [t3]; rfl) main

theorem word_first {s w : ByteArray} {a b : Int} (h : Word s a b w) (hw : 0 < w.size) : bt s a = bt w 0 := by
  obtain ⟨g0, rfl, g2, g3⟩ := h
  have hsub : sub s a (a + w.size) = bytesOf w := by unfold sub; rw [g3]
  rw [← rd_bytesOf w 0, ← rd_bytesOf s a, ← hsub, ← sub_eq]
  unfold Go.Proofs.YtnilbkfhfnofgaaW.PrintWords.rd
  simp only [List.getD_eq_getElem?_getD, List.getElem?_drop, Int.toNat_zero, Nat.add_zero]
  rw [List.getElem?_take_of_lt (by omega)]
theorem word_yes {s w : ByteArray} (hs : s.size ≤ 2147483647) (hw : w.size ≤ 100) {a b : Int} (h : Word s a b w) : sr_word.f s a w = some (true, s, b) := by
  obtain ⟨g0, rfl, g2, g3⟩ := h
  unfold sr_word.f
  rw [w64 (x := (s.size : Int) - a) (by omega) (by omega), w64 (x := a + w.size) (by omega) (by omega), if_neg (by omega), if_pos g0, if_pos (by omega), if_pos g2, g3, if_pos rfl]
theorem word_other {s w : ByteArray} (hs : s.size ≤ 2147483647) (hw : w.size ≤ 100) (hw0 : 0 < w.size) {a : Int} (h0 : 0 ≤ a) (h1 : a ≤ s.size) (h : bt s a ≠ bt w 0) : sr_word.f s a w = some (false, s, a) := by
  rcases word_at s hs w hw a h0 h1 with ⟨g, _⟩ | g
  · exact absurd (word_first g hw0) h
  · exact g
theorem num_first {s : ByteArray} {a b : Int} (h : Num s a b) : a < s.size ∧ (bt s a = 45 ∨ IsDig (bt s a)) := by
  obtain ⟨h0, a', i, j, h1, h2, _⟩ := h
  rcases h1 with rfl | ⟨rfl, h5, h6⟩
  · rcases h2 with ⟨g1, g2, _⟩ | ⟨g1, g2, g3⟩
    · exact ⟨g1, .inr (by unfold IsDig; omega)⟩
    · exact ⟨by have := g2.2.2.1; omega, .inr (g2.2.2.2 _ (by omega) g1)⟩
  · exact ⟨h5, .inl h6⟩
theorem value_word (s : ByteArray) (hs : s.size ≤ 2147483647) {a : Int} (h0 : 0 ≤ a) (h1 : a < s.size) (c : bt s a = 110 ∨ bt s a = 102 ∨ bt s a = 116) {r : Int × Int × Int × List S54 × List S28 × Bool × ByteArray × Int} (h : Ev (fun k => sr_value.j0 k true false s a 0 a 0) r) :
    Ev (fun k => sr_value.f k s a) r := by
  refine Ev.step (fun k => ?_) h
  rw [sr_value.f, here_in h0 h1]
  simp only [Option.bind_some]
  rw [if_neg (by omega), if_neg (by omega), if_neg (by omega), if_neg (by omega), if_pos (by omega), decide_eq_false (by omega)]
/-- A scalar is read as it stands. -/
theorem value_val (s : ByteArray) (hs : s.size ≤ 2147483647) {a b : Int} {p : S28} (h : Val s a b p) (hk : p.f0 < 5) (hn : NumEnd s b) : Ev (fun k => sr_value.f k s a) (p.f0, a, b, p.f3, p.f4, true, s, b) := by
  cases h with
  | null h =>
    have g := word_first h (by decide)
    have g' : bt s a = 110 := by rw [g]; decide
    have hb := h.2.1
    have hb2 := h.2.2.1
    have hz : (((⟨#[110, 117, 108, 108]⟩ : ByteArray).size : Nat) : Int) = 4 := by decide
    refine value_word s hs h.1 (by omega) (.inl g') (Ev.step (f := fun _ => some _) (fun k => ?_) (Ev.now _))
    rw [sr_value.j0, word_yes hs (by decide) h]; simp
  | «false» h =>
    have g := word_first h (by decide)
    have g' : bt s a = 102 := by rw [g]; decide
    have hb := h.2.1
    have hb2 := h.2.2.1
    have hz : (((⟨#[102, 97, 108, 115, 101]⟩ : ByteArray).size : Nat) : Int) = 5 := by decide
    refine value_word s hs h.1 (by omega) (.inr (.inl g')) (Ev.step (f := fun _ => some _) (fun k => ?_) (Ev.now _))
    have n1 := word_other (w := ⟨#[110, 117, 108, 108]⟩) hs (by decide) (by decide) h.1 (by omega) (by rw [g']; decide)
    rw [sr_value.j0, n1]; simp [word_yes hs (by decide) h]
  | «true» h =>
    have g := word_first h (by decide)
    have g' : bt s a = 116 := by rw [g]; decide
    have hb := h.2.1
    have hb2 := h.2.2.1
    have hz : (((⟨#[116, 114, 117, 101]⟩ : ByteArray).size : Nat) : Int) = 4 := by decide
    refine value_word s hs h.1 (by omega) (.inr (.inr g')) (Ev.step (f := fun _ => some _) (fun k => ?_) (Ev.now _))
    have n1 := word_other (w := ⟨#[110, 117, 108, 108]⟩) hs (by decide) (by decide) h.1 (by omega) (by rw [g']; decide)
    have n2 := word_other (w := ⟨#[102, 97, 108, 115, 101]⟩) hs (by decide) (by decide) h.1 (by omega) (by rw [g']; decide)
    rw [sr_value.j0, n1]; simp [n2, word_yes hs (by decide) h]
  | num h0 h1 c h =>
    have N := number_num s hs h hn
    have J : Ev (fun k => sr_value.j0 k true true s a 0 a 0) (3, a, b, [], [], true, s, b) := by
      refine Ev.step (f := ?_) (fun k => ?_) ?_
      rotate_left 1
      · conv => (lhs; rw [sr_value.j0, if_pos rfl])
      exact Ev.bind N (Ev.now _)
    refine Ev.step (fun k => ?_) J
    rw [sr_value.f, here_in h0 h1]
    simp only [Option.bind_some]
    unfold IsDig at c
    rw [if_neg (by omega), if_neg (by omega), if_neg (by omega)]
    rcases c with c | c
    · rw [if_pos c]
    · rw [if_neg (by omega), if_pos c.1, decide_eq_true c.2]
  | str h =>
    have Q := quoted_str s hs h
    obtain ⟨h0, h1, h2, _⟩ := h
    refine Ev.step (f := ?_) (fun k => ?_) ?_
    rotate_left 1
    · conv => (lhs; rw [sr_value.f, here_in h0 h1]; simp only [Option.bind_some]; rw [if_neg (by omega), if_neg (by omega), if_pos h2])
    exact Ev.bind Q (Ev.now _)
  | arr0 => exact absurd hk (by simp)
  | arr => exact absurd hk (by simp)
  | obj0 => exact absurd hk (by simp)
  | obj => exact absurd hk (by simp)

theorem numend_of {s : ByteArray} {d e : Int} (hb : Blanks s d e) (h1 : e < s.size) (hc : bt s e = 93 ∨ bt s e = 44 ∨ bt s e = 125) : NumEnd s d := by
  intro ⟨g1, g2⟩
  unfold IsDig at g2
  by_cases h : d = e
  · subst h; omega
  · have := hb.2.2.2 d (by omega) (by have := hb.2.1; omega)
    unfold IsBlk at this; omega
theorem val_eta {s : ByteArray} {a b : Int} {p : S28} (h : Val s a b p) : p = ⟨p.f0, a, b, p.f3, p.f4⟩ := by cases h <;> rfl
theorem val_start {s : ByteArray} {a b : Int} {p : S28} (h : Val s a b p) : 0 ≤ a ∧ a < s.size ∧ ¬ IsBlk (bt s a) ∧ bt s a ≠ 93 := by
  have w : ∀ {w : ByteArray} {b : Int}, Word s a b w → 0 < w.size → ¬ IsBlk (bt w 0) → bt w 0 ≠ 93 → 0 ≤ a ∧ a < s.size ∧ ¬ IsBlk (bt s a) ∧ bt s a ≠ 93 := by
    intro w b h h2 h3 h4
    have e := word_first h h2
    exact ⟨h.1, by have := h.2.1; have := h.2.2.1; omega, by rw [e]; exact h3, by rw [e]; exact h4⟩
  cases h with
  | null h => exact w h (by decide) (by unfold IsBlk; decide) (by decide)
  | «false» h => exact w h (by decide) (by unfold IsBlk; decide) (by decide)
  | «true» h => exact w h (by decide) (by unfold IsBlk; decide) (by decide)
  | num h0 h1 c h => exact ⟨h0, h1, by unfold IsBlk IsDig at *; omega, by unfold IsDig at c; omega⟩
  | str h => exact ⟨h.1, h.2.1, by have := h.2.2.1; unfold IsBlk; omega, by have := h.2.2.1; omega⟩
  | arr0 h0 h1 ha => exact ⟨h0, h1, by unfold IsBlk; omega, by omega⟩
  | arr h0 h1 ha => exact ⟨h0, h1, by unfold IsBlk; omega, by omega⟩
  | obj0 h0 h1 ha => exact ⟨h0, h1, by unfold IsBlk; omega, by omega⟩
  | obj h0 h1 ha => exact ⟨h0, h1, by unfold IsBlk; omega, by omega⟩
theorem els_start {s : ByteArray} {c b : Int} {ks : List S28} (h : Els s c b ks) : 0 ≤ c ∧ c < s.size ∧ ¬ IsBlk (bt s c) ∧ bt s c ≠ 93 := by
  cases h with
  | last h => exact val_start h
  | more h => exact val_start h
theorem els_all (s : ByteArray) (hs : s.size ≤ 2147483647) : ∀ {c b : Int} {ks : List S28}, Els s c b ks → (∀ p ∈ ks, p.f0 < 5) → ∀ x : List S28, x.length ≤ c → Ev (fun k => sr_elements.l0 k x s c) (x ++ ks, true, s, b)
  | c, _, _, .last (d := d) (e := e) (p := p) h hb h1 hc, hk, x, hx => by
    have V := value_val s hs h (hk _ (by simp)) (numend_of hb h1 (.inl hc))
    have B := blanks_all s hs hb (fun g => by have := g.2; unfold IsBlk at this; omega)
    have q1 := (val_start h).2.1
    have q2 := hb.1
    have q3 := hb.2.1
    have hx2 : x.length < 1954687338268 := by omega
    have t3 := take_yes hs (by omega) h1 hc
    refine Ev.step (f := ?_) (fun k => ?_) ?_
    rotate_left 1
    · rw [sr_elements.l0]
    refine Ev.bind V ?_
    simp only [if_true, if_pos hx2, Option.bind_some]
    refine Ev.bind B ?_
    simp only [t3, Option.bind_some, if_true]
    rw [← val_eta h]
    exact Ev.now _
  | c, b, _, .more (d := d) (e := e) (f := f) (p := p) (ks := ks) h hb h1 hc hf r, hk, x, hx => by
    have V := value_val s hs h (hk _ (by simp)) (numend_of hb h1 (.inr (.inl hc)))
    have B := blanks_all s hs hb (fun g => by have := g.2; unfold IsBlk at this; omega)
    have q1 := val_start h
    have q2 := hb.1
    have q3 := hb.2.1
    have q4 := hf.2.1
    have r1 := els_start r
    have B2 := blanks_all s hs hf (fun g => r1.2.2.1 g.2)
    have hx2 : x.length < 1954687338268 := by omega
    have t3 := take_no (s := s) (a := e) (c := 93) (by omega) (fun g => by omega)
    have u3 := take_yes hs (by omega) h1 hc
    have hk0 := hk p (by simp)
    have hcd : c < d := by
      have := q1.2.1
      cases h with
      | null h => have := h.2.1; have z : (((⟨#[110, 117, 108, 108]⟩ : ByteArray).size : Nat) : Int) = 4 := by decide
                  omega
      | «false» h => have := h.2.1; have z : (((⟨#[102, 97, 108, 115, 101]⟩ : ByteArray).size : Nat) : Int) = 5 := by decide
                     omega
      | «true» h => have := h.2.1; have z : (((⟨#[116, 114, 117, 101]⟩ : ByteArray).size : Nat) : Int) = 4 := by decide
                    omega
      | num _ _ _ h => exact (num_inner h).2.1
      | str h => have := (str_bound h).2.1; omega
      | arr0 => exact absurd hk0 (by simp)
      | arr => exact absurd hk0 (by simp)
      | obj0 => exact absurd hk0 (by simp)
      | obj => exact absurd hk0 (by simp)
    have E := els_all s hs r (fun p hp => hk p (by simp [hp])) (x ++ [p]) (by simp; omega)
    refine Ev.step (f := ?_) (fun k => ?_) ?_
    rotate_left 1
    · rw [sr_elements.l0]
    refine Ev.bind V ?_
    simp only [if_true, if_pos hx2, Option.bind_some]
    refine Ev.bind B ?_
    simp only [t3, u3, Option.bind_some, if_true, Bool.false_eq_true, if_false]
    refine Ev.bind B2 ?_
    rw [← val_eta h]
    simpa using E
/-- A flat array is read as it stands. -/
theorem value_flat (s : ByteArray) (hs : s.size ≤ 2147483647) {a b c : Int} {ks : List S28} (h0 : 0 ≤ a) (h1 : a < s.size) (ha : bt s a = 91) (hb : Blanks s (a + 1) c) (h : Els s c b ks) (hk : ∀ p ∈ ks, p.f0 < 5) :
    Ev (fun k => sr_value.f k s a) (5, a, b, [], ks, true, s, b) := by
  have r1 := els_start h
  have B := blanks_all s hs hb (fun g => r1.2.2.1 g.2)
  have E := els_all s hs h hk [] (by simp; omega)
  have t3 := take_no (s := s) (a := c) (c := 93) r1.1 (fun g => r1.2.2.2 g.2)
  have F : Ev (fun k => sr_elements.f k s a) (ks, true, s, b) := by
    refine Ev.step (f := ?_) (fun k => ?_) ?_
    rotate_left 1
    · conv => (lhs; rw [sr_elements.f, w64 (by omega) (by omega)])
    refine Ev.bind B ?_
    simp only [t3, Option.bind_some, Bool.false_eq_true, if_false]
    simpa using E
  refine Ev.step (f := ?_) (fun k => ?_) ?_
  rotate_left 1
  · conv => (lhs; rw [sr_value.f, here_in h0 h1]; simp only [Option.bind_some]; rw [if_neg (by omega), if_pos ha])
  exact Ev.bind F (Ev.now _)

/-- An object of one member whose value is read. -/
theorem value_one (s : ByteArray) (hs : s.size ≤ 2147483647) {a d f g h : Int} {p : S28} (h0 : 0 ≤ a) (h1 : a < s.size) (ha : bt s a = 123) (hS : Str s (a + 1) d) (hd1 : d < s.size) (hd : bt s d = 58) (hf : Blanks s (d + 1) f) (hfn : ¬ IsBlk (bt s f))
    (V : Ev (fun k => sr_value.f k s f) (p.f0, f, g, p.f3, p.f4, true, s, g)) (hp : p = ⟨p.f0, f, g, p.f3, p.f4⟩) (hg : Blanks s g h) (hh1 : h < s.size) (hh : bt s h = 125) :
    Ev (fun k => sr_value.f k s a) (6, a, h + 1, [⟨a + 1, d⟩], [p], true, s, h + 1) := by
  have sb := str_bound hS
  have hq := hS.2.2.1
  have B0 : Ev (fun k => sr_blanks.f k s (a + 1)) (s, a + 1) := blanks_all s hs ⟨by omega, by omega, by omega, fun i q1 q2 => by omega⟩ (fun g => by have := g.2; unfold IsBlk at this; omega)
  have B1 : Ev (fun k => sr_blanks.f k s d) (s, d) := blanks_all s hs ⟨by omega, by omega, by omega, fun i q1 q2 => by omega⟩ (fun g => by have := g.2; unfold IsBlk at this; omega)
  have B2 := blanks_all s hs hf (fun g => hfn g.2)
  have B3 := blanks_all s hs hg (fun g => by have := g.2; unfold IsBlk at this; omega)
  have q1 := hf.2.1
  have q2 := hg.1
  have q3 := hg.2.1
  have t0 := take_no (s := s) (a := a + 1) (c := 125) (by omega) (fun g => by omega)
  have t3 := take_yes hs (by omega) hd1 hd
  have u3 := take_yes hs (by omega) hh1 hh
  have Q := quoted_str s hs hS
  have L : Ev (fun k => sr_members.l0 k [] [] s (a + 1)) ([⟨a + 1, d⟩], [p], true, s, h + 1) := by
    have J : Ev (fun k => sr_members.j1 k [] [] (a + 1) (!true) s d) ([⟨a + 1, d⟩], [p], true, s, h + 1) := by
      refine Ev.step (f := ?_) (fun k => ?_) ?_
      rotate_left 1
      · conv => (lhs; rw [sr_members.j1]; simp only [Bool.not_true, Bool.false_eq_true, if_false]; rw [if_pos (by simp)]; simp only [Option.bind_some])
      refine Ev.bind B1 ?_
      simp only [t3, Option.bind_some, if_true]
      refine Ev.bind B2 (Ev.bind V ?_)
      simp only [if_true, List.length_nil, if_pos (show (0 : Nat) < 1954687338268 by decide), Option.bind_some]
      refine Ev.bind B3 ?_
      simp only [u3, Option.bind_some, if_true]
      rw [← hp]
      exact Ev.now _
    refine Ev.step (f := ?_) (fun k => ?_) ?_
    rotate_left 1
    · conv => (lhs; rw [sr_members.l0, here_in (by omega) (by omega)]; simp only [Option.bind_some]; rw [if_pos hq])
    exact Ev.bind Q J
  have F : Ev (fun k => sr_members.f k s a) ([⟨a + 1, d⟩], [p], true, s, h + 1) := by
    refine Ev.step (f := ?_) (fun k => ?_) ?_
    rotate_left 1
    · conv => (lhs; rw [sr_members.f, w64 (by omega) (by omega)])
    refine Ev.bind B0 ?_
    simp only [t0, Option.bind_some, Bool.false_eq_true, if_false]
    exact L
  refine Ev.step (f := ?_) (fun k => ?_) ?_
  rotate_left 1
  · conv => (lhs; rw [sr_value.f, here_in h0 h1]; simp only [Option.bind_some]; rw [if_pos ha])
  exact Ev.bind F (Ev.now _)
/-- A text that is one value without blanks around it. -/
theorem places_one (s : ByteArray) (hs : s.size ≤ 2147483647) {p : S28} (h0 : 0 < s.size) (hb : ¬ IsBlk (bt s 0)) (V : Ev (fun k => sr_value.f k s 0) (p.f0, 0, s.size, p.f3, p.f4, true, s, s.size)) :
    Ev (fun k => spec_Places.f k s) (p.f0, 0, s.size, p.f3, p.f4, true) := by
  have B : Ev (fun k => sr_blanks.f k s 0) (s, 0) := blanks_all s hs ⟨by omega, by omega, by omega, fun i q1 q2 => by omega⟩ (fun g => hb g.2)
  have C : Ev (fun k => sr_blanks.f k s s.size) (s, (s.size : Int)) := blanks_all s hs ⟨by omega, by omega, by omega, fun i q1 q2 => by omega⟩ (fun g => by omega)
  unfold spec_Places.f
  refine Ev.bind B (Ev.bind V ?_)
  simp only [if_true]
  refine Ev.bind C ?_
  simp only [if_true]
  exact Ev.now _

end Go.Proofs.Ytnilbkfhfnofgaa.PFnPrWidthMember
