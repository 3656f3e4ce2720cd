/- Plain lemmas for this claim: what the Lean functions of the contracts compute, over numbers and lists. -/
import Derived.Test.YtapgjhgjhcfmoaaPFnPrDefaultLaidxhPrDefault
import Derived.Test.YtapgjhgjhcfmoaaPFnPrDefaultLaidxhGram
import Derived.Test.YtapgjhgjhcfmoaaPFnPrDefaultLaidxhPlaces
import Derived.Test.YtapgjhgjhcfmoaaPFnPrDefaultLaidx14
import Derived.Test.YtapgjhgjhcfmoaaPFnPrDefaultLaidx13
import Derived.Test.YtapgjhgjhcfmoaaPFnPrDefaultLaidx12
namespace Go.Proofs.Ytapgjhgjhcfmoaa.PFnPrDefaultLaid
open Go.RowKit Go.Proofs.YtapgjhgjhcfmoaaW.PrintWords Go.Proofs.YtapgjhgjhcfmoaaW.PrintLast Go.Proofs.YtapgjhgjhcfmoaaW.PrintMore
set_option linter.unusedVariables false
set_option linter.unusedSimpArgs false
/-! ### sub-texts -/
def sub (s : ByteArray) (a b : Int) : List Int := bytesOf (s.extract a.toNat b.toNat)
theorem sub_eq (s : ByteArray) (a b : Int) : ((bytesOf s).take b.toNat).drop a.toNat = sub s a b := by
  unfold sub bytesOf
  rw [ByteArray.data_extract, Array.toList_extract, List.extract_eq_take_drop]
  rw [← List.map_take, ← List.map_drop, List.drop_take]
theorem sub_len (s : ByteArray) (a b : Int) (h0 : 0 ≤ a) (h1 : a ≤ b) (h2 : b ≤ s.size) : ((sub s a b).length : Int) = b - a := by
  unfold sub
  rw [bytesOf_length, ByteArray.size_extract]
  omega
theorem blen (s : ByteArray) : ((bytesOf s).length : Int) = s.size := by rw [bytesOf_length]
/-- the last element -/
def LastIs (l : List Int) (c : Int) : Prop := ∃ m, l = m ++ [c]
theorem LastIs.rd {l : List Int} {c : Int} (h : LastIs l c) : rd l ((l.length : Int) - 1) = c := by
  obtain ⟨m, rfl⟩ := h
  unfold Go.Proofs.YtapgjhgjhcfmoaaW.PrintWords.rd
  have : (((m ++ [c]).length : Int) - 1).toNat = m.length := by simp
  rw [this]
  simp
theorem LastIs.pos {l : List Int} {c : Int} (h : LastIs l c) : 0 < l.length := by obtain ⟨m, rfl⟩ := h; simp
theorem LastIs.app (l : List Int) {m : List Int} {c : Int} (h : LastIs m c) : LastIs (l ++ m) c := by obtain ⟨n, rfl⟩ := h; exact ⟨l ++ n, by simp⟩
theorem LastIs.one (l : List Int) (c : Int) : LastIs (l ++ [c]) c := ⟨l, rfl⟩
theorem sub_snoc (s : ByteArray) (a b : Int) (h0 : 0 ≤ a) (h1 : a ≤ b) (h2 : b < s.size) : sub s a (b + 1) = sub s a b ++ [bt s b] := by
  rw [← sub_eq, ← sub_eq]
  have e : (b + 1).toNat = b.toNat + 1 := by omega
  have hl : b.toNat < (bytesOf s).length := by have := blen s; omega
  rw [e, List.take_succ_eq_append_getElem hl, List.drop_append_of_le_length (by rw [List.length_take]; omega)]
  congr 2
  rw [← rd_bytesOf]
  unfold Go.Proofs.YtapgjhgjhcfmoaaW.PrintWords.rd
  simp [List.getD_eq_getElem?_getD, List.getElem?_eq_getElem hl]
theorem sub_last (s : ByteArray) (a b : Int) (h0 : 0 ≤ a) (h1 : a < b) (h2 : b ≤ s.size) : LastIs (sub s a b) (bt s (b - 1)) := by
  have := sub_snoc s a (b - 1) h0 (by omega) (by omega)
  rw [show b - 1 + 1 = b by omega] at this
  rw [this]; exact LastIs.one _ _
theorem sub_nil (s : ByteArray) (a : Int) : sub s a a = [] := by
  unfold sub
  apply List.eq_nil_of_length_eq_zero
  rw [bytesOf_length, ByteArray.size_extract]; omega

/-! ### appendPrettyString -/
inductive Run (s : ByteArray) (lo : Int) : Int → Nat → Prop
  | stop {i : Int} (h : ¬ (lo < i - 1 ∧ bt s (i - 1) = 92)) : Run s lo i 0
  | more {i : Int} {n : Nat} (h : lo < i - 1) (c : bt s (i - 1) = 92) (r : Run s lo (i - 1) n) : Run s lo i (n + 1)
theorem run_le {s : ByteArray} {lo i : Int} {n : Nat} (h : Run s lo i n) (hi : lo < i) : (n : Int) < i - lo := by
  induction h with
  | stop => omega
  | more h c r ih => have := ih h; omega

theorem str_l1 (s : ByteArray) (hs : s.size ≤ 2147483647) (buf : List Int) (hb : buf.length ≤ 100000000000000) (nl lo x2 : Int) (hlo : 0 ≤ lo) (hx : x2 < s.size) (r : List Int × Int × Int × Bool) {i : Int} {n : Nat} (h : Run s lo i n) :
    ∀ c : Int, 0 ≤ c → c + n ≤ 2147483647 → lo < i → i ≤ x2 →
      (((c + n) % 2 = 1 ∧ Ev (fun k => pretty_appendPrettyString.l0 k buf (bytesOf s) (x2 + 1) nl lo) r) ∨ ((c + n) % 2 = 0 ∧ r = (buf ++ sub s lo (x2 + 1), x2 + 1, nl, true))) →
      Ev (fun k => pretty_appendPrettyString.l1 k buf (bytesOf s) x2 nl lo c (i - 1)) r := by
  have hl := blen s
  have fin : ∀ c : Int, 0 ≤ c → c ≤ 2147483647 → lo ≤ x2 →
      ((c % 2 = 1 ∧ Ev (fun k => pretty_appendPrettyString.l0 k buf (bytesOf s) (x2 + 1) nl lo) r) ∨ (c % 2 = 0 ∧ r = (buf ++ sub s lo (x2 + 1), x2 + 1, nl, true))) →
      Ev (fun k => (if (Int.tmod c 2) = 1 then (pretty_appendPrettyString.l0 k buf (bytesOf s) (wrap64 (x2 + 1)) nl lo) else (if 0 ≤ lo then (if lo ≤ (wrap64 (x2 + 1)) then (if (wrap64 (x2 + 1)) ≤ ((bytesOf s).length : Int) then ((some (((bytesOf s).take ((wrap64 (x2 + 1)) : Int).toNat).drop (lo : Int).toNat : List Int)).bind fun y295 => (if buf.length + y295.length < 140737488355328 then (some ((buf ++ y295), wrap64 (x2 + 1), nl, true)) else (none))) else (none)) else (none)) else (none)))) r := by
    intro c h0 h1 h2 h
    rw [w64 (x := x2 + 1) (by omega) (by omega)]
    have ht : Int.tmod c 2 = c % 2 := Int.tmod_eq_emod_of_nonneg h0
    rw [ht]
    rcases h with ⟨hc, h⟩ | ⟨hc, rfl⟩
    · simp only [if_pos hc]; exact h
    · have hsl := sub_len s lo (x2 + 1) hlo (by omega) (by omega)
      refine Ev.congr (f := fun _ => some _) (fun k => ?_) (Ev.now _)
      rw [if_neg (by omega), if_pos hlo, if_pos (by omega), if_pos (by omega), sub_eq]
      simp only [Option.bind_some]
      rw [if_pos (by omega)]
  induction h with
  | stop h =>
    rename_i i
    intro c h0 h1 h2 h3 hr
    have hf := fin c h0 (by omega) (by omega) (by simpa using hr)
    refine Ev.step ?_ hf
    intro k
    rw [pretty_appendPrettyString.l1]
    by_cases g : i - 1 > lo
    · rw [if_pos g, if_pos (by omega), if_pos (by omega), rd_bytesOf, if_neg (fun e => h ⟨g, e⟩)]
    · rw [if_neg g]
  | more h c r ih =>
    rename_i i n
    intro c' h0 h1 h2 h3 hr
    have := ih (c' + 1) (by omega) (by omega) h (by omega) (by rw [show c' + 1 + (n : Int) = c' + ((n + 1 : Nat) : Int) by omega]; exact hr)
    refine Ev.step (f := fun k => pretty_appendPrettyString.l1 k buf (bytesOf s) x2 nl lo (c' + 1) (i - 1 - 1)) (fun k => ?_) this
    rw [pretty_appendPrettyString.l1, if_pos (by omega), if_pos (by omega), if_pos (by omega), rd_bytesOf, if_pos c, w64 (by omega) (by omega), w64 (by omega) (by omega)]

theorem str_skip (s : ByteArray) (hs : s.size ≤ 2147483647) (buf : List Int) (nl lo i : Int) (r : List Int × Int × Int × Bool) (h0 : 0 ≤ i) (h1 : i < s.size) (c : bt s i ≠ 34)
    (h : Ev (fun k => pretty_appendPrettyString.l0 k buf (bytesOf s) (i + 1) nl lo) r) : Ev (fun k => pretty_appendPrettyString.l0 k buf (bytesOf s) i nl lo) r := by
  have hl := blen s
  refine Ev.step (fun k => ?_) h
  rw [pretty_appendPrettyString.l0, if_pos (by omega), if_pos h0, rd_bytesOf, if_neg c, w64 (by omega) (by omega)]
theorem str_quote (s : ByteArray) (hs : s.size ≤ 2147483647) (buf : List Int) (nl lo i : Int) (r : List Int × Int × Int × Bool) (h0 : 0 ≤ i) (h1 : i < s.size) (c : bt s i = 34)
    (h : Ev (fun k => pretty_appendPrettyString.l1 k buf (bytesOf s) i nl lo 0 (i - 1)) r) : Ev (fun k => pretty_appendPrettyString.l0 k buf (bytesOf s) i nl lo) r := by
  have hl := blen s
  refine Ev.step (fun k => ?_) h
  rw [pretty_appendPrettyString.l0, if_pos (by omega), if_pos h0, rd_bytesOf, if_pos c, w64 (by omega) (by omega)]

theorem str_ins (s : ByteArray) (hs : s.size ≤ 2147483647) (buf : List Int) (hb : buf.length ≤ 100000000000000) (nl lo : Int) (hlo : 0 ≤ lo) {i b : Int} (h : Ins s i b) :
    lo < i → (∃ n, Run s lo i (2 * n)) → Ev (fun k => pretty_appendPrettyString.l0 k buf (bytesOf s) i nl lo) (buf ++ sub s lo b, b, nl, true) := by
  induction h with
  | close h0 h1 c =>
    rename_i i
    rintro hi ⟨n, hn⟩
    have := run_le hn hi
    exact str_quote s hs buf nl lo i _ h0 h1 c (str_l1 s hs buf hb nl lo i hlo h1 _ hn 0 (by omega) (by omega) hi (by omega) (.inr ⟨by omega, rfl⟩))
  | plain h0 h1 c1 c2 c3 r ih =>
    rename_i i b
    rintro hi ⟨n, hn⟩
    exact str_skip s hs buf nl lo i _ h0 h1 c1 (ih (by omega) ⟨0, .stop (by rw [show i + 1 - 1 = i by omega]; exact fun e => c3 e.2)⟩)
  | short h0 h1 c e r ih =>
    rename_i i b
    rintro hi ⟨n, hn⟩
    have hr1 : Run s lo (i + 1) (2 * n + 1) := .more (by omega) (by rw [show i + 1 - 1 = i by omega]; exact c) (by rw [show i + 1 - 1 = i by omega]; exact hn)
    have := run_le hr1 (by omega)
    refine str_skip s hs buf nl lo i _ h0 (by omega) (by omega) ?_
    by_cases q : bt s (i + 1) = 34
    · refine str_quote s hs buf nl lo (i + 1) _ (by omega) h1 q (str_l1 s hs buf hb nl lo (i + 1) hlo h1 _ hr1 0 (by omega) (by omega) (by omega) (by omega) (.inl ⟨by omega, ?_⟩))
      rw [show i + 1 + 1 = i + 2 by omega]
      exact ih (by omega) ⟨0, .stop (by rw [show i + 2 - 1 = i + 1 by omega]; omega)⟩
    · refine str_skip s hs buf nl lo (i + 1) _ (by omega) h1 q ?_
      rw [show i + 1 + 1 = i + 2 by omega]
      refine ih (by omega) ?_
      by_cases q2 : bt s (i + 1) = 92
      · exact ⟨n + 1, .more (by omega) (by rw [show i + 2 - 1 = i + 1 by omega]; exact q2) (by rw [show i + 2 - 1 = i + 1 by omega]; exact hr1)⟩
      · exact ⟨0, .stop (by rw [show i + 2 - 1 = i + 1 by omega]; exact fun e => q2 e.2)⟩
  | uni h0 h1 c u hx r ih =>
    rename_i i b
    rintro hi ⟨n, hn⟩
    have hh : ∀ j, 2 ≤ j → j < 6 → bt s (i + j) ≠ 34 ∧ bt s (i + j) ≠ 92 := by
      intro j a1 a2
      have := hx j a1 a2
      unfold IsHex at this
      omega
    have e2 := hh 2 (by omega) (by omega)
    have e3 := hh 3 (by omega) (by omega)
    have e4 := hh 4 (by omega) (by omega)
    have e5 := hh 5 (by omega) (by omega)
    refine str_skip s hs buf nl lo i _ h0 (by omega) (by omega) (str_skip s hs buf nl lo (i + 1) _ (by omega) (by omega) (by omega) ?_)
    rw [show i + 1 + 1 = i + 2 by omega]
    refine str_skip s hs buf nl lo (i + 2) _ (by omega) (by omega) e2.1 ?_
    rw [show i + 2 + 1 = i + 3 by omega]
    refine str_skip s hs buf nl lo (i + 3) _ (by omega) (by omega) e3.1 ?_
    rw [show i + 3 + 1 = i + 4 by omega]
    refine str_skip s hs buf nl lo (i + 4) _ (by omega) (by omega) e4.1 ?_
    rw [show i + 4 + 1 = i + 5 by omega]
    refine str_skip s hs buf nl lo (i + 5) _ (by omega) (by omega) e5.1 ?_
    rw [show i + 5 + 1 = i + 6 by omega]
    exact ih (by omega) ⟨0, .stop (by rw [show i + 6 - 1 = i + 5 by omega]; exact fun e => e5.2 e.2)⟩
theorem ins_bound {s : ByteArray} {i b : Int} (h : Ins s i b) : 0 ≤ i ∧ i < b ∧ b ≤ s.size ∧ bt s (b - 1) = 34 := by
  induction h with
  | close h0 h1 c => exact ⟨h0, by omega, by omega, by rw [show ∀ i : Int, i + 1 - 1 = i by intro i; omega]; exact c⟩
  | plain h0 h1 c1 c2 c3 r ih => exact ⟨h0, by omega, ih.2.2⟩
  | short h0 h1 c e r ih => exact ⟨h0, by omega, ih.2.2⟩
  | uni h0 h1 c u hx r ih => exact ⟨h0, by omega, ih.2.2⟩
theorem str_bound {s : ByteArray} {a b : Int} (h : Str s a b) : 0 ≤ a ∧ a + 1 < b ∧ b ≤ s.size ∧ bt s (b - 1) = 34 := by
  have := ins_bound h.2.2.2
  exact ⟨h.1, by omega, this.2.2⟩
theorem str_ev (s : ByteArray) (hs : s.size ≤ 2147483647) (buf : List Int) (hb : buf.length ≤ 100000000000000) (nl : Int) {a b : Int} (h : Str s a b) :
    Ev (fun k => pretty_appendPrettyString.f k buf (bytesOf s) a nl) (buf ++ sub s a b, b, nl, true) := by
  obtain ⟨h0, h1, c, hi⟩ := h
  refine Ev.congr (fun k => ?_) (str_ins s hs buf hb nl a h0 hi (by omega) ⟨0, .stop (by omega)⟩)
  rw [pretty_appendPrettyString.f, w64 (by omega) (by omega)]

/-! ### appendPrettyNumber, appendTabs -/
def Fol (s : ByteArray) (b : Int) : Prop := b = s.size ∨ (b < s.size ∧ (bt s b ≤ 32 ∨ bt s b = 44 ∨ bt s b = 93 ∨ bt s b = 125))
def Inner (c : Int) : Prop := 32 < c ∧ c ≠ 44 ∧ c ≠ 58 ∧ c ≠ 93 ∧ c ≠ 125
theorem num_end (s : ByteArray) (buf : List Int) (hb : buf.length ≤ 100000000000000) (hs : s.size ≤ 2147483647) (nl lo x2 : Int) (hlo : 0 ≤ lo) (h1 : lo ≤ x2) (h2 : x2 ≤ s.size) :
    (if 0 ≤ lo then (if lo ≤ x2 then (if x2 ≤ ((bytesOf s).length : Int) then ((some (((bytesOf s).take (x2 : Int).toNat).drop (lo : Int).toNat : List Int)).bind fun y309 => (if buf.length + y309.length < 140737488355328 then (some ((buf ++ y309), x2, nl, true)) else (none))) else (none)) else (none)) else (none)) = some (buf ++ sub s lo x2, x2, nl, true) := by
  have hl := blen s
  have hsl := sub_len s lo x2 hlo h1 h2
  rw [if_pos hlo, if_pos h1, if_pos (by omega), sub_eq]
  simp only [Option.bind_some]
  rw [if_pos (by omega)]
theorem num_l0 (s : ByteArray) (hs : s.size ≤ 2147483647) (buf : List Int) (hb : buf.length ≤ 100000000000000) (nl lo b : Int) (hlo : 0 ≤ lo) (hf : Fol s b) (hbs : b ≤ s.size) (d : Nat) :
    ∀ i : Int, lo ≤ i → i + d = b → (∀ j, i ≤ j → j < b → Inner (bt s j)) → Ev (fun k => pretty_appendPrettyNumber.l0 k buf (bytesOf s) i nl lo) (buf ++ sub s lo b, b, nl, true) := by
  have hl := blen s
  induction d with
  | zero =>
    intro i h0 h1 hin
    obtain rfl : i = b := by omega
    have he := num_end s buf hb hs nl lo i hlo h0 hbs
    refine Ev.step (f := fun _ => some (buf ++ sub s lo i, i, nl, true)) (fun k => ?_) (Ev.now _)
    rw [pretty_appendPrettyNumber.l0]
    rcases hf with hf | ⟨hf, hc⟩
    · rw [if_neg (by omega)]; exact he
    · rw [if_pos (by omega), if_pos (by omega), rd_bytesOf]
      by_cases c1 : bt s i ≤ 32
      · rw [if_pos c1]; exact he
      · rw [if_neg c1]
        by_cases c2 : bt s i = 44
        · rw [if_pos c2]; exact he
        · rw [if_neg c2]
          rw [if_neg (by omega)]
          by_cases c3 : bt s i = 93
          · rw [if_pos c3]; exact he
          · rw [if_neg c3, if_pos (by omega)]; exact he
  | succ d ih =>
    intro i h0 h1 hin
    obtain ⟨g1, g2, g3, g4, g5⟩ := hin i (by omega) (by omega)
    refine Ev.step (f := fun k => pretty_appendPrettyNumber.l0 k buf (bytesOf s) (i + 1) nl lo) (fun k => ?_) (ih (i + 1) (by omega) (by omega) (fun j a1 a2 => hin j (by omega) a2))
    rw [pretty_appendPrettyNumber.l0, if_pos (by omega), if_pos (by omega), rd_bytesOf, if_neg (by omega), if_neg g2, if_neg g3, if_neg g4, if_neg g5, w64 (by omega) (by omega)]
theorem num_inner {s : ByteArray} {a b : Int} (h : Num s a b) : 0 ≤ a ∧ a < b ∧ b ≤ s.size ∧ ∀ j, a ≤ j → j < b → Inner (bt s j) := by
  obtain ⟨h0, a', i, j, ha, hi, hj, hb⟩ := h
  have hdig : ∀ c, IsDig c → Inner c := by intro c hc; unfold IsDig at hc; unfold Inner; omega
  have e1 : a' < i ∧ i ≤ s.size ∧ ∀ q, a' ≤ q → q < i → Inner (bt s q) := by
    rcases hi with ⟨g1, g2, g3⟩ | ⟨g1, g2, g3⟩
    · refine ⟨by omega, by omega, fun q q1 q2 => ?_⟩
      obtain rfl : q = a' := by omega
      unfold Inner; omega
    · exact ⟨g1, g2.2.2.1, fun q q1 q2 => hdig _ (g2.2.2.2 q q1 q2)⟩
  have e2 : i ≤ j ∧ j ≤ s.size ∧ ∀ q, i ≤ q → q < j → Inner (bt s q) := by
    rcases hj with g | ⟨g1, g2, g3, g4⟩
    · exact ⟨by omega, by omega, fun q q1 q2 => by omega⟩
    · refine ⟨by omega, g4.2.2.1, fun q q1 q2 => ?_⟩
      by_cases e : q = i
      · subst e; unfold Inner; omega
      · exact hdig _ (g4.2.2.2 q (by omega) q2)
  have e3 : j ≤ b ∧ b ≤ s.size ∧ ∀ q, j ≤ q → q < b → Inner (bt s q) := by
    rcases hb with g | ⟨g1, g2, j', g3, g4, g5⟩
    · exact ⟨by omega, by omega, fun q q1 q2 => by omega⟩
    · refine ⟨by rcases g3 with g3 | g3 <;> omega, g5.2.2.1, fun q q1 q2 => ?_⟩
      by_cases e : q = j
      · subst e; unfold Inner; omega
      · by_cases e' : j' ≤ q
        · exact hdig _ (g5.2.2.2 q e' q2)
        · rcases g3 with g3 | ⟨g3, g6, g7⟩
          · omega
          · obtain rfl : q = j + 1 := by omega
            unfold Inner; omega
  refine ⟨h0, by rcases ha with ha | ha <;> omega, e3.2.1, fun q q1 q2 => ?_⟩
  by_cases c1 : q < a'
  · rcases ha with ha | ⟨ha, g1, g2⟩
    · omega
    · obtain rfl : q = a := by omega
      unfold Inner; omega
  by_cases c2 : q < i
  · exact e1.2.2 q (by omega) c2
  by_cases c3 : q < j
  · exact e2.2.2 q (by omega) c3
  · exact e3.2.2 q (by omega) q2
theorem num_ev (s : ByteArray) (hs : s.size ≤ 2147483647) (buf : List Int) (hb : buf.length ≤ 100000000000000) (nl : Int) {a b : Int} (h : Num s a b) (hf : Fol s b) :
    Ev (fun k => pretty_appendPrettyNumber.f k buf (bytesOf s) a nl) (buf ++ sub s a b, b, nl, true) := by
  obtain ⟨h0, h1, h2, h3⟩ := num_inner h
  refine Ev.congr (fun k => ?_) (num_l0 s hs buf hb nl a b h0 hf h2 (b - (a + 1)).toNat (a + 1) (by omega) (by omega) (fun j q1 q2 => h3 j (by omega) q2))
  rw [pretty_appendPrettyNumber.f, w64 (by omega) (by omega)]

def tabsL (P I : ByteArray) (t : Nat) : List Int := bytesOf P ++ (List.replicate t (bytesOf I)).flatten
theorem tabs_succ (P I : ByteArray) (t : Nat) : tabsL P I (t + 1) = tabsL P I t ++ bytesOf I := by
  unfold tabsL
  rw [List.replicate_succ', List.flatten_append, List.append_assoc]
  simp
theorem tabs_zero (P I : ByteArray) : tabsL P I 0 = bytesOf P := by simp [tabsL]
theorem tabs_len (P I : ByteArray) (t : Nat) : (tabsL P I t).length = P.size + t * I.size := by
  induction t with
  | zero => rw [tabs_zero, bytesOf_length]; omega
  | succ t ih => rw [tabs_succ, List.length_append, ih, bytesOf_length, Nat.succ_mul]; omega
theorem tabs_loop0 (d : Nat) : ∀ (x0 : List Int) (t i : Int), 0 ≤ i → i + d = t → t ≤ 1000000 → x0.length + 2 * d ≤ 120000000000000 →
    Ev (fun k => pretty_appendTabs.l0 k x0 t i) (x0 ++ (List.replicate d ([32, 32] : List Int)).flatten) := by
  induction d with
  | zero =>
    intro x0 t i h0 h1 h2 h3
    refine Ev.step (f := fun _ => some _) (fun k => ?_) (Ev.now _)
    rw [pretty_appendTabs.l0, if_neg (by omega)]; simp
  | succ d ih =>
    intro x0 t i h0 h1 h2 h3
    have := ih (x0 ++ [32, 32]) t (i + 1) (by omega) (by omega) h2 (by simp; omega)
    rw [List.replicate_succ, List.flatten_cons, ← List.append_assoc]
    refine Ev.step (fun k => ?_) this
    rw [pretty_appendTabs.l0, if_pos (by omega)]
    simp only [Option.bind_some]
    rw [if_pos (by simp; omega), w64 (by omega) (by omega)]
theorem tabs_loop1 (I : ByteArray) (hI : I.size ≤ 1000) (d : Nat) : ∀ (x0 : List Int) (t i : Int), 0 ≤ i → i + d = t → t ≤ 1000000 → x0.length + 1000 * d ≤ 120000000000000 →
    Ev (fun k => pretty_appendTabs.l1 k x0 I t i) (x0 ++ (List.replicate d (bytesOf I)).flatten) := by
  have hl := bytesOf_length I
  induction d with
  | zero =>
    intro x0 t i h0 h1 h2 h3
    refine Ev.step (f := fun _ => some _) (fun k => ?_) (Ev.now _)
    rw [pretty_appendTabs.l1, if_neg (by omega)]; simp
  | succ d ih =>
    intro x0 t i h0 h1 h2 h3
    have := ih (x0 ++ bytesOf I) t (i + 1) (by omega) (by omega) h2 (by rw [List.length_append]; omega)
    rw [List.replicate_succ, List.flatten_cons, ← List.append_assoc]
    refine Ev.step (fun k => ?_) this
    rw [pretty_appendTabs.l1, if_pos (by omega), if_pos (by omega), w64 (by omega) (by omega)]
theorem bytes_two (I : ByteArray) (h : (I.size : Int) = 2) (h0 : bt I 0 = 32) (h1 : bt I 1 = 32) : bytesOf I = [32, 32] := by
  have hl := bytesOf_length I
  have g0 := rd_bytesOf I 0
  have g1 := rd_bytesOf I 1
  rw [h0] at g0
  rw [h1] at g1
  match e : bytesOf I, hl with
  | [x, y], _ =>
    rw [e] at g0 g1
    simp [rd] at g0 g1
    rw [g0, g1]
  | [], hl => simp at hl; omega
  | [x], hl => simp at hl; omega
  | x :: y :: z :: l, hl => simp at hl; omega
theorem tabs_ev (P I : ByteArray) (hP : P.size ≤ 1000) (hI : I.size ≤ 1000) (buf : List Int) (t : Nat) (ht : t ≤ 1000000) (hb : buf.length ≤ 100000000000000) :
    Ev (fun k => pretty_appendTabs.f k buf P I t) (buf ++ tabsL P I t) := by
  have hl := bytesOf_length P
  have hlI := bytesOf_length I
  have main : ∀ x0 : List Int, x0.length ≤ 100000000001000 → Ev (fun k => pretty_appendTabs.j0 k x0 I t) (x0 ++ (List.replicate t (bytesOf I)).flatten) := by
    intro x0 hx
    have A := tabs_loop1 I hI t x0 t 0 (by omega) (by omega) (by omega) (by omega)
    have last : ∀ b : Bool, (b = true → bytesOf I = [32, 32]) → Ev (fun k => pretty_appendTabs.j1 k x0 I t b) (x0 ++ (List.replicate t (bytesOf I)).flatten) := by
      intro b hb2
      cases b with
      | false => exact Ev.step (fun k => by rw [pretty_appendTabs.j1]; simp) A
      | true =>
        have B := tabs_loop0 t x0 t 0 (by omega) (by omega) (by omega) (by omega)
        rw [hb2 rfl]
        exact Ev.step (fun k => by rw [pretty_appendTabs.j1]; simp) B
    by_cases c : (I.size : Int) = 2
    · by_cases c2 : bt I 0 = 32
      · refine Ev.step (fun k => ?_) (last (bt I 1 == 32) (fun e => bytes_two I c c2 (by simpa using e)))
        rw [pretty_appendTabs.j0, if_pos c, if_pos (by omega), if_pos c2, if_pos (by omega)]
      · refine Ev.step (fun k => ?_) (last false (fun e => by cases e))
        rw [pretty_appendTabs.j0, if_pos c, if_pos (by omega), if_neg c2]
    · refine Ev.step (fun k => ?_) (last false (fun e => by cases e))
      rw [pretty_appendTabs.j0, if_neg c]
  unfold tabsL
  rw [← List.append_assoc]
  by_cases c : (P.size : Int) = 0
  · have e : bytesOf P = [] := List.eq_nil_of_length_eq_zero (by omega)
    rw [e, List.append_nil]
    refine Ev.congr (fun k => ?_) (main buf (by omega))
    rw [pretty_appendTabs.f, if_pos c]
  · refine Ev.congr (fun k => ?_) (main (buf ++ bytesOf P) (by rw [List.length_append]; omega))
    rw [pretty_appendTabs.f, if_neg c, if_pos (by omega)]

/-! ### appendPrettyAny: one step -/
theorem drop_rd (s : ByteArray) (hs : s.size ≤ 2147483647) (i : Int) (h0 : 0 ≤ i) (h1 : i < s.size) (j : Nat) : rd ((bytesOf s).drop i.toNat) j = bt s (i + j) := by
  rw [← rd_bytesOf]
  unfold Go.Proofs.YtapgjhgjhcfmoaaW.PrintWords.rd
  rw [show (i + (j : Int)).toNat = i.toNat + j by omega]
  simp
theorem nan_no (s : ByteArray) (hs : s.size ≤ 2147483647) (i : Int) (h0 : 0 ≤ i) (h1 : i < s.size) (c1 : bt s i ≠ 105) (c2 : bt s i ≠ 73) (c3 : bt s i ≠ 43) (c4 : bt s i ≠ 78) (c5 : bt s i = 110 → i + 1 < s.size ∧ bt s (i + 1) = 117) :
    pretty_isNaNOrInf.f ((bytesOf s).drop i.toNat) = some false := by
  have hl := blen s
  have hd : (((bytesOf s).drop i.toNat).length : Int) = s.size - i := by rw [List.length_drop]; omega
  have e0 := drop_rd s hs i h0 h1 0
  have e1 := drop_rd s hs i h0 h1 1
  simp only [Int.natCast_zero, Int.add_zero] at e0
  rw [pretty_isNaNOrInf.f, if_pos (by omega), e0, if_neg c1, if_neg c2, if_neg c3, if_neg c4]
  by_cases c : bt s i = 110
  · obtain ⟨g1, g2⟩ := c5 c
    have e2 : rd ((bytesOf s).drop i.toNat) 1 = 117 := by
      have := e1
      simp only [Int.natCast_one] at this
      rw [this]; exact g2
    rw [if_pos c, if_pos (by omega), if_pos (by omega), e2]; rfl
  · rw [if_neg c]
/-- What the byte at hand decides, when no string, number or bracket begins there. -/
theorem any_j1 (s : ByteArray) (hs : s.size ≤ 2147483647) (buf : List Int) (pr : Bool) (W : Int) (P : ByteArray) (I : ByteArray) (tabs : Int) (nl : Int) (mx : Int) (i : Int) (h0 : 0 ≤ i) (h1 : i < s.size) (r : List Int × Int × Int × Bool) (c0 : ¬ bt s i ≤ 32) (cq : bt s i ≠ 34) (cd : ¬ (48 ≤ bt s i ∧ bt s i ≤ 57)) (cm : bt s i ≠ 45) (c1 : bt s i ≠ 105) (c2 : bt s i ≠ 73) (c3 : bt s i ≠ 43) (c4 : bt s i ≠ 78) (c5 : bt s i = 110 → i + 1 < s.size ∧ bt s (i + 1) = 117)
    (h : Ev (fun k => pretty_appendPrettyAny.j1 k buf (bytesOf s) i pr W P I false tabs nl mx false) r) : Ev (fun k => pretty_appendPrettyAny.l0 k buf (bytesOf s) i pr W P I false tabs nl mx) r := by
  have hl := blen s
  have hn := nan_no s hs i h0 h1 c1 c2 c3 c4 c5
  refine Ev.step (fun k => ?_) h
  rw [pretty_appendPrettyAny.l0, if_pos (by omega), if_pos h0, rd_bytesOf, if_neg c0, if_neg cq]
  by_cases g : bt s i ≥ 48
  · rw [if_pos g, if_neg (fun e => cd ⟨g, e⟩), if_neg cm, if_pos (by omega), hn]; rfl
  · rw [if_neg g, if_neg cm, if_pos (by omega), hn]; rfl
theorem any_skip (s : ByteArray) (hs : s.size ≤ 2147483647) (buf : List Int) (pr : Bool) (W : Int) (P : ByteArray) (I : ByteArray) (tabs : Int) (nl : Int) (mx : Int) (i : Int) (h0 : 0 ≤ i) (h1 : i < s.size) (r : List Int × Int × Int × Bool) (c : bt s i ≤ 32 ∨ bt s i = 44 ∨ bt s i = 58)
    (h : Ev (fun k => pretty_appendPrettyAny.l0 k buf (bytesOf s) (i + 1) pr W P I false tabs nl mx) r) : Ev (fun k => pretty_appendPrettyAny.l0 k buf (bytesOf s) i pr W P I false tabs nl mx) r := by
  have hl := blen s
  by_cases g : bt s i ≤ 32
  · refine Ev.step (fun k => ?_) h
    rw [pretty_appendPrettyAny.l0, if_pos (by omega), if_pos h0, rd_bytesOf, if_pos g, w64 (by omega) (by omega)]
  · refine any_j1 s hs buf pr W P I tabs nl mx i h0 h1 r g (by omega) (by omega) (by omega) (by omega) (by omega) (by omega) (by omega) (by omega) ?_
    refine Ev.step (fun k => ?_) h
    rw [pretty_appendPrettyAny.j1, if_neg (by simp), if_pos h0, if_pos (by omega), rd_bytesOf, if_neg (by omega), if_neg (by omega), if_neg (by omega), if_neg (by omega), if_neg (by omega), w64 (by omega) (by omega)]
theorem any_str (s : ByteArray) (hs : s.size ≤ 2147483647) (buf : List Int) (pr : Bool) (W : Int) (P : ByteArray) (I : ByteArray) (tabs : Int) (nl : Int) (mx : Int) (i : Int) (h0 : 0 ≤ i) (h1 : i < s.size) (hb : buf.length ≤ 100000000000000) {b : Int} (h : Str s i b) : Ev (fun k => pretty_appendPrettyAny.l0 k buf (bytesOf s) i pr W P I false tabs nl mx) (buf ++ sub s i b, b, nl, true) := by
  have hl := blen s
  have hc := h.2.2.1
  refine Ev.step (f := fun k => (pretty_appendPrettyString.f k buf (bytesOf s) i nl).bind fun x => some (x.1, x.2.1, x.2.2.1, x.2.2.2)) (fun k => ?_) (Ev.bind (str_ev s hs buf hb nl h) (Ev.now _))
  rw [pretty_appendPrettyAny.l0, if_pos (by omega), if_pos h0, rd_bytesOf, if_neg (by omega), if_pos hc]
theorem any_num (s : ByteArray) (hs : s.size ≤ 2147483647) (buf : List Int) (pr : Bool) (W : Int) (P : ByteArray) (I : ByteArray) (tabs : Int) (nl : Int) (mx : Int) (i : Int) (h0 : 0 ≤ i) (h1 : i < s.size) (hb : buf.length ≤ 100000000000000) {b : Int} (hc : bt s i = 45 ∨ IsDig (bt s i)) (h : Num s i b) (hf : Fol s b) : Ev (fun k => pretty_appendPrettyAny.l0 k buf (bytesOf s) i pr W P I false tabs nl mx) (buf ++ sub s i b, b, nl, true) := by
  have hl := blen s
  have hN : Ev (fun k => pretty_appendPrettyAny.j1 k buf (bytesOf s) i pr W P I false tabs nl mx true) (buf ++ sub s i b, b, nl, true) :=
    Ev.step (f := fun k => (pretty_appendPrettyNumber.f k buf (bytesOf s) i nl).bind fun x => some (x.1, x.2.1, x.2.2.1, x.2.2.2)) (fun k => by rw [pretty_appendPrettyAny.j1, if_pos rfl]) (Ev.bind (num_ev s hs buf hb nl h hf) (Ev.now _))
  refine Ev.step (fun k => ?_) hN
  rw [pretty_appendPrettyAny.l0, if_pos (by omega), if_pos h0, rd_bytesOf]
  unfold IsDig at hc
  rw [if_neg (by omega), if_neg (by omega)]
  by_cases g : bt s i = 45
  · rw [if_neg (by omega), if_pos g]
  · rw [if_pos (by omega), if_pos (by omega)]
theorem any_word (s : ByteArray) (hs : s.size ≤ 2147483647) (buf : List Int) (pr : Bool) (W : Int) (P : ByteArray) (I : ByteArray) (tabs : Int) (nl : Int) (mx : Int) (i : Int) (h0 : 0 ≤ i) (h1 : i < s.size) (hb : buf.length ≤ 100000000000000) {b : Int} {w : ByteArray} (hw : w = ⟨#[110, 117, 108, 108]⟩ ∨ w = ⟨#[102, 97, 108, 115, 101]⟩ ∨ w = ⟨#[116, 114, 117, 101]⟩) (h : Word s i b w) :
    Ev (fun k => pretty_appendPrettyAny.l0 k buf (bytesOf s) i pr W P I false tabs nl mx) (buf ++ sub s i b, b, nl, true) := by
  have hl := blen s
  obtain ⟨g0, rfl, g2, g3⟩ := h
  have hsub : sub s i (i + w.size) = bytesOf w := by unfold sub; rw [g3]
  have hbt : ∀ j : Nat, j < w.size → bt s (i + j) = bt w j := by
    intro j hj
    have e1 := rd_bytesOf w j
    have e2 := rd_bytesOf s (i + j)
    rw [← e1, ← e2, ← hsub, ← sub_eq]
    unfold Go.Proofs.YtapgjhgjhcfmoaaW.PrintWords.rd
    rw [show (i + (j : Int)).toNat = i.toNat + j by omega]
    simp only [List.getD_eq_getElem?_getD, List.getElem?_drop, Int.toNat_natCast]
    rw [List.getElem?_take_of_lt (by omega)]
  rw [hsub]
  rcases hw with rfl | rfl | rfl
  · have e0 := hbt 0 (by decide)
    have e1 := hbt 1 (by decide)
    have v0 : bt (⟨#[110, 117, 108, 108]⟩ : ByteArray) (0 : Nat) = 110 := by decide
    have v1 : bt (⟨#[110, 117, 108, 108]⟩ : ByteArray) (1 : Nat) = 117 := by decide
    rw [v0] at e0; rw [v1] at e1
    simp only [Int.natCast_zero, Int.add_zero] at e0
    have z : ((⟨#[110, 117, 108, 108]⟩ : ByteArray).size : Int) = 4 := by decide
    have zb : bytesOf (⟨#[110, 117, 108, 108]⟩ : ByteArray) = [110, 117, 108, 108] := by decide
    rw [z] at g2
    rw [z, zb]
    refine any_j1 s hs buf pr W P I tabs nl mx i h0 h1 _ (by omega) (by omega) (by omega) (by omega) (by omega) (by omega) (by omega) (by omega) (fun _ => ⟨by omega, by simpa using e1⟩) (Ev.step (f := fun _ => some _) (fun k => ?_) (Ev.now _))
    rw [pretty_appendPrettyAny.j1, if_neg (by simp), if_pos h0, if_pos (by omega), rd_bytesOf, if_neg (by omega), if_neg (by omega), if_neg (by omega), if_neg (by omega), if_pos (by omega), w64 (by omega) (by omega)]
    simp only [Option.bind_some]
    rw [if_pos (by simp; omega)]
  · have e0 := hbt 0 (by decide)
    have v0 : bt (⟨#[102, 97, 108, 115, 101]⟩ : ByteArray) (0 : Nat) = 102 := by decide
    rw [v0] at e0
    simp only [Int.natCast_zero, Int.add_zero] at e0
    have z : ((⟨#[102, 97, 108, 115, 101]⟩ : ByteArray).size : Int) = 5 := by decide
    have zb : bytesOf (⟨#[102, 97, 108, 115, 101]⟩ : ByteArray) = [102, 97, 108, 115, 101] := by decide
    rw [z] at g2
    rw [z, zb]
    refine any_j1 s hs buf pr W P I tabs nl mx i h0 h1 _ (by omega) (by omega) (by omega) (by omega) (by omega) (by omega) (by omega) (by omega) (by omega) (Ev.step (f := fun _ => some _) (fun k => ?_) (Ev.now _))
    rw [pretty_appendPrettyAny.j1, if_neg (by simp), if_pos h0, if_pos (by omega), rd_bytesOf, if_neg (by omega), if_neg (by omega), if_neg (by omega), if_pos (by omega), w64 (by omega) (by omega)]
    simp only [Option.bind_some]
    rw [if_pos (by simp; omega)]
  · have e0 := hbt 0 (by decide)
    have v0 : bt (⟨#[116, 114, 117, 101]⟩ : ByteArray) (0 : Nat) = 116 := by decide
    rw [v0] at e0
    simp only [Int.natCast_zero, Int.add_zero] at e0
    have z : ((⟨#[116, 114, 117, 101]⟩ : ByteArray).size : Int) = 4 := by decide
    have zb : bytesOf (⟨#[116, 114, 117, 101]⟩ : ByteArray) = [116, 114, 117, 101] := by decide
    rw [z] at g2
    rw [z, zb]
    refine any_j1 s hs buf pr W P I tabs nl mx i h0 h1 _ (by omega) (by omega) (by omega) (by omega) (by omega) (by omega) (by omega) (by omega) (by omega) (Ev.step (f := fun _ => some _) (fun k => ?_) (Ev.now _))
    rw [pretty_appendPrettyAny.j1, if_neg (by simp), if_pos h0, if_pos (by omega), rd_bytesOf, if_neg (by omega), if_neg (by omega), if_pos (by omega), w64 (by omega) (by omega)]
    simp only [Option.bind_some]
    rw [if_pos (by simp; omega)]
theorem any_obj (s : ByteArray) (hs : s.size ≤ 2147483647) (buf : List Int) (pr : Bool) (W : Int) (P : ByteArray) (I : ByteArray) (tabs : Int) (nl : Int) (mx : Int) (i : Int) (h0 : 0 ≤ i) (h1 : i < s.size) (r : List Int × Int × Int × Bool) (c : bt s i = 123) (h : Ev (fun k => pretty_appendPrettyObject.f k buf (bytesOf s) i 123 125 pr W P I false tabs nl mx) r) :
    Ev (fun k => pretty_appendPrettyAny.l0 k buf (bytesOf s) i pr W P I false tabs nl mx) r := by
  have hl := blen s
  refine any_j1 s hs buf pr W P I tabs nl mx i h0 h1 r (by omega) (by omega) (by omega) (by omega) (by omega) (by omega) (by omega) (by omega) (by omega) ?_
  refine Ev.step (f := fun k => (pretty_appendPrettyObject.f k buf (bytesOf s) i 123 125 pr W P I false tabs nl mx).bind fun x => some (x.1, x.2.1, x.2.2.1, x.2.2.2)) (fun k => ?_) (Ev.bind h (Ev.now _))
  rw [pretty_appendPrettyAny.j1, if_neg (by simp), if_pos h0, if_pos (by omega), rd_bytesOf, if_pos c]
theorem any_arr (s : ByteArray) (hs : s.size ≤ 2147483647) (buf : List Int) (pr : Bool) (W : Int) (P : ByteArray) (I : ByteArray) (tabs : Int) (nl : Int) (mx : Int) (i : Int) (h0 : 0 ≤ i) (h1 : i < s.size) (r : List Int × Int × Int × Bool) (c : bt s i = 91) (h : Ev (fun k => pretty_appendPrettyObject.f k buf (bytesOf s) i 91 93 pr W P I false tabs nl mx) r) :
    Ev (fun k => pretty_appendPrettyAny.l0 k buf (bytesOf s) i pr W P I false tabs nl mx) r := by
  have hl := blen s
  refine any_j1 s hs buf pr W P I tabs nl mx i h0 h1 r (by omega) (by omega) (by omega) (by omega) (by omega) (by omega) (by omega) (by omega) (by omega) ?_
  refine Ev.step (f := fun k => (pretty_appendPrettyObject.f k buf (bytesOf s) i 91 93 pr W P I false tabs nl mx).bind fun x => some (x.1, x.2.1, x.2.2.1, x.2.2.2)) (fun k => ?_) (Ev.bind h (Ev.now _))
  rw [pretty_appendPrettyAny.j1, if_neg (by simp), if_pos h0, if_pos (by omega), rd_bytesOf, if_neg (by omega), if_pos c]
theorem any_skips (s : ByteArray) (hs : s.size ≤ 2147483647) (buf : List Int) (pr : Bool) (W : Int) (P I : ByteArray) (tabs nl mx : Int) (r : List Int × Int × Int × Bool) (c : Int) (hc : c ≤ s.size) (d : Nat) :
    ∀ i : Int, 0 ≤ i → i + d = c → (∀ j, i ≤ j → j < c → bt s j ≤ 32 ∨ bt s j = 44 ∨ bt s j = 58) →
    Ev (fun k => pretty_appendPrettyAny.l0 k buf (bytesOf s) c pr W P I false tabs nl mx) r → Ev (fun k => pretty_appendPrettyAny.l0 k buf (bytesOf s) i pr W P I false tabs nl mx) r := by
  induction d with
  | zero => intro i h0 h1 _ h; obtain rfl : i = c := by omega
            exact h
  | succ d ih =>
    intro i h0 h1 hsk h
    exact any_skip s hs buf pr W P I tabs nl mx i h0 (by omega) r (hsk i (by omega) (by omega)) (ih (i + 1) (by omega) (by omega) (fun j q1 q2 => hsk j (by omega) q2) h)
theorem any_from (s : ByteArray) (hs : s.size ≤ 2147483647) (buf : List Int) (pr : Bool) (W : Int) (P I : ByteArray) (tabs nl mx : Int) (r : List Int × Int × Int × Bool) (i c : Int) (h0 : 0 ≤ i) (h1 : i ≤ c) (hc : c ≤ s.size) (hsk : ∀ j, i ≤ j → j < c → bt s j ≤ 32 ∨ bt s j = 44 ∨ bt s j = 58)
    (h : Ev (fun k => pretty_appendPrettyAny.l0 k buf (bytesOf s) c pr W P I false tabs nl mx) r) : Ev (fun k => pretty_appendPrettyAny.f k buf (bytesOf s) i pr W P I false tabs nl mx) r :=
  Ev.step (fun k => by rw [pretty_appendPrettyAny.f]) (any_skips s hs buf pr W P I tabs nl mx r c hc (c - i).toNat i h0 (by omega) hsk h)

end Go.Proofs.Ytapgjhgjhcfmoaa.PFnPrDefaultLaid
