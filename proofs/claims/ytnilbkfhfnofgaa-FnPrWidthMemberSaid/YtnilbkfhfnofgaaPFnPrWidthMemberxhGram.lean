/- Contracts of Go functions of this seat: a Lean function over numbers and lists for each, and a proof that the Go function returns what it gives. Made by program. -/
import Derived.Test.YtnilbkfhfnofgaaPFnPrWidthMemberx0
import Derived.Test.YtnilbkfhfnofgaaPFnPrWidthMemberx1
import Derived.Test.YtnilbkfhfnofgaaPFnPrWidthMemberx2
import Derived.Test.YtnilbkfhfnofgaaPFnPrWidthMemberx3
import Derived.Test.YtnilbkfhfnofgaaPFnPrWidthMemberxhPlaces
namespace Go.Proofs.Ytnilbkfhfnofgaa.PFnPrWidthMember
open Go.RowKit Go.Proofs.YtnilbkfhfnofgaaW.PrintWords Go.Proofs.YtnilbkfhfnofgaaW.PrintLast Go.Proofs.YtnilbkfhfnofgaaW.PrintMore
attribute [local go_sem] max2_int min2_int max_two min_two max_three min_three max_four min_four   -- for this text's walks alone
set_option linter.unusedVariables false
set_option linter.unusedSimpArgs false

/-! ### the grammar of RFC 8259 over places of a text -/
def IsBlk (c : Int) : Prop := c = 32 ∨ c = 9 ∨ c = 10 ∨ c = 13
def IsDig (c : Int) : Prop := 48 ≤ c ∧ c ≤ 57
def IsHex (c : Int) : Prop := (48 ≤ c ∧ c ≤ 57) ∨ (97 ≤ c ∧ c ≤ 102) ∨ (65 ≤ c ∧ c ≤ 70)
def IsShort (c : Int) : Prop := c = 34 ∨ c = 92 ∨ c = 47 ∨ c = 98 ∨ c = 102 ∨ c = 110 ∨ c = 114 ∨ c = 116
def Blanks (s : ByteArray) (a b : Int) : Prop := 0 ≤ a ∧ a ≤ b ∧ b ≤ s.size ∧ ∀ i, a ≤ i → i < b → IsBlk (bt s i)
def Digs (s : ByteArray) (a b : Int) : Prop := 0 ≤ a ∧ a ≤ b ∧ b ≤ s.size ∧ ∀ i, a ≤ i → i < b → IsDig (bt s i)
/-- From i on: the inside of a string and its closing quotation mark; b is behind it. -/
inductive Ins (s : ByteArray) : Int → Int → Prop
  | close {i : Int} (h0 : 0 ≤ i) (h1 : i < s.size) (c : bt s i = 34) : Ins s i (i + 1)
  | plain {i b : Int} (h0 : 0 ≤ i) (h1 : i < s.size) (c1 : bt s i ≠ 34) (c2 : 32 ≤ bt s i) (c3 : bt s i ≠ 92) (r : Ins s (i + 1) b) : Ins s i b
  | short {i b : Int} (h0 : 0 ≤ i) (h1 : i + 1 < s.size) (c : bt s i = 92) (e : IsShort (bt s (i + 1))) (r : Ins s (i + 2) b) : Ins s i b
  | uni {i b : Int} (h0 : 0 ≤ i) (h1 : i + 5 < s.size) (c : bt s i = 92) (u : bt s (i + 1) = 117) (hx : ∀ j, 2 ≤ j → j < 6 → IsHex (bt s (i + j))) (r : Ins s (i + 6) b) : Ins s i b
def Str (s : ByteArray) (a b : Int) : Prop := 0 ≤ a ∧ a < s.size ∧ bt s a = 34 ∧ Ins s (a + 1) b
/-- The fraction and the power, from i on (as far as they stand there). -/
def ExpPart (s : ByteArray) (i b : Int) : Prop :=
  b = i ∨ (i < s.size ∧ (bt s i = 101 ∨ bt s i = 69) ∧ ∃ j, (j = i + 1 ∨ j = i + 2 ∧ i + 1 < s.size ∧ (bt s (i + 1) = 43 ∨ bt s (i + 1) = 45)) ∧ j < b ∧ Digs s j b)
def FracPart (s : ByteArray) (i j : Int) : Prop := j = i ∨ (i < s.size ∧ bt s i = 46 ∧ i + 1 < j ∧ Digs s (i + 1) j)
def IntPart (s : ByteArray) (a i : Int) : Prop := (a < s.size ∧ bt s a = 48 ∧ i = a + 1) ∨ (a < i ∧ Digs s a i ∧ bt s a ≠ 48)
def Num (s : ByteArray) (a b : Int) : Prop :=
  0 ≤ a ∧ ∃ a' i j, (a' = a ∨ a' = a + 1 ∧ a < s.size ∧ bt s a = 45) ∧ IntPart s a' i ∧ FracPart s i j ∧ ExpPart s j b
def Word (s : ByteArray) (a b : Int) (w : ByteArray) : Prop := 0 ≤ a ∧ b = a + w.size ∧ b ≤ s.size ∧ s.extract a.toNat b.toNat = w

theorem w64 {x : Int} (h0 : -9223372036854775808 ≤ x) (h1 : x ≤ 9223372036854775807) : wrap64 x = x := by unfold wrap64; omega

theorem blank_f (c : Int) : (IsBlk c ∧ spec_Blank.f c = some true) ∨ (¬ IsBlk c ∧ spec_Blank.f c = some false) := by
  unfold spec_Blank.f IsBlk
  by_cases h1 : c = 32
  · left; exact ⟨.inl h1, by rw [if_pos h1]⟩
  rw [if_neg h1]
  by_cases h2 : c = 9
  · left; exact ⟨.inr (.inl h2), by rw [if_pos h2]⟩
  rw [if_neg h2]
  by_cases h3 : c = 10
  · left; exact ⟨.inr (.inr (.inl h3)), by rw [if_pos h3]⟩
  rw [if_neg h3]
  by_cases h4 : c = 13
  · left; exact ⟨.inr (.inr (.inr h4)), by simp [h4]⟩
  · right; exact ⟨by rintro (h | h | h | h) <;> contradiction, by simp [h4]⟩

theorem blanks_ev (s : ByteArray) (hs : s.size ≤ 2147483647) (d : Nat) : ∀ a : Int, 0 ≤ a → a ≤ s.size → (s.size : Int) - a = d →
    ∃ b, Ev (fun k => sr_blanks.f k s a) (s, b) ∧ Blanks s a b ∧ ¬ (b < s.size ∧ IsBlk (bt s b)) := by
  induction d with
  | zero =>
    intro a h0 h1 hd
    refine ⟨a, Ev.step (f := fun _ => some (s, a)) (fun k => ?_) (Ev.now _), ⟨h0, Int.le_refl _, h1, fun i h h' => by omega⟩, fun h => by omega⟩
    simp only [sr_blanks.f, sr_blanks.l0]
    rw [if_neg (by omega)]
  | succ d ih =>
    intro a h0 h1 hd
    have hlt : a < (s.size : Int) := by omega
    rcases blank_f (bt s a) with ⟨hb, e⟩ | ⟨hb, e⟩
    · obtain ⟨b, h, ⟨b0, b1, b2, b3⟩, hn⟩ := ih (a + 1) (by omega) (by omega) (by omega)
      refine ⟨b, Ev.step (f := fun k => sr_blanks.f k s (a + 1)) (fun k => ?_) h, ⟨h0, by omega, b2, fun i hi hi' => ?_⟩, hn⟩
      · simp only [sr_blanks.f, sr_blanks.l0]
        rw [if_pos hlt, if_pos h0, e]
        simp only [Option.bind_some, if_true]
        rw [w64 (by omega) (by omega)]
      · by_cases e : i = a
        · subst e; exact hb
        · exact b3 i (by omega) hi'
    · refine ⟨a, Ev.step (f := fun _ => some (s, a)) (fun k => ?_) (Ev.now _), ⟨h0, Int.le_refl _, h1, fun i h h' => by omega⟩, fun h => hb h.2⟩
      simp only [sr_blanks.f, sr_blanks.l0]
      rw [if_pos hlt, if_pos h0, e]
      simp
theorem blanks_at (s : ByteArray) (hs : s.size ≤ 2147483647) (a : Int) (h0 : 0 ≤ a) (h1 : a ≤ s.size) :
    ∃ b, Ev (fun k => sr_blanks.f k s a) (s, b) ∧ Blanks s a b ∧ ¬ (b < s.size ∧ IsBlk (bt s b)) :=
  blanks_ev s hs ((s.size : Int) - a).toNat a h0 h1 (by omega)

theorem here_in {s : ByteArray} {a : Int} (h0 : 0 ≤ a) (h : a < s.size) : sr_here.f s a = some (bt s a, s, a) := by
  unfold sr_here.f; rw [if_pos h, if_pos h0]
theorem here_out {s : ByteArray} {a : Int} (h : ¬ a < s.size) : sr_here.f s a = some (0, s, a) := by
  unfold sr_here.f; rw [if_neg h]
theorem take_yes {s : ByteArray} (hs : s.size ≤ 2147483647) {a c : Int} (h0 : 0 ≤ a) (h : a < s.size) (hc : bt s a = c) : sr_take.f s a c = some (true, s, a + 1) := by
  unfold sr_take.f; rw [if_pos h, if_pos h0, if_pos hc, w64 (by omega) (by omega)]
theorem take_no {s : ByteArray} {a c : Int} (h0 : 0 ≤ a) (h : ¬ (a < s.size ∧ bt s a = c)) : sr_take.f s a c = some (false, s, a) := by
  unfold sr_take.f
  by_cases h1 : a < s.size
  · rw [if_pos h1, if_pos h0, if_neg (fun e => h ⟨h1, e⟩)]
  · rw [if_neg h1]
/-- take, both ways. -/
theorem take_at {s : ByteArray} (hs : s.size ≤ 2147483647) (a c : Int) (h0 : 0 ≤ a) :
    (a < s.size ∧ bt s a = c ∧ sr_take.f s a c = some (true, s, a + 1)) ∨ (¬ (a < s.size ∧ bt s a = c) ∧ sr_take.f s a c = some (false, s, a)) := by
  by_cases h : a < s.size ∧ bt s a = c
  · exact .inl ⟨h.1, h.2, take_yes hs h0 h.1 h.2⟩
  · exact .inr ⟨h, take_no h0 h⟩

theorem hex_f (c : Int) (hc : 0 ≤ c ∧ c ≤ 255) : ∃ n b, Ev (fun k => sHx.f k c) (n, b) ∧ (b = true ↔ IsHex c) := by
  unfold IsHex
  by_cases h1 : 48 ≤ c
  · by_cases h2 : c ≤ 57
    · refine ⟨(c - 48) % 256, true, Ev.step (f := fun _ => some _) (fun k => ?_) (Ev.now _), by simp; omega⟩
      simp only [sHx.f, sHx.j0]
      rw [if_pos h1]; simp [h2]
    · by_cases h3 : 97 ≤ c
      · by_cases h4 : c ≤ 102
        · refine ⟨((c - 97) % 256) + 10, true, Ev.step (f := fun k => sHx.j1 k c true) (fun k => ?_) (Ev.step (f := fun _ => some _) (fun k => ?_) (Ev.now _)), by simp; omega⟩
          · simp only [sHx.f, sHx.j0]
            rw [if_pos h1]; simp [h2, h3, h4]
          · simp [sHx.j1]
        · refine ⟨0, false, Ev.step (f := fun k => sHx.j1 k c false) (fun k => ?_) (Ev.step (f := fun _ => some _) (fun k => ?_) (Ev.now _)), by simp; omega⟩
          · simp only [sHx.f, sHx.j0]
            rw [if_pos h1]; simp [h2, h3, h4]
          · simp only [sHx.j1]
            rw [if_neg (by simp), if_pos (by omega), if_neg (by omega)]
      · by_cases h4 : 65 ≤ c
        · by_cases h5 : c ≤ 70
          · refine ⟨((c - 65) % 256) + 10, true, Ev.step (f := fun k => sHx.j1 k c false) (fun k => ?_) (Ev.step (f := fun _ => some _) (fun k => ?_) (Ev.now _)), by simp; omega⟩
            · simp only [sHx.f, sHx.j0]
              rw [if_pos h1]; simp [h2, h3]
            · simp only [sHx.j1]
              rw [if_neg (by simp), if_pos h4, if_pos h5]
          · refine ⟨0, false, Ev.step (f := fun k => sHx.j1 k c false) (fun k => ?_) (Ev.step (f := fun _ => some _) (fun k => ?_) (Ev.now _)), by simp; omega⟩
            · simp only [sHx.f, sHx.j0]
              rw [if_pos h1]; simp [h2, h3]
            · simp only [sHx.j1]
              rw [if_neg (by simp), if_pos h4, if_neg h5]
        · refine ⟨0, false, Ev.step (f := fun k => sHx.j1 k c false) (fun k => ?_) (Ev.step (f := fun _ => some _) (fun k => ?_) (Ev.now _)), by simp; omega⟩
          · simp only [sHx.f, sHx.j0]
            rw [if_pos h1]; simp [h2, h3]
          · simp only [sHx.j1]
            rw [if_neg (by simp), if_neg h4]
  · refine ⟨0, false, Ev.step (f := fun k => sHx.j1 k c false) (fun k => ?_) (Ev.step (f := fun _ => some _) (fun k => ?_) (Ev.now _)), by simp; omega⟩
    · simp only [sHx.f, sHx.j0]
      rw [if_neg h1]; simp [show ¬ 97 ≤ c by omega]
    · simp only [sHx.j1]
      rw [if_neg (by simp)]
      by_cases h4 : 65 ≤ c
      · omega
      · rw [if_neg h4]

theorem hexes_ev (s : ByteArray) (hs : s.size ≤ 2147483647) (d : Nat) : ∀ (j a : Int), 0 ≤ j → j + d = 4 → 0 ≤ a → a ≤ s.size →
    ∃ ok b, Ev (fun k => sr_escape.l0 k j s a) (ok, s, b) ∧ a ≤ b ∧ b ≤ s.size ∧ (ok = true → b = a + d ∧ ∀ q, a ≤ q → q < b → IsHex (bt s q)) := by
  induction d with
  | zero =>
    intro j a hj hd h0 h1
    refine ⟨true, a, Ev.step (f := fun _ => some _) (fun k => ?_) (Ev.now _), by omega, h1, fun _ => ⟨by simp, fun q h h' => by omega⟩⟩
    simp only [sr_escape.l0]
    rw [if_neg (by omega)]
  | succ d ih =>
    intro j a hj hd h0 h1
    by_cases hlt : a < (s.size : Int)
    · obtain ⟨n, b, hx, hb⟩ := hex_f (bt s a) (bt_range s a)
      cases b with
      | true =>
        obtain ⟨ok, b, h, b0, b1, b2⟩ := ih (j + 1) (a + 1) (by omega) (by omega) (by omega) (by omega)
        refine ⟨ok, b, Ev.step (f := fun k => (sHx.f k (bt s a)).bind fun r => if r.2 = true then sr_escape.l0 k (j + 1) s (a + 1) else some (false, s, a)) (fun k => ?_) (Ev.bind hx (by simpa using h)), by omega, b1, fun e => ⟨by have := (b2 e).1; omega, fun q hq hq' => ?_⟩⟩
        · simp only [sr_escape.l0]
          rw [if_pos (by omega), here_in h0 hlt]
          simp only [Option.bind_some]
          rw [w64 (by omega) (by omega), w64 (by omega) (by omega)]
        · by_cases e' : q = a
          · subst e'; exact hb.mp rfl
          · exact (b2 e).2 q (by omega) hq'
      | false =>
        refine ⟨false, a, Ev.step (f := fun k => (sHx.f k (bt s a)).bind fun r => if r.2 = true then sr_escape.l0 k (j + 1) s (a + 1) else some (false, s, a)) (fun k => ?_) (Ev.bind hx (by simpa using Ev.now _)), by omega, h1, fun e => by cases e⟩
        simp only [sr_escape.l0]
        rw [if_pos (by omega), here_in h0 hlt]
        simp only [Option.bind_some]
        rw [w64 (by omega) (by omega), w64 (by omega) (by omega)]
    · obtain ⟨n, b, hx, hb⟩ := hex_f 0 (by omega)
      have hbf : b = false := by
        cases b with
        | false => rfl
        | true => have := hb.mp rfl; unfold IsHex at this; omega
      subst hbf
      refine ⟨false, a, Ev.step (f := fun k => (sHx.f k 0).bind fun r => if r.2 = true then sr_escape.l0 k (j + 1) s (wrap64 (a + 1)) else some (false, s, a)) (fun k => ?_) (Ev.bind hx (by simpa using Ev.now _)), by omega, h1, fun e => by cases e⟩
      simp only [sr_escape.l0]
      rw [if_pos (by omega), here_out hlt]
      simp only [Option.bind_some]
      rw [w64 (x := j + 1) (by omega) (by omega)]

theorem escape_ev (s : ByteArray) (hs : s.size ≤ 2147483647) (a : Int) (h0 : 0 ≤ a) (h1 : a ≤ s.size) :
    ∃ ok b, Ev (fun k => sr_escape.f k s a) (ok, s, b) ∧ a ≤ b ∧ b ≤ s.size ∧
      (ok = true → (a < s.size ∧ IsShort (bt s a) ∧ b = a + 1) ∨ (a + 4 < s.size ∧ bt s a = 117 ∧ b = a + 5 ∧ ∀ j, 1 ≤ j → j < 5 → IsHex (bt s (a + j)))) := by
  by_cases hlt : a < (s.size : Int)
  · by_cases hsh : IsShort (bt s a)
    · refine ⟨true, a + 1, Ev.step (f := fun _ => some (true, s, a + 1)) (fun k => ?_) (Ev.now _), by omega, by omega, fun _ => .inl ⟨hlt, hsh, rfl⟩⟩
      unfold sr_escape.f
      rw [here_in h0 hlt]
      simp only [Option.bind_some, sr_escape.j0]
      rw [w64 (by omega) (by omega)]
      rcases hsh with h | h | h | h | h | h | h | h <;> simp [h]
    · obtain ⟨q1, q2, q3, q4, q5, q6, q7, q8⟩ : bt s a ≠ 34 ∧ bt s a ≠ 92 ∧ bt s a ≠ 47 ∧ bt s a ≠ 98 ∧ bt s a ≠ 102 ∧ bt s a ≠ 110 ∧ bt s a ≠ 114 ∧ bt s a ≠ 116 := by
        unfold IsShort at hsh; simpa [not_or] using hsh
      by_cases hu : bt s a = 117
      · obtain ⟨ok, b, h, b0, b1, b2⟩ := hexes_ev s hs 4 0 (a + 1) (by omega) (by omega) (by omega) (by omega)
        refine ⟨ok, b, Ev.step (f := fun k => sr_escape.l0 k 0 s (a + 1)) (fun k => ?_) h, by omega, b1, fun e => .inr ⟨by have := (b2 e).1; omega, hu, by have := (b2 e).1; omega, fun j hj hj' => (b2 e).2 _ (by omega) (by have := (b2 e).1; omega)⟩⟩
        unfold sr_escape.f
        rw [here_in h0 hlt]
        simp only [Option.bind_some, sr_escape.j0]
        rw [w64 (by omega) (by omega)]
        simp [hu]
      · refine ⟨false, a, Ev.step (f := fun _ => some (false, s, a)) (fun k => ?_) (Ev.now _), by omega, h1, fun e => by cases e⟩
        unfold sr_escape.f
        rw [here_in h0 hlt]
        simp only [Option.bind_some, sr_escape.j0]
        simp [q1, q2, q3, q4, q5, q6, q7, q8, hu]
  · refine ⟨false, a, Ev.step (f := fun _ => some (false, s, a)) (fun k => ?_) (Ev.now _), by omega, h1, fun e => by cases e⟩
    unfold sr_escape.f
    rw [here_out hlt]
    simp [sr_escape.j0]

theorem quoted_l0 (s : ByteArray) (hs : s.size ≤ 2147483647) (d : Nat) : ∀ a : Int, 0 ≤ a → a ≤ s.size → (s.size : Int) - a < d →
    ∃ ok b, Ev (fun k => sr_quoted.l0 k s a) (ok, s, b) ∧ a ≤ b ∧ b ≤ s.size ∧ (ok = true → Ins s a b) := by
  induction d with
  | zero => intro a h0 h1 hd; omega
  | succ d ih =>
    intro a h0 h1 hd
    by_cases hlt : a < (s.size : Int)
    · by_cases c1 : bt s a = 34
      · refine ⟨true, a + 1, Ev.step (f := fun _ => some _) (fun k => ?_) (Ev.now _), by omega, by omega, fun _ => .close h0 hlt c1⟩
        simp only [sr_quoted.l0]
        rw [if_pos hlt, if_pos h0, if_pos c1, w64 (by omega) (by omega)]
      · by_cases c2 : bt s a < 32
        · refine ⟨false, a + 1, Ev.step (f := fun _ => some _) (fun k => ?_) (Ev.now _), by omega, by omega, fun e => by cases e⟩
          simp only [sr_quoted.l0]
          rw [if_pos hlt, if_pos h0, if_neg c1, if_pos c2, w64 (by omega) (by omega)]
        · by_cases c3 : bt s a = 92
          · obtain ⟨ok, b, h, b0, b1, b2⟩ := escape_ev s hs (a + 1) (by omega) (by omega)
            cases ok with
            | true =>
              obtain ⟨ok', b', h', c0, c1', c2'⟩ := ih b (by omega) b1 (by rcases b2 rfl with q | q <;> omega)
              refine ⟨ok', b', Ev.step (f := fun k => (sr_escape.f k s (a + 1)).bind fun r => if r.1 = true then sr_quoted.l0 k r.2.1 r.2.2 else some (false, r.2.1, r.2.2)) (fun k => ?_) (Ev.bind h (by simpa using h')), by omega, c1', fun e => ?_⟩
              · simp only [sr_quoted.l0]
                rw [if_pos hlt, if_pos h0, if_neg c1, if_neg c2, if_pos c3, w64 (by omega) (by omega)]
              · rcases b2 rfl with ⟨q1, q2, q3⟩ | ⟨q1, q2, q3, q4⟩
                · exact .short h0 q1 c3 q2 (by rw [show a + 2 = b by omega]; exact c2' e)
                · refine .uni h0 (by omega) c3 q2 (fun j hj hj' => ?_) (by rw [show a + 6 = b by omega]; exact c2' e)
                  have := q4 (j - 1) (by omega) (by omega)
                  rwa [show a + 1 + (j - 1) = a + j by omega] at this
            | false =>
              refine ⟨false, b, Ev.step (f := fun k => (sr_escape.f k s (a + 1)).bind fun r => if r.1 = true then sr_quoted.l0 k r.2.1 r.2.2 else some (false, r.2.1, r.2.2)) (fun k => ?_) (Ev.bind h (by simpa using Ev.now _)), by omega, b1, fun e => by cases e⟩
              simp only [sr_quoted.l0]
              rw [if_pos hlt, if_pos h0, if_neg c1, if_neg c2, if_pos c3, w64 (by omega) (by omega)]
          · obtain ⟨ok', b', h', c0, c1', c2'⟩ := ih (a + 1) (by omega) (by omega) (by omega)
            refine ⟨ok', b', Ev.step (f := fun k => sr_quoted.l0 k s (a + 1)) (fun k => ?_) h', by omega, c1', fun e => .plain h0 hlt c1 (by omega) c3 (c2' e)⟩
            simp only [sr_quoted.l0]
            rw [if_pos hlt, if_pos h0, if_neg c1, if_neg c2, if_neg c3, w64 (by omega) (by omega)]
    · refine ⟨false, a, Ev.step (f := fun _ => some _) (fun k => ?_) (Ev.now _), by omega, h1, fun e => by cases e⟩
      simp only [sr_quoted.l0]
      rw [if_neg hlt]
theorem quoted_ev (s : ByteArray) (hs : s.size ≤ 2147483647) (a : Int) (h0 : 0 ≤ a) (h1 : a < s.size) (hq : bt s a = 34) :
    ∃ ok b, Ev (fun k => sr_quoted.f k s a) (ok, s, b) ∧ a < b ∧ b ≤ s.size ∧ (ok = true → Str s a b) := by
  obtain ⟨ok, b, h, b0, b1, b2⟩ := quoted_l0 s hs ((s.size : Int) - a).toNat (a + 1) (by omega) (by omega) (by omega)
  refine ⟨ok, b, Ev.congr (fun k => ?_) h, by omega, b1, fun e => ⟨h0, h1, hq, b2 e⟩⟩
  unfold sr_quoted.f
  rw [w64 (by omega) (by omega)]

theorem digits_l0 (s : ByteArray) (hs : s.size ≤ 2147483647) (x : Int) (d : Nat) : ∀ a : Int, 0 ≤ a → a ≤ s.size → (s.size : Int) - a < d →
    ∃ b, Ev (fun k => sr_digits.l0 k x (if a < s.size then bt s a else 0) s a) (decide (b > x), s, b) ∧ Digs s a b ∧ ¬ (b < s.size ∧ IsDig (bt s b)) := by
  induction d with
  | zero => intro a h0 h1 hd; omega
  | succ d ih =>
    intro a h0 h1 hd
    by_cases hg : a < (s.size : Int) ∧ IsDig (bt s a)
    · obtain ⟨hlt, g1, g2⟩ := hg
      obtain ⟨b, h, ⟨b0, b1, b2, b3⟩, hn⟩ := ih (a + 1) (by omega) (by omega) (by omega)
      refine ⟨b, Ev.step (f := fun k => sr_digits.l0 k x (if a + 1 < s.size then bt s (a + 1) else 0) s (a + 1)) (fun k => ?_) h, ⟨h0, by omega, b2, fun i hi hi' => ?_⟩, hn⟩
      · simp only [sr_digits.l0]
        rw [if_pos hlt, if_pos g1, if_pos g2, w64 (by omega) (by omega)]
        by_cases hl2 : a + 1 < (s.size : Int)
        · rw [here_in (by omega) hl2, if_pos hl2]; rfl
        · rw [here_out hl2, if_neg hl2]; rfl
      · by_cases e : i = a
        · subst e; exact ⟨g1, g2⟩
        · exact b3 i (by omega) hi'
    · refine ⟨a, Ev.step (f := fun _ => some _) (fun k => ?_) (Ev.now _), ⟨h0, Int.le_refl _, h1, fun i h h' => by omega⟩, hg⟩
      simp only [sr_digits.l0]
      by_cases hlt : a < (s.size : Int)
      · rw [if_pos hlt]
        by_cases g1 : 48 ≤ bt s a
        · rw [if_pos g1, if_neg (fun g2 => hg ⟨hlt, g1, g2⟩)]
        · rw [if_neg g1]
      · rw [if_neg hlt, if_neg (by omega)]
theorem digits_ev (s : ByteArray) (hs : s.size ≤ 2147483647) (a : Int) (h0 : 0 ≤ a) (h1 : a ≤ s.size) :
    ∃ b, Ev (fun k => sr_digits.f k s a) (decide (b > a), s, b) ∧ Digs s a b ∧ ¬ (b < s.size ∧ IsDig (bt s b)) := by
  obtain ⟨b, h, r⟩ := digits_l0 s hs a ((s.size : Int) - a + 1).toNat a h0 h1 (by omega)
  refine ⟨b, Ev.congr (fun k => ?_) h, r⟩
  unfold sr_digits.f
  by_cases hlt : a < (s.size : Int)
  · rw [here_in h0 hlt, if_pos hlt]; rfl
  · rw [here_out hlt, if_neg hlt]; rfl

theorem number_j2 (s : ByteArray) (hs : s.size ≤ 2147483647) (x : Bool) (a : Int) (h0 : 0 ≤ a) (h1 : a ≤ s.size) :
    ∃ ok b, Ev (fun k => sr_number.j2 k x s a) (ok, s, b) ∧ a ≤ b ∧ b ≤ s.size ∧
      (ok = true → (x = false ∧ b = a) ∨ (x = true ∧ ∃ j, (j = a ∨ j = a + 1 ∧ a < s.size ∧ (bt s a = 43 ∨ bt s a = 45)) ∧ j < b ∧ Digs s j b)) := by
  cases x with
  | false =>
    refine ⟨true, a, Ev.step (f := fun _ => some (true, s, a)) (fun k => by simp [sr_number.j2]) (Ev.now _), by omega, h1, fun _ => .inl ⟨rfl, rfl⟩⟩
  | true =>
    rcases take_at hs a 43 h0 with ⟨t1, t2, t3⟩ | ⟨t1, t3⟩
    · obtain ⟨b, h, hd, hn⟩ := digits_ev s hs (a + 1) (by omega) (by omega)
      refine ⟨decide (b > a + 1), b, Ev.step (f := fun k => (sr_digits.f k s (a + 1)).bind fun r => some (r.1, r.2.1, r.2.2)) (fun k => by simp [sr_number.j2, t3]) (Ev.bind h (Ev.now _)), by have := hd.2.1; omega, hd.2.2.1, fun e => .inr ⟨rfl, a + 1, .inr ⟨rfl, t1, .inl t2⟩, by simpa using e, hd⟩⟩
    · rcases take_at hs a 45 h0 with ⟨u1, u2, u3⟩ | ⟨u1, u3⟩
      · obtain ⟨b, h, hd, hn⟩ := digits_ev s hs (a + 1) (by omega) (by omega)
        refine ⟨decide (b > a + 1), b, Ev.step (f := fun k => (sr_digits.f k s (a + 1)).bind fun r => some (r.1, r.2.1, r.2.2)) (fun k => by simp [sr_number.j2, t3, u3]) (Ev.bind h (Ev.now _)), by have := hd.2.1; omega, hd.2.2.1, fun e => .inr ⟨rfl, a + 1, .inr ⟨rfl, u1, .inr u2⟩, by simpa using e, hd⟩⟩
      · obtain ⟨b, h, hd, hn⟩ := digits_ev s hs a (by omega) (by omega)
        refine ⟨decide (b > a), b, Ev.step (f := fun k => (sr_digits.f k s a).bind fun r => some (r.1, r.2.1, r.2.2)) (fun k => by simp [sr_number.j2, t3, u3]) (Ev.bind h (Ev.now _)), by have := hd.2.1; omega, hd.2.2.1, fun e => .inr ⟨rfl, a, .inl rfl, by simpa using e, hd⟩⟩

theorem number_j1 (s : ByteArray) (hs : s.size ≤ 2147483647) (x : Bool) (a : Int) (h0 : 0 ≤ a) (h1 : a ≤ s.size) :
    ∃ ok b, Ev (fun k => sr_number.j1 k x s a) (ok, s, b) ∧ a ≤ b ∧ b ≤ s.size ∧ (ok = true → x = false ∧ ExpPart s a b) := by
  cases x with
  | true => exact ⟨false, a, Ev.step (f := fun _ => some (false, s, a)) (fun k => by simp [sr_number.j1]) (Ev.now _), by omega, h1, fun e => by cases e⟩
  | false =>
    rcases take_at hs a 101 h0 with ⟨t1, t2, t3⟩ | ⟨t1, t3⟩
    · obtain ⟨ok, b, h, b0, b1, b2⟩ := number_j2 s hs true (a + 1) (by omega) (by omega)
      refine ⟨ok, b, Ev.step (f := fun k => sr_number.j2 k true s (a + 1)) (fun k => by simp [sr_number.j1, t3]) h, by omega, b1, fun e => ⟨rfl, .inr ⟨t1, .inl t2, ?_⟩⟩⟩
      rcases b2 e with ⟨q, _⟩ | ⟨_, j, hj, hb, hd⟩
      · cases q
      · exact ⟨j, by rcases hj with hj | ⟨hj, r1, r2⟩; exact .inl hj; exact .inr ⟨by omega, r1, r2⟩, hb, hd⟩
    · rcases take_at hs a 69 h0 with ⟨u1, u2, u3⟩ | ⟨u1, u3⟩
      · obtain ⟨ok, b, h, b0, b1, b2⟩ := number_j2 s hs true (a + 1) (by omega) (by omega)
        refine ⟨ok, b, Ev.step (f := fun k => sr_number.j2 k true s (a + 1)) (fun k => by simp [sr_number.j1, t3, u3]) h, by omega, b1, fun e => ⟨rfl, .inr ⟨u1, .inr u2, ?_⟩⟩⟩
        rcases b2 e with ⟨q, _⟩ | ⟨_, j, hj, hb, hd⟩
        · cases q
        · exact ⟨j, by rcases hj with hj | ⟨hj, r1, r2⟩; exact .inl hj; exact .inr ⟨by omega, r1, r2⟩, hb, hd⟩
      · obtain ⟨ok, b, h, b0, b1, b2⟩ := number_j2 s hs false a h0 h1
        refine ⟨ok, b, Ev.step (f := fun k => sr_number.j2 k false s a) (fun k => by simp [sr_number.j1, t3, u3]) h, b0, b1, fun e => ⟨rfl, .inl ?_⟩⟩
        rcases b2 e with ⟨_, q⟩ | ⟨q, _⟩
        · exact q
        · cases q

theorem number_j0 (s : ByteArray) (hs : s.size ≤ 2147483647) (x : Bool) (a : Int) (h0 : 0 ≤ a) (h1 : a ≤ s.size) :
    ∃ ok b, Ev (fun k => sr_number.j0 k x s a) (ok, s, b) ∧ a ≤ b ∧ b ≤ s.size ∧ (ok = true → x = false ∧ ∃ j, FracPart s a j ∧ ExpPart s j b) := by
  cases x with
  | true => exact ⟨false, a, Ev.step (f := fun _ => some (false, s, a)) (fun k => by simp [sr_number.j0]) (Ev.now _), by omega, h1, fun e => by cases e⟩
  | false =>
    rcases take_at hs a 46 h0 with ⟨t1, t2, t3⟩ | ⟨t1, t3⟩
    · obtain ⟨j, h, hd, hn⟩ := digits_ev s hs (a + 1) (by omega) (by omega)
      obtain ⟨ok, b, h', b0, b1, b2⟩ := number_j1 s hs (!decide (j > a + 1)) j (by have := hd.2.1; omega) hd.2.2.1
      refine ⟨ok, b, Ev.step (f := fun k => (sr_digits.f k s (a + 1)).bind fun r => sr_number.j1 k (!r.1) r.2.1 r.2.2) (fun k => by simp [sr_number.j0, t3]) (Ev.bind h h'), by have := hd.2.1; omega, b1, fun e => ⟨rfl, j, .inr ⟨t1, t2, ?_, hd⟩, (b2 e).2⟩⟩
      have := (b2 e).1
      simpa using this
    · obtain ⟨ok, b, h', b0, b1, b2⟩ := number_j1 s hs false a h0 h1
      exact ⟨ok, b, Ev.step (f := fun k => sr_number.j1 k false s a) (fun k => by simp [sr_number.j0, t3]) h', b0, b1, fun e => ⟨rfl, a, .inl rfl, (b2 e).2⟩⟩

theorem number_ev (s : ByteArray) (hs : s.size ≤ 2147483647) (a : Int) (h0 : 0 ≤ a) (h1 : a < s.size) :
    ∃ ok b, Ev (fun k => sr_number.f k s a) (ok, s, b) ∧ a ≤ b ∧ b ≤ s.size ∧ (ok = true → Num s a b) := by
  have main : ∀ a' : Int, 0 ≤ a' → a' ≤ s.size → (a' = a ∨ a' = a + 1 ∧ a < s.size ∧ bt s a = 45) → ∃ ok b, Ev (fun k => (sr_take.f s a' 48).bind fun r => if r.1 = true then sr_number.j0 k false r.2.1 r.2.2 else (sr_digits.f k r.2.1 r.2.2).bind fun q => sr_number.j0 k (!q.1) q.2.1 q.2.2) (ok, s, b) ∧ a ≤ b ∧ b ≤ s.size ∧ (ok = true → Num s a b) := by
    intro a' g0 g1 ha
    rcases take_at hs a' 48 g0 with ⟨t1, t2, t3⟩ | ⟨t1, t3⟩
    · obtain ⟨ok, b, h', b0, b1, b2⟩ := number_j0 s hs false (a' + 1) (by omega) (by omega)
      refine ⟨ok, b, Ev.congr (fun k => by rw [t3]; rfl) h', by omega, b1, fun e => ?_⟩
      obtain ⟨_, j, hf, he⟩ := b2 e
      exact ⟨h0, a', a' + 1, j, ha, .inl ⟨t1, t2, rfl⟩, hf, he⟩
    · obtain ⟨i, h, hd, hn⟩ := digits_ev s hs a' g0 g1
      obtain ⟨ok, b, h', b0, b1, b2⟩ := number_j0 s hs (!decide (i > a')) i (by have := hd.2.1; omega) hd.2.2.1
      refine ⟨ok, b, Ev.congr (fun k => by rw [t3]; rfl) (Ev.bind h h'), by have := hd.2.1; omega, b1, fun e => ?_⟩
      obtain ⟨hx, j, hf, he⟩ := b2 e
      have hi : a' < i := by simpa using hx
      exact ⟨h0, a', i, j, ha, .inr ⟨hi, hd, fun e48 => t1 ⟨by have := hd.2.2.1; omega, e48⟩⟩, hf, he⟩
  rcases take_at hs a 45 h0 with ⟨t1, t2, t3⟩ | ⟨t1, t3⟩
  · obtain ⟨ok, b, h, r⟩ := main (a + 1) (by omega) (by omega) (.inr ⟨rfl, t1, t2⟩)
    exact ⟨ok, b, Ev.congr (fun k => by unfold sr_number.f; rw [t3]; rfl) h, r⟩
  · obtain ⟨ok, b, h, r⟩ := main a h0 (by omega) (.inl rfl)
    exact ⟨ok, b, Ev.congr (fun k => by unfold sr_number.f; rw [t3]; rfl) h, r⟩

theorem ba_ext {a b : ByteArray} (h : a.toList = b.toList) : a = b := by
  have h2 : a.data.toList = b.data.toList := by simpa [ByteArray.toList_eq] using h
  cases a; cases b; simp_all
theorem word_at (s : ByteArray) (hs : s.size ≤ 2147483647) (w : ByteArray) (hw : w.size ≤ 100) (a : Int) (h0 : 0 ≤ a) (h1 : a ≤ s.size) :
    (Word s a (a + w.size) w ∧ sr_word.f s a w = some (true, s, a + w.size)) ∨ sr_word.f s a w = some (false, s, a) := by
  unfold sr_word.f
  rw [w64 (by omega) (by omega), w64 (by omega) (by omega)]
  by_cases c : (s.size : Int) - a < w.size
  · right; rw [if_pos c]
  · rw [if_neg c, if_pos h0, if_pos (by omega), if_pos (by omega)]
    by_cases e : (s.extract a.toNat (a + w.size).toNat).toList = w.toList
    · left; exact ⟨⟨h0, rfl, by omega, ba_ext e⟩, by rw [if_pos e]⟩
    · right; rw [if_neg e]

mutual
/-- The value that stands from a to b. -/
inductive Val (s : ByteArray) : Int → Int → S28 → Prop
  | null {a b : Int} (h : Word s a b ⟨#[110, 117, 108, 108]⟩) : Val s a b ⟨0, a, b, [], []⟩
  | false {a b : Int} (h : Word s a b ⟨#[102, 97, 108, 115, 101]⟩) : Val s a b ⟨1, a, b, [], []⟩
  | true {a b : Int} (h : Word s a b ⟨#[116, 114, 117, 101]⟩) : Val s a b ⟨2, a, b, [], []⟩
  | num {a b : Int} (h0 : 0 ≤ a) (h1 : a < s.size) (c : bt s a = 45 ∨ IsDig (bt s a)) (h : Num s a b) : Val s a b ⟨3, a, b, [], []⟩
  | str {a b : Int} (h : Str s a b) : Val s a b ⟨4, a, b, [], []⟩
  | arr0 {a c : Int} (h0 : 0 ≤ a) (h1 : a < s.size) (ha : bt s a = 91) (hb : Blanks s (a + 1) c) (h2 : c < s.size) (hc : bt s c = 93) : Val s a (c + 1) ⟨5, a, c + 1, [], []⟩
  | arr {a b c : Int} {ks : List S28} (h0 : 0 ≤ a) (h1 : a < s.size) (ha : bt s a = 91) (hb : Blanks s (a + 1) c) (h : Els s c b ks) : Val s a b ⟨5, a, b, [], ks⟩
  | obj0 {a c : Int} (h0 : 0 ≤ a) (h1 : a < s.size) (ha : bt s a = 123) (hb : Blanks s (a + 1) c) (h2 : c < s.size) (hc : bt s c = 125) : Val s a (c + 1) ⟨6, a, c + 1, [], []⟩
  | obj {a b c : Int} {ns : List S54} {ks : List S28} (h0 : 0 ≤ a) (h1 : a < s.size) (ha : bt s a = 123) (hb : Blanks s (a + 1) c) (h : Mems s c b ns ks) : Val s a b ⟨6, a, b, ns, ks⟩
/-- The elements from c on (a value begins there), and the closing bracket; b is behind it. -/
inductive Els (s : ByteArray) : Int → Int → List S28 → Prop
  | last {c d e : Int} {p : S28} (h : Val s c d p) (hb : Blanks s d e) (h1 : e < s.size) (hc : bt s e = 93) : Els s c (e + 1) [p]
  | more {c d e f b : Int} {p : S28} {ks : List S28} (h : Val s c d p) (hb : Blanks s d e) (h1 : e < s.size) (hc : bt s e = 44) (hf : Blanks s (e + 1) f) (r : Els s f b ks) : Els s c b (p :: ks)
/-- The members from c on (a name begins there), and the closing brace; b is behind it. -/
inductive Mems (s : ByteArray) : Int → Int → List S54 → List S28 → Prop
  | last {c d e f g h : Int} {p : S28} (hn : Str s c d) (hb : Blanks s d e) (h1 : e < s.size) (hc : bt s e = 58) (hf : Blanks s (e + 1) f) (hv : Val s f g p) (hg : Blanks s g h) (h2 : h < s.size) (hh : bt s h = 125) : Mems s c (h + 1) [⟨c, d⟩] [p]
  | more {c d e f g h i b : Int} {p : S28} {ns : List S54} {ks : List S28} (hn : Str s c d) (hb : Blanks s d e) (h1 : e < s.size) (hc : bt s e = 58) (hf : Blanks s (e + 1) f) (hv : Val s f g p) (hg : Blanks s g h) (h2 : h < s.size) (hh : bt s h = 44) (hi : Blanks s (h + 1) i) (r : Mems s i b ns ks) : Mems s c b (⟨c, d⟩ :: ns) (p :: ks)
end

def ValueEv (s : ByteArray) (d : Nat) : Prop := ∀ a : Int, 0 ≤ a → a ≤ s.size → (s.size : Int) - a < d →
  ∃ kind e ns ks ok b, Ev (fun k => sr_value.f k s a) (kind, a, e, ns, ks, ok, s, b) ∧ a ≤ b ∧ b ≤ s.size ∧ (ok = true → e = b ∧ a < b ∧ Val s a b ⟨kind, a, b, ns, ks⟩)
def ElemsEv (s : ByteArray) (d : Nat) : Prop := ∀ (x : List S28) (c : Int), x.length ≤ c → 0 ≤ c → c ≤ s.size → (s.size : Int) - c < d →
  ∃ ks ok b, Ev (fun k => sr_elements.l0 k x s c) (if ok = true then x ++ ks else [], ok, s, b) ∧ c ≤ b ∧ b ≤ s.size ∧ (ok = true → c < b ∧ Els s c b ks)
def MemsEv (s : ByteArray) (d : Nat) : Prop := ∀ (x : List S54) (y : List S28) (c : Int), x.length ≤ c → y.length ≤ c → 0 ≤ c → c ≤ s.size → (s.size : Int) - c < d →
  ∃ ns ks ok b, Ev (fun k => sr_members.l0 k x y s c) (if ok = true then x ++ ns else [], if ok = true then y ++ ks else [], ok, s, b) ∧ c ≤ b ∧ b ≤ s.size ∧ (ok = true → c < b ∧ Mems s c b ns ks)

theorem elems_step (s : ByteArray) (hs : s.size ≤ 2147483647) (d : Nat) (hv : ValueEv s (d + 1)) (he : ElemsEv s d) : ElemsEv s (d + 1) := by
  intro x c hx h0 h1 hd
  obtain ⟨kind, e, ns, ks, ok, b, V, b0, b1, b2⟩ := hv c h0 h1 hd
  cases ok with
  | false =>
    refine ⟨[], false, b, ?_, b0, b1, fun e => by cases e⟩
    refine Ev.step (f := ?_) (fun k => ?_) ?_
    rotate_left 1
    · rw [sr_elements.l0]
    exact Ev.bind V (by simpa using Ev.now _)
  | true =>
    obtain ⟨rfl, hlt, hV⟩ := b2 rfl
    obtain ⟨e1, B1, hB, nB⟩ := blanks_at s hs e (by omega) b1
    have q1 := hB.2.1
    have q2 := hB.2.2.1
    have hx2 : x.length < 1954687338268 := by omega
    rcases take_at hs e1 93 (by omega) with ⟨t1, t2, t3⟩ | ⟨t1, t3⟩
    · refine ⟨[⟨kind, c, e, ns, ks⟩], true, e1 + 1, ?_, by omega, by omega, fun _ => ⟨by omega, .last hV hB t1 t2⟩⟩
      refine Ev.step (f := ?_) (fun k => ?_) ?_
      rotate_left 1
      · rw [sr_elements.l0]
      refine Ev.bind V ?_
      simp only [if_true, if_pos hx2, Option.bind_some]
      refine Ev.bind B1 ?_
      simp only [t3, Option.bind_some, if_true]
      exact Ev.now _
    · rcases take_at hs e1 44 (by omega) with ⟨u1, u2, u3⟩ | ⟨u1, u3⟩
      · obtain ⟨f, B2, hB2, nB2⟩ := blanks_at s hs (e1 + 1) (by omega) (by omega)
        have q3 := hB2.2.1
        obtain ⟨ks', ok, b, E, b0', b1', b2'⟩ := he (x ++ [⟨kind, c, e, ns, ks⟩]) f (by simp; omega) (by omega) hB2.2.2.1 (by omega)
        refine ⟨⟨kind, c, e, ns, ks⟩ :: ks', ok, b, ?_, by omega, b1', fun h => ⟨by omega, .more hV hB u1 u2 hB2 (b2' h).2⟩⟩
        refine Ev.step (f := ?_) (fun k => ?_) ?_
        rotate_left 1
        · rw [sr_elements.l0]
        refine Ev.bind V ?_
        simp only [if_true, if_pos hx2, Option.bind_some]
        refine Ev.bind B1 ?_
        simp only [t3, u3, Option.bind_some, if_true, Bool.false_eq_true, if_false]
        refine Ev.bind B2 ?_
        simpa using E
      · refine ⟨[], false, e1, ?_, by omega, by omega, fun h => by cases h⟩
        refine Ev.step (f := ?_) (fun k => ?_) ?_
        rotate_left 1
        · rw [sr_elements.l0]
        refine Ev.bind V ?_
        simp only [if_true, if_pos hx2, Option.bind_some]
        refine Ev.bind B1 ?_
        simp only [t3, u3, Option.bind_some, if_true, Bool.false_eq_true, if_false]
        exact Ev.now _

theorem mems_step (s : ByteArray) (hs : s.size ≤ 2147483647) (d : Nat) (hv : ValueEv s d) (he : MemsEv s d) : MemsEv s (d + 1) := by
  intro x y c hx hy h0 h1 hd
  have fail : ∀ b : Int, c ≤ b → b ≤ s.size → Ev (fun k => sr_members.l0 k x y s c) ([], [], false, s, b) → ∃ ns ks ok b, Ev (fun k => sr_members.l0 k x y s c) (if ok = true then x ++ ns else [], if ok = true then y ++ ks else [], ok, s, b) ∧ c ≤ b ∧ b ≤ s.size ∧ (ok = true → c < b ∧ Mems s c b ns ks) :=
    fun b h h' E => ⟨[], [], false, b, by simpa using E, h, h', fun e => by cases e⟩
  have hx2 : x.length < 8796093022208 := by omega
  have hy2 : y.length < 1954687338268 := by omega
  by_cases hq : c < s.size ∧ bt s c = 34
  · obtain ⟨hlt, hq⟩ := hq
    obtain ⟨ok, d1, Q, q0, q1, q2⟩ := quoted_ev s hs c h0 hlt hq
    have start : ∀ r, Ev (fun k => sr_members.j1 k x y c (!ok) s d1) r → Ev (fun k => sr_members.l0 k x y s c) r := by
      intro r E
      refine Ev.step (f := ?_) (fun k => ?_) ?_
      rotate_left 1
      · conv => (lhs; rw [sr_members.l0, here_in h0 hlt]; simp only [Option.bind_some]; rw [if_pos hq])
      exact Ev.bind Q E
    cases ok with
    | false => exact fail d1 (by omega) q1 (start _ (Ev.step (f := fun _ => some ([], [], false, s, d1)) (fun k => by rw [sr_members.j1]; simp) (Ev.now _)))
    | true =>
      have hS := q2 rfl
      obtain ⟨e1, B1, hB, nB⟩ := blanks_at s hs d1 (by omega) q1
      have r1 := hB.2.1
      have r2 := hB.2.2.1
      have start2 : ∀ r, Ev (fun k => (sr_take.f s e1 58).bind fun bt182 => (if bt182.1 = true then ((sr_blanks.f k bt182.2.1 bt182.2.2).bind fun bt185 => ((sr_value.f k bt185.1 bt185.2).bind fun bt187 => (if bt187.2.2.2.2.2.1 = true then (if y.length < 1954687338268 then ((some (y ++ [(⟨bt187.1, bt187.2.1, bt187.2.2.1, bt187.2.2.2.1, bt187.2.2.2.2.1⟩ : S28)] : List (S28))).bind fun y200 => ((sr_blanks.f k bt187.2.2.2.2.2.2.1 bt187.2.2.2.2.2.2.2).bind fun bt203 => ((sr_take.f bt203.1 bt203.2 125).bind fun bt205 => (if bt205.1 = true then (some (x ++ [(⟨c, d1⟩ : S54)], y200, true, bt205.2.1, bt205.2.2)) else ((sr_take.f bt205.2.1 bt205.2.2 44).bind fun bt208 => (if bt208.1 = true then ((sr_blanks.f k bt208.2.1 bt208.2.2).bind fun bt211 => (sr_members.l0 k (x ++ [(⟨c, d1⟩ : S54)]) y200 bt211.1 bt211.2)) else (some (([] : List (S54)), ([] : List (S28)), false, bt208.2.1, bt208.2.2)))))))) else (none)) else (some (([] : List (S54)), ([] : List (S28)), false, bt187.2.2.2.2.2.2.1, bt187.2.2.2.2.2.2.2))))) else (some (([] : List (S54)), ([] : List (S28)), false, bt182.2.1, bt182.2.2)))) r → Ev (fun k => sr_members.l0 k x y s c) r := by
        intro r E
        refine start r ?_
        refine Ev.step (f := ?_) (fun k => ?_) ?_
        rotate_left 1
        · conv => (lhs; rw [sr_members.j1]; simp only [Bool.not_true, Bool.false_eq_true, if_false]; rw [if_pos hx2]; simp only [Option.bind_some])
        exact Ev.bind B1 E
      rcases take_at hs e1 58 (by omega) with ⟨t1, t2, t3⟩ | ⟨t1, t3⟩
      · obtain ⟨f, B2, hB2, nB2⟩ := blanks_at s hs (e1 + 1) (by omega) (by omega)
        have r3 := hB2.2.1
        have r4 := hB2.2.2.1
        obtain ⟨kind, e, ns, ks, ok, g, V, v0, v1, v2⟩ := hv f (by omega) r4 (by omega)
        cases ok with
        | false =>
          refine fail g (by omega) v1 (start2 _ ?_)
          simp only [t3, Option.bind_some, if_true]
          refine Ev.bind B2 (Ev.bind V ?_)
          simpa using Ev.now _
        | true =>
          obtain ⟨rfl, hlt2, hV⟩ := v2 rfl
          obtain ⟨h, B3, hB3, nB3⟩ := blanks_at s hs e (by omega) v1
          have r5 := hB3.2.1
          have r6 := hB3.2.2.1
          rcases take_at hs h 125 (by omega) with ⟨u1, u2, u3⟩ | ⟨u1, u3⟩
          · refine ⟨[⟨c, d1⟩], [⟨kind, f, e, ns, ks⟩], true, h + 1, ?_, by omega, by omega, fun _ => ⟨by omega, .last hS hB t1 t2 hB2 hV hB3 u1 u2⟩⟩
            refine start2 _ ?_
            simp only [t3, Option.bind_some, if_true]
            refine Ev.bind B2 (Ev.bind V ?_)
            simp only [if_true, if_pos hy2, Option.bind_some]
            refine Ev.bind B3 ?_
            simp only [u3, Option.bind_some, if_true]
            exact Ev.now _
          · rcases take_at hs h 44 (by omega) with ⟨w1, w2, w3⟩ | ⟨w1, w3⟩
            · obtain ⟨i, B4, hB4, nB4⟩ := blanks_at s hs (h + 1) (by omega) (by omega)
              have r7 := hB4.2.1
              obtain ⟨ns', ks', ok, b, E, b0', b1', b2'⟩ := he (x ++ [⟨c, d1⟩]) (y ++ [⟨kind, f, e, ns, ks⟩]) i (by simp; omega) (by simp; omega) (by omega) hB4.2.2.1 (by omega)
              refine ⟨⟨c, d1⟩ :: ns', ⟨kind, f, e, ns, ks⟩ :: ks', ok, b, ?_, by omega, b1', fun h => ⟨by omega, .more hS hB t1 t2 hB2 hV hB3 w1 w2 hB4 (b2' h).2⟩⟩
              refine start2 _ ?_
              simp only [t3, Option.bind_some, if_true]
              refine Ev.bind B2 (Ev.bind V ?_)
              simp only [if_true, if_pos hy2, Option.bind_some]
              refine Ev.bind B3 ?_
              simp only [u3, w3, Option.bind_some, if_true, Bool.false_eq_true, if_false]
              refine Ev.bind B4 ?_
              simpa using E
            · refine fail h (by omega) (by omega) (start2 _ ?_)
              simp only [t3, Option.bind_some, if_true]
              refine Ev.bind B2 (Ev.bind V ?_)
              simp only [if_true, if_pos hy2, Option.bind_some]
              refine Ev.bind B3 ?_
              simp only [u3, w3, Option.bind_some, if_true, Bool.false_eq_true, if_false]
              exact Ev.now _
      · refine fail e1 (by omega) (by omega) (start2 _ ?_)
        simp only [t3, Option.bind_some, Bool.false_eq_true, if_false]
        exact Ev.now _
  · refine fail c (by omega) h1 ?_
    have hh : ∃ v, sr_here.f s c = some (v, s, c) ∧ v ≠ 34 := by
      by_cases hlt : c < s.size
      · exact ⟨_, here_in h0 hlt, fun e => hq ⟨hlt, e⟩⟩
      · exact ⟨0, here_out hlt, by decide⟩
    obtain ⟨v, hv1, hv2⟩ := hh
    refine Ev.step (f := fun k => sr_members.j1 k x y c true s c) (fun k => ?_) (Ev.step (f := fun _ => some ([], [], false, s, c)) (fun k => by rw [sr_members.j1]; simp) (Ev.now _))
    rw [sr_members.l0, hv1]
    simp only [Option.bind_some]
    rw [if_neg hv2]

theorem value_step (s : ByteArray) (hs : s.size ≤ 2147483647) (d : Nat) (he : ElemsEv s d) (hm : MemsEv s d) : ValueEv s (d + 1) := by
  intro a h0 h1 hd
  have hh : ∃ v, sr_here.f s a = some (v, s, a) ∧ (a < s.size → v = bt s a) ∧ (¬ a < s.size → v = 0) := by
    by_cases hlt : a < s.size
    · exact ⟨_, here_in h0 hlt, fun _ => rfl, fun h => absurd hlt h⟩
    · exact ⟨0, here_out hlt, fun h => absurd h hlt, fun _ => rfl⟩
  obtain ⟨v, hv, hv1, hv2⟩ := hh
  by_cases c1 : v = 123
  · have hlt : a < s.size := by
      by_cases h : a < s.size
      · exact h
      · have := hv2 h; omega
    have ha : bt s a = 123 := by rw [← hv1 hlt]; exact c1
    have go : ∀ ns ks ok b, Ev (fun k => sr_members.f k s a) (ns, ks, ok, s, b) → Ev (fun k => sr_value.f k s a) (6, a, b, ns, ks, ok, s, b) := by
      intro ns ks ok b E
      refine Ev.step (f := ?_) (fun k => ?_) ?_
      rotate_left 1
      · conv => (lhs; rw [sr_value.f, hv]; simp only [Option.bind_some]; rw [if_pos c1])
      exact Ev.bind E (Ev.now _)
    obtain ⟨c, B, hB, nB⟩ := blanks_at s hs (a + 1) (by omega) (by omega)
    have r1 := hB.2.1
    have r2 := hB.2.2.1
    rcases take_at hs c 125 (by omega) with ⟨t1, t2, t3⟩ | ⟨t1, t3⟩
    · refine ⟨6, c + 1, [], [], true, c + 1, go _ _ _ _ ?_, by omega, by omega, fun _ => ⟨rfl, by omega, .obj0 h0 hlt ha hB t1 t2⟩⟩
      refine Ev.step (f := ?_) (fun k => ?_) ?_
      rotate_left 1
      · conv => (lhs; rw [sr_members.f, w64 (by omega) (by omega)])
      refine Ev.bind B ?_
      simp only [t3, Option.bind_some, if_true]
      exact Ev.now _
    · obtain ⟨ns, ks, ok, b, E, b0, b1, b2⟩ := hm [] [] c (by simp; omega) (by simp; omega) (by omega) r2 (by omega)
      refine ⟨6, b, if ok = true then [] ++ ns else [], if ok = true then [] ++ ks else [], ok, b, go _ _ _ _ ?_, by omega, b1, fun h => ⟨rfl, by have := (b2 h).1; omega, ?_⟩⟩
      · refine Ev.step (f := ?_) (fun k => ?_) ?_
        rotate_left 1
        · conv => (lhs; rw [sr_members.f, w64 (by omega) (by omega)])
        refine Ev.bind B ?_
        simp only [t3, Option.bind_some, Bool.false_eq_true, if_false]
        exact E
      · rw [if_pos h, if_pos h]
        exact .obj h0 hlt ha hB (b2 h).2
  by_cases c2 : v = 91
  · have hlt : a < s.size := by
      by_cases h : a < s.size
      · exact h
      · have := hv2 h; omega
    have ha : bt s a = 91 := by rw [← hv1 hlt]; exact c2
    have go : ∀ ks ok b, Ev (fun k => sr_elements.f k s a) (ks, ok, s, b) → Ev (fun k => sr_value.f k s a) (5, a, b, [], ks, ok, s, b) := by
      intro ks ok b E
      refine Ev.step (f := ?_) (fun k => ?_) ?_
      rotate_left 1
      · conv => (lhs; rw [sr_value.f, hv]; simp only [Option.bind_some]; rw [if_neg c1, if_pos c2])
      exact Ev.bind E (Ev.now _)
    obtain ⟨c, B, hB, nB⟩ := blanks_at s hs (a + 1) (by omega) (by omega)
    have r1 := hB.2.1
    have r2 := hB.2.2.1
    rcases take_at hs c 93 (by omega) with ⟨t1, t2, t3⟩ | ⟨t1, t3⟩
    · refine ⟨5, c + 1, [], [], true, c + 1, go _ _ _ ?_, by omega, by omega, fun _ => ⟨rfl, by omega, .arr0 h0 hlt ha hB t1 t2⟩⟩
      refine Ev.step (f := ?_) (fun k => ?_) ?_
      rotate_left 1
      · conv => (lhs; rw [sr_elements.f, w64 (by omega) (by omega)])
      refine Ev.bind B ?_
      simp only [t3, Option.bind_some, if_true]
      exact Ev.now _
    · obtain ⟨ks, ok, b, E, b0, b1, b2⟩ := he [] c (by simp; omega) (by omega) r2 (by omega)
      refine ⟨5, b, [], if ok = true then [] ++ ks else [], ok, b, go _ _ _ ?_, by omega, b1, fun h => ⟨rfl, by have := (b2 h).1; omega, ?_⟩⟩
      · refine Ev.step (f := ?_) (fun k => ?_) ?_
        rotate_left 1
        · conv => (lhs; rw [sr_elements.f, w64 (by omega) (by omega)])
        refine Ev.bind B ?_
        simp only [t3, Option.bind_some, Bool.false_eq_true, if_false]
        exact E
      · rw [if_pos h]
        exact .arr h0 hlt ha hB (b2 h).2
  by_cases c3 : v = 34
  · have hlt : a < s.size := by
      by_cases h : a < s.size
      · exact h
      · have := hv2 h; omega
    have ha : bt s a = 34 := by rw [← hv1 hlt]; exact c3
    obtain ⟨ok, b, Q, q0, q1, q2⟩ := quoted_ev s hs a h0 hlt ha
    refine ⟨4, b, [], [], ok, b, ?_, by omega, q1, fun h => ⟨rfl, by omega, .str (q2 h)⟩⟩
    refine Ev.step (f := ?_) (fun k => ?_) ?_
    rotate_left 1
    · conv => (lhs; rw [sr_value.f, hv]; simp only [Option.bind_some]; rw [if_neg c1, if_neg c2, if_pos c3])
    exact Ev.bind Q (Ev.now _)
  have last : ∀ x, (x = true → a < s.size ∧ (bt s a = 45 ∨ IsDig (bt s a))) → ∃ kind e ns ks ok b, Ev (fun k => sr_value.j0 k true x s a 0 a 0) (kind, a, e, ns, ks, ok, s, b) ∧ a ≤ b ∧ b ≤ s.size ∧ (ok = true → e = b ∧ a < b ∧ Val s a b ⟨kind, a, b, ns, ks⟩) := by
    intro x hx
    cases x with
    | true =>
      obtain ⟨hlt, hd'⟩ := hx rfl
      obtain ⟨ok, b, N, n0, n1, n2⟩ := number_ev s hs a h0 hlt
      refine ⟨3, b, [], [], ok, b, ?_, n0, n1, fun h => ⟨rfl, ?_, .num h0 hlt hd' (n2 h)⟩⟩
      · refine Ev.step (f := ?_) (fun k => ?_) ?_
        rotate_left 1
        · conv => (lhs; rw [sr_value.j0, if_pos rfl])
        exact Ev.bind N (Ev.now _)
      · obtain ⟨_, a', i, j, ha', hi, hj, hb⟩ := n2 h
        have e1 : a' < i := by rcases hi with ⟨_, _, e⟩ | ⟨e, _⟩ <;> omega
        have e2 : i ≤ j := by rcases hj with e | ⟨_, _, e, _⟩ <;> omega
        have e3 : j ≤ b := by rcases hb with e | ⟨_, _, j', hj', e, _⟩ <;> omega
        omega
    | false =>
      rcases word_at s hs ⟨#[110, 117, 108, 108]⟩ (by decide) a h0 h1 with ⟨w1, w2⟩ | w2
      · have w3 := w1.2.2.1
        refine ⟨0, _, [], [], true, _, ?_, ?_, w3, fun _ => ⟨rfl, ?_, .null w1⟩⟩
        · refine Ev.step (f := fun _ => some _) (fun k => ?_) (Ev.now _)
          rw [sr_value.j0, w2]; simp
        · show a ≤ a + 4; omega
        · show a < a + 4; omega
      · rcases word_at s hs ⟨#[102, 97, 108, 115, 101]⟩ (by decide) a h0 h1 with ⟨x1, x2⟩ | x2
        · have x3 := x1.2.2.1
          refine ⟨1, _, [], [], true, _, ?_, ?_, x3, fun _ => ⟨rfl, ?_, .false x1⟩⟩
          · refine Ev.step (f := fun _ => some _) (fun k => ?_) (Ev.now _)
            rw [sr_value.j0, w2]; simp [x2]
          · show a ≤ a + 5; omega
          · show a < a + 5; omega
        · rcases word_at s hs ⟨#[116, 114, 117, 101]⟩ (by decide) a h0 h1 with ⟨y1, y2⟩ | y2
          · have y3 := y1.2.2.1
            refine ⟨2, _, [], [], true, _, ?_, ?_, y3, fun _ => ⟨rfl, ?_, .true y1⟩⟩
            · refine Ev.step (f := fun _ => some _) (fun k => ?_) (Ev.now _)
              rw [sr_value.j0, w2]; simp [x2, y2]
            · show a ≤ a + 4; omega
            · show a < a + 4; omega
          · refine ⟨0, a, [], [], false, a, ?_, by omega, h1, fun h => by cases h⟩
            refine Ev.step (f := fun _ => some _) (fun k => ?_) (Ev.now _)
            rw [sr_value.j0, w2]; simp [x2, y2]
  have lift : ∀ x, (∀ k, sr_value.f (k + 1) s a = sr_value.j0 k true x s a 0 a 0) → (x = true → a < s.size ∧ (bt s a = 45 ∨ IsDig (bt s a))) → ∃ kind e ns ks ok b, Ev (fun k => sr_value.f k s a) (kind, a, e, ns, ks, ok, s, b) ∧ a ≤ b ∧ b ≤ s.size ∧ (ok = true → e = b ∧ a < b ∧ Val s a b ⟨kind, a, b, ns, ks⟩) := by
    intro x hx hd'
    obtain ⟨kind, e, ns, ks, ok, b, E, r⟩ := last x hd'
    exact ⟨kind, e, ns, ks, ok, b, Ev.step hx E, r⟩
  by_cases c4 : v = 45
  · refine lift true (fun k => ?_) (fun _ => ?_)
    · rw [sr_value.f, hv]; simp only [Option.bind_some]; rw [if_neg c1, if_neg c2, if_neg c3, if_pos c4]
    · have hlt : a < s.size := by
        by_cases h : a < s.size
        · exact h
        · have := hv2 h; omega
      exact ⟨hlt, .inl (by rw [← hv1 hlt]; exact c4)⟩
  by_cases c5 : 48 ≤ v
  · refine lift (decide (v ≤ 57)) (fun k => ?_) (fun h => ?_)
    · rw [sr_value.f, hv]; simp only [Option.bind_some]; rw [if_neg c1, if_neg c2, if_neg c3, if_neg c4, if_pos c5]
    · have hlt : a < s.size := by
        by_cases h : a < s.size
        · exact h
        · have := hv2 h; omega
      exact ⟨hlt, .inr ⟨by rw [← hv1 hlt]; exact c5, by rw [← hv1 hlt]; simpa using h⟩⟩
  · refine lift false (fun k => ?_) (fun h => by cases h)
    rw [sr_value.f, hv]; simp only [Option.bind_some]; rw [if_neg c1, if_neg c2, if_neg c3, if_neg c4, if_neg c5]

theorem reader_ev (s : ByteArray) (hs : s.size ≤ 2147483647) (d : Nat) : ValueEv s d ∧ ElemsEv s d ∧ MemsEv s d := by
  induction d with
  | zero => exact ⟨fun a h0 h1 h => by omega, fun x c _ h0 h1 h => by omega, fun x y c _ _ h0 h1 h => by omega⟩
  | succ d ih =>
    obtain ⟨h1, h2, h3⟩ := ih
    have v := value_step s hs d h2 h3
    exact ⟨v, elems_step s hs d v h2, mems_step s hs d h1 h3⟩

/-- A JSON text: its value, with blanks around it. -/
def Json (s : ByteArray) (p : S28) : Prop := ∃ a b c, Blanks s 0 a ∧ Val s a b p ∧ Blanks s b c ∧ c = s.size

theorem places_ev (s : ByteArray) (hs : s.size ≤ 2147483647) :
    ∃ p ok, Ev (fun k => spec_Places.f k s) (p.f0, p.f1, p.f2, p.f3, p.f4, ok) ∧ (ok = true → Json s p) := by
  obtain ⟨a, B, hB, nB⟩ := blanks_at s hs 0 (by omega) (by omega)
  have r1 := hB.2.1
  have r2 := hB.2.2.1
  obtain ⟨kind, e, ns, ks, ok, b, V, b0, b1, b2⟩ := (reader_ev s hs (s.size + 1)).1 a r1 r2 (by omega)
  cases ok with
  | false =>
    refine ⟨⟨0, 0, 0, [], []⟩, false, ?_, fun h => by cases h⟩
    unfold spec_Places.f
    refine Ev.bind B (Ev.bind V ?_)
    simpa using Ev.now _
  | true =>
    obtain ⟨rfl, hlt, hV⟩ := b2 rfl
    obtain ⟨c, C, hC, nC⟩ := blanks_at s hs e (by omega) b1
    by_cases hc : c = s.size
    · refine ⟨⟨kind, a, e, ns, ks⟩, true, ?_, fun _ => ⟨a, e, c, hB, hV, hC, hc⟩⟩
      unfold spec_Places.f
      refine Ev.bind B (Ev.bind V ?_)
      simp only [if_true]
      refine Ev.bind C ?_
      simp only [hc, if_true]
      exact Ev.now _
    · refine ⟨⟨0, 0, 0, [], []⟩, false, ?_, fun h => by cases h⟩
      unfold spec_Places.f
      refine Ev.bind B (Ev.bind V ?_)
      simp only [if_true]
      refine Ev.bind C ?_
      simp only [if_neg hc]
      exact Ev.now _


end Go.Proofs.Ytnilbkfhfnofgaa.PFnPrWidthMember
