/- Plain lemmas for this claim: what the Lean functions of the contracts compute, over numbers and lists. -/
import Derived.Test.YtapgjhgjhcfmoaaPFnPrDefaultLaidq0
namespace Go.Proofs.Ytapgjhgjhcfmoaa.PFnPrDefaultLaid
open Go.RowKit Go.Proofs.YtapgjhgjhcfmoaaW.PrintWords Go.Proofs.YtapgjhgjhcfmoaaW.PrintLast Go.Proofs.YtapgjhgjhcfmoaaW.PrintMore
set_option linter.unusedVariables false
set_option linter.unusedSimpArgs false
/-! ### appendPrettyObject: one step of its loops (A: objects; B: arrays without elements) -/
theorem ol_blank (s : ByteArray) (hs : s.size ≤ 2147483647) (buf : List Int) (W : Int) (P : ByteArray) (I : ByteArray) (tabs : Int) (nl : Int) (n : Int) (i : Int) (h0 : 0 ≤ i) (h1 : i < s.size) (r : List Int × Int × Int × Bool) (hc : bt s i ≤ 32) (h : Ev (fun k => pretty_appendPrettyObjectA.l0 k buf (bytesOf s) (i + 1) 123 125 true W P I false tabs nl (-1) n) r) :
    Ev (fun k => pretty_appendPrettyObjectA.l0 k buf (bytesOf s) i 123 125 true W P I false tabs nl (-1) n) r := by
  have hl := blen s
  refine Ev.step (fun k => ?_) h
  rw [pretty_appendPrettyObjectA.l0, if_neg (by simp), if_pos rfl, if_pos rfl, if_pos rfl, if_pos (by omega), if_pos h0, rd_bytesOf, if_pos hc, w64 (by omega) (by omega)]
theorem ol_other (s : ByteArray) (hs : s.size ≤ 2147483647) (buf : List Int) (W : Int) (P : ByteArray) (I : ByteArray) (tabs : Int) (nl : Int) (n : Int) (i : Int) (h0 : 0 ≤ i) (h1 : i < s.size) (r : List Int × Int × Int × Bool) (hc : ¬ bt s i ≤ 32) (hcc : bt s i ≠ 125) (hq : bt s i ≠ 34) (h : Ev (fun k => pretty_appendPrettyObjectA.l0 k buf (bytesOf s) (i + 1) 123 125 true W P I false tabs nl (-1) n) r) :
    Ev (fun k => pretty_appendPrettyObjectA.l0 k buf (bytesOf s) i 123 125 true W P I false tabs nl (-1) n) r := by
  have hl := blen s
  refine Ev.step (fun k => ?_) h
  rw [pretty_appendPrettyObjectA.l0, if_neg (by simp), if_pos rfl, if_pos rfl, if_pos rfl, if_pos (by omega), if_pos h0, rd_bytesOf, if_neg hc, if_neg hcc, if_neg (by omega), if_neg hq, w64 (by omega) (by omega)]
theorem ol_close0 (s : ByteArray) (hs : s.size ≤ 2147483647) (buf : List Int) (W : Int) (P : ByteArray) (I : ByteArray) (tabs : Int) (nl : Int) (n : Int) (i : Int) (h0 : 0 ≤ i) (h1 : i < s.size) (hc : ¬ bt s i ≤ 32) (hcc : bt s i = 125) (hb : buf.length ≤ 100000000000000) (hn : n = 0) (hla : LastIs buf 123) :
    Ev (fun k => pretty_appendPrettyObjectA.l0 k buf (bytesOf s) i 123 125 true W P I false tabs nl (-1) n) (buf ++ [125], i + 1, nl, (123 : Int) != 123) := by
  have hl := blen s
  have hr := hla.rd
  have hpos := hla.pos
  refine Ev.step (f := fun _ => some _) (fun k => ?_) (Ev.now _)
  rw [pretty_appendPrettyObjectA.l0, if_neg (by simp), if_pos rfl, if_pos rfl, if_pos rfl, if_pos (by omega), if_pos h0, rd_bytesOf, if_neg hc, if_pos hcc, if_neg (by omega), w64 (x := (buf.length : Int) - 1) (by omega) (by omega), if_pos (by omega), if_pos (by omega), hr, if_pos rfl, if_pos (by omega), w64 (by omega) (by omega)]
theorem ol_closeN (s : ByteArray) (hs : s.size ≤ 2147483647) (buf : List Int) (W : Int) (P : ByteArray) (I : ByteArray) (tabs : Int) (nl : Int) (n : Int) (i : Int) (h0 : 0 ≤ i) (h1 : i < s.size) (t : Nat) (ht : tabs = t) (ht2 : t ≤ 1000000) (hP : P.size ≤ 1000) (hI : I.size ≤ 1000) (hT : (tabsL P I t).length ≤ 10000000) (hc : ¬ bt s i ≤ 32) (hcc : bt s i = 125) (hb : buf.length ≤ 99000000000000) (hn : 0 < n) {q : Int} (hla : LastIs buf q) (hq : q ≠ 32) :
    Ev (fun k => pretty_appendPrettyObjectA.l0 k buf (bytesOf s) i 123 125 true W P I false tabs nl (-1) n) (buf ++ [10] ++ tabsL P I t ++ [125], i + 1, (buf.length : Int), (123 : Int) != 123) := by
  have hl := blen s
  have hr := hla.rd
  have hpos := hla.pos
  have hr2 := (LastIs.one buf 10).rd
  have hlen : ((buf ++ [10]).length : Int) = buf.length + 1 := by simp
  have hT2 := tabs_ev P I hP hI (buf ++ [10]) t ht2 (by simp; omega)
  have e3 : wrap64 (((buf ++ [10]).length : Int) - 1) = ((buf ++ [10]).length : Int) - 1 := w64 (by omega) (by omega)
  refine Ev.step (f := fun k => (pretty_appendTabs.f k (buf ++ [10]) P I t).bind fun x => if x.length < 140737488355328 then some (x ++ [125], i + 1, (buf.length : Int), (123 : Int) != 123) else none) (fun k => ?_) (Ev.bind hT2 ?_)
  · rw [pretty_appendPrettyObjectA.l0, if_neg (by simp), if_pos rfl, if_pos rfl, if_pos rfl, if_pos (by omega), if_pos h0, rd_bytesOf, if_neg hc, if_pos hcc, if_pos hn, w64 (x := (buf.length : Int) - 1) (by omega) (by omega), if_pos (by omega), if_pos (by omega), hr, if_neg hq, if_pos (by omega)]
    simp only [Option.bind_some]
    rw [e3, if_pos (by omega), if_pos (by omega), hr2, if_neg (by omega), ht, w64 (x := i + 1) (by omega) (by omega)]
  · refine Ev.congr (f := fun _ => some _) (fun k => ?_) (Ev.now _)
    rw [if_pos (by simp only [List.length_append, List.length_cons, List.length_nil]; omega)]
def comma (n : Int) : List Int := if 0 < n then [44] else []
theorem comma_len (n : Int) : (comma n).length ≤ 1 := by unfold comma; split <;> simp
/-- One member of an object, written on a line of its own. -/
theorem ol_member (s : ByteArray) (hs : s.size ≤ 2147483647) (buf : List Int) (W : Int) (hW : 0 ≤ W) (P I : ByteArray) (nl : Int) (n : Int) (i : Int) (r : List Int × Int × Int × Bool) (t : Nat) (ht2 : t < 1000000) (hP : P.size ≤ 1000) (hI : I.size ≤ 1000)
    (hT : (tabsL P I (t + 1)).length ≤ 10000000) (hb : buf.length ≤ 90000000000000) (hn0 : 0 ≤ n) (hn : n ≤ 2147483647) {d : Int} (hstr : Str s i d) {q : Int} (hla : LastIs buf q) (hq : q ≠ 32)
    {buf3 : List Int} {b nl2 : Int} {ok : Bool} (hb0 : 0 ≤ b) (hb1 : b ≤ s.size)
    (hv : Ev (fun k => pretty_appendPrettyAny.f k (buf ++ comma n ++ [10] ++ tabsL P I (t + 1) ++ sub s i d ++ [58, 32]) (bytesOf s) d true W P I false (t + 1) ((buf ++ comma n).length : Int) (-1)) (buf3, b, nl2, ok))
    (hr : Ev (fun k => pretty_appendPrettyObjectA.l0 k buf3 (bytesOf s) b 123 125 true W P I false t nl2 (-1) (n + 1)) r) :
    Ev (fun k => pretty_appendPrettyObjectA.l0 k buf (bytesOf s) i 123 125 true W P I false t nl (-1) n) r := by
  have hl := blen s
  have hsb := str_bound hstr
  have hq34 := hstr.2.2.1
  have hcl := comma_len n
  -- the rest, from j2 on
  have J2 : ∀ q2, LastIs (buf ++ comma n) q2 → q2 ≠ 32 → Ev (fun k => pretty_appendPrettyObjectA.j2 k (buf ++ comma n) (bytesOf s) i 123 125 true W P I false t (-1) n) r := by
    intro q2 hla2 hq2
    have hrd := hla2.rd
    have hpos := hla2.pos
    have hlc : (buf ++ comma n).length = buf.length + (comma n).length := List.length_append
    have T := tabs_ev P I hP hI (buf ++ comma n ++ [10]) (t + 1) (by omega) (by simp only [List.length_append, List.length_cons, List.length_nil]; omega)
    have hsl := sub_len s i d hsb.1 (by omega) hsb.2.2.1
    have e1 : wrap64 (wrap64 (b - 1) + 1) = b := by rw [w64 (x := b - 1) (by omega) (by omega), w64 (x := b - 1 + 1) (by omega) (by omega)]; omega
    have e2 : wrap64 (n + 1) = n + 1 := w64 (by omega) (by omega)
    have e3 : wrap64 ((t : Int) + 1) = (t : Int) + 1 := w64 (by omega) (by omega)
    have J8 : Ev (fun k => (pretty_appendPrettyAny.f k (buf ++ comma n ++ [10] ++ tabsL P I (t + 1) ++ sub s i d ++ [58, 32]) (bytesOf s) d true W P I false (wrap64 ((t : Int) + 1)) ((buf ++ comma n).length : Int) (-1)).bind fun x => pretty_appendPrettyObjectA.l0 k x.1 (bytesOf s) (wrap64 ((wrap64 (x.2.1 - 1)) + 1)) 123 125 true W P I false t x.2.2.1 (-1) (wrap64 (n + 1))) r := by
      rw [e3]
      refine Ev.bind hv ?_
      show Ev (fun k => pretty_appendPrettyObjectA.l0 k buf3 (bytesOf s) (wrap64 (wrap64 (b - 1) + 1)) 123 125 true W P I false t nl2 (-1) (wrap64 (n + 1))) r
      rw [e1, e2]
      exact hr
    have J3 : Ev (fun k => pretty_appendPrettyObjectA.j3 k (buf ++ comma n ++ [10] ++ tabsL P I (t + 1)) (bytesOf s) i 123 125 true W P I false t ((buf ++ comma n).length : Int) (-1) n) r := by
      refine Ev.step (f := fun k => (pretty_appendPrettyString.f k (buf ++ comma n ++ [10] ++ tabsL P I (t + 1)) (bytesOf s) i ((buf ++ comma n).length : Int)).bind fun x => (if x.1.length < 140737488355328 then ((some (x.1 ++ [58] : List Int)).bind fun y => (if y.length < 140737488355328 then ((pretty_appendPrettyAny.f k (y ++ [32]) (bytesOf s) x.2.1 true W P I false (wrap64 ((t : Int) + 1)) x.2.2.1 (-1)).bind fun z => pretty_appendPrettyObjectA.l0 k z.1 (bytesOf s) (wrap64 ((wrap64 (z.2.1 - 1)) + 1)) 123 125 true W P I false t z.2.2.1 (-1) (wrap64 (n + 1))) else none)) else none)) (fun k => ?_) (Ev.bind (str_ev s hs _ (by simp only [List.length_append, List.length_cons, List.length_nil]; omega) _ hstr) ?_)
      · rw [pretty_appendPrettyObjectA.j3, if_neg (by simp), if_pos rfl, if_pos rfl, if_pos rfl]
      · refine Ev.congr (fun k => ?_) J8
        rw [if_pos (by simp only [List.length_append, List.length_cons, List.length_nil]; omega)]
        simp only [Option.bind_some]
        rw [if_pos (by simp only [List.length_append, List.length_cons, List.length_nil]; omega)]
        simp only [List.append_assoc, List.cons_append, List.nil_append]
    refine Ev.step (f := fun k => (pretty_appendTabs.f k (buf ++ comma n ++ [10]) P I (t + 1 : Nat)).bind fun x => pretty_appendPrettyObjectA.j3 k x (bytesOf s) i 123 125 true W P I false t ((buf ++ comma n).length : Int) (-1) n) (fun k => ?_) (Ev.bind T J3)
    rw [pretty_appendPrettyObjectA.j2, if_neg (by simp), if_pos rfl, if_pos rfl, if_pos rfl, w64 (x := ((buf ++ comma n).length : Int) - 1) (by omega) (by omega), if_pos (by omega), if_pos (by omega), hrd, if_neg hq2, if_pos (by omega), e3]
    rfl
  by_cases hnn : 0 < n
  · have ec : comma n = [44] := by unfold comma; rw [if_pos hnn]
    refine Ev.step (fun k => ?_) (J2 44 (by rw [ec]; exact LastIs.one _ _) (by omega))
    rw [pretty_appendPrettyObjectA.l0, if_neg (by simp), if_pos rfl, if_pos rfl, if_pos rfl, if_pos (by omega), if_pos (by omega), rd_bytesOf, if_neg (by omega), if_neg (by omega), if_neg (by omega), if_pos hq34, if_pos (by omega), if_pos (by omega), ec]
    simp only [Option.bind_some]
    rw [if_neg (by omega)]
  · have ec : comma n = [] := by unfold comma; rw [if_neg hnn]
    rw [ec, List.append_nil] at J2
    refine Ev.step (fun k => ?_) (J2 q hla hq)
    rw [pretty_appendPrettyObjectA.l0, if_neg (by simp), if_pos rfl, if_pos rfl, if_pos rfl, if_pos (by omega), if_pos (by omega), rd_bytesOf, if_neg (by omega), if_neg (by omega), if_neg (by omega), if_pos hq34, if_neg (by omega)]
theorem ol_skips (s : ByteArray) (hs : s.size ≤ 2147483647) (buf : List Int) (W : Int) (P I : ByteArray) (tabs nl n : Int) (r : List Int × Int × Int × Bool) (c : Int) (hc : c ≤ s.size) (d : Nat) :
    ∀ i : Int, 0 ≤ i → i + d = c → (∀ j, i ≤ j → j < c → bt s j ≤ 32 ∨ ((123 : Int) = 123 ∧ ¬ bt s j ≤ 32 ∧ bt s j ≠ 125 ∧ bt s j ≠ 34)) →
    Ev (fun k => pretty_appendPrettyObjectA.l0 k buf (bytesOf s) c 123 125 true W P I false tabs nl (-1) n) r → Ev (fun k => pretty_appendPrettyObjectA.l0 k buf (bytesOf s) i 123 125 true W P I false tabs nl (-1) n) r := by
  induction d with
  | zero => intro i h0 h1 _ h; obtain rfl : i = c := by omega
            exact h
  | succ d ih =>
    intro i h0 h1 hsk h
    have h2 := ih (i + 1) (by omega) (by omega) (fun j q1 q2 => hsk j (by omega) q2) h
    rcases hsk i (by omega) (by omega) with g | ⟨_, g2, g3, g4⟩
    · exact ol_blank s hs buf W P I tabs nl n i h0 (by omega) r g h2
    · exact ol_other s hs buf W P I tabs nl n i h0 (by omega) r g2 g3 g4 h2
theorem ol_from (s : ByteArray) (hs : s.size ≤ 2147483647) (buf : List Int) (W : Int) (P I : ByteArray) (tabs nl n : Int) (r : List Int × Int × Int × Bool) (i c : Int) (h0 : 0 ≤ i) (h1 : i ≤ c) (hc : c ≤ s.size) (hsk : ∀ j, i ≤ j → j < c → bt s j ≤ 32 ∨ ((123 : Int) = 123 ∧ ¬ bt s j ≤ 32 ∧ bt s j ≠ 125 ∧ bt s j ≠ 34))
    (h : Ev (fun k => pretty_appendPrettyObjectA.l0 k buf (bytesOf s) c 123 125 true W P I false tabs nl (-1) n) r) : Ev (fun k => pretty_appendPrettyObjectA.l0 k buf (bytesOf s) i 123 125 true W P I false tabs nl (-1) n) r :=
  ol_skips s hs buf W P I tabs nl n r c hc (c - i).toNat i h0 (by omega) hsk h
theorem bl_blank (s : ByteArray) (hs : s.size ≤ 2147483647) (buf : List Int) (P : ByteArray) (I : ByteArray) (tabs : Int) (nl : Int) (n : Int) (i : Int) (h0 : 0 ≤ i) (h1 : i < s.size) (r : List Int × Int × Int × Bool) (pr : Bool) (hc : bt s i ≤ 32) (h : Ev (fun k => pretty_appendPrettyObjectB.l0 k buf (bytesOf s) (i + 1) 91 93 pr P I false tabs nl n) r) :
    Ev (fun k => pretty_appendPrettyObjectB.l0 k buf (bytesOf s) i 91 93 pr P I false tabs nl n) r := by
  have hl := blen s
  refine Ev.step (fun k => ?_) h
  rw [pretty_appendPrettyObjectB.l0, if_neg (by simp), if_pos rfl, if_pos (by omega), if_pos h0, rd_bytesOf, if_pos hc, w64 (by omega) (by omega)]
theorem bl_close_flat (s : ByteArray) (hs : s.size ≤ 2147483647) (buf : List Int) (P : ByteArray) (I : ByteArray) (tabs : Int) (nl : Int) (n : Int) (i : Int) (h0 : 0 ≤ i) (h1 : i < s.size) (hc : ¬ bt s i ≤ 32) (hcc : bt s i = 93) (hb : buf.length ≤ 100000000000000) :
    Ev (fun k => pretty_appendPrettyObjectB.l0 k buf (bytesOf s) i 91 93 false P I false tabs nl n) (buf ++ [93], i + 1, nl, (91 : Int) != 123) := by
  have hl := blen s
  refine Ev.step (f := fun _ => some _) (fun k => ?_) (Ev.now _)
  rw [pretty_appendPrettyObjectB.l0, if_neg (by simp), if_pos rfl, if_pos (by omega), if_pos h0, rd_bytesOf, if_neg hc, if_pos hcc, if_neg (by simp), if_pos (by omega), w64 (by omega) (by omega)]
theorem bl_close0 (s : ByteArray) (hs : s.size ≤ 2147483647) (buf : List Int) (P : ByteArray) (I : ByteArray) (tabs : Int) (nl : Int) (n : Int) (i : Int) (h0 : 0 ≤ i) (h1 : i < s.size) (hc : ¬ bt s i ≤ 32) (hcc : bt s i = 93) (hb : buf.length ≤ 100000000000000) (hn : n = 0) (hla : LastIs buf 91) :
    Ev (fun k => pretty_appendPrettyObjectB.l0 k buf (bytesOf s) i 91 93 true P I false tabs nl n) (buf ++ [93], i + 1, nl, (91 : Int) != 123) := by
  have hl := blen s
  have hr := hla.rd
  have hpos := hla.pos
  refine Ev.step (f := fun _ => some _) (fun k => ?_) (Ev.now _)
  rw [pretty_appendPrettyObjectB.l0, if_neg (by simp), if_pos rfl, if_pos (by omega), if_pos h0, rd_bytesOf, if_neg hc, if_pos hcc, if_pos rfl, if_neg (by omega), if_neg (by omega), w64 (x := (buf.length : Int) - 1) (by omega) (by omega), if_pos (by omega), if_pos (by omega), hr, if_pos rfl, if_pos (by omega), w64 (by omega) (by omega)]
theorem bl_skips (s : ByteArray) (hs : s.size ≤ 2147483647) (buf : List Int) (pr : Bool) (P I : ByteArray) (tabs nl n : Int) (r : List Int × Int × Int × Bool) (c : Int) (hc : c ≤ s.size) (d : Nat) :
    ∀ i : Int, 0 ≤ i → i + d = c → (∀ j, i ≤ j → j < c → bt s j ≤ 32) →
    Ev (fun k => pretty_appendPrettyObjectB.l0 k buf (bytesOf s) c 91 93 pr P I false tabs nl n) r → Ev (fun k => pretty_appendPrettyObjectB.l0 k buf (bytesOf s) i 91 93 pr P I false tabs nl n) r := by
  induction d with
  | zero => intro i h0 h1 _ h; obtain rfl : i = c := by omega
            exact h
  | succ d ih =>
    intro i h0 h1 hsk h
    have h2 := ih (i + 1) (by omega) (by omega) (fun j q1 q2 => hsk j (by omega) q2) h
    exact bl_blank s hs buf P I tabs nl n i h0 (by omega) r pr (hsk i (by omega) (by omega)) h2
theorem bl_from (s : ByteArray) (hs : s.size ≤ 2147483647) (buf : List Int) (pr : Bool) (P I : ByteArray) (tabs nl n : Int) (r : List Int × Int × Int × Bool) (i c : Int) (h0 : 0 ≤ i) (h1 : i ≤ c) (hc : c ≤ s.size) (hsk : ∀ j, i ≤ j → j < c → bt s j ≤ 32)
    (h : Ev (fun k => pretty_appendPrettyObjectB.l0 k buf (bytesOf s) c 91 93 pr P I false tabs nl n) r) : Ev (fun k => pretty_appendPrettyObjectB.l0 k buf (bytesOf s) i 91 93 pr P I false tabs nl n) r :=
  bl_skips s hs buf pr P I tabs nl n r c hc (c - i).toNat i h0 (by omega) hsk h

/-! ### entering an object, an empty array -/
theorem obj_enter (s : ByteArray) (hs : s.size ≤ 2147483647) (buf : List Int) (W : Int) (P I : ByteArray) (tabs nl : Int) (i : Int) (h0 : 0 ≤ i) (h1 : i < s.size) (r : List Int × Int × Int × Bool) (hb : buf.length ≤ 100000000000000)
    (h : Ev (fun k => pretty_appendPrettyObjectA.l0 k (buf ++ [123]) (bytesOf s) (i + 1) 123 125 true W P I false tabs nl (-1) 0) r) :
    Ev (fun k => pretty_appendPrettyObject.f k buf (bytesOf s) i 123 125 true W P I false tabs nl (-1)) r := by
  refine Ev.step (f := fun k => pretty_appendPrettyObjectA.f k buf (bytesOf s) i 123 125 true W P I false tabs nl (-1)) (fun k => by rw [pretty_appendPrettyObject.f, if_pos rfl]) ?_
  refine Ev.step (f := fun k => pretty_appendPrettyObjectA.j0 k buf (bytesOf s) i 123 125 true W P I false tabs nl (-1)) (fun k => ?_) (Ev.step (fun k => ?_) h)
  · rw [pretty_appendPrettyObjectA.f, if_neg (by simp), if_pos rfl, if_pos rfl, if_pos rfl]
    by_cases hW : W > 0
    · rw [if_pos hW, if_neg (by omega)]
    · rw [if_neg hW]
  · rw [pretty_appendPrettyObjectA.j0, if_neg (by simp), if_pos rfl, if_pos rfl, if_pos rfl, if_pos (by omega), w64 (by omega) (by omega)]
/-- An array written element by element. -/
theorem arr_j1 (s : ByteArray) (hs : s.size ≤ 2147483647) (buf : List Int) (pr : Bool) (P I : ByteArray) (tabs nl : Int) (i : Int) (h0 : 0 ≤ i) (h1 : i < s.size) (r : List Int × Int × Int × Bool) (hb : buf.length ≤ 100000000000000)
    (h : Ev (fun k => pretty_appendPrettyObjectB.l0 k (buf ++ [91]) (bytesOf s) (i + 1) 91 93 pr P I false tabs nl 0) r) :
    Ev (fun k => pretty_appendPrettyObjectB.j1 k buf (bytesOf s) i 91 93 pr P I false tabs nl) r := by
  refine Ev.step (fun k => ?_) h
  rw [pretty_appendPrettyObjectB.j1, if_neg (by simp), if_pos rfl, if_pos (by omega), if_neg (by omega), w64 (by omega) (by omega)]
/-- An array on one line, tried inside of an array that is written by lines. -/
theorem arr_one (s : ByteArray) (hs : s.size ≤ 2147483647) (buf : List Int) (W : Int) (hW : W > 0) (P I : ByteArray) (tabs nl mx : Int) (hmx : mx > 3) (i : Int) (h0 : 0 ≤ i) (h1 : i < s.size) (r : List Int × Int × Int × Bool) (hb : buf.length ≤ 100000000000000)
    (h : Ev (fun k => pretty_appendPrettyObjectB.l0 k (buf ++ [91]) (bytesOf s) (i + 1) 91 93 false P I false tabs nl 0) r) :
    Ev (fun k => pretty_appendPrettyObject.f k buf (bytesOf s) i 91 93 false W P I false tabs nl mx) r := by
  refine Ev.step (f := fun k => pretty_appendPrettyObjectB.f k buf (bytesOf s) i 91 93 false W P I false tabs nl mx) (fun k => by rw [pretty_appendPrettyObject.f, if_neg (by omega)]) ?_
  refine Ev.step (f := fun k => pretty_appendPrettyObjectB.j0 k buf (bytesOf s) i 91 93 false W P I false tabs nl mx false) (fun k => ?_) (Ev.step (fun k => ?_) (arr_j1 s hs buf false P I tabs nl i h0 h1 r hb h))
  · rw [pretty_appendPrettyObjectB.f, if_neg (by simp), if_pos rfl, if_pos hW, if_neg (by simp)]
  · rw [pretty_appendPrettyObjectB.j0, if_neg (by simp), if_pos rfl, if_neg (by simp), if_neg (by omega), if_neg (by omega)]
theorem arr0_ev (s : ByteArray) (hs : s.size ≤ 2147483647) (buf : List Int) (W : Int) (P I : ByteArray) (tabs nl : Int) (i c : Int) (h0 : 0 ≤ i) (hb : buf.length ≤ 90000000000000) (hB : Blanks s (i + 1) c) (h2 : c < s.size) (hc : bt s c = 93) :
    Ev (fun k => pretty_appendPrettyObject.f k buf (bytesOf s) i 91 93 true W P I false tabs nl (-1)) (buf ++ [91, 93], c + 1, nl, true) := by
  have r1 := hB.2.1
  have hsk : ∀ j, i + 1 ≤ j → j < c → bt s j ≤ 32 := by
    intro j q1 q2
    have := hB.2.2.2 j q1 q2
    unfold IsBlk at this; omega
  have e2 : buf ++ [91, 93] = buf ++ [91] ++ [93] := by simp
  have lines : Ev (fun k => pretty_appendPrettyObjectB.j1 k buf (bytesOf s) i 91 93 true P I false tabs nl) (buf ++ [91, 93], c + 1, nl, true) := by
    refine arr_j1 s hs buf true P I tabs nl i h0 (by omega) _ (by omega) ?_
    refine bl_from s hs (buf ++ [91]) true P I tabs nl 0 _ (i + 1) c (by omega) r1 (by omega) hsk ?_
    rw [e2]
    exact bl_close0 s hs (buf ++ [91]) P I tabs nl 0 c (by omega) h2 (by omega) hc (by simp; omega) rfl (LastIs.one _ _)
  refine Ev.step (f := fun k => pretty_appendPrettyObjectB.f k buf (bytesOf s) i 91 93 true W P I false tabs nl (-1)) (fun k => by rw [pretty_appendPrettyObject.f, if_neg (by omega)]) ?_
  by_cases hW : W > 0
  · refine Ev.step (f := fun k => pretty_appendPrettyObjectB.j0 k buf (bytesOf s) i 91 93 true W P I false tabs nl (-1) true) (fun k => by rw [pretty_appendPrettyObjectB.f, if_neg (by simp), if_pos rfl, if_pos hW, if_pos rfl]; rfl) ?_
    by_cases hm : (wrap64 (W - (wrap64 ((buf.length : Int) - nl)))) > 3
    · have one : Ev (fun k => pretty_appendPrettyObject.f k buf (bytesOf s) i 91 93 false W P (⟨#[]⟩ : ByteArray) false 0 0 (wrap64 (W - (wrap64 ((buf.length : Int) - nl))))) (buf ++ [91, 93], c + 1, 0, true) := by
        refine arr_one s hs buf W hW P _ 0 0 _ hm i h0 (by omega) _ (by omega) ?_
        refine bl_from s hs (buf ++ [91]) false P _ 0 0 0 _ (i + 1) c (by omega) r1 (by omega) hsk ?_
        rw [e2]
        exact bl_close_flat s hs (buf ++ [91]) P _ 0 0 0 c (by omega) h2 (by omega) hc (by simp; omega)
      refine Ev.step (f := fun k => (pretty_appendPrettyObject.f k buf (bytesOf s) i 91 93 false W P (⟨#[]⟩ : ByteArray) false 0 0 (wrap64 (W - (wrap64 ((buf.length : Int) - nl))))).bind fun x => if x.2.2.2 = true then (if (wrap64 ((x.1.length : Int) - (buf.length : Int))) ≤ (wrap64 (W - (wrap64 ((buf.length : Int) - nl)))) then (some (x.1, x.2.1, nl, true)) else (if 0 ≤ (buf.length : Int) then (if (buf.length : Int) ≤ (x.1.length : Int) then (pretty_appendPrettyObjectB.j1 k (x.1.take ((buf.length : Int) : Int).toNat) (bytesOf s) i 91 93 true P I false tabs nl) else (none)) else (none))) else none) (fun k => ?_) (Ev.bind one ?_)
      · rw [pretty_appendPrettyObjectB.j0, if_neg (by simp), if_pos rfl, if_pos rfl, if_pos hm]
        cases e : pretty_appendPrettyObject.f k buf (bytesOf s) i 91 93 false W P (⟨#[]⟩ : ByteArray) false 0 0 (wrap64 (W - (wrap64 ((buf.length : Int) - nl)))) with
        | none => rfl
        | some x =>
          simp only [Option.bind_some]
          by_cases e2 : x.2.2.2 = true
          · simp only [e2, if_true]
          · exfalso
            have h1 := Ev.of (g := fun k => pretty_appendPrettyObject.f k buf (bytesOf s) i 91 93 false W P (⟨#[]⟩ : ByteArray) false 0 0 (wrap64 (W - (wrap64 ((buf.length : Int) - nl))))) (fun k => pretty_appendPrettyObject.mono _ _ _ _ _ _ _ _ _ _ _ _ _ k) e
            obtain ⟨K1, h1⟩ := h1
            obtain ⟨K2, h2⟩ := one
            have a1 := h1 (K1 + K2) (by omega)
            have a2 := h2 (K1 + K2) (by omega)
            rw [a1] at a2
            injection a2 with a2
            exact e2 (by rw [a2])
      · refine Ev.congr (f := fun _ => some _) (fun k => ?_) (Ev.now _)
        have hl2 : ((buf ++ [91, 93]).length : Int) - (buf.length : Int) = 2 := by simp; omega
        rw [if_pos rfl, hl2, w64 (x := 2) (by omega) (by omega), if_pos (by omega)]
    · refine Ev.step (fun k => ?_) lines
      rw [pretty_appendPrettyObjectB.j0, if_neg (by simp), if_pos rfl, if_pos rfl, if_neg hm]
  · refine Ev.step (fun k => ?_) lines
    rw [pretty_appendPrettyObjectB.f, if_neg (by simp), if_pos rfl, if_neg hW]
/-! ### the reference's text -/
theorem bare_leaf (s : ByteArray) (pre : List Int) (hpre : pre.length ≤ 100000000000000) (hs : s.size ≤ 2147483647) (kind a b : Int) (ns : List S41) (hk : kind ≠ 5) (hk6 : kind ≠ 6) (h0 : 0 ≤ a) (h1 : a ≤ b) (h2 : b ≤ s.size) :
    Ev (fun k => spec_bareTo.f k pre s kind a b ns []) (pre ++ sub s a b) := by
  have hl := sub_len s a b h0 h1 h2
  unfold sub at hl
  rw [bytesOf_length] at hl
  refine Ev.step (f := fun k => spec_bareTo.j0 k pre s true kind a b ns []) (fun k => ?_) (Ev.step (f := fun _ => some _) (fun k => ?_) (Ev.now _))
  · rw [spec_bareTo.f, if_neg hk, bne_iff_ne.mpr hk6]
  · rw [spec_bareTo.j0, if_pos rfl, if_pos h0, if_pos h1, if_pos h2, if_pos (by omega)]; rfl
theorem bare_empty (s : ByteArray) (pre : List Int) (hpre : pre.length ≤ 100000000000000) (kind a b : Int) (ns : List S41) (hk : kind = 5 ∨ kind = 6) :
    Ev (fun k => spec_bareTo.f k pre s kind a b ns []) (pre ++ (if kind = 5 then [91, 93] else [123, 125])) := by
  have L : ∀ x y : Int, Ev (fun k => spec_bareTo.j1 k pre s x y kind a b ns []) (pre ++ [x, y]) := by
    intro x y
    refine Ev.step (f := fun k => spec_bareTo.l0 k (pre ++ [x]) s y (([] : List S25).length : Int) 0 kind a b ns []) (fun k => ?_) (Ev.step (f := fun _ => some _) (fun k => ?_) (Ev.now _))
    · rw [spec_bareTo.j1, if_pos (by omega)]
    · rw [spec_bareTo.l0, if_neg (by simp), if_pos (by simp; omega)]; simp
  rcases hk with rfl | rfl
  · refine Ev.step (f := fun k => spec_bareTo.j0 k pre s false 5 a b ns []) (fun k => by rw [spec_bareTo.f, if_pos rfl]) (Ev.step (fun k => ?_) (L 91 93))
    rw [spec_bareTo.j0, if_neg (by simp), if_neg (by omega)]
  · refine Ev.step (f := fun k => spec_bareTo.j0 k pre s false 6 a b ns []) (fun k => by rw [spec_bareTo.f, if_neg (by omega)]; rfl) (Ev.step (fun k => ?_) (L 123 125))
    rw [spec_bareTo.j0, if_neg (by simp), if_pos rfl]
theorem laid_bare (s : ByteArray) (pre : List Int) (kind a b : Int) (ns : List S41) (ahead I : ByteArray) (wide : Bool) {r : List Int} (h : Ev (fun k => spec_bareTo.f k pre s kind a b ns []) r) :
    Ev (fun k => spec_laidTo.f k pre s kind a b ns [] ahead I wide) r := by
  refine Ev.step (f := fun k => (spec_bareTo.f k pre s kind a b ns []).bind fun x => some x) (fun k => ?_) (Ev.bind h (Ev.now _))
  rw [spec_laidTo.f, if_pos (by simp)]
theorem laid_enter (s : ByteArray) (pre : List Int) (hpre : pre.length ≤ 100000000000000) (kind a b : Int) (ns : List S41) (ks : List S25) (ahead I : ByteArray) (hk : kind = 5 ∨ kind = 6) (hks : ks ≠ []) {r : List Int}
    (h : Ev (fun k => spec_laidTo.l0 k (pre ++ [if kind = 6 then 123 else 91]) s ahead I false (if kind = 6 then 125 else 93) (ks.length : Int) 0 kind a b ns ks) r) :
    Ev (fun k => spec_laidTo.f k pre s kind a b ns ks ahead I false) r := by
  have hl : ¬ (ks.length : Int) = 0 := by
    intro e
    exact hks (List.eq_nil_of_length_eq_zero (by omega))
  refine Ev.step (f := fun k => spec_laidTo.j0 k pre s ahead I false (if kind = 6 then 123 else 91) (if kind = 6 then 125 else 93) kind a b ns ks) (fun k => ?_) (Ev.step (fun k => ?_) h)
  · rw [spec_laidTo.f, if_neg hl, if_neg (by simp)]
    by_cases e : kind = 6 <;> simp [e]
  · rw [spec_laidTo.j0, if_pos (by omega)]
theorem laid_end (s : ByteArray) (pre : List Int) (hpre : pre.length ≤ 100000000000000) (kind a b : Int) (ns : List S41) (ks : List S25) (ahead I : ByteArray) (ha : ahead.size ≤ 10000000) (wide : Bool) (cl : Int) :
    Ev (fun k => spec_laidTo.l0 k pre s ahead I wide cl (ks.length : Int) (ks.length : Int) kind a b ns ks) (pre ++ [10] ++ bytesOf ahead ++ [cl]) := by
  have hl := bytesOf_length ahead
  refine Ev.step (f := fun _ => some _) (fun k => ?_) (Ev.now _)
  rw [spec_laidTo.l0, if_neg (by omega), if_pos (by omega)]
  simp only [Option.bind_some]
  rw [if_pos (by simp only [List.length_append, List.length_cons, List.length_nil]; omega), if_pos (by simp only [List.length_append, List.length_cons, List.length_nil]; omega)]
theorem laid_member (s : ByteArray) (hs : s.size ≤ 2147483647) (pre : List Int) (hpre : pre.length ≤ 90000000000000) (a b : Int) (ns : List S41) (ks : List S25) (ahead I : ByteArray) (ha : ahead.size ≤ 10000000) (hI : I.size ≤ 1000) (cl j : Int) (hj0 : 0 ≤ j) (hjn : j < ns.length) (hj : j < ks.length) (hj2 : j ≤ 2147483647)
    {c d : Int} {p : S25} (hn : rd_T41 ns j = ⟨c, d⟩) (hp : rd_T25 ks j = p) (h0 : 0 ≤ c) (h1 : c ≤ d) (h2 : d ≤ s.size) {x r : List Int}
    (hv : Ev (fun k => spec_laidTo.f k (pre ++ comma j ++ [10] ++ bytesOf ahead ++ bytesOf I ++ sub s c d ++ [58, 32]) s p.f0 p.f1 p.f2 p.f3 p.f4 (ahead ++ I) I false) x)
    (hr : Ev (fun k => spec_laidTo.l0 k x s ahead I false cl (ks.length : Int) (j + 1) 6 a b ns ks) r) :
    Ev (fun k => spec_laidTo.l0 k pre s ahead I false cl (ks.length : Int) j 6 a b ns ks) r := by
  have hl := bytesOf_length ahead
  have hlI := bytesOf_length I
  have hsl := sub_len s c d h0 h1 h2
  have hsl2 : ((s.extract c.toNat d.toNat).size : Int) = d - c := by
    unfold sub at hsl
    rwa [bytesOf_length] at hsl
  have hcl := comma_len j
  refine Ev.step (f := fun k => (spec_laidTo.f k (pre ++ comma j ++ [10] ++ bytesOf ahead ++ bytesOf I ++ sub s c d ++ [58, 32]) s p.f0 p.f1 p.f2 p.f3 p.f4 (ahead ++ I) I false).bind fun x => spec_laidTo.l0 k x s ahead I false cl (ks.length : Int) (j + 1) 6 a b ns ks) (fun k => ?_) (Ev.bind hv hr)
  rw [spec_laidTo.l0, if_pos hj, hn, hp, w64 (x := j + 1) (by omega) (by omega)]
  have tail : ∀ z : List Int, z.length ≤ 90000000000001 →
      (if z.length < 140737488355328 then ((some (z ++ [10] : List Int)).bind fun y669 => (if y669.length + ahead.size < 140737488355328 then ((some (y669 ++ bytesOf ahead : List Int)).bind fun y672 => (if y672.length + I.size < 140737488355328 then ((some (y672 ++ bytesOf I : List Int)).bind fun y675 => (if (6 : Int) = 6 then (if 0 ≤ j then (if j < (ns.length : Int) then (if 0 ≤ ((⟨c, d⟩ : S41).f0) then (if ((⟨c, d⟩ : S41).f0) ≤ ((⟨c, d⟩ : S41).f1) then (if ((⟨c, d⟩ : S41).f1) ≤ (s.size : Int) then (if y675.length + (s.extract (((⟨c, d⟩ : S41).f0) : Int).toNat (((⟨c, d⟩ : S41).f1) : Int).toNat).size < 140737488355328 then ((some (y675 ++ bytesOf (s.extract (((⟨c, d⟩ : S41).f0) : Int).toNat (((⟨c, d⟩ : S41).f1) : Int).toNat) : List Int)).bind fun y680 => ((some (([58, 32] : List Int) : List Int)).bind fun y683 => (if y680.length + y683.length < 140737488355328 then (if j < (ks.length : Int) then (if ahead.size + I.size ≤ 9223372036854775807 then ((spec_laidTo.f k (y680 ++ y683) s p.f0 p.f1 p.f2 p.f3 p.f4 (ahead ++ I) I false).bind fun t690 => (spec_laidTo.l0 k t690 s ahead I false cl (ks.length : Int) (j + 1) 6 a b ns ks)) else (none)) else (none)) else (none)))) else (none)) else (none)) else (none)) else (none)) else (none)) else (none)) else (if 0 ≤ j then (if j < (ks.length : Int) then (if ahead.size + I.size ≤ 9223372036854775807 then ((spec_laidTo.f k y675 s p.f0 p.f1 p.f2 p.f3 p.f4 (ahead ++ I) I false).bind fun t694 => (spec_laidTo.l0 k t694 s ahead I false cl (ks.length : Int) (j + 1) 6 a b ns ks)) else (none)) else (none)) else (none)))) else (none))) else (none))) else (none)) =
        (spec_laidTo.f k (z ++ [10] ++ bytesOf ahead ++ bytesOf I ++ sub s c d ++ [58, 32]) s p.f0 p.f1 p.f2 p.f3 p.f4 (ahead ++ I) I false).bind fun x => spec_laidTo.l0 k x s ahead I false cl (ks.length : Int) (j + 1) 6 a b ns ks := by
    intro z hz
    rw [if_pos (by omega)]
    simp only [Option.bind_some]
    rw [if_pos (by simp only [List.length_append, List.length_cons, List.length_nil]; omega), if_pos (by simp only [List.length_append, List.length_cons, List.length_nil]; omega), if_pos trivial, if_pos hj0, if_pos hjn, if_pos h0, if_pos h1, if_pos h2, if_pos (by simp only [List.length_append, List.length_cons, List.length_nil]; omega),
      if_pos (by simp only [List.length_append, List.length_cons, List.length_nil, bytesOf_length]; omega), if_pos hj, if_pos (by omega)]
    rfl
  by_cases hjj : j > 0
  · have ec : comma j = [44] := by unfold comma; rw [if_pos hjj]
    rw [if_pos hjj, if_pos (by omega), ec]
    simp only [Option.bind_some]
    exact tail (pre ++ [44]) (by simp; omega)
  · have ec : comma j = [] := by unfold comma; rw [if_neg hjj]
    rw [if_neg hjj, ec, List.append_nil]
    exact tail pre (by omega)

end Go.Proofs.Ytapgjhgjhcfmoaa.PFnPrDefaultLaid
