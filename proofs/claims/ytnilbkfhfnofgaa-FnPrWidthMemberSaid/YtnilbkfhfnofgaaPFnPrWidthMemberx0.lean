/- Contracts of Go functions of this seat: a Lean function over numbers and lists for each, and a proof that the Go function returns what it gives. Made by program. -/
import Derived.Test.YtnilbkfhfnofgaaProg
import Derived.Below
import Derived.Deep.Draws
import Derived.Deep.AppendLies
import Derived.Maps.AppendAt
import Derived.OwnWalk
import Derived.Laws.BytesArg
import Derived.Laws.MakeOwn
import Derived.Laws.OwnMore
import Derived.Deep.OwnRows
import Derived.Tactics
import Derived.Lib.ConvBytes
import Derived.Laws.Slices
import Derived.WalkKit
import Derived.KernelRfl
import Derived.RowKit3
import Derived.Deep.LoopGhost
import Derived.Deep.QuietTactic
import Derived.BigQuiet
import Derived.WideLaws
import Derived.Deep.DeepCutAuto
import Derived.Deep.CutBlock
import Derived.Deep.RegionHeld3
import Derived.Laws.Rows
import Derived.Lib.AppendStr
import Derived.ArgAppend
import Derived.Laws.IdiomCopy
import Derived.OrdersHeld
import Derived.Laws.BitsLemmas
import Derived.RowKit
import Derived.Test.YtnilbkfhfnofgaaWWords
import Derived.Test.YtnilbkfhfnofgaaWLast
import Derived.Test.YtnilbkfhfnofgaaWTab
import Derived.Test.YtnilbkfhfnofgaaWFour
import Derived.Test.YtnilbkfhfnofgaaWQPut
import Derived.Test.YtnilbkfhfnofgaaWApart
import Derived.Test.YtnilbkfhfnofgaaWArr
import Derived.Test.YtnilbkfhfnofgaaWZeros
import Derived.Test.YtnilbkfhfnofgaaWFoot
import Derived.Test.YtnilbkfhfnofgaaWKept
import Derived.Test.YtnilbkfhfnofgaaWShare
import Derived.Test.YtnilbkfhfnofgaaWN
import Derived.Test.YtnilbkfhfnofgaaWFootNe
import Derived.Test.YtnilbkfhfnofgaaWAt
import Derived.Test.YtnilbkfhfnofgaaWEqStruct
import Derived.Test.YtnilbkfhfnofgaaWRepsOne
import Derived.Test.YtnilbkfhfnofgaaWInv
import Derived.Test.YtnilbkfhfnofgaaWInvWords
import Derived.Test.YtnilbkfhfnofgaaWGuard
import Derived.Test.YtnilbkfhfnofgaaWNEv
import Derived.Test.YtnilbkfhfnofgaaWMore
namespace Go.Proofs.Ytnilbkfhfnofgaa.PFnPrWidthMember
open Go.RowKit Go.Proofs.YtnilbkfhfnofgaaW.PrintWords Go.Proofs.YtnilbkfhfnofgaaW.PrintLast Go.Proofs.YtnilbkfhfnofgaaW.PrintMore
attribute [local go_sem] max2_int min2_int max_two min_two max_three min_three max_four min_four   -- for this text's walks alone
set_option linter.unusedVariables false
set_option linter.unusedSimpArgs false
def errW : Option Int → Value
  | none => .nilIface
  | some c => .iface 0 (.int .i64 c)
theorem errW_none : errW none = .nilIface := rfl
theorem errW_some (c : Int) : errW (some c) = .iface 0 (.int .i64 c) := rfl
theorem info5 : (Try.prog.info? 5).map (fun i => (i.zero, i.size, i.bytes)) = some (some (.int .u8 0), 1, 1) := by kernel_rfl
theorem info9 : (Try.prog.info? 9).map (fun i => (i.zero, i.size, i.bytes)) = some (some (.string ⟨#[]⟩), 1, 16) := by kernel_rfl
theorem info28 : (Try.prog.info? 28).map (fun i => (i.zero, i.size, i.bytes)) = some (some (.agg #[(.int .i64 0), (.int .i64 0), (.int .i64 0), (.slice none 0 0), (.slice none 0 0)]), 5, 72) := by kernel_rfl
theorem info54 : (Try.prog.info? 54).map (fun i => (i.zero, i.size, i.bytes)) = some (some (.agg #[(.int .i64 0), (.int .i64 0)]), 2, 16) := by kernel_rfl
-- the values' own types
/-! #### struct type 54 -/
structure S54 where
  f0 : Int
  f1 : Int
def z54 : S54 := ⟨(0 : Int), (0 : Int)⟩
def k54 : Kd S54 := Kd.iso (Kd.pair (Kd.int .i64) (Kd.int .i64)) (fun x : S54 => (x.f0, x.f1))
theorem k54_heap : Kd.Heap k54 := Kd.heap_iso _ (Kd.heap_pair (Kd.heap_int .i64) (Kd.heap_int .i64))
theorem k54_open {w : World} {x : S54} {cs : List Value} (h : k54.K w x cs) : cs = [.int .i64 x.f0, .int .i64 x.f1] := by
  obtain ⟨_, _, rfl, rfl, rfl⟩ := h
  exact rfl
theorem k54_openM {w : World} {base : Nat} {ok : Nat → Prop} {x : S54} {cs : List Value} (h : k54.M w base ok x cs) : cs = [.int .i64 x.f0, .int .i64 x.f1] := by
  obtain ⟨_, _, rfl, rfl, rfl⟩ := h
  exact rfl
theorem k54_mk (w : World) (x : S54)  : k54.K w x [.int .i64 x.f0, .int .i64 x.f1] := ⟨[.int .i64 x.f0], [.int .i64 x.f1], rfl, rfl, rfl⟩
theorem k54_mkM (w : World) (base : Nat) (ok : Nat → Prop) (x : S54)  : k54.M w base ok x [.int .i64 x.f0, .int .i64 x.f1] := ⟨[.int .i64 x.f0], [.int .i64 x.f1], rfl, rfl, rfl⟩
def rd_T54 (xs : List S54) (i : Int) : S54 := xs.getD i.toNat z54
theorem at_T54 {w : World} {A : Option Addr} {n : Nat} {xs : List S54} (h : Kd.C k54 w A n xs) (i : Int) (h0 : 0 ≤ i) (h1 : i < n) : ∃ ad , A = some ad ∧ w.cell? (ad.add (i.toNat * 2)) = some (.int .i64 (rd_T54 xs i).f0) ∧ w.cell? ⟨(ad.add (i.toNat * 2)).block, (ad.add (i.toNat * 2)).off + 1, none⟩ = some (.int .i64 (rd_T54 xs i).f1) := by
  obtain ⟨ad, c, e, _, hK, hc0⟩ := Kd.C_get h z54 i h0 h1
  have hc : ∀ j u, c[j]? = some u → w.cell? (ad.add (i.toNat * 2 + j)) = some u := hc0
  obtain rfl := k54_open hK
  exact ⟨ad, e, hc 0 _ rfl, by rw [← add_field _ _ 1 (by omega)]; exact hc 1 _ rfl⟩
theorem at_T54_w0 {w0 w : World} {A : Option Addr} {n : Nat} {xs : List S54} (h : Kd.C k54 w0 A n xs) (hb : Below w0.heap.size w0 w) (i : Int) (h0 : 0 ≤ i) (h1 : i < n) : ∃ ad , A = some ad ∧ w.cell? (ad.add (i.toNat * 2)) = some (.int .i64 (rd_T54 xs i).f0) ∧ w.cell? ⟨(ad.add (i.toNat * 2)).block, (ad.add (i.toNat * 2)).off + 1, none⟩ = some (.int .i64 (rd_T54 xs i).f1) := by
  obtain ⟨ad, c, e, _, hK, hc0⟩ := Kd.C_get h z54 i h0 h1
  have hc : ∀ j u, c[j]? = some u → w.cell? (ad.add (i.toNat * 2 + j)) = some u := fun j u hu => (hb.cell (World.block_lt_of_cell? _ _ (hc0 j u hu))).trans (hc0 j u hu)
  obtain rfl := k54_open hK
  exact ⟨ad, e, hc 0 _ rfl, by rw [← add_field _ _ 1 (by omega)]; exact hc 1 _ rfl⟩
def rd_L2 (xs : List (List S54)) (i : Int) : (List S54) := xs.getD i.toNat ([] : List S54)
theorem at_L2 {w : World} {A : Option Addr} {n : Nat} {xs : List (List S54)} (h : Kd.C (Kd.slice 54 k54) w A n xs) (i : Int) (h0 : 0 ≤ i) (h1 : i < n) : ∃ ad A0 c0, A = some ad ∧ w.cell? (ad.add i.toNat) = some (.slice A0 (rd_L2 xs i).length c0) ∧ (rd_L2 xs i).length ≤ c0 ∧ k54.C w A0 (rd_L2 xs i).length (rd_L2 xs i) := by
  obtain ⟨ad, c, e, _, hK, hc0⟩ := Kd.C_get h ([] : List S54) i h0 h1
  have hc : ∀ j u, c[j]? = some u → w.cell? (ad.add (i.toNat * 1 + j)) = some u := hc0
  obtain ⟨A0, c0, rfl, l0, g0⟩ := hK
  exact ⟨ad, A0, c0, e, by have hq := hc 0 _ rfl; rwa [Nat.mul_one, Nat.add_zero] at hq, l0, g0⟩
theorem at_L2_w0 {w0 w : World} {A : Option Addr} {n : Nat} {xs : List (List S54)} (h : Kd.C (Kd.slice 54 k54) w0 A n xs) (hb : Below w0.heap.size w0 w) (i : Int) (h0 : 0 ≤ i) (h1 : i < n) : ∃ ad A0 c0, A = some ad ∧ w.cell? (ad.add i.toNat) = some (.slice A0 (rd_L2 xs i).length c0) ∧ (rd_L2 xs i).length ≤ c0 ∧ k54.C w0 A0 (rd_L2 xs i).length (rd_L2 xs i) := by
  obtain ⟨ad, c, e, _, hK, hc0⟩ := Kd.C_get h ([] : List S54) i h0 h1
  have hc : ∀ j u, c[j]? = some u → w.cell? (ad.add (i.toNat * 1 + j)) = some u := fun j u hu => (hb.cell (World.block_lt_of_cell? _ _ (hc0 j u hu))).trans (hc0 j u hu)
  obtain ⟨A0, c0, rfl, l0, g0⟩ := hK
  exact ⟨ad, A0, c0, e, by have hq := hc 0 _ rfl; rwa [Nat.mul_one, Nat.add_zero] at hq, l0, g0⟩
/-! #### struct type 28, nested in itself -/
structure S28 where
  f0 : Int
  f1 : Int
  f2 : Int
  f3 : (List S54)
  f4 : (List S28)
def z28 : S28 := ⟨(0 : Int), (0 : Int), (0 : Int), ([] : List S54), ([] : List S28)⟩
def F28 (d : Kd S28) : Kd S28 := Kd.iso (Kd.pair (Kd.int .i64) (Kd.pair (Kd.int .i64) (Kd.pair (Kd.int .i64) (Kd.pair (Kd.slice 54 k54) (Kd.slice 28 d))))) (fun x : S28 => (x.f0, x.f1, x.f2, x.f3, x.f4))
theorem mono28 : Kd.Mono F28 := Kd.mono_iso _ (Kd.mono_pair (Kd.mono_const _) (Kd.mono_pair (Kd.mono_const _) (Kd.mono_pair (Kd.mono_const _) (Kd.mono_pair (Kd.mono_const _) (Kd.mono_slice 28 Kd.mono_id)))))
theorem sub28 : Kd.Sub F28 [28, 54] := Kd.sub_iso _ (Kd.sub_pair (Kd.sub_const _ (by decide)) (Kd.sub_pair (Kd.sub_const _ (by decide)) (Kd.sub_pair (Kd.sub_const _ (by decide)) (Kd.sub_pair (Kd.sub_const _ (by decide)) (Kd.sub_slice 28 (by decide) Kd.sub_id)))))
theorem sz28 : ∀ n, (Kd.upto F28 5 [28, 54] n).sz = 5 := Kd.upto_sz (fun _ => rfl)
def k28 : Kd S28 := Kd.fix F28 5 [28, 54] sz28 (Kd.upto_E sub28)
theorem k28_heap : Kd.Heap k28 := Kd.heap_fix (fun _ h_ => Kd.heap_iso _ (Kd.heap_pair (Kd.heap_int .i64) (Kd.heap_pair (Kd.heap_int .i64) (Kd.heap_pair (Kd.heap_int .i64) (Kd.heap_pair (Kd.heap_slice 54 k54_heap) (Kd.heap_slice 28 h_))))))
theorem k28_open {w : World} {x : S28} {cs : List Value} (h : k28.K w x cs) : ∃ A3 c3 A4 c4, cs = [.int .i64 x.f0, .int .i64 x.f1, .int .i64 x.f2, .slice A3 x.f3.length c3, .slice A4 x.f4.length c4] ∧ x.f3.length ≤ c3 ∧ k54.C w A3 x.f3.length x.f3 ∧ x.f4.length ≤ c4 ∧ k28.C w A4 x.f4.length x.f4 := by
  obtain ⟨n, h⟩ := h
  cases n with
  | zero => exact h.elim
  | succ n =>
   obtain ⟨_, _, rfl, rfl, ⟨_, _, rfl, rfl, ⟨_, _, rfl, rfl, ⟨_, _, rfl, ⟨A3, c3, rfl, l3, g3⟩, ⟨A4, c4, rfl, l4, g4⟩⟩⟩⟩⟩ := h
   exact ⟨A3, c3, A4, c4, rfl, l3, g3, l4, Kd.fix_C g4⟩
theorem k28_openM {w : World} {base : Nat} {ok : Nat → Prop} {x : S28} {cs : List Value} (h : k28.M w base ok x cs) : ∃ v3 v4, cs = [.int .i64 x.f0, .int .i64 x.f1, .int .i64 x.f2, v3, v4] ∧ k54.R 54 w base ok v3 x.f3 ∧ k28.R 28 w base ok v4 x.f4 := by
  obtain ⟨n, h⟩ := h
  cases n with
  | zero => exact h.elim
  | succ n =>
   obtain ⟨_, _, rfl, rfl, ⟨_, _, rfl, rfl, ⟨_, _, rfl, rfl, ⟨_, _, rfl, ⟨v3, rfl, g3⟩, ⟨v4, rfl, g4⟩⟩⟩⟩⟩ := h
   exact ⟨v3, v4, rfl, g3, Kd.fix_R g4⟩
theorem k28_mk (w : World) (x : S28) {A3 : Option Addr} {c3 : Nat} (l3 : x.f3.length ≤ c3) (g3 : k54.C w A3 x.f3.length x.f3) {A4 : Option Addr} {c4 : Nat} (l4 : x.f4.length ≤ c4) (g4 : k28.C w A4 x.f4.length x.f4) : k28.K w x [.int .i64 x.f0, .int .i64 x.f1, .int .i64 x.f2, .slice A3 x.f3.length c3, .slice A4 x.f4.length c4] := by
  obtain ⟨n4, q4⟩ := Kd.fix_C_back mono28 g4
  have r4 := Kd.upto_C_le mono28 sz28 (show n4 ≤ n4 by omega) q4
  exact ⟨n4 + 1, ⟨[.int .i64 x.f0], [.int .i64 x.f1, .int .i64 x.f2, .slice A3 x.f3.length c3, .slice A4 x.f4.length c4], rfl, rfl, ⟨[.int .i64 x.f1], [.int .i64 x.f2, .slice A3 x.f3.length c3, .slice A4 x.f4.length c4], rfl, rfl, ⟨[.int .i64 x.f2], [.slice A3 x.f3.length c3, .slice A4 x.f4.length c4], rfl, rfl, ⟨[.slice A3 x.f3.length c3], [.slice A4 x.f4.length c4], rfl, ⟨A3, c3, rfl, l3, g3⟩, ⟨A4, c4, rfl, l4, r4⟩⟩⟩⟩⟩⟩
theorem k28_mkM (w : World) (base : Nat) (ok : Nat → Prop) (x : S28) {v3 : Value} (g3 : k54.R 54 w base ok v3 x.f3) {v4 : Value} (g4 : k28.R 28 w base ok v4 x.f4) : k28.M w base ok x [.int .i64 x.f0, .int .i64 x.f1, .int .i64 x.f2, v3, v4] := by
  obtain ⟨n4, q4⟩ := Kd.fix_R_back mono28 g4
  have r4 := Kd.upto_R_le mono28 sz28 (show n4 ≤ n4 by omega) q4
  exact ⟨n4 + 1, ⟨[.int .i64 x.f0], [.int .i64 x.f1, .int .i64 x.f2, v3, v4], rfl, rfl, ⟨[.int .i64 x.f1], [.int .i64 x.f2, v3, v4], rfl, rfl, ⟨[.int .i64 x.f2], [v3, v4], rfl, rfl, ⟨[v3], [v4], rfl, ⟨v3, rfl, g3⟩, ⟨v4, rfl, r4⟩⟩⟩⟩⟩⟩
def rd_T28 (xs : List S28) (i : Int) : S28 := xs.getD i.toNat z28
theorem at_T28 {w : World} {A : Option Addr} {n : Nat} {xs : List S28} (h : Kd.C k28 w A n xs) (i : Int) (h0 : 0 ≤ i) (h1 : i < n) : ∃ ad A3 c3 A4 c4, A = some ad ∧ w.cell? (ad.add (i.toNat * 5)) = some (.int .i64 (rd_T28 xs i).f0) ∧ w.cell? ⟨(ad.add (i.toNat * 5)).block, (ad.add (i.toNat * 5)).off + 1, none⟩ = some (.int .i64 (rd_T28 xs i).f1) ∧ w.cell? ⟨(ad.add (i.toNat * 5)).block, (ad.add (i.toNat * 5)).off + 2, none⟩ = some (.int .i64 (rd_T28 xs i).f2) ∧ w.cell? ⟨(ad.add (i.toNat * 5)).block, (ad.add (i.toNat * 5)).off + 3, none⟩ = some (.slice A3 (rd_T28 xs i).f3.length c3) ∧ w.cell? ⟨(ad.add (i.toNat * 5)).block, (ad.add (i.toNat * 5)).off + 4, none⟩ = some (.slice A4 (rd_T28 xs i).f4.length c4) ∧ (rd_T28 xs i).f3.length ≤ c3 ∧ k54.C w A3 (rd_T28 xs i).f3.length (rd_T28 xs i).f3 ∧ (rd_T28 xs i).f4.length ≤ c4 ∧ k28.C w A4 (rd_T28 xs i).f4.length (rd_T28 xs i).f4 := by
  obtain ⟨ad, c, e, _, hK, hc0⟩ := Kd.C_get h z28 i h0 h1
  have hc : ∀ j u, c[j]? = some u → w.cell? (ad.add (i.toNat * 5 + j)) = some u := hc0
  obtain ⟨A3, c3, A4, c4, rfl, l3, g3, l4, g4⟩ := k28_open hK
  exact ⟨ad, A3, c3, A4, c4, e, hc 0 _ rfl, by rw [← add_field _ _ 1 (by omega)]; exact hc 1 _ rfl, by rw [← add_field _ _ 2 (by omega)]; exact hc 2 _ rfl, by rw [← add_field _ _ 3 (by omega)]; exact hc 3 _ rfl, by rw [← add_field _ _ 4 (by omega)]; exact hc 4 _ rfl, l3, g3, l4, g4⟩
theorem at_T28_w0 {w0 w : World} {A : Option Addr} {n : Nat} {xs : List S28} (h : Kd.C k28 w0 A n xs) (hb : Below w0.heap.size w0 w) (i : Int) (h0 : 0 ≤ i) (h1 : i < n) : ∃ ad A3 c3 A4 c4, A = some ad ∧ w.cell? (ad.add (i.toNat * 5)) = some (.int .i64 (rd_T28 xs i).f0) ∧ w.cell? ⟨(ad.add (i.toNat * 5)).block, (ad.add (i.toNat * 5)).off + 1, none⟩ = some (.int .i64 (rd_T28 xs i).f1) ∧ w.cell? ⟨(ad.add (i.toNat * 5)).block, (ad.add (i.toNat * 5)).off + 2, none⟩ = some (.int .i64 (rd_T28 xs i).f2) ∧ w.cell? ⟨(ad.add (i.toNat * 5)).block, (ad.add (i.toNat * 5)).off + 3, none⟩ = some (.slice A3 (rd_T28 xs i).f3.length c3) ∧ w.cell? ⟨(ad.add (i.toNat * 5)).block, (ad.add (i.toNat * 5)).off + 4, none⟩ = some (.slice A4 (rd_T28 xs i).f4.length c4) ∧ (rd_T28 xs i).f3.length ≤ c3 ∧ k54.C w0 A3 (rd_T28 xs i).f3.length (rd_T28 xs i).f3 ∧ (rd_T28 xs i).f4.length ≤ c4 ∧ k28.C w0 A4 (rd_T28 xs i).f4.length (rd_T28 xs i).f4 := by
  obtain ⟨ad, c, e, _, hK, hc0⟩ := Kd.C_get h z28 i h0 h1
  have hc : ∀ j u, c[j]? = some u → w.cell? (ad.add (i.toNat * 5 + j)) = some u := fun j u hu => (hb.cell (World.block_lt_of_cell? _ _ (hc0 j u hu))).trans (hc0 j u hu)
  obtain ⟨A3, c3, A4, c4, rfl, l3, g3, l4, g4⟩ := k28_open hK
  exact ⟨ad, A3, c3, A4, c4, e, hc 0 _ rfl, by rw [← add_field _ _ 1 (by omega)]; exact hc 1 _ rfl, by rw [← add_field _ _ 2 (by omega)]; exact hc 2 _ rfl, by rw [← add_field _ _ 3 (by omega)]; exact hc 3 _ rfl, by rw [← add_field _ _ 4 (by omega)]; exact hc 4 _ rfl, l3, g3, l4, g4⟩
/-! #### struct type 72 -/
structure S72 where
  f0 : Int
  f1 : Int
  f2 : Int
  f3 : Int
def z72 : S72 := ⟨(0 : Int), (0 : Int), (0 : Int), (0 : Int)⟩
def k72 : Kd S72 := Kd.iso (Kd.pair (Kd.int .i64) (Kd.pair (Kd.int .i64) (Kd.pair (Kd.int .i64) (Kd.int .i64)))) (fun x : S72 => (x.f0, x.f1, x.f2, x.f3))
theorem k72_heap : Kd.Heap k72 := Kd.heap_iso _ (Kd.heap_pair (Kd.heap_int .i64) (Kd.heap_pair (Kd.heap_int .i64) (Kd.heap_pair (Kd.heap_int .i64) (Kd.heap_int .i64))))
theorem k72_open {w : World} {x : S72} {cs : List Value} (h : k72.K w x cs) : cs = [.int .i64 x.f0, .int .i64 x.f1, .int .i64 x.f2, .int .i64 x.f3] := by
  obtain ⟨_, _, rfl, rfl, ⟨_, _, rfl, rfl, ⟨_, _, rfl, rfl, rfl⟩⟩⟩ := h
  exact rfl
theorem k72_openM {w : World} {base : Nat} {ok : Nat → Prop} {x : S72} {cs : List Value} (h : k72.M w base ok x cs) : cs = [.int .i64 x.f0, .int .i64 x.f1, .int .i64 x.f2, .int .i64 x.f3] := by
  obtain ⟨_, _, rfl, rfl, ⟨_, _, rfl, rfl, ⟨_, _, rfl, rfl, rfl⟩⟩⟩ := h
  exact rfl
theorem k72_mk (w : World) (x : S72)  : k72.K w x [.int .i64 x.f0, .int .i64 x.f1, .int .i64 x.f2, .int .i64 x.f3] := ⟨[.int .i64 x.f0], [.int .i64 x.f1, .int .i64 x.f2, .int .i64 x.f3], rfl, rfl, ⟨[.int .i64 x.f1], [.int .i64 x.f2, .int .i64 x.f3], rfl, rfl, ⟨[.int .i64 x.f2], [.int .i64 x.f3], rfl, rfl, rfl⟩⟩⟩
theorem k72_mkM (w : World) (base : Nat) (ok : Nat → Prop) (x : S72)  : k72.M w base ok x [.int .i64 x.f0, .int .i64 x.f1, .int .i64 x.f2, .int .i64 x.f3] := ⟨[.int .i64 x.f0], [.int .i64 x.f1, .int .i64 x.f2, .int .i64 x.f3], rfl, rfl, ⟨[.int .i64 x.f1], [.int .i64 x.f2, .int .i64 x.f3], rfl, rfl, ⟨[.int .i64 x.f2], [.int .i64 x.f3], rfl, rfl, rfl⟩⟩⟩
def rd_T72 (xs : List S72) (i : Int) : S72 := xs.getD i.toNat z72
theorem at_T72 {w : World} {A : Option Addr} {n : Nat} {xs : List S72} (h : Kd.C k72 w A n xs) (i : Int) (h0 : 0 ≤ i) (h1 : i < n) : ∃ ad , A = some ad ∧ w.cell? (ad.add (i.toNat * 4)) = some (.int .i64 (rd_T72 xs i).f0) ∧ w.cell? ⟨(ad.add (i.toNat * 4)).block, (ad.add (i.toNat * 4)).off + 1, none⟩ = some (.int .i64 (rd_T72 xs i).f1) ∧ w.cell? ⟨(ad.add (i.toNat * 4)).block, (ad.add (i.toNat * 4)).off + 2, none⟩ = some (.int .i64 (rd_T72 xs i).f2) ∧ w.cell? ⟨(ad.add (i.toNat * 4)).block, (ad.add (i.toNat * 4)).off + 3, none⟩ = some (.int .i64 (rd_T72 xs i).f3) := by
  obtain ⟨ad, c, e, _, hK, hc0⟩ := Kd.C_get h z72 i h0 h1
  have hc : ∀ j u, c[j]? = some u → w.cell? (ad.add (i.toNat * 4 + j)) = some u := hc0
  obtain rfl := k72_open hK
  exact ⟨ad, e, hc 0 _ rfl, by rw [← add_field _ _ 1 (by omega)]; exact hc 1 _ rfl, by rw [← add_field _ _ 2 (by omega)]; exact hc 2 _ rfl, by rw [← add_field _ _ 3 (by omega)]; exact hc 3 _ rfl⟩
theorem at_T72_w0 {w0 w : World} {A : Option Addr} {n : Nat} {xs : List S72} (h : Kd.C k72 w0 A n xs) (hb : Below w0.heap.size w0 w) (i : Int) (h0 : 0 ≤ i) (h1 : i < n) : ∃ ad , A = some ad ∧ w.cell? (ad.add (i.toNat * 4)) = some (.int .i64 (rd_T72 xs i).f0) ∧ w.cell? ⟨(ad.add (i.toNat * 4)).block, (ad.add (i.toNat * 4)).off + 1, none⟩ = some (.int .i64 (rd_T72 xs i).f1) ∧ w.cell? ⟨(ad.add (i.toNat * 4)).block, (ad.add (i.toNat * 4)).off + 2, none⟩ = some (.int .i64 (rd_T72 xs i).f2) ∧ w.cell? ⟨(ad.add (i.toNat * 4)).block, (ad.add (i.toNat * 4)).off + 3, none⟩ = some (.int .i64 (rd_T72 xs i).f3) := by
  obtain ⟨ad, c, e, _, hK, hc0⟩ := Kd.C_get h z72 i h0 h1
  have hc : ∀ j u, c[j]? = some u → w.cell? (ad.add (i.toNat * 4 + j)) = some u := fun j u hu => (hb.cell (World.block_lt_of_cell? _ _ (hc0 j u hu))).trans (hc0 j u hu)
  obtain rfl := k72_open hK
  exact ⟨ad, e, hc 0 _ rfl, by rw [← add_field _ _ 1 (by omega)]; exact hc 1 _ rfl, by rw [← add_field _ _ 2 (by omega)]; exact hc 2 _ rfl, by rw [← add_field _ _ 3 (by omega)]; exact hc 3 _ rfl⟩
/-! ### words of this session: an empty row with room of its own -/
namespace Kd
section
variable {α : Type} {P : Program} {o : Oper} {a : Act} {ops : Array Oper} {rest : List Oper} {Q : Exit → Act → World → Prop}
/-- make([]T, 0, n): an empty row that has a block. -/
theorem R_make0 (d : Kd α) {w0 W : World} (base e : Nat) (hgd : o.guard = none) {N : Tmp} (hd : o.dst = some N) (t : TypeId) (x y : Operand) (ho : o.op = .makeSlice t x y) (n : Int) (hx : a.eval x = .int .i64 0) (hy : a.eval y = .int .i64 n)
    (ht : P.underlying t = some (.slice e)) (z : Value) (bytes : Nat) (hinfo : (P.info? e).map (fun i => (i.zero, i.size, i.bytes)) = some (some z, d.sz, bytes)) (hz : z.cells.size = d.sz) (hs0 : 0 < d.sz) (hb0 : 0 < bytes)
    {ok : Nat → Prop} (hfresh : ok W.heap.size) (h0 : 0 ≤ n) (hl : n.toNat * bytes ≤ 281474976710656) (HB : Below base w0 W) (hbase : base ≤ W.heap.size)
    (h : ∀ v1 w1, d.R e w1 base ok v1 [] → Below base w0 w1 → W.grownBy w1 none → (∃ b, v1.ownBlock = some b ∧ W.heap.size ≤ b) → wpList P ops Q rest (a.put o.dst v1) w1) : wpList P ops Q (o :: rest) a W := by
  obtain ⟨m, rfl⟩ := Int.eq_ofNat_of_zero_le h0
  simp only [Int.toNat_natCast] at hl
  obtain ⟨i0, hi, hzz⟩ := Option.map_eq_some_iff.1 hinfo
  simp only [Prod.mk.injEq] at hzz
  obtain ⟨hz0, hz1, hz2⟩ := hzz
  have hm : m ≤ 281474976710656 := Nat.le_trans (Nat.le_mul_of_pos_right _ hb0) hl
  have hr := run_make (P := P) W t e i0 z ht hi hz0 .i64 .i64 0 (m : Int) (by omega) (by omega)
    (by
      have h3 : ((i0.bytes * m : Nat) : Int) ≤ 281474976710656 := by rw [hz2, Nat.mul_comm]; omega
      rwa [Int.natCast_mul] at h3) (by omega)
  simp only [Int.toNat_natCast, Int.toNat_zero] at hr
  rw [hz1] at hr
  have hrun : (execOp a.eval o).run P W = .ok (.value (.slice (some ⟨W.heap.size, 0, none⟩) 0 m)) (W.alloc (.cells (madeCells z.cells (m * d.sz)) e)) := by
    simp [execOp, ho, hx, hy, hr]
  have hown : (W.alloc (.cells (madeCells z.cells (m * d.sz)) e)).ownsRow base e d.sz (.slice (some ⟨W.heap.size, 0, none⟩) 0 m) 0 [] := by
    have h2 := World.ownsRow_lit (base := base) (e := e) (size := d.sz) W (madeCells z.cells (m * d.sz)) m hbase (by simp only [maxLen]; omega) (by simp [size_madeCells])
    have h3 := own_take h2 (Nat.zero_le m)
    simpa using h3
  refine Kd.event_run hgd hrun (h _ _ ⟨fun k hk => ?_, [], hown, ?_⟩ (HB.alloc hbase _) (World.grownBy_alloc W _ none) ⟨W.heap.size, by simp [Value.ownBlock], Nat.le_refl _⟩)
  · have : W.heap.size = k := by simpa [Value.ownBlock] using hk
    subst this
    exact hfresh
  · exact Reps.none _ _
end
end Kd
/-! ### append([]byte, s...), s a string: where the new row lies is told, too -/
section
variable {P : Program} {ops : Array Oper} {rest : List Oper} {o : Oper} {a : Act} {Q : Exit → Act → World → Prop} {Kc : Act → World → Prop}
theorem run_append_str_hat (w : World) (base : Nat) (t u ty e : TypeId) (i : TypeInfo) (ht : P.underlying t = some (.slice e)) (hu : P.underlying u = some .string) (hi : P.info? e = some i) (hz : i.zero = some (.int .u8 0))
    (hsize : i.size = 1) (hby : i.bytes = 1) (v : Value) (n : Nat) (xs : List Value) (hown : w.ownsRow base e 1 v n xs) (s : ByteArray) (hbytes : n + s.size ≤ 140737488355328) :
    ∃ v1 w1, (Builtin.append_ #[t, u] ty #[v, .string s]).run P w = .ok v1 w1 ∧ (v1.ownBlock = v.ownBlock ∨ ∃ b, v1.ownBlock = some b ∧ w.heap.size ≤ b) := by
  have hxl : xs.length = n := by simpa using hown.1
  rcases hown.2 with ⟨rfl, rfl⟩ | ⟨g, cap, cur, rfl, hbg, hg, hnc, hcm, hcs, htake⟩
  · by_cases hm : s.size = 0
    · have hf := Lib.run_firstCells_string (P := P) w 1 s
      rw [hm] at hf
      exact ⟨.slice none 0 0, w, by simp [Builtin.append_, run_underlying ht, run_underlying hu, sizeOf, typeInfo, hi, hsize, Builtin.lenOf, hm, hf], .inl rfl⟩
    · exact ⟨_, _, run_append_nil_string (P := P) w t u ty e i (.int .u8 0) ht hu hi hz s (by omega) (by omega) (by rw [hby]; omega), .inr ⟨_, rfl, Nat.le_refl _⟩⟩
  · by_cases hroom : n + s.size ≤ cap
    · exact ⟨_, _, Lib.run_append_room_string (P := P) w t u ty e i ht hu hi hsize g n cap cur hg s hroom (by have hcs2 : cur.size = cap := (by simpa using hcs); omega), .inl rfl⟩
    · have holds : ∀ j u, xs[j]? = some u → w.cell? ((⟨g, 0, none⟩ : Addr).add j) = some u := hown.cells (g := g) rfl
      exact ⟨_, _, Lib.run_append_grow_string (P := P) w t u ty e i (.int .u8 0) ht hu hi hz ⟨g, 0, none⟩ n cap xs (by rw [hsize]; simpa using hxl) holds s (by omega) (by omega) (by rw [hby]; exact growslice_fits (by omega) (by omega)), .inr ⟨_, rfl, Nat.le_refl _⟩⟩
theorem run_append_str {w0 W : World} (base : Nat) (t u ty e : TypeId) (ht : P.underlying t = some (.slice e)) (hu : P.underlying u = some .string) (hinfo : (P.info? e).map (fun i => (i.zero, i.size, i.bytes)) = some (some (.int .u8 0), 1, 1))
    (v : Value) (xs : List Int) (y : ByteArray) (ok : Nat → Prop) (hfresh : ∀ k, W.heap.size ≤ k → ok k)
    (HO : (Kd.int .u8).R e W base ok v xs) (HB : Below base w0 W) (hbase : base ≤ W.heap.size) (hl : xs.length + y.size ≤ 140737488355328) :
    ∃ v1 w1, (Builtin.append_ #[t, u] ty #[v, .string y]).run P W = .ok v1 w1 ∧ (Kd.int .u8).R e w1 base ok v1 (xs ++ bytesOf y) ∧ Below base w0 w1 ∧ W.grownBy w1 v.ownBlock ∧ (v1.ownBlock = v.ownBlock ∨ ∃ b, v1.ownBlock = some b ∧ W.heap.size ≤ b) := by
  obtain ⟨i0, hi, hzz⟩ := Option.map_eq_some_iff.1 hinfo
  simp only [Prod.mk.injEq] at hzz
  obtain ⟨hz0, hz1, hz2⟩ := hzz
  have HO1 := Kd.own_of_R HO
  obtain ⟨v1, w1, hr, hown, hg, _⟩ := Lib.run_append_own_string (P := P) W base t u ty e i0 ht hu hi hz0 hz1 hz2 v xs.length (nums .u8 xs) HO1 y (by simp only [maxLen]; omega) hl hbase
  obtain ⟨v2, w2, hr2, hat⟩ := run_append_str_hat (P := P) W base t u ty e i0 ht hu hi hz0 hz1 hz2 v xs.length (nums .u8 xs) HO1 y hl
  rw [hr] at hr2
  injection hr2 with h1 h2
  subst h1
  subst h2
  have hl2 : (xs ++ bytesOf y).length = xs.length + y.size := by rw [List.length_append, bytesOf_length]
  have hc : nums .u8 (xs ++ bytesOf y) = nums .u8 xs ++ Lib.strCells y := by
    rw [nums_append]
    congr 1
    simp [nums, bytesOf, Lib.strCells]
  refine ⟨v1, w1, hr, Kd.R_of_own (h1 := fun _ => rfl) (by rw [hl2]; have h5 : w1.ownsRow base e 1 v1 (xs.length + y.size) (nums .u8 (xs ++ bytesOf y)) := (by rw [hc]; exact hown); exact h5) (fun k hk => ?_), HB.grown hg hbase (own_base HO1), hg, hat⟩
  rcases hat with hat | ⟨b, hb, hle⟩
  · rw [hat] at hk; exact HO.1 k hk
  · rw [hb] at hk; injection hk with hk; subst hk; exact hfresh _ hle
theorem Kd.R_append_str {w0 W : World} (base : Nat) (hgd : o.guard = none) (s x : Operand) (t u e : TypeId)
    (ho : o.op = .call { callee := .builtin .append, args := #[s, x], argTypes := #[t, u] })
    (ht : P.underlying t = some (.slice e)) (hu : P.underlying u = some .string) (hinfo : (P.info? e).map (fun i => (i.zero, i.size, i.bytes)) = some (some (.int .u8 0), 1, 1))
    (v : Value) (xs : List Int) (y : ByteArray) (ok : Nat → Prop) (hs : a.eval s = v) (hx : a.eval x = .string y) (hfresh : ∀ k, W.heap.size ≤ k → ok k)
    (HO : (Kd.int .u8).R e W base ok v xs) (HB : Below base w0 W) (hbase : base ≤ W.heap.size) (hl : xs.length + y.size ≤ 140737488355328)
    (h : ∀ v1 w1, (Kd.int .u8).R e w1 base ok v1 (xs ++ bytesOf y) → Below base w0 w1 → W.grownBy w1 v.ownBlock → (v1.ownBlock = v.ownBlock ∨ ∃ b, v1.ownBlock = some b ∧ W.heap.size ≤ b) → wpList P ops Q rest (a.put o.dst v1) w1) :
    wpList P ops Q (o :: rest) a W := by
  refine wpList_plain hgd fun K hK => ?_
  obtain ⟨v1, w1, hr, h1, h2, h3, h4⟩ := run_append_str (P := P) base t u o.type e ht hu hinfo v xs y ok hfresh HO HB hbase hl
  unfold Oper.wp execOp
  simp only [ho, resolve, invoke, builtin, Sem.run_bind, Sem.run_pure, Result.andThen_ok, List.map_toArray, List.map_cons, List.map_nil, hs, hx, hr]
  exact hK _ _ (h v1 w1 h1 h2 h3 h4)
theorem Kd.R_append_str_step {w0 W : World} (base : Nat) (hw : Region.wanted o (yielded ops a.tmps) = true) (s x : Operand) (t u e : TypeId)
    (ho : o.op = .call { callee := .builtin .append, args := #[s, x], argTypes := #[t, u] })
    (ht : P.underlying t = some (.slice e)) (hu : P.underlying u = some .string) (hinfo : (P.info? e).map (fun i => (i.zero, i.size, i.bytes)) = some (some (.int .u8 0), 1, 1))
    (v : Value) (xs : List Int) (y : ByteArray) (ok : Nat → Prop) (hs : a.eval s = v) (hx : a.eval x = .string y) (hfresh : ∀ k, W.heap.size ≤ k → ok k)
    (HO : (Kd.int .u8).R e W base ok v xs) (HB : Below base w0 W) (hbase : base ≤ W.heap.size) (hl : xs.length + y.size ≤ 140737488355328)
    (h : ∀ v1 w1, (Kd.int .u8).R e w1 base ok v1 (xs ++ bytesOf y) → Below base w0 w1 → W.grownBy w1 v.ownBlock → (v1.ownBlock = v.ownBlock ∨ ∃ b, v1.ownBlock = some b ∧ W.heap.size ≤ b) → Kc (a.put o.dst v1) w1) :
    if Region.wanted o (yielded ops a.tmps) = true then Oper.wp P o a W Kc Q else Kc (a.put o.dst undef) W := by
  rw [if_pos hw]
  obtain ⟨v1, w1, hr, h1, h2, h3, h4⟩ := run_append_str (P := P) base t u o.type e ht hu hinfo v xs y ok hfresh HO HB hbase hl
  unfold Oper.wp execOp
  simp only [ho, resolve, invoke, builtin, Sem.run_bind, Sem.run_pure, Result.andThen_ok, List.map_toArray, List.map_cons, List.map_nil, hs, hx, hr]
  exact h v1 w1 h1 h2 h3 h4
end
theorem Kd.V_len {α : Type} {d : Kd α} {e base n m c : Nat} {W : World} {ok : Nat → Prop} {A : Option Addr} {v : Value} {xs : List α} (h : Kd.V d e W base (fun k => ok k ∧ some k ≠ (Value.slice A n c).ownBlock) v xs) :
    Kd.V d e W base (fun k => ok k ∧ some k ≠ (Value.slice A m c).ownBlock) v xs := Kd.V_mono h (fun k hk => ⟨hk.1, by cases A <;> exact hk.2⟩)
/-! ### what closes by the world's form alone, told once -/
theorem a_ {p : Prop} (h : p) : Aside0 p := ⟨h⟩
theorem kp_ {w W W1 : World} {S : Nat → Prop} (h : Aside0 (Kept w W S)) (e : Kept w W S → Kept w W1 S := by intro h_; repeat (first | (with_reducible first | exact h_ | apply Kept.alloc | apply Kept.drewN | apply Kept.drew | refine Kept.setCell ?_ (.inr (Aside0.out (by assumption))) _) | exact h_)) : Kept w W1 S := e h.out
theorem bl_ {B : Nat} {w W W1 : World} (h : Aside0 (Below B w W)) (e : Below B w W → Below B w W1 := by intro h_; repeat (first | (with_reducible first | exact h_ | apply below_alloc | apply pw_below_drewN | apply below_drew1 | refine below_set ?_ (Aside0.out (by assumption))) | exact h_)) : Below B w W1 := e h.out
theorem rp_ {α : Type} {d : Kd α} {e base : Nat} {ok : Nat → Prop} {v : Value} {xs : List α} {W W1 : World} (h : Aside0 (d.R e W base ok v xs)) (q : d.R e W base ok v xs → d.R e W1 base ok v xs := by intro h_; (with_reducible repeat (first | apply Kd.R_alloc | apply Kd.R_drewN | apply Kd.R_drew)); exact h_) : d.R e W1 base ok v xs := q h.out
theorem vp_ {α : Type} {d : Kd α} {e base : Nat} {ok ok1 : Nat → Prop} {v : Value} {xs : List α} {W W1 : World} (h : Aside0 (Kd.V d e W base ok v xs)) (q : Kd.V d e W base ok v xs → Kd.V d e W1 base ok1 v xs := by intro h_; (with_reducible repeat (first | apply Kd.V_alloc | apply Kd.V_drewN | apply Kd.V_drew)); first | exact h_ | exact Kd.V_len h_) : Kd.V d e W1 base ok1 v xs := q h.out
theorem bk_ {g : Nat} {o : Obj} {W W1 : World} (h : Aside0 (W.heap[g]? = some o)) (q : W.heap[g]? = some o → W1.heap[g]? = some o := by intro h_; (with_reducible repeat (first | refine blk_drewN ?_ _ | refine blk_drew ?_ | refine blk_alloc ?_ _)); exact h_) : W1.heap[g]? = some o := q h.out
theorem ar_ {p : Prop} (h : p := by (try simp only [List.map_toArray, List.map_cons, List.map_nil]); first | done | rfl | (simp only [List.length_drop, List.length_take]; rfl)) : p := h
theorem rl_ {p : Prop} (h : p := by first | rfl | (simp; done) | (simp [*]; done)) : p := h
theorem as_ {p : Prop} (h : p := by first | (with_reducible assumption) | assumption) : p := h
theorem lt_ {α β : Type} {e y : α} {f : α → Option β} {R : Option β} (H : (some e).bind f = R) (hy : y = e) : f y = R := by rw [hy]; exact H
theorem kz_ {w W W1 : World} {S : Nat → Prop} (h : Aside0 (Kept w W S)) (e : Kept w W S → Kept w W1 S := by intro h_; repeat (first | (with_reducible first | exact h_ | apply Kept.alloc | apply Kept.drewN | apply Kept.drew | refine Kept.setCell ?_ (.inr (Aside0.out (by assumption))) _) | exact h_)) : w.heap.size ≤ W1.heap.size := (e h.out).1
theorem kb_ {w W W1 : World} {g : Nat} {row : Option Nat} (h : Aside0 (KeepBut w W g row)) (e : KeepBut w W g row → KeepBut w W1 g row := by intro h_; repeat (first | (with_reducible first | exact h_ | apply KeepBut.set_ | apply keep_drewN | apply keep_drew | apply keep_alloc | refine keep_far ?_ (Aside0.out (by assumption)) _) | exact h_)) : KeepBut w W1 g row := e h.out
theorem bc_ {w : World} {g : Nat} {t : TypeId} {cs : Array Value} (h : Aside0 (w.heap[g]? = some (.cells cs t (0, 0)))) (i : Nat) (v : Value) (e : cs[i]? = some v := by rfl) : w.cell? ⟨g, i, none⟩ = some v := (blk_cell h.out i).trans e
theorem b2_ {w : World} {g : Nat} {t : TypeId} {c0 c1 : Value} (h : Aside0 (w.heap[g]? = some (.cells #[c0, c1] t (0, 0)))) : w.cell? ⟨g, 0, none⟩ = some c0 ∧ w.cell? ⟨g, 1, none⟩ = some c1 ∧ w.frozen? ⟨g, 0, none⟩ = false ∧ w.frozen? ⟨g, 1, none⟩ = false := ⟨bc_ h 0 c0, bc_ h 1 c1, blk_frozen h.out 0, blk_frozen h.out 1⟩
theorem b3_ {w : World} {g : Nat} {t : TypeId} {c0 c1 c2 : Value} (h : Aside0 (w.heap[g]? = some (.cells #[c0, c1, c2] t (0, 0)))) : w.cell? ⟨g, 0, none⟩ = some c0 ∧ w.cell? ⟨g, 1, none⟩ = some c1 ∧ w.cell? ⟨g, 2, none⟩ = some c2 ∧ w.frozen? ⟨g, 0, none⟩ = false ∧ w.frozen? ⟨g, 1, none⟩ = false ∧ w.frozen? ⟨g, 2, none⟩ = false := ⟨bc_ h 0 c0, bc_ h 1 c1, bc_ h 2 c2, blk_frozen h.out 0, blk_frozen h.out 1, blk_frozen h.out 2⟩
theorem b4_ {w : World} {g : Nat} {t : TypeId} {c0 c1 c2 c3 : Value} (h : Aside0 (w.heap[g]? = some (.cells #[c0, c1, c2, c3] t (0, 0)))) : w.cell? ⟨g, 0, none⟩ = some c0 ∧ w.cell? ⟨g, 1, none⟩ = some c1 ∧ w.cell? ⟨g, 2, none⟩ = some c2 ∧ w.cell? ⟨g, 3, none⟩ = some c3 ∧ w.frozen? ⟨g, 0, none⟩ = false ∧ w.frozen? ⟨g, 1, none⟩ = false ∧ w.frozen? ⟨g, 2, none⟩ = false ∧ w.frozen? ⟨g, 3, none⟩ = false := ⟨bc_ h 0 c0, bc_ h 1 c1, bc_ h 2 c2, bc_ h 3 c3, blk_frozen h.out 0, blk_frozen h.out 1, blk_frozen h.out 2, blk_frozen h.out 3⟩
theorem b5_ {w : World} {g : Nat} {t : TypeId} {c0 c1 c2 c3 c4 : Value} (h : Aside0 (w.heap[g]? = some (.cells #[c0, c1, c2, c3, c4] t (0, 0)))) : w.cell? ⟨g, 0, none⟩ = some c0 ∧ w.cell? ⟨g, 1, none⟩ = some c1 ∧ w.cell? ⟨g, 2, none⟩ = some c2 ∧ w.cell? ⟨g, 3, none⟩ = some c3 ∧ w.cell? ⟨g, 4, none⟩ = some c4 ∧ w.frozen? ⟨g, 0, none⟩ = false ∧ w.frozen? ⟨g, 1, none⟩ = false ∧ w.frozen? ⟨g, 2, none⟩ = false ∧ w.frozen? ⟨g, 3, none⟩ = false ∧ w.frozen? ⟨g, 4, none⟩ = false := ⟨bc_ h 0 c0, bc_ h 1 c1, bc_ h 2 c2, bc_ h 3 c3, bc_ h 4 c4, blk_frozen h.out 0, blk_frozen h.out 1, blk_frozen h.out 2, blk_frozen h.out 3, blk_frozen h.out 4⟩
theorem ki_ {w W : World} {S : Nat → Prop} (h : w.heap.size ≤ W.heap.size) : ∀ k_, W.heap.size ≤ k_ → (S k_ ∨ w.heap.size ≤ k_) := fun _ hk => .inr (Nat.le_trans h hk)
theorem kt_ {w W W1 : World} {g : Nat} {r : Option Nat} (h : KeepBut w W g r) (k : KeepBut W W1 g r) : KeepBut w W1 g r := KeepBut.trans h k (.inl rfl)
end Go.Proofs.Ytnilbkfhfnofgaa.PFnPrWidthMember
