-- printed by this project's own program wip/tools/mkprint.py (the kit's print.py with hand-proved contracts put in)
import Derived.Test.YthjameohenmeiaaProg
import Derived.Below
import Derived.Deep.Draws
import Derived.Deep.AppendLies
import Derived.Maps.AppendAt
import Derived.OwnWalk
import Derived.Laws.BytesArg
import Derived.Laws.MakeOwn
import Derived.Laws.OwnMore
import Derived.Deep.OwnRows
import Derived.Tactics
import Derived.Lib.ConvBytes
import Derived.Laws.Slices
import Derived.WalkKit
import Derived.KernelRfl
import Derived.RowKit3
import Derived.Deep.LoopGhost
import Derived.Deep.QuietTactic
import Derived.BigQuiet
import Derived.WideLaws
import Derived.Deep.DeepCutAuto
import Derived.Deep.CutBlock
import Derived.Deep.RegionHeld3
import Derived.Laws.Rows
import Derived.Lib.AppendStr
import Derived.ArgAppend
import Derived.Laws.IdiomCopy
import Derived.OrdersHeld
import Derived.Laws.BitsLemmas
import Derived.RowKit
import Derived.Deep.QuietTactic
import Derived.Deep.RegionHeld3
import Derived.Lib.Strings
import Derived.RegionTactic
import Derived.Sort.LotA
import Derived.Sort.OwnSorted
import Derived.Test.YthjameohenmeiaaBox
import Derived.Test.YthjameohenmeiaaLib
import Derived.Test.YthjameohenmeiaaShelf
import Derived.WalkLawsBesides
import Derived.Test.YthjameohenmeiaaWWords
import Derived.Test.YthjameohenmeiaaWLast
import Derived.Test.YthjameohenmeiaaWTab
import Derived.Test.YthjameohenmeiaaWFour
import Derived.Test.YthjameohenmeiaaWQPut
import Derived.Test.YthjameohenmeiaaWApart
import Derived.Test.YthjameohenmeiaaWArr
import Derived.Test.YthjameohenmeiaaWZeros
import Derived.Test.YthjameohenmeiaaWFoot
import Derived.Test.YthjameohenmeiaaWKept
import Derived.Test.YthjameohenmeiaaWShare
import Derived.Test.YthjameohenmeiaaWN
import Derived.Test.YthjameohenmeiaaWFootNe
import Derived.Test.YthjameohenmeiaaWAt
import Derived.Test.YthjameohenmeiaaWEqStruct
import Derived.Test.YthjameohenmeiaaWRepsOne
import Derived.Test.YthjameohenmeiaaWInv
import Derived.Test.YthjameohenmeiaaWInvWords
import Derived.Test.YthjameohenmeiaaWGuard
import Derived.Test.YthjameohenmeiaaWNEv
import Derived.Test.YthjameohenmeiaaWMore
namespace Go.Proofs.Ythjameohenmeiaa.Q
open Go.RowKit Go.Proofs.YthjameohenmeiaaW.PrintWords Go.Proofs.YthjameohenmeiaaW.PrintLast Go.Proofs.YthjameohenmeiaaW.PrintMore
attribute [local go_sem] max2_int min2_int max_two min_two max_three min_three max_four min_four   -- for this text's walks alone
set_option linter.unusedVariables false
set_option linter.unusedSimpArgs false



def errW : Option Int → Value
  | none => .nilIface
  | some c => .iface 0 (.int .i64 c)
theorem errW_none : errW none = .nilIface := rfl
theorem errW_some (c : Int) : errW (some c) = .iface 0 (.int .i64 c) := rfl

theorem info32 : (Try.prog.info? 32).map (fun i => (i.zero, i.size, i.bytes)) = some (some (.agg #[(.int .i64 0), (.string ⟨#[]⟩), (.string ⟨#[]⟩)]), 3, 40) := by kernel_rfl
theorem info50 : (Try.prog.info? 50).map (fun i => (i.zero, i.size, i.bytes)) = some (some (.agg #[(.int .i64 0), (.string ⟨#[]⟩), (.string ⟨#[]⟩)]), 3, 40) := by kernel_rfl
-- the values' own types
/-! #### struct type 32 -/
structure S32 where
  f0 : Int
  f1 : ByteArray
  f2 : ByteArray
def z32 : S32 := ⟨(0 : Int), (⟨#[]⟩ : ByteArray), (⟨#[]⟩ : ByteArray)⟩
def k32 : Kd S32 := Kd.iso (Kd.pair (Kd.int .i64) (Kd.pair Kd.string Kd.string)) (fun x : S32 => (x.f0, x.f1, x.f2))
theorem k32_open {w : World} {x : S32} {cs : List Value} (h : k32.K w x cs) : cs = [.int .i64 x.f0, .string x.f1, .string x.f2] := by
  obtain ⟨_, _, rfl, rfl, ⟨_, _, rfl, rfl, rfl⟩⟩ := h
  exact rfl
theorem k32_openM {w : World} {base : Nat} {ok : Nat → Prop} {x : S32} {cs : List Value} (h : k32.M w base ok x cs) : cs = [.int .i64 x.f0, .string x.f1, .string x.f2] := by
  obtain ⟨_, _, rfl, rfl, ⟨_, _, rfl, rfl, rfl⟩⟩ := h
  exact rfl
theorem k32_mk (w : World) (x : S32)  : k32.K w x [.int .i64 x.f0, .string x.f1, .string x.f2] := ⟨[.int .i64 x.f0], [.string x.f1, .string x.f2], rfl, rfl, ⟨[.string x.f1], [.string x.f2], rfl, rfl, rfl⟩⟩
theorem k32_mkM (w : World) (base : Nat) (ok : Nat → Prop) (x : S32)  : k32.M w base ok x [.int .i64 x.f0, .string x.f1, .string x.f2] := ⟨[.int .i64 x.f0], [.string x.f1, .string x.f2], rfl, rfl, ⟨[.string x.f1], [.string x.f2], rfl, rfl, rfl⟩⟩
def rd_T32 (xs : List S32) (i : Int) : S32 := xs.getD i.toNat z32
theorem at_T32 {w : World} {A : Option Addr} {n : Nat} {xs : List S32} (h : Kd.C k32 w A n xs) (i : Int) (h0 : 0 ≤ i) (h1 : i < n) : ∃ ad , A = some ad ∧ w.cell? (ad.add (i.toNat * 3)) = some (.int .i64 (rd_T32 xs i).f0) ∧ w.cell? ⟨(ad.add (i.toNat * 3)).block, (ad.add (i.toNat * 3)).off + 1, none⟩ = some (.string (rd_T32 xs i).f1) ∧ w.cell? ⟨(ad.add (i.toNat * 3)).block, (ad.add (i.toNat * 3)).off + 2, none⟩ = some (.string (rd_T32 xs i).f2) := by
  obtain ⟨ad, c, e, _, hK, hc0⟩ := Kd.C_get h z32 i h0 h1
  have hc : ∀ j u, c[j]? = some u → w.cell? (ad.add (i.toNat * 3 + j)) = some u := hc0
  obtain rfl := k32_open hK
  exact ⟨ad, e, hc 0 _ rfl, by rw [← add_field _ _ 1 (by omega)]; exact hc 1 _ rfl, by rw [← add_field _ _ 2 (by omega)]; exact hc 2 _ rfl⟩

/-! #### struct type 96 -/
structure S96 where
  f0 : Int
  f1 : ByteArray
  f2 : ByteArray
def z96 : S96 := ⟨(0 : Int), (⟨#[]⟩ : ByteArray), (⟨#[]⟩ : ByteArray)⟩
def k96 : Kd S96 := Kd.iso (Kd.pair (Kd.int .i64) (Kd.pair Kd.string Kd.string)) (fun x : S96 => (x.f0, x.f1, x.f2))
theorem k96_open {w : World} {x : S96} {cs : List Value} (h : k96.K w x cs) : cs = [.int .i64 x.f0, .string x.f1, .string x.f2] := by
  obtain ⟨_, _, rfl, rfl, ⟨_, _, rfl, rfl, rfl⟩⟩ := h
  exact rfl
theorem k96_openM {w : World} {base : Nat} {ok : Nat → Prop} {x : S96} {cs : List Value} (h : k96.M w base ok x cs) : cs = [.int .i64 x.f0, .string x.f1, .string x.f2] := by
  obtain ⟨_, _, rfl, rfl, ⟨_, _, rfl, rfl, rfl⟩⟩ := h
  exact rfl
theorem k96_mk (w : World) (x : S96)  : k96.K w x [.int .i64 x.f0, .string x.f1, .string x.f2] := ⟨[.int .i64 x.f0], [.string x.f1, .string x.f2], rfl, rfl, ⟨[.string x.f1], [.string x.f2], rfl, rfl, rfl⟩⟩
theorem k96_mkM (w : World) (base : Nat) (ok : Nat → Prop) (x : S96)  : k96.M w base ok x [.int .i64 x.f0, .string x.f1, .string x.f2] := ⟨[.int .i64 x.f0], [.string x.f1, .string x.f2], rfl, rfl, ⟨[.string x.f1], [.string x.f2], rfl, rfl, rfl⟩⟩
def rd_T96 (xs : List S96) (i : Int) : S96 := xs.getD i.toNat z96
theorem at_T96 {w : World} {A : Option Addr} {n : Nat} {xs : List S96} (h : Kd.C k96 w A n xs) (i : Int) (h0 : 0 ≤ i) (h1 : i < n) : ∃ ad , A = some ad ∧ w.cell? (ad.add (i.toNat * 3)) = some (.int .i64 (rd_T96 xs i).f0) ∧ w.cell? ⟨(ad.add (i.toNat * 3)).block, (ad.add (i.toNat * 3)).off + 1, none⟩ = some (.string (rd_T96 xs i).f1) ∧ w.cell? ⟨(ad.add (i.toNat * 3)).block, (ad.add (i.toNat * 3)).off + 2, none⟩ = some (.string (rd_T96 xs i).f2) := by
  obtain ⟨ad, c, e, _, hK, hc0⟩ := Kd.C_get h z96 i h0 h1
  have hc : ∀ j u, c[j]? = some u → w.cell? (ad.add (i.toNat * 3 + j)) = some u := hc0
  obtain rfl := k96_open hK
  exact ⟨ad, e, hc 0 _ rfl, by rw [← add_field _ _ 1 (by omega)]; exact hc 1 _ rfl, by rw [← add_field _ _ 2 (by omega)]; exact hc 2 _ rfl⟩

def rd_L4 (xs : List (List S32)) (i : Int) : (List S32) := xs.getD i.toNat ([] : List S32)
theorem at_L4 {w : World} {A : Option Addr} {n : Nat} {xs : List (List S32)} (h : Kd.C (Kd.slice 32 k32) w A n xs) (i : Int) (h0 : 0 ≤ i) (h1 : i < n) : ∃ ad A0 c0, A = some ad ∧ w.cell? (ad.add i.toNat) = some (.slice A0 (rd_L4 xs i).length c0) ∧ (rd_L4 xs i).length ≤ c0 ∧ k32.C w A0 (rd_L4 xs i).length (rd_L4 xs i) := by
  obtain ⟨ad, c, e, _, hK, hc0⟩ := Kd.C_get h ([] : List S32) i h0 h1
  have hc : ∀ j u, c[j]? = some u → w.cell? (ad.add (i.toNat * 1 + j)) = some u := hc0
  obtain ⟨A0, c0, rfl, l0, g0⟩ := hK
  exact ⟨ad, A0, c0, e, by have hq := hc 0 _ rfl; rwa [Nat.mul_one, Nat.add_zero] at hq, l0, g0⟩

/-! #### struct type 50 -/
structure S50 where
  f0 : Int
  f1 : ByteArray
  f2 : ByteArray
def z50 : S50 := ⟨(0 : Int), (⟨#[]⟩ : ByteArray), (⟨#[]⟩ : ByteArray)⟩
def k50 : Kd S50 := Kd.iso (Kd.pair (Kd.int .i64) (Kd.pair Kd.string Kd.string)) (fun x : S50 => (x.f0, x.f1, x.f2))
theorem k50_open {w : World} {x : S50} {cs : List Value} (h : k50.K w x cs) : cs = [.int .i64 x.f0, .string x.f1, .string x.f2] := by
  obtain ⟨_, _, rfl, rfl, ⟨_, _, rfl, rfl, rfl⟩⟩ := h
  exact rfl
theorem k50_openM {w : World} {base : Nat} {ok : Nat → Prop} {x : S50} {cs : List Value} (h : k50.M w base ok x cs) : cs = [.int .i64 x.f0, .string x.f1, .string x.f2] := by
  obtain ⟨_, _, rfl, rfl, ⟨_, _, rfl, rfl, rfl⟩⟩ := h
  exact rfl
theorem k50_mk (w : World) (x : S50)  : k50.K w x [.int .i64 x.f0, .string x.f1, .string x.f2] := ⟨[.int .i64 x.f0], [.string x.f1, .string x.f2], rfl, rfl, ⟨[.string x.f1], [.string x.f2], rfl, rfl, rfl⟩⟩
theorem k50_mkM (w : World) (base : Nat) (ok : Nat → Prop) (x : S50)  : k50.M w base ok x [.int .i64 x.f0, .string x.f1, .string x.f2] := ⟨[.int .i64 x.f0], [.string x.f1, .string x.f2], rfl, rfl, ⟨[.string x.f1], [.string x.f2], rfl, rfl, rfl⟩⟩
def rd_T50 (xs : List S50) (i : Int) : S50 := xs.getD i.toNat z50
theorem at_T50 {w : World} {A : Option Addr} {n : Nat} {xs : List S50} (h : Kd.C k50 w A n xs) (i : Int) (h0 : 0 ≤ i) (h1 : i < n) : ∃ ad , A = some ad ∧ w.cell? (ad.add (i.toNat * 3)) = some (.int .i64 (rd_T50 xs i).f0) ∧ w.cell? ⟨(ad.add (i.toNat * 3)).block, (ad.add (i.toNat * 3)).off + 1, none⟩ = some (.string (rd_T50 xs i).f1) ∧ w.cell? ⟨(ad.add (i.toNat * 3)).block, (ad.add (i.toNat * 3)).off + 2, none⟩ = some (.string (rd_T50 xs i).f2) := by
  obtain ⟨ad, c, e, _, hK, hc0⟩ := Kd.C_get h z50 i h0 h1
  have hc : ∀ j u, c[j]? = some u → w.cell? (ad.add (i.toNat * 3 + j)) = some u := hc0
  obtain rfl := k50_open hK
  exact ⟨ad, e, hc 0 _ rfl, by rw [← add_field _ _ 1 (by omega)]; exact hc 1 _ rfl, by rw [← add_field _ _ 2 (by omega)]; exact hc 2 _ rfl⟩

def rd_L6 (xs : List (List S50)) (i : Int) : (List S50) := xs.getD i.toNat ([] : List S50)
theorem at_L6 {w : World} {A : Option Addr} {n : Nat} {xs : List (List S50)} (h : Kd.C (Kd.slice 50 k50) w A n xs) (i : Int) (h0 : 0 ≤ i) (h1 : i < n) : ∃ ad A0 c0, A = some ad ∧ w.cell? (ad.add i.toNat) = some (.slice A0 (rd_L6 xs i).length c0) ∧ (rd_L6 xs i).length ≤ c0 ∧ k50.C w A0 (rd_L6 xs i).length (rd_L6 xs i) := by
  obtain ⟨ad, c, e, _, hK, hc0⟩ := Kd.C_get h ([] : List S50) i h0 h1
  have hc : ∀ j u, c[j]? = some u → w.cell? (ad.add (i.toNat * 1 + j)) = some u := hc0
  obtain ⟨A0, c0, rfl, l0, g0⟩ := hK
  exact ⟨ad, A0, c0, e, by have hq := hc 0 _ rfl; rwa [Nat.mul_one, Nat.add_zero] at hq, l0, g0⟩

def okS32 (x : S32) : Prop := (Lit.int .i64 x.f0).wf = true ∧ x.f1.size ≤ maxLen ∧ x.f2.size ≤ maxLen
def okS96 (x : S96) : Prop := (Lit.int .i64 x.f0).wf = true ∧ x.f1.size ≤ maxLen ∧ x.f2.size ≤ maxLen
def okS50 (x : S50) : Prop := (Lit.int .i64 x.f0).wf = true ∧ x.f1.size ≤ maxLen ∧ x.f2.size ≤ maxLen
end Go.Proofs.Ythjameohenmeiaa.Q
