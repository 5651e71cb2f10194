-- printed by this project's own program wip/tools/mkprint.py (the kit's print.py with hand-proved contracts put in)
import Derived.Test.YtcneoonhdfblaaaProg
import Derived.Below
import Derived.Deep.Draws
import Derived.Deep.AppendLies
import Derived.Maps.AppendAt
import Derived.OwnWalk
import Derived.Laws.BytesArg
import Derived.Laws.MakeOwn
import Derived.Laws.OwnMore
import Derived.Deep.OwnRows
import Derived.Tactics
import Derived.Lib.ConvBytes
import Derived.Laws.Slices
import Derived.WalkKit
import Derived.KernelRfl
import Derived.RowKit3
import Derived.Deep.LoopGhost
import Derived.Deep.QuietTactic
import Derived.BigQuiet
import Derived.WideLaws
import Derived.Deep.DeepCutAuto
import Derived.Deep.CutBlock
import Derived.Deep.RegionHeld3
import Derived.Laws.Rows
import Derived.Lib.AppendStr
import Derived.ArgAppend
import Derived.Laws.IdiomCopy
import Derived.OrdersHeld
import Derived.Laws.BitsLemmas
import Derived.RowKit
import Derived.Deep.QuietTactic
import Derived.Laws.BitsAllLaws
import Derived.OwnWalk
import Derived.RegionTactic
import Derived.Sort.LotA
import Derived.Sort.OwnSorted
import Derived.Test.YtcneoonhdfblaaaBox
import Derived.Test.YtcneoonhdfblaaaLSet
import Derived.Test.YtcneoonhdfblaaaLib
import Derived.Test.YtcneoonhdfblaaaMaps
import Derived.Test.YtcneoonhdfblaaaSetsPure
import Derived.Test.YtcneoonhdfblaaaShelf
import Derived.Test.YtcneoonhdfblaaaUSet
import Derived.WalkLawsBesides
import Derived.Test.YtcneoonhdfblaaaWWords
import Derived.Test.YtcneoonhdfblaaaWLast
import Derived.Test.YtcneoonhdfblaaaWTab
import Derived.Test.YtcneoonhdfblaaaWFour
import Derived.Test.YtcneoonhdfblaaaWQPut
import Derived.Test.YtcneoonhdfblaaaWApart
import Derived.Test.YtcneoonhdfblaaaWArr
import Derived.Test.YtcneoonhdfblaaaWZeros
import Derived.Test.YtcneoonhdfblaaaWFoot
import Derived.Test.YtcneoonhdfblaaaWKept
import Derived.Test.YtcneoonhdfblaaaWShare
import Derived.Test.YtcneoonhdfblaaaWN
import Derived.Test.YtcneoonhdfblaaaWFootNe
import Derived.Test.YtcneoonhdfblaaaWAt
import Derived.Test.YtcneoonhdfblaaaWEqStruct
import Derived.Test.YtcneoonhdfblaaaWRepsOne
import Derived.Test.YtcneoonhdfblaaaWInv
import Derived.Test.YtcneoonhdfblaaaWInvWords
import Derived.Test.YtcneoonhdfblaaaWGuard
import Derived.Test.YtcneoonhdfblaaaWNEv
import Derived.Test.YtcneoonhdfblaaaWMore
namespace Go.Proofs.Ytcneoonhdfblaaa.Q
open Go.RowKit Go.Proofs.YtcneoonhdfblaaaW.PrintWords Go.Proofs.YtcneoonhdfblaaaW.PrintLast Go.Proofs.YtcneoonhdfblaaaW.PrintMore
attribute [local go_sem] max2_int min2_int max_two min_two max_three min_three max_four min_four   -- for this text's walks alone
set_option linter.unusedVariables false
set_option linter.unusedSimpArgs false



def errW : Option Int → Value
  | none => .nilIface
  | some c => .iface 0 (.int .i64 c)
theorem errW_none : errW none = .nilIface := rfl
theorem errW_some (c : Int) : errW (some c) = .iface 0 (.int .i64 c) := rfl

theorem info9 : (Try.prog.info? 9).map (fun i => (i.zero, i.size, i.bytes)) = some (some (.string ⟨#[]⟩), 1, 16) := by kernel_rfl
theorem info32 : (Try.prog.info? 32).map (fun i => (i.zero, i.size, i.bytes)) = some (some (.agg #[(.string ⟨#[]⟩), (.string ⟨#[]⟩)]), 2, 32) := by kernel_rfl
theorem info37 : (Try.prog.info? 37).map (fun i => (i.zero, i.size, i.bytes)) = some (some (.agg #[(.string ⟨#[]⟩), (.string ⟨#[]⟩)]), 2, 32) := by kernel_rfl
theorem info65 : (Try.prog.info? 65).map (fun i => (i.zero, i.size, i.bytes)) = some (some (.string ⟨#[]⟩), 1, 16) := by kernel_rfl
-- the values' own types
/-! #### struct type 32 -/
structure S32 where
  f0 : ByteArray
  f1 : ByteArray
def z32 : S32 := ⟨(⟨#[]⟩ : ByteArray), (⟨#[]⟩ : ByteArray)⟩
def k32 : Kd S32 := Kd.iso (Kd.pair Kd.string Kd.string) (fun x : S32 => (x.f0, x.f1))
theorem k32_open {w : World} {x : S32} {cs : List Value} (h : k32.K w x cs) : cs = [.string x.f0, .string x.f1] := by
  obtain ⟨_, _, rfl, rfl, rfl⟩ := h
  exact rfl
theorem k32_openM {w : World} {base : Nat} {ok : Nat → Prop} {x : S32} {cs : List Value} (h : k32.M w base ok x cs) : cs = [.string x.f0, .string x.f1] := by
  obtain ⟨_, _, rfl, rfl, rfl⟩ := h
  exact rfl
theorem k32_mk (w : World) (x : S32)  : k32.K w x [.string x.f0, .string x.f1] := ⟨[.string x.f0], [.string x.f1], rfl, rfl, rfl⟩
theorem k32_mkM (w : World) (base : Nat) (ok : Nat → Prop) (x : S32)  : k32.M w base ok x [.string x.f0, .string x.f1] := ⟨[.string x.f0], [.string x.f1], rfl, rfl, rfl⟩
def rd_T32 (xs : List S32) (i : Int) : S32 := xs.getD i.toNat z32
theorem at_T32 {w : World} {A : Option Addr} {n : Nat} {xs : List S32} (h : Kd.C k32 w A n xs) (i : Int) (h0 : 0 ≤ i) (h1 : i < n) : ∃ ad , A = some ad ∧ w.cell? (ad.add (i.toNat * 2)) = some (.string (rd_T32 xs i).f0) ∧ w.cell? ⟨(ad.add (i.toNat * 2)).block, (ad.add (i.toNat * 2)).off + 1, none⟩ = some (.string (rd_T32 xs i).f1) := by
  obtain ⟨ad, c, e, _, hK, hc0⟩ := Kd.C_get h z32 i h0 h1
  have hc : ∀ j u, c[j]? = some u → w.cell? (ad.add (i.toNat * 2 + j)) = some u := hc0
  obtain rfl := k32_open hK
  exact ⟨ad, e, hc 0 _ rfl, by rw [← add_field _ _ 1 (by omega)]; exact hc 1 _ rfl⟩

def rd_L2 (xs : List (List S32)) (i : Int) : (List S32) := xs.getD i.toNat ([] : List S32)
theorem at_L2 {w : World} {A : Option Addr} {n : Nat} {xs : List (List S32)} (h : Kd.C (Kd.slice 32 k32) w A n xs) (i : Int) (h0 : 0 ≤ i) (h1 : i < n) : ∃ ad A0 c0, A = some ad ∧ w.cell? (ad.add i.toNat) = some (.slice A0 (rd_L2 xs i).length c0) ∧ (rd_L2 xs i).length ≤ c0 ∧ k32.C w A0 (rd_L2 xs i).length (rd_L2 xs i) := by
  obtain ⟨ad, c, e, _, hK, hc0⟩ := Kd.C_get h ([] : List S32) i h0 h1
  have hc : ∀ j u, c[j]? = some u → w.cell? (ad.add (i.toNat * 1 + j)) = some u := hc0
  obtain ⟨A0, c0, rfl, l0, g0⟩ := hK
  exact ⟨ad, A0, c0, e, by have hq := hc 0 _ rfl; rwa [Nat.mul_one, Nat.add_zero] at hq, l0, g0⟩

/-! #### struct type 37 -/
structure S37 where
  f0 : ByteArray
  f1 : ByteArray
def z37 : S37 := ⟨(⟨#[]⟩ : ByteArray), (⟨#[]⟩ : ByteArray)⟩
def k37 : Kd S37 := Kd.iso (Kd.pair Kd.string Kd.string) (fun x : S37 => (x.f0, x.f1))
theorem k37_open {w : World} {x : S37} {cs : List Value} (h : k37.K w x cs) : cs = [.string x.f0, .string x.f1] := by
  obtain ⟨_, _, rfl, rfl, rfl⟩ := h
  exact rfl
theorem k37_openM {w : World} {base : Nat} {ok : Nat → Prop} {x : S37} {cs : List Value} (h : k37.M w base ok x cs) : cs = [.string x.f0, .string x.f1] := by
  obtain ⟨_, _, rfl, rfl, rfl⟩ := h
  exact rfl
theorem k37_mk (w : World) (x : S37)  : k37.K w x [.string x.f0, .string x.f1] := ⟨[.string x.f0], [.string x.f1], rfl, rfl, rfl⟩
theorem k37_mkM (w : World) (base : Nat) (ok : Nat → Prop) (x : S37)  : k37.M w base ok x [.string x.f0, .string x.f1] := ⟨[.string x.f0], [.string x.f1], rfl, rfl, rfl⟩
def rd_T37 (xs : List S37) (i : Int) : S37 := xs.getD i.toNat z37
theorem at_T37 {w : World} {A : Option Addr} {n : Nat} {xs : List S37} (h : Kd.C k37 w A n xs) (i : Int) (h0 : 0 ≤ i) (h1 : i < n) : ∃ ad , A = some ad ∧ w.cell? (ad.add (i.toNat * 2)) = some (.string (rd_T37 xs i).f0) ∧ w.cell? ⟨(ad.add (i.toNat * 2)).block, (ad.add (i.toNat * 2)).off + 1, none⟩ = some (.string (rd_T37 xs i).f1) := by
  obtain ⟨ad, c, e, _, hK, hc0⟩ := Kd.C_get h z37 i h0 h1
  have hc : ∀ j u, c[j]? = some u → w.cell? (ad.add (i.toNat * 2 + j)) = some u := hc0
  obtain rfl := k37_open hK
  exact ⟨ad, e, hc 0 _ rfl, by rw [← add_field _ _ 1 (by omega)]; exact hc 1 _ rfl⟩

def rd_L5 (xs : List (List ByteArray)) (i : Int) : (List ByteArray) := xs.getD i.toNat ([] : List ByteArray)
theorem at_L5 {w : World} {A : Option Addr} {n : Nat} {xs : List (List ByteArray)} (h : Kd.C (Kd.slice 9 Kd.string) w A n xs) (i : Int) (h0 : 0 ≤ i) (h1 : i < n) : ∃ ad A0 c0, A = some ad ∧ w.cell? (ad.add i.toNat) = some (.slice A0 (rd_L5 xs i).length c0) ∧ (rd_L5 xs i).length ≤ c0 ∧ Kd.string.C w A0 (rd_L5 xs i).length (rd_L5 xs i) := by
  obtain ⟨ad, c, e, _, hK, hc0⟩ := Kd.C_get h ([] : List ByteArray) i h0 h1
  have hc : ∀ j u, c[j]? = some u → w.cell? (ad.add (i.toNat * 1 + j)) = some u := hc0
  obtain ⟨A0, c0, rfl, l0, g0⟩ := hK
  exact ⟨ad, A0, c0, e, by have hq := hc 0 _ rfl; rwa [Nat.mul_one, Nat.add_zero] at hq, l0, g0⟩

def okS32 (x : S32) : Prop := x.f0.size ≤ maxLen ∧ x.f1.size ≤ maxLen
def okS37 (x : S37) : Prop := x.f0.size ≤ maxLen ∧ x.f1.size ≤ maxLen
end Go.Proofs.Ytcneoonhdfblaaa.Q
