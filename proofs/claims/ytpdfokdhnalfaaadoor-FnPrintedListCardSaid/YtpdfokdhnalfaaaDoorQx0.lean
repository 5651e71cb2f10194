-- printed by this project's own program wip/tools/mkprint.py (the kit's print.py with hand-proved contracts put in)
import Derived.Test.YtpdfokdhnalfaaaDoorProg
import Derived.Below
import Derived.Deep.Draws
import Derived.Deep.AppendLies
import Derived.Maps.AppendAt
import Derived.OwnWalk
import Derived.Laws.BytesArg
import Derived.Laws.MakeOwn
import Derived.Laws.OwnMore
import Derived.Deep.OwnRows
import Derived.Tactics
import Derived.Lib.ConvBytes
import Derived.Laws.Slices
import Derived.WalkKit
import Derived.KernelRfl
import Derived.RowKit3
import Derived.Deep.LoopGhost
import Derived.Deep.QuietTactic
import Derived.BigQuiet
import Derived.WideLaws
import Derived.Deep.DeepCutAuto
import Derived.Deep.CutBlock
import Derived.Deep.RegionHeld3
import Derived.Laws.Rows
import Derived.Lib.AppendStr
import Derived.ArgAppend
import Derived.Laws.IdiomCopy
import Derived.OrdersHeld
import Derived.Laws.BitsLemmas
import Derived.RowKit
import Derived.BigCall
import Derived.BigQuiet
import Derived.BigRegion
import Derived.Deep.QuietTactic
import Derived.Deep.RegionHeld3
import Derived.Deep.RegionWith
import Derived.Lib.Join
import Derived.Test.YtpdfokdhnalfaaaDoorBox
import Derived.Test.YtpdfokdhnalfaaaDoorBuf
import Derived.Test.YtpdfokdhnalfaaaDoorMty
import Derived.Test.YtpdfokdhnalfaaaDoorRes
import Derived.Test.YtpdfokdhnalfaaaDoorWWords
import Derived.Test.YtpdfokdhnalfaaaDoorWLast
import Derived.Test.YtpdfokdhnalfaaaDoorWTab
import Derived.Test.YtpdfokdhnalfaaaDoorWFour
import Derived.Test.YtpdfokdhnalfaaaDoorWQPut
import Derived.Test.YtpdfokdhnalfaaaDoorWApart
import Derived.Test.YtpdfokdhnalfaaaDoorWArr
import Derived.Test.YtpdfokdhnalfaaaDoorWZeros
import Derived.Test.YtpdfokdhnalfaaaDoorWFoot
import Derived.Test.YtpdfokdhnalfaaaDoorWKept
import Derived.Test.YtpdfokdhnalfaaaDoorWShare
import Derived.Test.YtpdfokdhnalfaaaDoorWN
import Derived.Test.YtpdfokdhnalfaaaDoorWFootNe
import Derived.Test.YtpdfokdhnalfaaaDoorWAt
import Derived.Test.YtpdfokdhnalfaaaDoorWEqStruct
import Derived.Test.YtpdfokdhnalfaaaDoorWRepsOne
import Derived.Test.YtpdfokdhnalfaaaDoorWInv
import Derived.Test.YtpdfokdhnalfaaaDoorWInvWords
import Derived.Test.YtpdfokdhnalfaaaDoorWGuard
import Derived.Test.YtpdfokdhnalfaaaDoorWNEv
import Derived.Test.YtpdfokdhnalfaaaDoorWMore
namespace Go.Proofs.YtpdfokdhnalfaaaDoor.Q
open Go.RowKit Go.Proofs.YtpdfokdhnalfaaaDoorW.PrintWords Go.Proofs.YtpdfokdhnalfaaaDoorW.PrintLast Go.Proofs.YtpdfokdhnalfaaaDoorW.PrintMore
attribute [local go_sem] max2_int min2_int max_two min_two max_three min_three max_four min_four   -- for this text's walks alone
set_option linter.unusedVariables false
set_option linter.unusedSimpArgs false



def errW : Option Int → Value
  | none => .nilIface
  | some c => .iface 0 (.int .i64 c)
theorem errW_none : errW none = .nilIface := rfl
theorem errW_some (c : Int) : errW (some c) = .iface 0 (.int .i64 c) := rfl

theorem info5 : (Tryd.prog.info? 5).map (fun i => (i.zero, i.size, i.bytes)) = some (some (.int .u8 0), 1, 1) := by kernel_rfl
theorem info28 : (Tryd.prog.info? 28).map (fun i => (i.zero, i.size, i.bytes)) = some (some (.agg #[(.int .i64 0), (.string ⟨#[]⟩), (.string ⟨#[]⟩)]), 3, 40) := by kernel_rfl
-- the values' own types
/-! #### struct type 72 -/
structure S72 where
  f0 : Int
  f1 : ByteArray
  f2 : ByteArray
def z72 : S72 := ⟨(0 : Int), (⟨#[]⟩ : ByteArray), (⟨#[]⟩ : ByteArray)⟩
def k72 : Kd S72 := Kd.iso (Kd.pair (Kd.int .i64) (Kd.pair Kd.string Kd.string)) (fun x : S72 => (x.f0, x.f1, x.f2))
theorem k72_open {w : World} {x : S72} {cs : List Value} (h : k72.K w x cs) : cs = [.int .i64 x.f0, .string x.f1, .string x.f2] := by
  obtain ⟨_, _, rfl, rfl, ⟨_, _, rfl, rfl, rfl⟩⟩ := h
  exact rfl
theorem k72_openM {w : World} {base : Nat} {ok : Nat → Prop} {x : S72} {cs : List Value} (h : k72.M w base ok x cs) : cs = [.int .i64 x.f0, .string x.f1, .string x.f2] := by
  obtain ⟨_, _, rfl, rfl, ⟨_, _, rfl, rfl, rfl⟩⟩ := h
  exact rfl
theorem k72_mk (w : World) (x : S72)  : k72.K w x [.int .i64 x.f0, .string x.f1, .string x.f2] := ⟨[.int .i64 x.f0], [.string x.f1, .string x.f2], rfl, rfl, ⟨[.string x.f1], [.string x.f2], rfl, rfl, rfl⟩⟩
theorem k72_mkM (w : World) (base : Nat) (ok : Nat → Prop) (x : S72)  : k72.M w base ok x [.int .i64 x.f0, .string x.f1, .string x.f2] := ⟨[.int .i64 x.f0], [.string x.f1, .string x.f2], rfl, rfl, ⟨[.string x.f1], [.string x.f2], rfl, rfl, rfl⟩⟩
def rd_T72 (xs : List S72) (i : Int) : S72 := xs.getD i.toNat z72
theorem at_T72 {w : World} {A : Option Addr} {n : Nat} {xs : List S72} (h : Kd.C k72 w A n xs) (i : Int) (h0 : 0 ≤ i) (h1 : i < n) : ∃ ad , A = some ad ∧ w.cell? (ad.add (i.toNat * 3)) = some (.int .i64 (rd_T72 xs i).f0) ∧ w.cell? ⟨(ad.add (i.toNat * 3)).block, (ad.add (i.toNat * 3)).off + 1, none⟩ = some (.string (rd_T72 xs i).f1) ∧ w.cell? ⟨(ad.add (i.toNat * 3)).block, (ad.add (i.toNat * 3)).off + 2, none⟩ = some (.string (rd_T72 xs i).f2) := by
  obtain ⟨ad, c, e, _, hK, hc0⟩ := Kd.C_get h z72 i h0 h1
  have hc : ∀ j u, c[j]? = some u → w.cell? (ad.add (i.toNat * 3 + j)) = some u := hc0
  obtain rfl := k72_open hK
  exact ⟨ad, e, hc 0 _ rfl, by rw [← add_field _ _ 1 (by omega)]; exact hc 1 _ rfl, by rw [← add_field _ _ 2 (by omega)]; exact hc 2 _ rfl⟩

/-! #### struct type 23 -/
structure S23 where
  f0 : Int
  f1 : ByteArray
  f2 : ByteArray
def z23 : S23 := ⟨(0 : Int), (⟨#[]⟩ : ByteArray), (⟨#[]⟩ : ByteArray)⟩
def k23 : Kd S23 := Kd.iso (Kd.pair (Kd.int .i64) (Kd.pair Kd.string Kd.string)) (fun x : S23 => (x.f0, x.f1, x.f2))
theorem k23_open {w : World} {x : S23} {cs : List Value} (h : k23.K w x cs) : cs = [.int .i64 x.f0, .string x.f1, .string x.f2] := by
  obtain ⟨_, _, rfl, rfl, ⟨_, _, rfl, rfl, rfl⟩⟩ := h
  exact rfl
theorem k23_openM {w : World} {base : Nat} {ok : Nat → Prop} {x : S23} {cs : List Value} (h : k23.M w base ok x cs) : cs = [.int .i64 x.f0, .string x.f1, .string x.f2] := by
  obtain ⟨_, _, rfl, rfl, ⟨_, _, rfl, rfl, rfl⟩⟩ := h
  exact rfl
theorem k23_mk (w : World) (x : S23)  : k23.K w x [.int .i64 x.f0, .string x.f1, .string x.f2] := ⟨[.int .i64 x.f0], [.string x.f1, .string x.f2], rfl, rfl, ⟨[.string x.f1], [.string x.f2], rfl, rfl, rfl⟩⟩
theorem k23_mkM (w : World) (base : Nat) (ok : Nat → Prop) (x : S23)  : k23.M w base ok x [.int .i64 x.f0, .string x.f1, .string x.f2] := ⟨[.int .i64 x.f0], [.string x.f1, .string x.f2], rfl, rfl, ⟨[.string x.f1], [.string x.f2], rfl, rfl, rfl⟩⟩
def rd_T23 (xs : List S23) (i : Int) : S23 := xs.getD i.toNat z23
theorem at_T23 {w : World} {A : Option Addr} {n : Nat} {xs : List S23} (h : Kd.C k23 w A n xs) (i : Int) (h0 : 0 ≤ i) (h1 : i < n) : ∃ ad , A = some ad ∧ w.cell? (ad.add (i.toNat * 3)) = some (.int .i64 (rd_T23 xs i).f0) ∧ w.cell? ⟨(ad.add (i.toNat * 3)).block, (ad.add (i.toNat * 3)).off + 1, none⟩ = some (.string (rd_T23 xs i).f1) ∧ w.cell? ⟨(ad.add (i.toNat * 3)).block, (ad.add (i.toNat * 3)).off + 2, none⟩ = some (.string (rd_T23 xs i).f2) := by
  obtain ⟨ad, c, e, _, hK, hc0⟩ := Kd.C_get h z23 i h0 h1
  have hc : ∀ j u, c[j]? = some u → w.cell? (ad.add (i.toNat * 3 + j)) = some u := hc0
  obtain rfl := k23_open hK
  exact ⟨ad, e, hc 0 _ rfl, by rw [← add_field _ _ 1 (by omega)]; exact hc 1 _ rfl, by rw [← add_field _ _ 2 (by omega)]; exact hc 2 _ rfl⟩

/-! #### struct type 138 -/
structure S138 where
  f0 : Int
  f1 : Int
  f2 : Int
def z138 : S138 := ⟨(0 : Int), (0 : Int), (0 : Int)⟩
def k138 : Kd S138 := Kd.iso (Kd.pair (Kd.int .u16) (Kd.pair (Kd.int .u16) (Kd.int .u16))) (fun x : S138 => (x.f0, x.f1, x.f2))
theorem k138_open {w : World} {x : S138} {cs : List Value} (h : k138.K w x cs) : cs = [.int .u16 x.f0, .int .u16 x.f1, .int .u16 x.f2] := by
  obtain ⟨_, _, rfl, rfl, ⟨_, _, rfl, rfl, rfl⟩⟩ := h
  exact rfl
theorem k138_openM {w : World} {base : Nat} {ok : Nat → Prop} {x : S138} {cs : List Value} (h : k138.M w base ok x cs) : cs = [.int .u16 x.f0, .int .u16 x.f1, .int .u16 x.f2] := by
  obtain ⟨_, _, rfl, rfl, ⟨_, _, rfl, rfl, rfl⟩⟩ := h
  exact rfl
theorem k138_mk (w : World) (x : S138)  : k138.K w x [.int .u16 x.f0, .int .u16 x.f1, .int .u16 x.f2] := ⟨[.int .u16 x.f0], [.int .u16 x.f1, .int .u16 x.f2], rfl, rfl, ⟨[.int .u16 x.f1], [.int .u16 x.f2], rfl, rfl, rfl⟩⟩
theorem k138_mkM (w : World) (base : Nat) (ok : Nat → Prop) (x : S138)  : k138.M w base ok x [.int .u16 x.f0, .int .u16 x.f1, .int .u16 x.f2] := ⟨[.int .u16 x.f0], [.int .u16 x.f1, .int .u16 x.f2], rfl, rfl, ⟨[.int .u16 x.f1], [.int .u16 x.f2], rfl, rfl, rfl⟩⟩
def rd_T138 (xs : List S138) (i : Int) : S138 := xs.getD i.toNat z138
theorem at_T138 {w : World} {A : Option Addr} {n : Nat} {xs : List S138} (h : Kd.C k138 w A n xs) (i : Int) (h0 : 0 ≤ i) (h1 : i < n) : ∃ ad , A = some ad ∧ w.cell? (ad.add (i.toNat * 3)) = some (.int .u16 (rd_T138 xs i).f0) ∧ w.cell? ⟨(ad.add (i.toNat * 3)).block, (ad.add (i.toNat * 3)).off + 1, none⟩ = some (.int .u16 (rd_T138 xs i).f1) ∧ w.cell? ⟨(ad.add (i.toNat * 3)).block, (ad.add (i.toNat * 3)).off + 2, none⟩ = some (.int .u16 (rd_T138 xs i).f2) := by
  obtain ⟨ad, c, e, _, hK, hc0⟩ := Kd.C_get h z138 i h0 h1
  have hc : ∀ j u, c[j]? = some u → w.cell? (ad.add (i.toNat * 3 + j)) = some u := hc0
  obtain rfl := k138_open hK
  exact ⟨ad, e, hc 0 _ rfl, by rw [← add_field _ _ 1 (by omega)]; exact hc 1 _ rfl, by rw [← add_field _ _ 2 (by omega)]; exact hc 2 _ rfl⟩

/-! #### struct type 141 -/
structure S141 where
  f0 : Int
  f1 : Int
  f2 : Int
def z141 : S141 := ⟨(0 : Int), (0 : Int), (0 : Int)⟩
def k141 : Kd S141 := Kd.iso (Kd.pair (Kd.int .u32) (Kd.pair (Kd.int .u32) (Kd.int .u32))) (fun x : S141 => (x.f0, x.f1, x.f2))
theorem k141_open {w : World} {x : S141} {cs : List Value} (h : k141.K w x cs) : cs = [.int .u32 x.f0, .int .u32 x.f1, .int .u32 x.f2] := by
  obtain ⟨_, _, rfl, rfl, ⟨_, _, rfl, rfl, rfl⟩⟩ := h
  exact rfl
theorem k141_openM {w : World} {base : Nat} {ok : Nat → Prop} {x : S141} {cs : List Value} (h : k141.M w base ok x cs) : cs = [.int .u32 x.f0, .int .u32 x.f1, .int .u32 x.f2] := by
  obtain ⟨_, _, rfl, rfl, ⟨_, _, rfl, rfl, rfl⟩⟩ := h
  exact rfl
theorem k141_mk (w : World) (x : S141)  : k141.K w x [.int .u32 x.f0, .int .u32 x.f1, .int .u32 x.f2] := ⟨[.int .u32 x.f0], [.int .u32 x.f1, .int .u32 x.f2], rfl, rfl, ⟨[.int .u32 x.f1], [.int .u32 x.f2], rfl, rfl, rfl⟩⟩
theorem k141_mkM (w : World) (base : Nat) (ok : Nat → Prop) (x : S141)  : k141.M w base ok x [.int .u32 x.f0, .int .u32 x.f1, .int .u32 x.f2] := ⟨[.int .u32 x.f0], [.int .u32 x.f1, .int .u32 x.f2], rfl, rfl, ⟨[.int .u32 x.f1], [.int .u32 x.f2], rfl, rfl, rfl⟩⟩
def rd_T141 (xs : List S141) (i : Int) : S141 := xs.getD i.toNat z141
theorem at_T141 {w : World} {A : Option Addr} {n : Nat} {xs : List S141} (h : Kd.C k141 w A n xs) (i : Int) (h0 : 0 ≤ i) (h1 : i < n) : ∃ ad , A = some ad ∧ w.cell? (ad.add (i.toNat * 3)) = some (.int .u32 (rd_T141 xs i).f0) ∧ w.cell? ⟨(ad.add (i.toNat * 3)).block, (ad.add (i.toNat * 3)).off + 1, none⟩ = some (.int .u32 (rd_T141 xs i).f1) ∧ w.cell? ⟨(ad.add (i.toNat * 3)).block, (ad.add (i.toNat * 3)).off + 2, none⟩ = some (.int .u32 (rd_T141 xs i).f2) := by
  obtain ⟨ad, c, e, _, hK, hc0⟩ := Kd.C_get h z141 i h0 h1
  have hc : ∀ j u, c[j]? = some u → w.cell? (ad.add (i.toNat * 3 + j)) = some u := hc0
  obtain rfl := k141_open hK
  exact ⟨ad, e, hc 0 _ rfl, by rw [← add_field _ _ 1 (by omega)]; exact hc 1 _ rfl, by rw [← add_field _ _ 2 (by omega)]; exact hc 2 _ rfl⟩

def rd_L9 (xs : List (List S23)) (i : Int) : (List S23) := xs.getD i.toNat ([] : List S23)
theorem at_L9 {w : World} {A : Option Addr} {n : Nat} {xs : List (List S23)} (h : Kd.C (Kd.slice 23 k23) w A n xs) (i : Int) (h0 : 0 ≤ i) (h1 : i < n) : ∃ ad A0 c0, A = some ad ∧ w.cell? (ad.add i.toNat) = some (.slice A0 (rd_L9 xs i).length c0) ∧ (rd_L9 xs i).length ≤ c0 ∧ k23.C w A0 (rd_L9 xs i).length (rd_L9 xs i) := by
  obtain ⟨ad, c, e, _, hK, hc0⟩ := Kd.C_get h ([] : List S23) i h0 h1
  have hc : ∀ j u, c[j]? = some u → w.cell? (ad.add (i.toNat * 1 + j)) = some u := hc0
  obtain ⟨A0, c0, rfl, l0, g0⟩ := hK
  exact ⟨ad, A0, c0, e, by have hq := hc 0 _ rfl; rwa [Nat.mul_one, Nat.add_zero] at hq, l0, g0⟩

/-! #### struct type 28 -/
structure S28 where
  f0 : Int
  f1 : ByteArray
  f2 : ByteArray
def z28 : S28 := ⟨(0 : Int), (⟨#[]⟩ : ByteArray), (⟨#[]⟩ : ByteArray)⟩
def k28 : Kd S28 := Kd.iso (Kd.pair (Kd.int .i64) (Kd.pair Kd.string Kd.string)) (fun x : S28 => (x.f0, x.f1, x.f2))
theorem k28_open {w : World} {x : S28} {cs : List Value} (h : k28.K w x cs) : cs = [.int .i64 x.f0, .string x.f1, .string x.f2] := by
  obtain ⟨_, _, rfl, rfl, ⟨_, _, rfl, rfl, rfl⟩⟩ := h
  exact rfl
theorem k28_openM {w : World} {base : Nat} {ok : Nat → Prop} {x : S28} {cs : List Value} (h : k28.M w base ok x cs) : cs = [.int .i64 x.f0, .string x.f1, .string x.f2] := by
  obtain ⟨_, _, rfl, rfl, ⟨_, _, rfl, rfl, rfl⟩⟩ := h
  exact rfl
theorem k28_mk (w : World) (x : S28)  : k28.K w x [.int .i64 x.f0, .string x.f1, .string x.f2] := ⟨[.int .i64 x.f0], [.string x.f1, .string x.f2], rfl, rfl, ⟨[.string x.f1], [.string x.f2], rfl, rfl, rfl⟩⟩
theorem k28_mkM (w : World) (base : Nat) (ok : Nat → Prop) (x : S28)  : k28.M w base ok x [.int .i64 x.f0, .string x.f1, .string x.f2] := ⟨[.int .i64 x.f0], [.string x.f1, .string x.f2], rfl, rfl, ⟨[.string x.f1], [.string x.f2], rfl, rfl, rfl⟩⟩
def rd_T28 (xs : List S28) (i : Int) : S28 := xs.getD i.toNat z28
theorem at_T28 {w : World} {A : Option Addr} {n : Nat} {xs : List S28} (h : Kd.C k28 w A n xs) (i : Int) (h0 : 0 ≤ i) (h1 : i < n) : ∃ ad , A = some ad ∧ w.cell? (ad.add (i.toNat * 3)) = some (.int .i64 (rd_T28 xs i).f0) ∧ w.cell? ⟨(ad.add (i.toNat * 3)).block, (ad.add (i.toNat * 3)).off + 1, none⟩ = some (.string (rd_T28 xs i).f1) ∧ w.cell? ⟨(ad.add (i.toNat * 3)).block, (ad.add (i.toNat * 3)).off + 2, none⟩ = some (.string (rd_T28 xs i).f2) := by
  obtain ⟨ad, c, e, _, hK, hc0⟩ := Kd.C_get h z28 i h0 h1
  have hc : ∀ j u, c[j]? = some u → w.cell? (ad.add (i.toNat * 3 + j)) = some u := hc0
  obtain rfl := k28_open hK
  exact ⟨ad, e, hc 0 _ rfl, by rw [← add_field _ _ 1 (by omega)]; exact hc 1 _ rfl, by rw [← add_field _ _ 2 (by omega)]; exact hc 2 _ rfl⟩

def okS72 (x : S72) : Prop := (Lit.int .i64 x.f0).wf = true ∧ x.f1.size ≤ maxLen ∧ x.f2.size ≤ maxLen
def okS23 (x : S23) : Prop := (Lit.int .i64 x.f0).wf = true ∧ x.f1.size ≤ maxLen ∧ x.f2.size ≤ maxLen
def okS138 (x : S138) : Prop := (Lit.int .u16 x.f0).wf = true ∧ (Lit.int .u16 x.f1).wf = true ∧ (Lit.int .u16 x.f2).wf = true
def okS141 (x : S141) : Prop := (Lit.int .u32 x.f0).wf = true ∧ (Lit.int .u32 x.f1).wf = true ∧ (Lit.int .u32 x.f2).wf = true
def okS28 (x : S28) : Prop := (Lit.int .i64 x.f0).wf = true ∧ x.f1.size ≤ maxLen ∧ x.f2.size ≤ maxLen
end Go.Proofs.YtpdfokdhnalfaaaDoor.Q
