/- Alerts of templates as rows of cells: each with its status and the moment at which it began. -/
import Derived.Test.YthjameohenmeiaaBox
import Derived.Lib.Strings
set_option linter.unusedVariables false
set_option linter.unusedSimpArgs false
namespace Go.Proofs.Ythjameohenmeiaa.Q
open Go.RowKit Go.Proofs.YthjameohenmeiaaW.PrintWords Go.Proofs.YthjameohenmeiaaW.PrintLast
/-- A value in n cells, of itself alone. -/
def flat {α : Type} (n : Nat) (enc : α → List Value) (hn : ∀ x, (enc x).length = n) (h1 : ∀ x, ∀ u ∈ enc x, u.oneCell' = true) : Kd α where
  sz := n
  E := []
  K := fun _ x cs => cs = enc x
  M := fun _ _ _ x cs => cs = enc x
  K_len := fun h => by rw [h]; exact hn _
  K_one := fun h u hu => h1 _ u (by rw [← h]; exact hu)
  K_below := fun _ h => h
  K_of_M := fun h => h
  M_mono := fun _ h => h
  M_bound := fun h => h
  M_move := fun _ h => h
  M_lower := fun _ h => h
theorem ba_of_toList {a b : ByteArray} (h : a.toList = b.toList) : a = b := ByteArray.ext (Array.toList_inj.1 (by rw [← Lib.toList_data, ← Lib.toList_data]; exact h))
def nsN (n : Nat) : Int := ((n % 1000000000 : Nat) : Int)
def scN (n : Nat) : Int := ((n / 1000000000 : Nat) : Int)
def alE (p : ByteArray × Nat) : List Value := [.string p.1, .map none, .map none, .int .u64 (nsN p.2), .int .i64 (scN p.2), .pointer none, .int .u64 0, .int .i64 0, .pointer none, .string ⟨#[]⟩, .string ⟨#[]⟩]
theorem alE_one (x : ByteArray × Nat) (u : Value) (hu : u ∈ alE x) : u.oneCell' = true := by
  simp only [alE, List.mem_cons, List.not_mem_nil, or_false] at hu
  rcases hu with rfl | rfl | rfl | rfl | rfl | rfl | rfl | rfl | rfl | rfl | rfl <;> rfl
def kAl : Kd (ByteArray × Nat) := flat 11 alE (fun _ => rfl) alE_one
def zAl : ByteArray × Nat := (ByteArray.empty, 0)
theorem at_kAl {w : World} {A : Option Addr} {n : Nat} {xs : List (ByteArray × Nat)} (h : Kd.C kAl w A n xs) (i : Nat) (h1 : i < n) : ∃ ad, A = some ad ∧ w.cell? (ad.add (i * 11)) = some (.string (xs.getD i zAl).1) ∧
    (∀ j u, (alE (xs.getD i zAl))[j + 1]? = some u → w.cell? ⟨(ad.add (i * 11)).block, (ad.add (i * 11)).off + (j + 1), none⟩ = some u) := by
  obtain ⟨ad, c, e, _, hK, hc0⟩ := Kd.C_get h zAl (i : Int) (by omega) (by omega)
  have hK' : c = alE (xs.getD i zAl) := hK
  subst hK'
  have hc : ∀ j u, (alE (xs.getD i zAl))[j]? = some u → w.cell? (ad.add (i * 11 + j)) = some u := hc0
  exact ⟨ad, e, hc 0 _ rfl, fun j u hu => by rw [← add_field _ _ (j + 1) (by omega)]; exact hc (j + 1) u hu⟩
end Go.Proofs.Ythjameohenmeiaa.Q
