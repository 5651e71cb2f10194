/- spec.Runes counts the characters. -/
import Derived.Test.YthpaplpnbklojaaDoorQx2
import Derived.Test.YthpaplpnbklojaaDoorRuneList
set_option linter.unusedVariables false
set_option linter.unusedSimpArgs false
namespace Go.Proofs.YthpaplpnbklojaaDoor.Pure
open Go.RowKit Go.Lib Go.Proofs.YthpaplpnbklojaaDoor.Q Go.Proofs.YthpaplpnbklojaaDoorW.PrintWords Go.Proofs.YthpaplpnbklojaaDoorW.PrintLast
theorem runes_ev : ∀ (n : Nat) (s : ByteArray) (a : Nat), s.size ≤ n → a + n ≤ 9223372036854775807 → Ev (fun k => spec_Runes.l0 k s (a : Int)) ((a + count s.data.toList : Nat) : Int)
  | n, s, a, hn, ha => by
    by_cases h0 : s.size = 0
    · have : s.data.toList = [] := List.eq_nil_of_length_eq_zero (by rw [size_length]; exact h0)
      rw [this]
      refine ev_succ fun k => ?_
      simp only [spec_Runes.l0]
      rw [if_neg (by omega)]
      rfl
    cases n with
    | zero => omega
    | succ n =>
    have hne : s.data.toList ≠ [] := fun e => h0 (by rw [← size_length, e]; rfl)
    obtain ⟨p1, p2⟩ := clen_pos _ hne
    rw [size_length] at p2
    have hr := runeLen_ev s (by omega)
    have ih := runes_ev n (s.extract (clen s.data.toList) s.size) (a + 1) (by rw [extract_size]; omega) (by omega)
    rw [extract_list] at ih
    have hw : wrap64 ((a : Int) + 1) = ((a + 1 : Nat) : Int) := by unfold wrap64; omega
    refine Ev.step (f := fun k => (spec_runeLen.f k s).bind fun t => _) (fun k => by simp only [spec_Runes.l0]; rw [if_pos (by omega)]) (Ev.bind hr ?_)
    rw [Int.toNat_natCast, count_step _ hne, ← Nat.add_assoc, hw]
    exact ev_ite_pos (by omega) (ev_ite_pos (by omega) ih)
theorem specRunes_ev (s : ByteArray) (h : s.size ≤ 9223372036854775807) : Ev (fun k => spec_Runes.f k s) ((count s.data.toList : Nat) : Int) := by
  have := runes_ev s.size s 0 (Nat.le_refl _) (by omega)
  rw [Nat.zero_add] at this
  exact this
end Go.Proofs.YthpaplpnbklojaaDoor.Pure
