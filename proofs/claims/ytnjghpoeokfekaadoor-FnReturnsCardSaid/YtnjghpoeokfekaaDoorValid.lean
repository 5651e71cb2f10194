/- spec.Valid is utf8's own word. -/
import Derived.Test.YtnjghpoeokfekaaDoorQx5
import Derived.Test.YtnjghpoeokfekaaDoorClen
set_option linter.unusedVariables false
set_option linter.unusedSimpArgs false
namespace Go.Proofs.YtnjghpoeokfekaaDoor.Pure
open Go.RowKit Go.Lib Go.Proofs.YtnjghpoeokfekaaDoor.Q Go.Proofs.YtnjghpoeokfekaaDoorW.PrintWords Go.Proofs.YtnjghpoeokfekaaDoorW.PrintLast
theorem valid_ev : ∀ (n : Nat) (s : ByteArray), s.size ≤ n → Ev (fun k => spec_Valid.l0 k s) (validD s.data.toList)
  | n, s, hn => by
    by_cases h0 : s.size = 0
    · have : s.data.toList = [] := List.eq_nil_of_length_eq_zero (by rw [size_length]; exact h0)
      rw [this]
      refine ev_succ fun k => ?_
      simp only [spec_Valid.l0]
      rw [if_neg (by omega)]
      rfl
    cases n with
    | zero => omega
    | succ n =>
    have hne : s.data.toList ≠ [] := fun e => h0 (by rw [← size_length, e]; rfl)
    obtain ⟨p1, p2⟩ := clen_pos _ hne
    rw [size_length] at p2
    have hr := runeLen_ev s (by omega)
    have ih := valid_ev n (s.extract (clen s.data.toList) s.size) (by rw [extract_size]; omega)
    rw [extract_list] at ih
    refine Ev.step (f := fun k => (spec_runeLen.f k s).bind fun t101 => _) (fun k => by simp only [spec_Valid.l0]; rw [if_pos (by omega)]) (Ev.bind hr ?_)
    rw [bt0, Int.toNat_natCast]
    rcases clen_cases _ hne with ⟨a, b, c⟩ | ⟨a, b, c⟩ | ⟨a, b, b', c⟩
    · rw [b] at ih ⊢
      rw [c]
      refine ev_ite_pos rfl (ev_ite_pos (by omega) (ev_ite_neg (by unfold bn; omega) (ev_ite_pos (by omega) (ev_ite_pos (by omega) ih))))
    · rw [b, c]
      refine ev_ite_pos rfl (ev_ite_pos (by omega) (ev_ite_pos (by unfold bn; omega) (Ev.now _)))
    · rw [c]
      exact ev_ite_neg (by omega) (ev_ite_pos (by omega) (ev_ite_pos (by omega) ih))
theorem specValid_ev (s : ByteArray) : Ev (fun k => spec_Valid.f k s) (validD s.data.toList) := valid_ev s.size s (Nat.le_refl _)
end Go.Proofs.YtnjghpoeokfekaaDoor.Pure
