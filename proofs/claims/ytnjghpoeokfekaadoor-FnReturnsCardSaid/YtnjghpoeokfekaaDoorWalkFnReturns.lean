/- The walk of FnReturns at a world where math/bits.deBruijn64tab reads as Go lays it. -/
import Derived.Test.YtnjghpoeokfekaaDoorRet
import Derived.Lib.LaidTab
import Derived.OpenShut
namespace Go.Proofs.YtnjghpoeokfekaaDoor.Door
open Go.RowKit Go.Lib Go.Proofs.YtnjghpoeokfekaaDoor.Q Go.Proofs.YtnjghpoeokfekaaDoor.Pure Go.Proofs.YtnjghpoeokfekaaDoorW.PrintWords Go.Proofs.YtnjghpoeokfekaaDoorW.PrintLast
set_option linter.unusedVariables false
set_option linter.unusedSimpArgs false
theorem law_FnReturns (s : ByteArray) (k : Int) (hk0 : 0 ≤ k) (hk1 : k ≤ 255) (w : World) (hT : TZ w) :
    Calls Tryd.prog 5 #[.string s, .int .u8 k] w fun e w' => e = .returned (.bool true) ∧ Below w.heap.size w w' := by
  have HZ := Aside0.mk hT
  clear hT
  obtain ⟨q, hq⟩ : ∃ q, k % 4 = q := ⟨_, rfl⟩
  have hq2 : Int.tmod k 4 = q := by rw [Int.tmod_eq_emod_of_nonneg hk0]; exact hq
  have hq0 : 0 ≤ q := by omega
  have hq1 : q < 4 := by omega
  go_enter Tryd.func5, Tryd.ntmps5
  by_cases hm : (s.size : Int) > 2147483647
  · go_wp2
    go_ret
    exact ⟨rfl, Below.refl _ _⟩
  obtain ⟨t0, ht1, ht2⟩ := back_ab w HZ.out
  have H1 := Aside0.mk ht1
  have H2 := Aside0.mk ht2
  clear ht1 ht2
  have hm2 : s.size ≤ 2147483647 := by omega
  go_wp2_with fail
  refine H1.out.mono ?_
  rintro e w1 ⟨rfl, hb⟩
  have HB1 := Aside0.mk hb
  have HZ1 := Aside0.mk (HZ.out.below hb)
  clear hb
  go_wp2_with fail
  refine (H2.out _).mono ?_
  rintro e w2 ⟨rfl, hb⟩
  have HB2 := Aside0.mk (below_step HB1.out hb)
  have HZ2 := Aside0.mk (HZ1.out.below hb)
  clear hb H1 H2
  by_cases h5 : (s.size : Int) > 5000
  · go_wp2
    go_ret
    exact ⟨rfl, HB2.out⟩
  obtain ⟨b, ⟨n, hn⟩, hb⟩ := returns_ev s (by omega) q
  have HN := Aside0.mk hn
  have HY := Aside0.mk hb
  clear hn hb
  by_cases hq3 : q = 3
  · subst hq3
    go_wp2_with fail
    refine (laws_low s w2 hm2).mono ?_
    rintro e w3 ⟨rfl, hb⟩
    have HB3 := Aside0.mk (below_step HB2.out hb)
    have HZ3 := Aside0.mk (HZ2.out.below hb)
    clear hb
    cases hL : allFrom lowT s s.size 0 with
    | false =>
      clear hL
      go_wp2
      go_ret
      exact ⟨rfl, HB3.out⟩
    | true =>
    have HL := Aside0.mk hL
    clear hL
    go_wp2_with fail
    refine (spec_Returns.calls n s 3 b w3 HN.out).mono ?_
    rintro e w4 ⟨rfl, ⟨m4, rfl⟩⟩
    have HB4 := Aside0.mk (pw_below_drewN HB3.out m4)
    have HZ4 : Aside0 (TZ (w3.drewN m4)) := Aside0.mk HZ3.out
    cases b with
    | false =>
      go_wp2
      go_ret
      exact ⟨rfl, HB4.out⟩
    | true =>
    have hk : BackOk s 3 := by
      rcases HY.out rfl with h | ⟨_, h0, hv, hc⟩
      · exact absurd h (by decide)
      · cases hl : legFrom s s.size 0 with
        | true => exact back_same s h0 (by omega) hl (hc hl)
        | false => exact back_vals s h0 (by omega) hl (good_valid s s.size 0 HL.out hv)
    obtain ⟨t1, g1, g2⟩ := hk _ HZ4.out
    have G1 := Aside0.mk g1
    have G2 := Aside0.mk g2
    clear g1 g2 hk
    go_wp2_with fail
    refine G1.out.mono ?_
    rintro e w6 ⟨rfl, hb⟩
    have HB6 := Aside0.mk (below_step HB4.out hb)
    clear hb
    go_wp2_with fail
    refine (G2.out _).mono ?_
    rintro e w7 ⟨rfl, hb⟩
    have HB7 := Aside0.mk (below_step HB6.out hb)
    clear hb
    go_wp2
    go_ret
    exact ⟨by first | rfl | simp, HB7.out⟩
  · have hqb : (q == 3) = false := by simpa using hq3
    go_wp2_with fail
    refine (spec_Returns.calls n s q b w2 HN.out).mono ?_
    rintro e w4 ⟨rfl, ⟨m4, rfl⟩⟩
    have HB4 := Aside0.mk (pw_below_drewN HB2.out m4)
    have HZ4 : Aside0 (TZ (w2.drewN m4)) := Aside0.mk HZ2.out
    cases b with
    | false =>
      go_wp2
      go_ret
      exact ⟨rfl, HB4.out⟩
    | true =>
    have hq00 : q = 0 := by
      rcases HY.out rfl with h | ⟨h, _⟩
      · exact h
      · exact absurd h hq3
    subst hq00
    obtain ⟨t1, g1, g2⟩ := back_none s _ HZ4.out
    have G1 := Aside0.mk g1
    have G2 := Aside0.mk g2
    clear g1 g2
    go_wp2_with fail
    refine G1.out.mono ?_
    rintro e w6 ⟨rfl, hb⟩
    have HB6 := Aside0.mk (below_step HB4.out hb)
    clear hb
    go_wp2_with fail
    refine (G2.out _).mono ?_
    rintro e w7 ⟨rfl, hb⟩
    have HB7 := Aside0.mk (below_step HB6.out hb)
    clear hb
    go_wp2
    go_ret
    exact ⟨by first | rfl | simp, HB7.out⟩
end Go.Proofs.YtnjghpoeokfekaaDoor.Door
