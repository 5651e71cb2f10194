/- The walk of FnUnescaped at a world where math/bits.deBruijn64tab reads as Go lays it. -/
import Derived.Test.YtnjghpoeokfekaaDoorUnesc
import Derived.Test.YtnjghpoeokfekaaDoorQx3
import Derived.Lib.LaidTab
import Derived.OpenShut
namespace Go.Proofs.YtnjghpoeokfekaaDoor.Door
open Go.RowKit Go.Lib Go.Proofs.YtnjghpoeokfekaaDoor.Q Go.Proofs.YtnjghpoeokfekaaDoor.Pure Go.Proofs.YtnjghpoeokfekaaDoorW.PrintWords Go.Proofs.YtnjghpoeokfekaaDoorW.PrintLast
set_option linter.unusedVariables false
set_option linter.unusedSimpArgs false
set_option maxHeartbeats 4000000 in
set_option maxRecDepth 1000000 in
theorem laws_simple (s : ByteArray) (w : World) (hs : s.size ≤ 2147483647) :
    Calls Tryd.prog 16 #[.string s] w fun e w' => e = .returned (.bool (allFrom simpT s s.size 0 && decide (s.size ≤ 65536))) ∧ Below w.heap.size w w' := by
  obtain ⟨R, hR⟩ : ∃ R, allFrom simpT s s.size 0 = R := ⟨_, rfl⟩
  rw [hR]
  have HR := Aside0.mk hR
  clear hR
  go_enter Tryd.func16, Tryd.ntmps16
  go_wp2
  go_loopw [] (fun wr => ∃ (pos fuel : Nat), Aside0 (wr.heap[w.heap.size]? = some (.stringIter s pos) ∧ Below w.heap.size w wr ∧ allFrom simpT s fuel pos = R ∧ s.size ≤ pos + fuel)) (fun wr => s.size - wr.iterPos w.heap.size)
  case atStart => exact ⟨0, s.size, Aside0.mk ⟨World.iter_heap w s 0, (Below.refl _ w).alloc (Nat.le_refl _) _, HR.out, by omega⟩⟩
  case round =>
    obtain ⟨pos, fuel, HR⟩ := hrel
    obtain ⟨hit, hbw, hacc, hfu⟩ := HR.out
    clear HR
    have HA := Aside0.mk hacc
    clear hacc
    have hsz : w.heap.size < wr.heap.size := (Array.getElem?_eq_some_iff.1 hit).1
    by_cases hp : pos < s.size
    · have hnx : ∀ ty, (Instr.next (.pointer (some ⟨w.heap.size, 0, none⟩)) true ty).run Tryd.prog wr = _ := fun ty => Lib.run_next_any_at wr w.heap.size s pos ty hit hp
      have hwd := Lib.decode_width_pos s pos hp
      have hd1 := decode_le s pos
      obtain ⟨f, rfl⟩ : ∃ f, fuel = f + 1 := ⟨fuel - 1, by omega⟩
      have hstep := allFrom_step (t := simpT) (fuel := f) hp
      obtain ⟨⟨r, wd⟩, hq⟩ : ∃ q, Utf8.decode s pos = q := ⟨_, rfl⟩
      rw [hq] at hnx hwd hd1 hstep
      simp only at hnx hwd hd1 hstep
      rw [hstep] at HA
      have HT := Aside0.mk hit
      have HT2 := Aside0.mk (Lib.iterAt_heap wr w.heap.size s pos (pos + wd) hit)
      have HB2 := Aside0.mk (Lib.below_iterAt hbw (k := w.heap.size) (by omega) s (pos + wd))
      clear hq hstep hit hbw
      by_cases hr : r = 126 ∨ r = 65533
      · have ht : simpT r = false := by rcases hr with rfl | rfl <;> decide
        have hR : false = R := by rw [← HA.out, ht]; rfl
        subst hR
        clear HA ht
        rcases hr with rfl | rfl
        · go_wp2
          go_ret
          exact ⟨rfl, HB2.out⟩
        · go_wp2
          go_ret
          exact ⟨rfl, HB2.out⟩
      · have ht : simpT r = true := by
          unfold simpT
          rw [decide_eq_false (fun h => hr (Or.inl h)), decide_eq_false (fun h => hr (Or.inr h))]
          rfl
        have HA2 := Aside0.mk (show allFrom simpT s f (pos + wd) = R by rw [← HA.out, ht]; rfl)
        have hb1 : ((r : Int) == 126) = false := by simpa using (show ¬ (r : Int) = 126 by omega)
        have hb2 : ((r : Int) == 65533) = false := by simpa using (show ¬ (r : Int) = 65533 by omega)
        clear HA ht hr hd1
        go_wp2
        go_roundw
        case rel => exact ⟨pos + wd, f, Aside0.mk ⟨HT2.out, HB2.out, HA2.out, by omega⟩⟩
        case measure =>
          have e1 : (wr.iterAt w.heap.size s (pos + wd)).iterPos w.heap.size = pos + wd := by
            have := HT2.out
            simp only [World.iterPos, this]
          have e2 : wr.iterPos w.heap.size = pos := by simp only [World.iterPos, HT.out]
          show s.size - (wr.iterAt w.heap.size s (pos + wd)).iterPos w.heap.size < s.size - wr.iterPos w.heap.size
          rw [e1, e2]
          omega
    · have hnx : ∀ ty, (Instr.next (.pointer (some ⟨w.heap.size, 0, none⟩)) true ty).run Tryd.prog wr = _ := fun ty => Lib.run_next_end_at wr w.heap.size s pos ty hit hp
      have HB := Aside0.mk hbw
      clear hbw
      have hR := HA.out
      rw [allFrom_end simpT s fuel pos hp] at hR
      subst hR
      have hdz : decide ((s.size : Int) ≤ 65536) = decide (s.size ≤ 65536) := decide_eq_decide.2 (by omega)
      go_wp2
      go_ret
      exact ⟨by first | rfl | (simp; done) | (rw [Bool.true_and]; simp; omega), HB.out⟩
theorem impl_legacy (s : ByteArray) (w : World) (hs : s.size ≤ 2147483647) :
    Calls Tryd.prog 17 #[.string s] w fun e w' => e = .returned (.bool (!decide (s.size = 0) && legFrom s s.size 0)) ∧ Below w.heap.size w w' := by
  have H : Aside0 (Calls Tryd.prog 25 #[.string s] w fun e w' => e = .returned (.bool (!decide (s.size = 0) && legFrom s s.size 0)) ∧ Below w.heap.size w w') := by
    by_cases h0 : s.size = 0
    · rw [decide_eq_true h0]
      refine Aside0.mk ((model_IsValidLegacyMetricName.calls s false w (by unfold model_IsValidLegacyMetricName.f; rw [if_pos (by omega)])).mono fun e w' ⟨h, hd⟩ => ⟨h, ?_⟩)
      first
      | exact hd
      | (obtain ⟨n, rfl⟩ := hd; exact pw_below_drewN (Below.refl _ _) n)
    · rw [decide_eq_false h0]
      exact Aside0.mk (legacy_name s w h0 hs)
  generalize (!decide (s.size = 0) && legFrom s s.size 0) = v at H ⊢
  go_enter Tryd.func17, Tryd.ntmps17
  go_wp2_with fail
  refine H.out.mono ?_
  rintro e w1 ⟨rfl, hb⟩
  go_wp2
  go_ret
  exact ⟨rfl, hb⟩
theorem law_FnUnescaped (s : ByteArray) (w : World) (hT : TZ w) :
    Calls Tryd.prog 6 #[.string s] w fun e w' => e = .returned (.bool true) ∧ Below w.heap.size w w' := by
  have HZ := Aside0.mk hT
  clear hT
  go_enter Tryd.func6, Tryd.ntmps6
  by_cases hm : (s.size : Int) > 2147483647
  · go_wp2
    go_ret
    exact ⟨rfl, Below.refl _ _⟩
  obtain ⟨t0, ht1, ht2⟩ := back_ab w HZ.out
  have H1 := Aside0.mk ht1
  have H2 := Aside0.mk ht2
  clear ht1 ht2
  have hm2 : s.size ≤ 2147483647 := by omega
  go_wp2_with fail
  refine H1.out.mono ?_
  rintro e w1 ⟨rfl, hb⟩
  have HB1 := Aside0.mk hb
  have HZ1 := Aside0.mk (HZ.out.below hb)
  clear hb
  go_wp2_with fail
  refine (H2.out _).mono ?_
  rintro e w2 ⟨rfl, hb⟩
  have HB2 := Aside0.mk (below_step HB1.out hb)
  have HZ2 := Aside0.mk (HZ1.out.below hb)
  clear hb H1 H2
  by_cases h5 : (s.size : Int) > 5000
  · go_wp2
    go_ret
    exact ⟨rfl, HB2.out⟩
  go_wp2_with fail
  refine (laws_simple s w2 hm2).mono ?_
  rintro e w3 ⟨rfl, hb⟩
  have HB3 := Aside0.mk (below_step HB2.out hb)
  have HZ3 := Aside0.mk (HZ2.out.below hb)
  clear hb
  have hd6 : decide (s.size ≤ 65536) = true := decide_eq_true (by omega)
  rw [hd6, Bool.and_true]
  clear hd6
  cases hS : allFrom simpT s s.size 0 with
  | false =>
    clear hS
    go_wp2
    go_ret
    exact ⟨rfl, HB3.out⟩
  | true =>
  have HS := Aside0.mk hS
  clear hS
  go_wp2_with fail
  refine (laws_low s w3 hm2).mono ?_
  rintro e w4 ⟨rfl, hb⟩
  have HB4 := Aside0.mk (below_step HB3.out hb)
  have HZ4 := Aside0.mk (HZ3.out.below hb)
  clear hb
  cases hL : allFrom lowT s s.size 0 with
  | false =>
    clear hL
    go_wp2
    go_ret
    exact ⟨rfl, HB4.out⟩
  | true =>
  have HG := Aside0.mk (good_simple s s.size 0 hL HS.out)
  clear hL
  go_wp2_with fail
  refine (impl_legacy s w4 hm2).mono ?_
  rintro e w5 ⟨rfl, hb⟩
  have HB5 := Aside0.mk (below_step HB4.out hb)
  have HZ5 := Aside0.mk (HZ4.out.below hb)
  clear hb
  cases hG : (!decide (s.size = 0) && legFrom s s.size 0) with
  | true =>
    clear hG
    go_wp2
    go_ret
    exact ⟨rfl, HB5.out⟩
  | false =>
  have hk : BackOk s 3 := by
    by_cases h0 : s.size = 0
    · exact back_empty s 3 h0
    · rw [decide_eq_false h0] at hG
      exact back_vals s h0 (by omega) hG HG.out
  obtain ⟨t1, g1, g2⟩ := hk w5 HZ5.out
  have G1 := Aside0.mk g1
  have G2 := Aside0.mk g2
  clear hG g1 g2 hk
  go_wp2_with fail
  refine G1.out.mono ?_
  rintro e w6 ⟨rfl, hb⟩
  have HB6 := Aside0.mk (below_step HB5.out hb)
  clear hb
  go_wp2_with fail
  refine (G2.out _).mono ?_
  rintro e w7 ⟨rfl, hb⟩
  have HB7 := Aside0.mk (below_step HB6.out hb)
  clear hb
  go_wp2
  go_ret
  exact ⟨by first | rfl | simp, HB7.out⟩
end Go.Proofs.YtnjghpoeokfekaaDoor.Door
