/- The walk of FnDurationBack at a world whose listed variables read as Go lays them. -/
import Derived.Test.YtdookfmcphmlgaaDoorDurBack
import Derived.Test.YtdookfmcphmlgaaDoorSigned
import Derived.Test.YtdookfmcphmlgaaDoorErrs
import Derived.Lib.LaidTab
import Derived.OpenShut
namespace Go.Proofs.YtdookfmcphmlgaaDoor.Door
open Go.RowKit Go.Shelf Go.Lib Go.Proofs.YtdookfmcphmlgaaDoor.Q Go.Proofs.YtdookfmcphmlgaaDoor.Pure Go.Proofs.YtdookfmcphmlgaaDoorW.PrintWords Go.Proofs.YtdookfmcphmlgaaDoorW.PrintLast
set_option linter.unusedVariables false
set_option linter.unusedSimpArgs false
theorem impl_DurationText (n : Int) (w : World) (h0 : 0 ≤ n) (h1 : n ≤ 9223372036854775807) (hP : Pow w) :
    Calls Tryd.prog 8 #[.int .i64 n] w fun e w' => e = .returned (.string (durText n)) ∧ Below w.heap.size w w' := by
  have H := Aside0.mk (dur_String n w h0 h1 hP)
  clear hP
  go_enter Tryd.func8, Tryd.ntmps8
  go_wp2_with fail
  refine H.out.mono ?_
  rintro e w1 ⟨rfl, hb⟩
  go_wp2
  go_ret
  exact ⟨rfl, hb⟩
theorem durText_size (n : Int) (h0 : 0 ≤ n) (h1 : n ≤ 9223372036854775807) : (durText n).size ≤ 2147483647 := by
  unfold durText
  split
  · decide
  · have hx1 : n / 1000000 ≤ 9223372036854 := by omega
    have hx0 : 0 ≤ n / 1000000 := by omega
    generalize n / 1000000 = x at hx0 hx1
    have hall : ∀ (us : List (ByteArray × Int × Bool)) (s : ByteArray) (x : Int), 0 ≤ x → x ≤ 9223372036854 → (∀ t ∈ us, 1 ≤ t.2.1 ∧ t.1.size ≤ 2) → (durSteps us (s, x)).1.size ≤ s.size + 23 * us.length := by
      intro us
      induction us with
      | nil => intro s x _ _ _; simp [durSteps]
      | cons t r ih =>
        intro s x hx0 hx1 h
        obtain ⟨u, m, ex⟩ := t
        obtain ⟨hm, hu⟩ := h _ (List.mem_cons_self ..)
        obtain ⟨b1, b2, b3⟩ := durStepB_bounds (s := s) (x := x) (m := m) (ex := ex) (u := u) hm hx0 hx1 hu
        have hi := ih (durStepB s x m ex u).2 (durStepB s x m ex u).1 b1 (by omega) (fun t ht => h t (List.mem_cons_of_mem _ ht))
        unfold durSteps
        rw [List.length_cons]
        simp only
        omega
    have h := hall durUnits ⟨#[]⟩ x hx0 hx1 (by decide)
    have h0 : (⟨#[]⟩ : ByteArray).size = 0 := rfl
    have hl : durUnits.length = 7 := rfl
    omega
theorem i64_bounds {n : Int} (h : (Lit.int .i64 n).wf = true) : -9223372036854775808 ≤ n ∧ n ≤ 9223372036854775807 := bounds_i64 h
theorem pow_of_reads {w : World} (h : VarReads Tryd.prog w "internal/strconv.uint64pow10" (tabData .u64 pow10Tab)) : Pow w := by
  obtain ⟨g', t, cs, fuel, p, hg, hty, hvar, hd⟩ := h
  obtain rfl := Option.some.inj ((show Tryd.prog.globalNamed "internal/strconv.uint64pow10" = some 2 by kernel_rfl).symm.trans hg)
  obtain rfl := Option.some.inj ((show (Tryd.prog.globals[2]?).map (·.type) = some 68 by kernel_rfl).symm.trans hty)
  unfold Pow Lib.TabIs
  rw [hvar, ← cells_of_tab Tryd.underlying68 Tryd.underlying34 (by kernel_rfl) (by kernel_rfl) hd]
theorem law_FnDurationBack (n : Int) (h0 : -9223372036854775808 ≤ n) (h1 : n ≤ 9223372036854775807) (w : World) (hT : Errs w ∧ Pow w) :
    Calls Tryd.prog 4 #[.int .i64 n] w fun e w' => e = .returned (.bool true) ∧ Below w.heap.size w w' := by
  have HE := Aside0.mk hT.1
  have HP := Aside0.mk hT.2
  clear hT
  have e0 : readD (durText 5400000000000).data.toList = some 5400000000000 := by
    unfold readD
    rw [dur_back _ (by omega) (by omega) (by omega)]
    rfl
  have E0 := Aside0.mk e0
  clear e0
  go_enter Tryd.func4, Tryd.ntmps4
  go_wp2_with fail
  refine (impl_DurationText 5400000000000 w (by omega) (by omega) HP.out).mono ?_
  rintro e w1 ⟨rfl, hb⟩
  have HB1 := Aside0.mk hb
  have HE1 := Aside0.mk (HE.out.below hb)
  have HP1 := Aside0.mk (HP.out.below hb)
  clear hb
  have hz := durText_size 5400000000000 (by omega) (by omega)
  generalize hd : durText 5400000000000 = T at hz
  rw [hd] at E0
  clear hd
  go_wp2_with fail
  refine (impl_ReadDuration T w1 hz HE1.out).mono ?_
  rintro e w2 ⟨rfl, hb⟩
  have HB2 := Aside0.mk (below_step HB1.out hb)
  have HE2 := Aside0.mk (HE1.out.below hb)
  have HP2 := Aside0.mk (HP1.out.below hb)
  clear hb
  rw [E0.out]
  unfold resV
  clear E0 hz
  by_cases hn : n < 0
  · go_wp2
    go_ret
    exact ⟨rfl, HB2.out⟩
  have hn0 : 0 ≤ n := by omega
  have hm0 : 0 ≤ n % 1000000 := by omega
  have hm1 : n % 1000000 ≤ n := by omega
  clear hn
  obtain ⟨x, hx⟩ : ∃ x, n - n % 1000000 = x := ⟨_, rfl⟩
  have hx0 : 0 ≤ x := by omega
  have hx1 : x ≤ 9223372036854775807 := by omega
  have hxm : x % 1000000 = 0 := by omega
  have ez : readD (durText x).data.toList = some x := by
    unfold readD
    rw [dur_back x hx0 hx1 hxm]
    exact congrArg some (show ((x.toNat : Nat) : Int) = x by omega)
  have hz := durText_size x hx0 hx1
  have EZ := Aside0.mk ez
  clear ez hxm
  go_wp2_with fail
  refine (impl_DurationText x w2 hx0 hx1 HP2.out).mono ?_
  rintro e w3 ⟨rfl, hb⟩
  have HB3 := Aside0.mk (below_step HB2.out hb)
  have HE3 := Aside0.mk (HE2.out.below hb)
  clear hb
  generalize hd : durText x = T at hz
  rw [hd] at EZ
  clear hd
  go_wp2_with fail
  refine (impl_ReadDuration T w3 hz HE3.out).mono ?_
  rintro e w4 ⟨rfl, hb⟩
  have HB4 := Aside0.mk (below_step HB3.out hb)
  clear hb
  rw [EZ.out]
  unfold resV
  go_wp2
  go_ret
  exact ⟨by simp, HB4.out⟩
end Go.Proofs.YtdookfmcphmlgaaDoor.Door
