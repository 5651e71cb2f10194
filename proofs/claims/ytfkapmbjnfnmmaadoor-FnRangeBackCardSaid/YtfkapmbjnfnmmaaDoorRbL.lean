/- The walk of FnRangeBack. -/
import Derived.Test.YtfkapmbjnfnmmaaDoorRbM
import Derived.Test.YtfkapmbjnfnmmaaDoorRbT
namespace Go.Proofs.YtfkapmbjnfnmmaaDoor.Door
open Go.RowKit Go.Lib Go.Proofs.YtfkapmbjnfnmmaaDoor.Q Go.Proofs.YtfkapmbjnfnmmaaDoor.Pure Go.Proofs.YtfkapmbjnfnmmaaDoorW.PrintWords Go.Proofs.YtfkapmbjnfnmmaaDoorW.PrintLast
set_option linter.unusedVariables false
set_option linter.unusedSimpArgs false
set_option maxHeartbeats 6400000 in
set_option maxRecDepth 100000 in
theorem law_months (a b c : Int) (w : World) (ha0 : 0 ≤ a) (ha1 : a ≤ 65535) (hb0 : 0 ≤ b) (hb1 : b ≤ 65535) (hc : Int.tmod c 4 = 1) (hP : Pow w) :
    Calls Tryd.prog 6 #[.int .u16 a, .int .u16 b, .int .u8 c] w fun x w' => x = .returned (.bool true) ∧ Below w.heap.size w w' := by
  have HP := Aside0.mk hP
  clear hP
  go_enter Tryd.func6, Tryd.ntmps6
  go_wp2_with fail
  have p0 := Int.tmod_nonneg 12 ha0
  have p1 := Int.tmod_lt_of_pos a (show (0 : Int) < 12 by omega)
  have q0 := Int.tmod_nonneg 12 hb0
  have q1 := Int.tmod_lt_of_pos b (show (0 : Int) < 12 by omega)
  go_quiet (fail)
  go_wp2_with fail
  all_goals
    refine (range_text _ _ _ (by omega) (by omega) (by omega) (by omega) (HP.out.below (by repeat (first | exact Below.refl _ _ | apply below_alloc | apply pw_below_drewN)))).mono ?_
    rintro x w1 ⟨rfl, hb1⟩
    have HB1 := Aside0.mk (show Below w.heap.size w w1 from below_step (by repeat (first | exact Below.refl _ _ | apply below_alloc | apply pw_below_drewN)) hb1)
    clear hb1
    go_wp2_with fail
    refine (months_read _ _ _ (by omega) (by omega) (by omega)).mono ?_
    rintro x w2 ⟨rfl, hb2⟩
    have HB2 := Aside0.mk (below_step HB1.out hb2)
    clear hb2
    go_wp2
    go_ret
    exact ⟨by first | rfl | (simp; done), HB2.out⟩
set_option maxHeartbeats 6400000 in
set_option maxRecDepth 100000 in
theorem law_days (a b c : Int) (w : World) (ha0 : 0 ≤ a) (ha1 : a ≤ 65535) (hb0 : 0 ≤ b) (hb1 : b ≤ 65535) (hc : Int.tmod c 4 = 0) (hP : Pow w) :
    Calls Tryd.prog 6 #[.int .u16 a, .int .u16 b, .int .u8 c] w fun x w' => x = .returned (.bool true) ∧ Below w.heap.size w w' := by
  have HP := Aside0.mk hP
  clear hP
  go_enter Tryd.func6, Tryd.ntmps6
  go_wp2_with fail
  have p0 := Int.tmod_nonneg 31 ha0
  have p1 := Int.tmod_lt_of_pos a (show (0 : Int) < 31 by omega)
  have q0 := Int.tmod_nonneg 31 hb0
  have q1 := Int.tmod_lt_of_pos b (show (0 : Int) < 31 by omega)
  go_quiet (fail)
  go_wp2_with fail
  all_goals
    refine (range_text _ _ _ (by omega) (by omega) (by omega) (by omega) (HP.out.below (by repeat (first | exact Below.refl _ _ | apply below_alloc | apply pw_below_drewN)))).mono ?_
    rintro x w1 ⟨rfl, hb1⟩
    have HB1 := Aside0.mk (show Below w.heap.size w w1 from below_step (by repeat (first | exact Below.refl _ _ | apply below_alloc | apply pw_below_drewN)) hb1)
    clear hb1
    go_wp2_with fail
    refine (days_read _ _ _ (by omega) (by omega)).mono ?_
    rintro x w2 ⟨rfl, hb2⟩
    have HB2 := Aside0.mk (below_step HB1.out hb2)
    clear hb2
    go_wp2
    go_ret
    exact ⟨by first | rfl | (simp; done), HB2.out⟩
set_option maxHeartbeats 6400000 in
set_option maxRecDepth 100000 in
theorem law_years (a b c : Int) (w : World) (ha0 : 0 ≤ a) (ha1 : a ≤ 65535) (hb0 : 0 ≤ b) (hb1 : b ≤ 65535) (hc : Int.tmod c 4 = 2) (hP : Pow w) :
    Calls Tryd.prog 6 #[.int .u16 a, .int .u16 b, .int .u8 c] w fun x w' => x = .returned (.bool true) ∧ Below w.heap.size w w' := by
  have HP := Aside0.mk hP
  clear hP
  go_enter Tryd.func6, Tryd.ntmps6
  go_wp2_with fail
  have p0 := Int.tmod_nonneg 60000 ha0
  have p1 := Int.tmod_lt_of_pos a (show (0 : Int) < 60000 by omega)
  have q0 := Int.tmod_nonneg 60000 hb0
  have q1 := Int.tmod_lt_of_pos b (show (0 : Int) < 60000 by omega)
  go_quiet (fail)
  go_wp2_with fail
  all_goals
    refine (range_text _ _ _ (by omega) (by omega) (by omega) (by omega) (HP.out.below (by repeat (first | exact Below.refl _ _ | apply below_alloc | apply pw_below_drewN)))).mono ?_
    rintro x w1 ⟨rfl, hb1⟩
    have HB1 := Aside0.mk (show Below w.heap.size w w1 from below_step (by repeat (first | exact Below.refl _ _ | apply below_alloc | apply pw_below_drewN)) hb1)
    clear hb1
    go_wp2_with fail
    refine (years_read _ _ _ (by omega) (by omega) (by omega)).mono ?_
    rintro x w2 ⟨rfl, hb2⟩
    have HB2 := Aside0.mk (below_step HB1.out hb2)
    clear hb2
    go_wp2
    go_ret
    exact ⟨by first | rfl | (simp; done), HB2.out⟩
set_option maxHeartbeats 6400000 in
set_option maxRecDepth 100000 in
theorem law_minus (a b c : Int) (w : World) (ha0 : 0 ≤ a) (ha1 : a ≤ 65535) (hb0 : 0 ≤ b) (hb1 : b ≤ 65535) (hc : Int.tmod c 4 = 3) (hP : Pow w) :
    Calls Tryd.prog 6 #[.int .u16 a, .int .u16 b, .int .u8 c] w fun x w' => x = .returned (.bool true) ∧ Below w.heap.size w w' := by
  have HP := Aside0.mk hP
  clear hP
  go_enter Tryd.func6, Tryd.ntmps6
  go_wp2_with fail
  have p0 := Int.tmod_nonneg 31 ha0
  have p1 := Int.tmod_lt_of_pos a (show (0 : Int) < 31 by omega)
  have q0 := Int.tmod_nonneg 31 hb0
  have q1 := Int.tmod_lt_of_pos b (show (0 : Int) < 31 by omega)
  go_quiet (fail)
  go_wp2_with fail
  all_goals
    refine (range_text _ _ _ (by omega) (by omega) (by omega) (by omega) (HP.out.below (by repeat (first | exact Below.refl _ _ | apply below_alloc | apply pw_below_drewN)))).mono ?_
    rintro x w1 ⟨rfl, hb1⟩
    have HB1 := Aside0.mk (show Below w.heap.size w w1 from below_step (by repeat (first | exact Below.refl _ _ | apply below_alloc | apply pw_below_drewN)) hb1)
    clear hb1
    go_wp2_with fail
    refine (days_read _ _ _ (by omega) (by omega)).mono ?_
    rintro x w2 ⟨rfl, hb2⟩
    have HB2 := Aside0.mk (below_step HB1.out hb2)
    clear hb2
    go_wp2
    go_ret
    exact ⟨by first | rfl | (simp; done), HB2.out⟩
theorem law_core (a b c : Int) (ha0 : 0 ≤ a) (ha1 : a ≤ 65535) (hb0 : 0 ≤ b) (hb1 : b ≤ 65535) (hc0 : 0 ≤ c) (hc1 : c ≤ 255) (w : World) (hP : Pow w) :
    Calls Tryd.prog 6 #[.int .u16 a, .int .u16 b, .int .u8 c] w fun x w' => x = .returned (.bool true) ∧ Below w.heap.size w w' := by
  have h0 := Int.tmod_nonneg 4 hc0
  have h1 := Int.tmod_lt_of_pos c (show (0 : Int) < 4 by omega)
  have h2 : Int.tmod c 4 = 0 ∨ Int.tmod c 4 = 1 ∨ Int.tmod c 4 = 2 ∨ Int.tmod c 4 = 3 := by omega
  rcases h2 with h | h | h | h
  · exact law_days a b c w ha0 ha1 hb0 hb1 h hP
  · exact law_months a b c w ha0 ha1 hb0 hb1 h hP
  · exact law_years a b c w ha0 ha1 hb0 hb1 h hP
  · exact law_minus a b c w ha0 ha1 hb0 hb1 h hP
end Go.Proofs.YtfkapmbjnfnmmaaDoor.Door
