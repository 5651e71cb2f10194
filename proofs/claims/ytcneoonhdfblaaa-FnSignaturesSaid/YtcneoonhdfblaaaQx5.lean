-- printed by this project's own program wip/tools/mkprint.py (the kit's print.py with hand-proved contracts put in)
import Derived.Test.YtcneoonhdfblaaaQx0
import Derived.Test.YtcneoonhdfblaaaQx4
namespace Go.Proofs.Ytcneoonhdfblaaa.Q
open Go.RowKit Go.Proofs.YtcneoonhdfblaaaW.PrintWords Go.Proofs.YtcneoonhdfblaaaW.PrintLast Go.Proofs.YtcneoonhdfblaaaW.PrintMore
attribute [local go_sem] max2_int min2_int max_two min_two max_three min_three max_four min_four   -- for this text's walks alone
set_option linter.unusedVariables false
set_option linter.unusedSimpArgs false

/-! ### spec_SignatureFor: function 15 -/
mutual
def spec_SignatureFor.l0 : Nat → List (S37) → List ByteArray → List (S37) → Int → Int → Option (Int × Int)
  | 0, _, _, _, _, _ => none
  | k + 1, x0, x1, x6, x10, x11 => if x11 < x10 then (spec_SignatureFor.l1 k x0 x1 x6 x11 x10 x11 x11 0) else ((spec_SetPrint.f k x6).bind fun t176 => (some (t176, 1)))
def spec_SignatureFor.l1 : Nat → List (S37) → List ByteArray → List (S37) → Int → Int → Int → Int → Int → Option (Int × Int)
  | 0, _, _, _, _, _, _, _, _ => none
  | k + 1, x0, x1, x6, x7, x10, x11, x14, x15 => if x15 < x14 then (if 0 ≤ x15 then (if x15 < (x1.length : Int) then (if 0 ≤ x7 then (if x7 < (x1.length : Int) then (if (rdOf ByteArray.empty x1 x15).toList = (rdOf ByteArray.empty x1 x7).toList then (some (0, 2)) else (spec_SignatureFor.l1 k x0 x1 x6 x7 x10 x11 x14 (wrap64 (x15 + 1)))) else (none)) else (none)) else (none)) else (none)) else (if 0 ≤ x7 then (if x7 < (x1.length : Int) then ((spec_Has.f k x0 (rdOf ByteArray.empty x1 x7)).bind fun t180 => (if t180 = true then ((spec_Value.f k x0 (rdOf ByteArray.empty x1 x7)).bind fun t183 => (if x6.length < 4398046511104 then (spec_SignatureFor.l0 k x0 x1 (x6 ++ [(⟨rdOf ByteArray.empty x1 x7, t183⟩ : S37)]) x10 (wrap64 (x11 + 1))) else (none))) else (some (0, 2)))) else (none)) else (none))
end
def spec_SignatureFor.f (k : Nat) (l0 : List (S37)) (l1 : List ByteArray) : Option (Int × Int) := spec_SignatureFor.l0 k l0 l1 ([] : List (S37)) (l1.length : Int) 0
theorem spec_SignatureFor.mono_l : ∀ k, (∀ y0 y1 y2 y3 y4, LeO (spec_SignatureFor.l0 k y0 y1 y2 y3 y4) (spec_SignatureFor.l0 (k + 1) y0 y1 y2 y3 y4)) ∧ (∀ y0 y1 y2 y3 y4 y5 y6 y7, LeO (spec_SignatureFor.l1 k y0 y1 y2 y3 y4 y5 y6 y7) (spec_SignatureFor.l1 (k + 1) y0 y1 y2 y3 y4 y5 y6 y7))
  | 0 => ⟨fun _ _ _ _ _ r h => by simp [spec_SignatureFor.l0] at h, fun _ _ _ _ _ _ _ _ r h => by simp [spec_SignatureFor.l1] at h⟩
  | k + 1 => by
    obtain ⟨ih0, ih1⟩ := spec_SignatureFor.mono_l k
    refine ⟨?_, ?_⟩
    · intro y0 y1 y2 y3 y4
      unfold spec_SignatureFor.l0
      repeat' first
      | (with_reducible exact ih0 _ _ _ _ _)
      | (with_reducible exact ih1 _ _ _ _ _ _ _ _)
      | (with_reducible exact spec_Has.mono _ _ _)
      | (with_reducible exact spec_SetPrint.mono _ _)
      | (with_reducible exact spec_Value.mono _ _ _)
      | (with_reducible exact LeO.refl _)
      | (with_reducible exact LeO.none _)
      | (with_reducible refine LeO.ite ?_ ?_)
      | (with_reducible refine LeO.bind ?_ (fun _ => ?_))
      | exact ih0 _ _ _ _ _
      | exact ih1 _ _ _ _ _ _ _ _
      | exact spec_Has.mono _ _ _
      | exact spec_SetPrint.mono _ _
      | exact spec_Value.mono _ _ _
      | exact LeO.none _
      | refine LeO.ite ?_ ?_
      | refine LeO.bind ?_ (fun _ => ?_)
    · intro y0 y1 y2 y3 y4 y5 y6 y7
      unfold spec_SignatureFor.l1
      repeat' first
      | (with_reducible exact ih0 _ _ _ _ _)
      | (with_reducible exact ih1 _ _ _ _ _ _ _ _)
      | (with_reducible exact spec_Has.mono _ _ _)
      | (with_reducible exact spec_SetPrint.mono _ _)
      | (with_reducible exact spec_Value.mono _ _ _)
      | (with_reducible exact LeO.refl _)
      | (with_reducible exact LeO.none _)
      | (with_reducible refine LeO.ite ?_ ?_)
      | (with_reducible refine LeO.bind ?_ (fun _ => ?_))
      | exact ih0 _ _ _ _ _
      | exact ih1 _ _ _ _ _ _ _ _
      | exact spec_Has.mono _ _ _
      | exact spec_SetPrint.mono _ _
      | exact spec_Value.mono _ _ _
      | exact LeO.none _
      | refine LeO.ite ?_ ?_
      | refine LeO.bind ?_ (fun _ => ?_)
theorem spec_SignatureFor.mono : ∀ a0 a1 k, LeO (spec_SignatureFor.f k a0 a1) (spec_SignatureFor.f (k + 1) a0 a1) := by
  intro a0 a1 k
  obtain ⟨ih0, ih1⟩ := spec_SignatureFor.mono_l k
  unfold spec_SignatureFor.f
  repeat' first
      | (with_reducible exact ih0 _ _ _ _ _)
      | (with_reducible exact ih1 _ _ _ _ _ _ _ _)
      | (with_reducible exact spec_Has.mono _ _ _)
      | (with_reducible exact spec_SetPrint.mono _ _)
      | (with_reducible exact spec_Value.mono _ _ _)
      | (with_reducible exact LeO.refl _)
      | (with_reducible exact LeO.none _)
      | (with_reducible refine LeO.ite ?_ ?_)
      | (with_reducible refine LeO.bind ?_ (fun _ => ?_))
      | exact ih0 _ _ _ _ _
      | exact ih1 _ _ _ _ _ _ _ _
      | exact spec_Has.mono _ _ _
      | exact spec_SetPrint.mono _ _
      | exact spec_Value.mono _ _ _
      | exact LeO.none _
      | refine LeO.ite ?_ ?_
      | refine LeO.bind ?_ (fun _ => ?_)
def spec_SignatureFor.T8 : Bool × List (List Nat × List Nat) := (true, [([], []), ([], []), ([0, 1], [0, 1]), ([2], [2]), ([], []), ([], []), ([4, 5], [4, 5]), ([6], [6]), ([3, 7], [3, 7])])
def spec_SignatureFor.B8 : List Nat := [0, 0, 3, 7, 0, 0, 48, 112, 255]
theorem spec_SignatureFor.tab8 : rtab .any (opsOf Try.f15 8) = spec_SignatureFor.T8 := by kernel_rfl
theorem spec_SignatureFor.bits8 : waitsOk spec_SignatureFor.T8.2 spec_SignatureFor.B8 = true := by kernel_rfl
def spec_SignatureFor.T13 : Bool × List (List Nat × List Nat) := (true, [([], []), ([], []), ([], []), ([1, 2], [1, 2]), ([3], [3]), ([], []), ([], []), ([], []), ([6, 7], [6, 7]), ([8], [8]), ([5, 9], [5, 9]), ([4, 10], [4, 10]), ([11], [11]), ([0, 12, 10], [0, 12]), ([13, 13, 0, 1, 2, 3, 4, 5, 6, 7, 8, 9, 10, 11, 12, 13], [0, 13])])
def spec_SignatureFor.B13 : List Nat := [0, 0, 0, 6, 14, 0, 0, 0, 192, 448, 992, 2046, 4094, 8191, 16383]
theorem spec_SignatureFor.tab13 : rtab .any (opsOf Try.f15 13) = spec_SignatureFor.T13 := by kernel_rfl
theorem spec_SignatureFor.bits13 : waitsOk spec_SignatureFor.T13.2 spec_SignatureFor.B13 = true := by kernel_rfl
set_option maxHeartbeats 8000000 in
set_option maxRecDepth 100000 in
theorem spec_SignatureFor.calls (k : Nat) (A0 : Option Addr) (c0 : Nat) (l0 : List (S37)) (A1 : Option Addr) (c1 : Nat) (l1 : List ByteArray) (r1 : Int) (r2 : Int) (w : World) (hr0 : Kd.C k37 w A0 l0.length l0) (hc0 : l0.length ≤ c0) (hr1 : Kd.C Kd.string w A1 l1.length l1) (hc1 : l1.length ≤ c1) (h : spec_SignatureFor.f k l0 l1 = some (r1, r2)) :
    Calls Try.prog 15 #[.slice A0 l0.length c0, .slice A1 l1.length c1] w fun e w' => e = .returned (.tuple #[.int .u64 r1, .int .i64 r2]) ∧ Below w.heap.size w w' := by
  have hu37 := Try.underlying37
  have HR0 := Aside0.mk hr0
  have HC0 := Aside0.mk hc0
  clear hr0 hc0
  have HR1 := Aside0.mk hr1
  have HC1 := Aside0.mk hc1
  clear hr1 hc1
  have HB := Aside0.mk (Below.refl w.heap.size w)
  have H : (spec_SignatureFor.l0 k l0 l1 ([] : List (S37)) (l1.length : Int) 0) = some (r1, r2) := h
  clear h
  have H' := Aside0.mk H
  clear H
  go_enter Try.func15, Try.ntmps15
  go_wp2
  go_loopg [6, 11] k (fun kq v6 v11 w' => ∃ (x6_1 : List (S37)) (x11_1 : Int), v11 = .int .i64 x11_1 ∧ Aside0 (spec_SignatureFor.l0 kq l0 l1 x6_1 (l1.length : Int) x11_1 = some (r1, r2)) ∧ Aside0 (kq ≤ k) ∧ Aside0 (Kd.R k37 37 w' w.heap.size (fun _ => True) v6 x6_1) ∧ Aside0 (Below w.heap.size w w'))
  case atStart => exact ⟨(([] : List (S37))), (0), (by first | rfl | (simp; done) | (simp [*]; done)), H', ⟨Nat.le_refl _⟩, ⟨by first | exact Kd.R_nil _ _ _ _ _ | exact Kd.N_nil _ _ _ _ _ | exact Kd.V_nil _ _ _ _ _ | exact Kd.Q_nil _ _ _ _ _ | exact Kd.S_nil _ _ _ _ _⟩, ⟨by repeat (first | (with_reducible first | exact HB.out | apply below_alloc | apply pw_below_drewN | apply below_drew1) | exact HB.out)⟩⟩
  case round =>
    clear H'
    try clear c1
    try clear p2
    obtain ⟨x6_1, x11_1, rfl, HA, HK1, HO_6, HB⟩ := hrel
    cases gk with
    | zero => exact absurd HA.out (by simp [spec_SignatureFor.l0])
    | succ k1 =>
      have H := HA.out
      clear HA
      simp only [spec_SignatureFor.l0] at H
      by_cases c3 : x11_1 < (l1.length : Int)
      · rw [if_pos c3] at H
        have c3b0 : decide (x11_1 < (l1.length : Int)) = true := decide_eq_true c3
        clear c3
        have H' := Aside0.mk H
        clear H
        go_wp2
        go_loopg [15] k1 (fun kq v15 w' => ∃ (x15_2 : Int), v15 = .int .i64 x15_2 ∧ Aside0 (spec_SignatureFor.l1 kq l0 l1 x6_1 x11_1 (l1.length : Int) x11_1 x11_1 x15_2 = some (r1, r2)) ∧ Aside0 (kq ≤ k1) ∧ Aside0 (Kd.R k37 37 w' w.heap.size (fun _ => True) u6 x6_1) ∧ Aside0 (Below w.heap.size w w'))
        case atStart => exact ⟨(0), (by first | rfl | (simp; done) | (simp [*]; done)), H', ⟨Nat.le_refl _⟩, ⟨by (with_reducible repeat (first | apply Kd.R_alloc | apply Kd.R_drewN | apply Kd.R_drew)); exact HO_6.out⟩, ⟨by repeat (first | (with_reducible first | exact HB.out | apply below_alloc | apply pw_below_drewN | apply below_drew1) | exact HB.out)⟩⟩
        case round =>
          clear H'
          try clear c1
          try clear p2
          try clear c3
          try clear c3b0
          try clear p2
          obtain ⟨x15_2, rfl, HA, HK2, HO_6, HB⟩ := hrel
          cases gk with
          | zero => exact absurd HA.out (by simp [spec_SignatureFor.l1])
          | succ k2 =>
            have H := HA.out
            clear HA
            simp only [spec_SignatureFor.l1] at H
            by_cases c4 : x15_2 < x11_1
            · rw [if_pos c4] at H
              have c4b0 : decide (x15_2 < x11_1) = true := decide_eq_true c4
              clear c4
              by_cases c5 : 0 ≤ x15_2
              · rw [if_pos c5] at H
                have c5b0 : decide (0 ≤ x15_2) = true := decide_eq_true c5
                clear c5
                by_cases c6 : x15_2 < (l1.length : Int)
                · rw [if_pos c6] at H
                  have c6b0 : decide (x15_2 < (l1.length : Int)) = true := decide_eq_true c6
                  clear c6
                  by_cases c7 : 0 ≤ x11_1
                  · rw [if_pos c7] at H
                    have c7b0 : decide (0 ≤ x11_1) = true := decide_eq_true c7
                    clear c7
                    by_cases c8 : x11_1 < (l1.length : Int)
                    · rw [if_pos c8] at H
                      have c8b0 : decide (x11_1 < (l1.length : Int)) = true := decide_eq_true c8
                      clear c8
                      by_cases c9 : (rdOf ByteArray.empty l1 x15_2).toList = (rdOf ByteArray.empty l1 x11_1).toList
                      · rw [if_pos c9] at H
                        have c9b0 : ((rdOf ByteArray.empty l1 x15_2).toList == (rdOf ByteArray.empty l1 x11_1).toList) = true := beq_iff_eq.mpr c9
                        have c9b1 : ((rdOf ByteArray.empty l1 x15_2).toList != (rdOf ByteArray.empty l1 x11_1).toList) = false := bne_eq_false_iff_eq.mpr c9
                        clear c9
                        simp only [Option.some.injEq, Prod.mk.injEq] at H
                        obtain ⟨rfl, rfl⟩ := H
                        try go_wp2
                        have n0_ := Aside0.mk (Kd.R_drew HO_6.out)
                        have n1_ := Aside0.mk (below_drew1 HB.out)
                        clear HO_6
                        clear HB
                        have HO_6 := n0_
                        have HB := n1_
                        clear n0_ n1_
                        have p177 : 0 ≤ (x15_2 : Int) := of_decide_eq_true (by first | (with_reducible assumption) | assumption)
                        have q177 : x15_2 < (l1.length : Int) := of_decide_eq_true (by first | (with_reducible assumption) | assumption)
                        obtain ⟨ad177, e177, hx177_0⟩ := Kd.at_string HR1.out x15_2 p177 q177
                        have hw177_0 := hx177_0
                        cases e177
                        replace hx177_0 := (HB.out.cell (World.block_lt_of_cell? w _ hx177_0)).trans hx177_0
                        replace p177 := eq_true p177
                        replace q177 := eq_true q177
                        have p178 : 0 ≤ (x11_1 : Int) := of_decide_eq_true (by first | (with_reducible assumption) | assumption)
                        have q178 : x11_1 < (l1.length : Int) := of_decide_eq_true (by first | (with_reducible assumption) | assumption)
                        obtain ⟨ad178, e178, hx178_0⟩ := Kd.at_string HR1.out x11_1 p178 q178
                        have hw178_0 := hx178_0
                        obtain rfl : ad177 = ad178 := (by injection e178)
                        replace hx178_0 := (HB.out.cell (World.block_lt_of_cell? w _ hx178_0)).trans hx178_0
                        replace p178 := eq_true p178
                        replace q178 := eq_true q178
                        refine start_ (n := 9) (S := fun w' => w'.cell? (ad177.add (x15_2).toNat) = some (.string (rdOf ByteArray.empty l1 x15_2)) ∧ w'.cell? (ad177.add (x11_1).toNat) = some (.string (rdOf ByteArray.empty l1 x11_1))) (ds := []) #[false, false, false, false, false, false, false, false, false] (by kernel_rfl) rfl rfl ⟨((HB.out.cell (World.block_lt_of_cell? w _ hw177_0)).trans hw177_0), ((HB.out.cell (World.block_lt_of_cell? w _ hw178_0)).trans hw178_0)⟩ (fun hHeld => ?_); refine with_tabW spec_SignatureFor.tab8 spec_SignatureFor.bits8 (fun HT_ HW_ => ?_)
                        generalize wr.drew = w10 at HO_6 HB hx177_0 hx178_0 hHeld ⊢
                        refine pure_ (i := 0) (N := some 18) (v := ?_) (a' := ?_) #[true, false, false, false, false, false, false, false, false] rfl rfl (any_of HT_.out (by kernel_rfl)) (fun _ _ _ h => h) (Or.inl ⟨by rfl, ?_⟩) ?_ ?_
                        rotate_left
                        · intro w'
                          go_simp
                          with_reducible rfl
                        rotate_left
                        · simp only [Act.put, List.setIfInBounds_toArray, List.set_cons_zero, List.set_cons_succ, i64_w, i32_w]
                          rfl
                        refine pure_ (i := 1) (N := some 19) (v := ?_) (a' := ?_) #[true, true, false, false, false, false, false, false, false] rfl rfl (any_of HT_.out (by kernel_rfl)) (fun _ _ _ h => h) (Or.inl ⟨by rfl, ?_⟩) ?_ ?_
                        rotate_left
                        · intro w'
                          go_simp
                          with_reducible rfl
                        rotate_left
                        · simp only [Act.put, List.setIfInBounds_toArray, List.set_cons_zero, List.set_cons_succ, i64_w, i32_w]
                          rfl
                        refine pure_ (i := 2) (N := some 20) (v := ?_) (a' := ?_) #[true, true, true, false, false, false, false, false, false] rfl rfl (any_of HT_.out (by kernel_rfl)) (fun _ _ _ h => h) (Or.inl ⟨by rfl, ?_⟩) ?_ ?_
                        rotate_left
                        · intro w'
                          go_simp
                          with_reducible rfl
                        rotate_left
                        · simp only [Act.put, List.setIfInBounds_toArray, List.set_cons_zero, List.set_cons_succ, i64_w, i32_w]
                          rfl
                        refine pure_ (i := 4) (N := some 22) (v := ?_) (a' := ?_) #[true, true, true, false, true, false, false, false, false] rfl rfl (any_of HT_.out (by kernel_rfl)) (fun _ _ _ h => h) (Or.inl ⟨by rfl, ?_⟩) ?_ ?_
                        rotate_left
                        · intro w'
                          go_simp
                          with_reducible rfl
                        rotate_left
                        · simp only [Act.put, List.setIfInBounds_toArray, List.set_cons_zero, List.set_cons_succ, i64_w, i32_w]
                          rfl
                        refine pure_ (i := 5) (N := some 23) (v := ?_) (a' := ?_) #[true, true, true, false, true, true, false, false, false] rfl rfl (any_of HT_.out (by kernel_rfl)) (fun _ _ _ h => h) (Or.inl ⟨by rfl, ?_⟩) ?_ ?_
                        rotate_left
                        · intro w'
                          go_simp
                          with_reducible rfl
                        rotate_left
                        · simp only [Act.put, List.setIfInBounds_toArray, List.set_cons_zero, List.set_cons_succ, i64_w, i32_w]
                          rfl
                        refine pure_ (i := 6) (N := some 24) (v := ?_) (a' := ?_) #[true, true, true, false, true, true, true, false, false] rfl rfl (any_of HT_.out (by kernel_rfl)) (fun _ _ _ h => h) (Or.inl ⟨by rfl, ?_⟩) ?_ ?_
                        rotate_left
                        · intro w'
                          go_simp
                          with_reducible rfl
                        rotate_left
                        · simp only [Act.put, List.setIfInBounds_toArray, List.set_cons_zero, List.set_cons_succ, i64_w, i32_w]
                          rfl
                        refine take_ (i := 3) (N := some 21) (v := ?_) (a' := ?_) #[true, true, true, true, true, true, true, false, false] rfl rfl (take_ofW HT_.out HW_.out (by kernel_rfl)) (fun _ _ _ h => h) (Or.inl ⟨by rfl, ?_⟩) hHeld ?_ ?_
                        rotate_left
                        · rintro w' ⟨s0, s1⟩
                          go_simp
                          with_reducible rfl
                        rotate_left
                        · simp only [Act.put, List.setIfInBounds_toArray, List.set_cons_zero, List.set_cons_succ, i64_w, i32_w]
                          rfl
                        refine take_ (i := 7) (N := some 25) (v := ?_) (a' := ?_) #[true, true, true, true, true, true, true, true, false] rfl rfl (take_ofW HT_.out HW_.out (by kernel_rfl)) (fun _ _ _ h => h) (Or.inl ⟨by rfl, ?_⟩) hHeld ?_ ?_
                        rotate_left
                        · rintro w' ⟨s0, s1⟩
                          go_simp
                          with_reducible rfl
                        rotate_left
                        · simp only [Act.put, List.setIfInBounds_toArray, List.set_cons_zero, List.set_cons_succ, i64_w, i32_w]
                          rfl
                        refine pure_ (i := 8) (N := some 26) (v := ?_) (a' := ?_) #[true, true, true, true, true, true, true, true, true] rfl rfl (any_of HT_.out (by kernel_rfl)) (fun _ _ _ h => h) (Or.inl ⟨by rfl, ?_⟩) ?_ ?_
                        rotate_left
                        · intro w'
                          go_simp
                          with_reducible rfl
                        rotate_left
                        · simp only [Act.put, List.setIfInBounds_toArray, List.set_cons_zero, List.set_cons_succ, i64_w, i32_w]
                          rfl
                        refine done_ (done_of HT_.out (by kernel_rfl)) ?_
                        try go_wp2
                        go_ret2
                        exact ⟨by first | rfl | (simp [errW_none, errW_some] <;> rfl) | (simp [*, errW_none, errW_some] <;> rfl), by repeat (first | (with_reducible first | exact HB.out | apply below_alloc | apply pw_below_drewN | apply below_drew1) | exact HB.out)⟩
                      · rw [if_neg c9] at H
                        have c9b0 : ((rdOf ByteArray.empty l1 x15_2).toList == (rdOf ByteArray.empty l1 x11_1).toList) = false := beq_eq_false_iff_ne.mpr c9
                        have c9b1 : ((rdOf ByteArray.empty l1 x15_2).toList != (rdOf ByteArray.empty l1 x11_1).toList) = true := bne_iff_ne.mpr c9
                        have H' := Aside0.mk H
                        clear H
                        try go_wp2
                        have n0_ := Aside0.mk (Kd.R_drew HO_6.out)
                        have n1_ := Aside0.mk (below_drew1 HB.out)
                        clear HO_6
                        clear HB
                        have HO_6 := n0_
                        have HB := n1_
                        clear n0_ n1_
                        have p177 : 0 ≤ (x15_2 : Int) := of_decide_eq_true (by first | (with_reducible assumption) | assumption)
                        have q177 : x15_2 < (l1.length : Int) := of_decide_eq_true (by first | (with_reducible assumption) | assumption)
                        obtain ⟨ad177, e177, hx177_0⟩ := Kd.at_string HR1.out x15_2 p177 q177
                        have hw177_0 := hx177_0
                        cases e177
                        replace hx177_0 := (HB.out.cell (World.block_lt_of_cell? w _ hx177_0)).trans hx177_0
                        replace p177 := eq_true p177
                        replace q177 := eq_true q177
                        have p178 : 0 ≤ (x11_1 : Int) := of_decide_eq_true (by first | (with_reducible assumption) | assumption)
                        have q178 : x11_1 < (l1.length : Int) := of_decide_eq_true (by first | (with_reducible assumption) | assumption)
                        obtain ⟨ad178, e178, hx178_0⟩ := Kd.at_string HR1.out x11_1 p178 q178
                        have hw178_0 := hx178_0
                        obtain rfl : ad177 = ad178 := (by injection e178)
                        replace hx178_0 := (HB.out.cell (World.block_lt_of_cell? w _ hx178_0)).trans hx178_0
                        replace p178 := eq_true p178
                        replace q178 := eq_true q178
                        refine start_ (n := 9) (S := fun w' => w'.cell? (ad177.add (x15_2).toNat) = some (.string (rdOf ByteArray.empty l1 x15_2)) ∧ w'.cell? (ad177.add (x11_1).toNat) = some (.string (rdOf ByteArray.empty l1 x11_1))) (ds := []) #[false, false, false, false, false, false, false, false, false] (by kernel_rfl) rfl rfl ⟨((HB.out.cell (World.block_lt_of_cell? w _ hw177_0)).trans hw177_0), ((HB.out.cell (World.block_lt_of_cell? w _ hw178_0)).trans hw178_0)⟩ (fun hHeld => ?_); refine with_tabW spec_SignatureFor.tab8 spec_SignatureFor.bits8 (fun HT_ HW_ => ?_)
                        generalize wr.drew = w11 at HO_6 HB hx177_0 hx178_0 hHeld ⊢
                        refine pure_ (i := 0) (N := some 18) (v := ?_) (a' := ?_) #[true, false, false, false, false, false, false, false, false] rfl rfl (any_of HT_.out (by kernel_rfl)) (fun _ _ _ h => h) (Or.inl ⟨by rfl, ?_⟩) ?_ ?_
                        rotate_left
                        · intro w'
                          go_simp
                          with_reducible rfl
                        rotate_left
                        · simp only [Act.put, List.setIfInBounds_toArray, List.set_cons_zero, List.set_cons_succ, i64_w, i32_w]
                          rfl
                        refine pure_ (i := 1) (N := some 19) (v := ?_) (a' := ?_) #[true, true, false, false, false, false, false, false, false] rfl rfl (any_of HT_.out (by kernel_rfl)) (fun _ _ _ h => h) (Or.inl ⟨by rfl, ?_⟩) ?_ ?_
                        rotate_left
                        · intro w'
                          go_simp
                          with_reducible rfl
                        rotate_left
                        · simp only [Act.put, List.setIfInBounds_toArray, List.set_cons_zero, List.set_cons_succ, i64_w, i32_w]
                          rfl
                        refine pure_ (i := 2) (N := some 20) (v := ?_) (a' := ?_) #[true, true, true, false, false, false, false, false, false] rfl rfl (any_of HT_.out (by kernel_rfl)) (fun _ _ _ h => h) (Or.inl ⟨by rfl, ?_⟩) ?_ ?_
                        rotate_left
                        · intro w'
                          go_simp
                          with_reducible rfl
                        rotate_left
                        · simp only [Act.put, List.setIfInBounds_toArray, List.set_cons_zero, List.set_cons_succ, i64_w, i32_w]
                          rfl
                        refine pure_ (i := 4) (N := some 22) (v := ?_) (a' := ?_) #[true, true, true, false, true, false, false, false, false] rfl rfl (any_of HT_.out (by kernel_rfl)) (fun _ _ _ h => h) (Or.inl ⟨by rfl, ?_⟩) ?_ ?_
                        rotate_left
                        · intro w'
                          go_simp
                          with_reducible rfl
                        rotate_left
                        · simp only [Act.put, List.setIfInBounds_toArray, List.set_cons_zero, List.set_cons_succ, i64_w, i32_w]
                          rfl
                        refine pure_ (i := 5) (N := some 23) (v := ?_) (a' := ?_) #[true, true, true, false, true, true, false, false, false] rfl rfl (any_of HT_.out (by kernel_rfl)) (fun _ _ _ h => h) (Or.inl ⟨by rfl, ?_⟩) ?_ ?_
                        rotate_left
                        · intro w'
                          go_simp
                          with_reducible rfl
                        rotate_left
                        · simp only [Act.put, List.setIfInBounds_toArray, List.set_cons_zero, List.set_cons_succ, i64_w, i32_w]
                          rfl
                        refine pure_ (i := 6) (N := some 24) (v := ?_) (a' := ?_) #[true, true, true, false, true, true, true, false, false] rfl rfl (any_of HT_.out (by kernel_rfl)) (fun _ _ _ h => h) (Or.inl ⟨by rfl, ?_⟩) ?_ ?_
                        rotate_left
                        · intro w'
                          go_simp
                          with_reducible rfl
                        rotate_left
                        · simp only [Act.put, List.setIfInBounds_toArray, List.set_cons_zero, List.set_cons_succ, i64_w, i32_w]
                          rfl
                        refine take_ (i := 3) (N := some 21) (v := ?_) (a' := ?_) #[true, true, true, true, true, true, true, false, false] rfl rfl (take_ofW HT_.out HW_.out (by kernel_rfl)) (fun _ _ _ h => h) (Or.inl ⟨by rfl, ?_⟩) hHeld ?_ ?_
                        rotate_left
                        · rintro w' ⟨s0, s1⟩
                          go_simp
                          with_reducible rfl
                        rotate_left
                        · simp only [Act.put, List.setIfInBounds_toArray, List.set_cons_zero, List.set_cons_succ, i64_w, i32_w]
                          rfl
                        refine take_ (i := 7) (N := some 25) (v := ?_) (a' := ?_) #[true, true, true, true, true, true, true, true, false] rfl rfl (take_ofW HT_.out HW_.out (by kernel_rfl)) (fun _ _ _ h => h) (Or.inl ⟨by rfl, ?_⟩) hHeld ?_ ?_
                        rotate_left
                        · rintro w' ⟨s0, s1⟩
                          go_simp
                          with_reducible rfl
                        rotate_left
                        · simp only [Act.put, List.setIfInBounds_toArray, List.set_cons_zero, List.set_cons_succ, i64_w, i32_w]
                          rfl
                        refine pure_ (i := 8) (N := some 26) (v := ?_) (a' := ?_) #[true, true, true, true, true, true, true, true, true] rfl rfl (any_of HT_.out (by kernel_rfl)) (fun _ _ _ h => h) (Or.inl ⟨by rfl, ?_⟩) ?_ ?_
                        rotate_left
                        · intro w'
                          go_simp
                          with_reducible rfl
                        rotate_left
                        · simp only [Act.put, List.setIfInBounds_toArray, List.set_cons_zero, List.set_cons_succ, i64_w, i32_w]
                          rfl
                        refine done_ (done_of HT_.out (by kernel_rfl)) ?_
                        try go_wp2
                        go_roundg k2
                        case measure => have := HK1.out; have := HK2.out; omega
                        case rel => exact ⟨(wrap64 (x15_2 + 1)), (by first | rfl | (simp; done) | (simp [*]; done)), H', ⟨by have := HK1.out; have := HK2.out; omega⟩, ⟨by (with_reducible repeat (first | apply Kd.R_alloc | apply Kd.R_drewN | apply Kd.R_drew)); exact HO_6.out⟩, ⟨by repeat (first | (with_reducible first | exact HB.out | apply below_alloc | apply pw_below_drewN | apply below_drew1) | exact HB.out)⟩⟩
                    · rw [if_neg c8] at H
                      exact absurd H (by simp)
                  · rw [if_neg c7] at H
                    exact absurd H (by simp)
                · rw [if_neg c6] at H
                  exact absurd H (by simp)
              · rw [if_neg c5] at H
                exact absurd H (by simp)
            · rw [if_neg c4] at H
              have c4b0 : decide (x15_2 < x11_1) = false := decide_eq_false c4
              clear c4
              by_cases c12 : 0 ≤ x11_1
              · rw [if_pos c12] at H
                have c12b0 : decide (0 ≤ x11_1) = true := decide_eq_true c12
                clear c12
                by_cases c13 : x11_1 < (l1.length : Int)
                · rw [if_pos c13] at H
                  have c13b0 : decide (x11_1 < (l1.length : Int)) = true := decide_eq_true c13
                  clear c13
                  replace H := Option.bind_eq_some_iff.mp H
                  obtain ⟨t180, A140, H⟩ := H
                  replace H : (if t180 = true then ((spec_Value.f k2 l0 (rdOf ByteArray.empty l1 x11_1)).bind fun t183 => (if x6_1.length < 4398046511104 then (spec_SignatureFor.l0 k2 l0 l1 (x6_1 ++ [(⟨rdOf ByteArray.empty l1 x11_1, t183⟩ : S37)]) (l1.length : Int) (wrap64 (x11_1 + 1))) else (none))) else (some (0, 2))) = some (r1, r2) := H
                  have A14 := Aside0.mk A140
                  clear A140
                  by_cases c15 : t180 = true
                  · subst c15
                    have H1 : ((spec_Value.f k2 l0 (rdOf ByteArray.empty l1 x11_1)).bind fun t183 => (if x6_1.length < 4398046511104 then (spec_SignatureFor.l0 k2 l0 l1 (x6_1 ++ [(⟨rdOf ByteArray.empty l1 x11_1, t183⟩ : S37)]) (l1.length : Int) (wrap64 (x11_1 + 1))) else (none))) = some (r1, r2) := by rw [if_pos rfl] at H; exact H
                    clear H
                    have H := H1
                    clear H1
                    replace H := Option.bind_eq_some_iff.mp H
                    obtain ⟨t183, A160, H⟩ := H
                    replace H : (if x6_1.length < 4398046511104 then (spec_SignatureFor.l0 k2 l0 l1 (x6_1 ++ [(⟨rdOf ByteArray.empty l1 x11_1, t183⟩ : S37)]) (l1.length : Int) (wrap64 (x11_1 + 1))) else (none)) = some (r1, r2) := H
                    have A16 := Aside0.mk A160
                    clear A160
                    by_cases c17 : x6_1.length < 4398046511104
                    · rw [if_pos c17] at H
                      have LMc17 := Aside0.mk c17
                      clear c17
                      obtain ⟨y184, hy184⟩ : ∃ y_ : List (S37), y_ = (x6_1 ++ [(⟨rdOf ByteArray.empty l1 x11_1, t183⟩ : S37)]) := ⟨_, rfl⟩
                      replace H : (spec_SignatureFor.l0 k2 l0 l1 y184 (l1.length : Int) (wrap64 (x11_1 + 1))) = some (r1, r2) := by first | (rw [hy184]; with_reducible exact H) | (have H2_ := (Option.bind_some _ _).symm.trans H; rw [hy184]; with_reducible exact H2_) | (have H2_ := (Option.bind_some _ _).symm.trans H; with_reducible exact H2_) | with_reducible exact H | (rw [hy184]; exact H) | exact H
                      have Ny184 := Aside0.mk hy184
                      clear hy184
                      have H' := Aside0.mk H
                      clear H
                      have p179 : 0 ≤ (x11_1 : Int) := of_decide_eq_true (by first | (with_reducible assumption) | assumption)
                      have q179 : x11_1 < (l1.length : Int) := of_decide_eq_true (by first | (with_reducible assumption) | assumption)
                      obtain ⟨ad179, e179, hx179_0⟩ := Kd.at_string HR1.out x11_1 p179 q179
                      cases e179
                      replace hx179_0 := (HB.out.cell (World.block_lt_of_cell? w _ hx179_0)).trans hx179_0
                      replace p179 := eq_true p179
                      replace q179 := eq_true q179
                      try go_wp2_with (first | ((with_reducible refine gate_callee (f := 25) rfl ?_); refine goesL_ (some 33) rfl rfl Try.func25 (by kernel_rfl) rfl #[.slice A0 l0.length c0, .string (rdOf ByteArray.empty l1 x11_1)] rfl (by (try simp only [List.map_toArray, List.map_cons, List.map_nil]); first | done | rfl | (simp only [List.length_drop, List.length_take]; rfl)) ?_; (with_reducible refine (spec_Has.calls k2 _ _ l0 (rdOf ByteArray.empty l1 x11_1) true _ ?side1 ?side2 A14.out).mono ?_); (case side1 => repeat (first | exact (Kd.C_below HR0.out HB.out) | (with_reducible refine Kd.C_alloc ?_ _) | (with_reducible refine Kd.C_drewN ?_ _) | (with_reducible refine Kd.C_drew ?_))); (case side2 => exact HC0.out); rintro e w' ⟨rfl, ⟨nd, rfl⟩⟩; refine ⟨_, rfl, ?_⟩))
                      (try (rw [drewN_self wr]; generalize hq_ : World.drewN wr _ = wr; have n0_ : Aside0 (Kd.R k37 37 wr w.heap.size (fun _ => True) u6 x6_1) := ⟨by rw [← hq_]; exact (by (with_reducible repeat (first | apply Kd.R_alloc | apply Kd.R_drewN | apply Kd.R_drew)); exact HO_6.out)⟩; have n1_ : Aside0 (Below w.heap.size w wr) := ⟨by rw [← hq_]; exact (by repeat (first | (with_reducible first | exact HB.out | apply below_alloc | apply pw_below_drewN | apply below_drew1) | exact HB.out))⟩; clear HO_6 HB hq_; have HO_6 := n0_; have HB := n1_; clear n0_ n1_))
                      have n0_ := Aside0.mk (Kd.R_drew HO_6.out)
                      have n1_ := Aside0.mk (below_drew1 HB.out)
                      clear HO_6
                      clear HB
                      have HO_6 := n0_
                      have HB := n1_
                      clear n0_ n1_
                      have p181 : 0 ≤ (x11_1 : Int) := of_decide_eq_true (by first | (with_reducible assumption) | assumption)
                      have q181 : x11_1 < (l1.length : Int) := of_decide_eq_true (by first | (with_reducible assumption) | assumption)
                      obtain ⟨ad181, e181, hx181_0⟩ := Kd.at_string HR1.out x11_1 p181 q181
                      have hw181_0 := hx181_0
                      obtain rfl : ad179 = ad181 := (by injection e181)
                      replace hx181_0 := (HB.out.cell (World.block_lt_of_cell? w _ hx181_0)).trans hx181_0
                      replace p181 := eq_true p181
                      replace q181 := eq_true q181
                      have p182 : 0 ≤ (x11_1 : Int) := of_decide_eq_true (by first | (with_reducible assumption) | assumption)
                      have q182 : x11_1 < (l1.length : Int) := of_decide_eq_true (by first | (with_reducible assumption) | assumption)
                      obtain ⟨ad182, e182, hx182_0⟩ := Kd.at_string HR1.out x11_1 p182 q182
                      have hw182_0 := hx182_0
                      obtain rfl : ad179 = ad182 := (by injection e182)
                      replace hx182_0 := (HB.out.cell (World.block_lt_of_cell? w _ hx182_0)).trans hx182_0
                      replace p182 := eq_true p182
                      replace q182 := eq_true q182
                      refine start_ (n := 15) (S := fun w' => w'.cell? (ad179.add (x11_1).toNat) = some (.string (rdOf ByteArray.empty l1 x11_1)) ∧ w'.cell? (ad179.add (x11_1).toNat) = some (.string (rdOf ByteArray.empty l1 x11_1))) (ds := []) #[false, false, false, false, false, false, false, false, false, false, false, false, false, false, false] (by kernel_rfl) rfl rfl ⟨((HB.out.cell (World.block_lt_of_cell? w _ hw181_0)).trans hw181_0), ((HB.out.cell (World.block_lt_of_cell? w _ hw182_0)).trans hw182_0)⟩ (fun hHeld => ?_); refine with_tabW spec_SignatureFor.tab13 spec_SignatureFor.bits13 (fun HT_ HW_ => ?_)
                      generalize wr.drew = w18 at HO_6 HB hx181_0 hx182_0 hHeld ⊢
                      refine pure_ (i := 0) (N := some 35) (v := ?_) (a' := ?_) #[true, false, false, false, false, false, false, false, false, false, false, false, false, false, false] rfl rfl (any_of HT_.out (by kernel_rfl)) (fun _ _ _ h => h) (Or.inl ⟨by rfl, ?_⟩) ?_ ?_
                      rotate_left
                      · intro w'
                        go_simp
                        with_reducible rfl
                      rotate_left
                      · simp only [Act.put, List.setIfInBounds_toArray, List.set_cons_zero, List.set_cons_succ, i64_w, i32_w]
                        rfl
                      refine pure_ (i := 1) (N := some 36) (v := ?_) (a' := ?_) #[true, true, false, false, false, false, false, false, false, false, false, false, false, false, false] rfl rfl (any_of HT_.out (by kernel_rfl)) (fun _ _ _ h => h) (Or.inl ⟨by rfl, ?_⟩) ?_ ?_
                      rotate_left
                      · intro w'
                        go_simp
                        with_reducible rfl
                      rotate_left
                      · simp only [Act.put, List.setIfInBounds_toArray, List.set_cons_zero, List.set_cons_succ, i64_w, i32_w]
                        rfl
                      refine pure_ (i := 2) (N := some 37) (v := ?_) (a' := ?_) #[true, true, true, false, false, false, false, false, false, false, false, false, false, false, false] rfl rfl (any_of HT_.out (by kernel_rfl)) (fun _ _ _ h => h) (Or.inl ⟨by rfl, ?_⟩) ?_ ?_
                      rotate_left
                      · intro w'
                        go_simp
                        with_reducible rfl
                      rotate_left
                      · simp only [Act.put, List.setIfInBounds_toArray, List.set_cons_zero, List.set_cons_succ, i64_w, i32_w]
                        rfl
                      refine pure_ (i := 3) (N := some 38) (v := ?_) (a' := ?_) #[true, true, true, true, false, false, false, false, false, false, false, false, false, false, false] rfl rfl (any_of HT_.out (by kernel_rfl)) (fun _ _ _ h => h) (Or.inl ⟨by rfl, ?_⟩) ?_ ?_
                      rotate_left
                      · intro w'
                        go_simp
                        with_reducible rfl
                      rotate_left
                      · simp only [Act.put, List.setIfInBounds_toArray, List.set_cons_zero, List.set_cons_succ, i64_w, i32_w]
                        rfl
                      refine pure_ (i := 5) (N := some 40) (v := ?_) (a' := ?_) #[true, true, true, true, false, true, false, false, false, false, false, false, false, false, false] rfl rfl (any_of HT_.out (by kernel_rfl)) (fun _ _ _ h => h) (Or.inl ⟨by rfl, ?_⟩) ?_ ?_
                      rotate_left
                      · intro w'
                        go_simp
                        with_reducible rfl
                      rotate_left
                      · simp only [Act.put, List.setIfInBounds_toArray, List.set_cons_zero, List.set_cons_succ, i64_w, i32_w]
                        rfl
                      refine pure_ (i := 6) (N := some 41) (v := ?_) (a' := ?_) #[true, true, true, true, false, true, true, false, false, false, false, false, false, false, false] rfl rfl (any_of HT_.out (by kernel_rfl)) (fun _ _ _ h => h) (Or.inl ⟨by rfl, ?_⟩) ?_ ?_
                      rotate_left
                      · intro w'
                        go_simp
                        with_reducible rfl
                      rotate_left
                      · simp only [Act.put, List.setIfInBounds_toArray, List.set_cons_zero, List.set_cons_succ, i64_w, i32_w]
                        rfl
                      refine pure_ (i := 7) (N := some 42) (v := ?_) (a' := ?_) #[true, true, true, true, false, true, true, true, false, false, false, false, false, false, false] rfl rfl (any_of HT_.out (by kernel_rfl)) (fun _ _ _ h => h) (Or.inl ⟨by rfl, ?_⟩) ?_ ?_
                      rotate_left
                      · intro w'
                        go_simp
                        with_reducible rfl
                      rotate_left
                      · simp only [Act.put, List.setIfInBounds_toArray, List.set_cons_zero, List.set_cons_succ, i64_w, i32_w]
                        rfl
                      refine pure_ (i := 8) (N := some 43) (v := ?_) (a' := ?_) #[true, true, true, true, false, true, true, true, true, false, false, false, false, false, false] rfl rfl (any_of HT_.out (by kernel_rfl)) (fun _ _ _ h => h) (Or.inl ⟨by rfl, ?_⟩) ?_ ?_
                      rotate_left
                      · intro w'
                        go_simp
                        with_reducible rfl
                      rotate_left
                      · simp only [Act.put, List.setIfInBounds_toArray, List.set_cons_zero, List.set_cons_succ, i64_w, i32_w]
                        rfl
                      refine take_ (i := 4) (N := some 39) (v := ?_) (a' := ?_) #[true, true, true, true, true, true, true, true, true, false, false, false, false, false, false] rfl rfl (take_ofW HT_.out HW_.out (by kernel_rfl)) (fun _ _ _ h => h) (Or.inl ⟨by rfl, ?_⟩) hHeld ?_ ?_
                      rotate_left
                      · rintro w' ⟨s0, s1⟩
                        go_simp
                        with_reducible rfl
                      rotate_left
                      · simp only [Act.put, List.setIfInBounds_toArray, List.set_cons_zero, List.set_cons_succ, i64_w, i32_w]
                        rfl
                      refine take_ (i := 9) (N := some 44) (v := ?_) (a' := ?_) #[true, true, true, true, true, true, true, true, true, true, false, false, false, false, false] rfl rfl (take_ofW HT_.out HW_.out (by kernel_rfl)) (fun _ _ _ h => h) (Or.inl ⟨by rfl, ?_⟩) hHeld ?_ ?_
                      rotate_left
                      · rintro w' ⟨s0, s1⟩
                        go_simp
                        with_reducible rfl
                      rotate_left
                      · simp only [Act.put, List.setIfInBounds_toArray, List.set_cons_zero, List.set_cons_succ, i64_w, i32_w]
                        rfl
                      refine one_ (i := 10) (N := some 45) #[true, true, true, true, true, true, true, true, true, true, true, false, false, false, false] rfl rfl (one_of HT_.out (by kernel_rfl)) (by decide) (fun K hK => ?_)
                      refine goes_ Try.func26 (by kernel_rfl) rfl #[.slice A0 l0.length c0, .string (rdOf ByteArray.empty l1 x11_1)] (by rfl) rfl rfl (by (try simp only [List.map_toArray, List.map_cons, List.map_nil]); first | done | rfl | (simp only [List.length_drop, List.length_take]; rfl)) ?_
                      with_reducible refine (spec_Value.calls k2 _ _ l0 (rdOf ByteArray.empty l1 x11_1) t183 _ ?side1 ?side2 A16.out).mono ?_
                      (case side1 => repeat (first | exact (Kd.C_below HR0.out HB.out) | (with_reducible refine Kd.C_alloc ?_ _) | (with_reducible refine Kd.C_drewN ?_ _) | (with_reducible refine Kd.C_drew ?_)))
                      (case side2 => exact HC0.out)
                      rintro e w' ⟨rfl, ⟨nd, rfl⟩⟩
                      refine ⟨_, rfl, ?_⟩
                      refine hK.out _ _ ⟨((HB.out.cell (World.block_lt_of_cell? w _ hw181_0)).trans hw181_0), ((HB.out.cell (World.block_lt_of_cell? w _ hw182_0)).trans hw182_0)⟩ (fun hHeld => ?_)
                      clear hK K
                      refine norm_ (a' := ?_) ?_ ?_
                      rotate_left
                      · show Act.put _ (some 45) _ = _
                        simp only [Act.put, List.setIfInBounds_toArray, List.set_cons_zero, List.set_cons_succ, i64_w, i32_w]
                        rfl
                      refine pure_ (i := 11) (N := some 46) (v := ?_) (a' := ?_) #[true, true, true, true, true, true, true, true, true, true, true, true, false, false, false] rfl rfl (any_of HT_.out (by kernel_rfl)) (fun _ _ _ h => h) (Or.inl ⟨by rfl, ?_⟩) ?_ ?_
                      rotate_left
                      · intro w'
                        go_simp
                        with_reducible rfl
                      rotate_left
                      · simp only [Act.put, List.setIfInBounds_toArray, List.set_cons_zero, List.set_cons_succ, i64_w, i32_w]
                        rfl
                      refine one_ (i := 12) (N := some 47) #[true, true, true, true, true, true, true, true, true, true, true, true, true, false, false] rfl rfl (one_of HT_.out (by kernel_rfl)) (by decide) (fun K hK => ?_)
                      refine value_ (w1 := ?_) (v := ?_) (by rfl) rfl ?_ ?_
                      rotate_left 2
                      · go_simp
                        constructor
                        · rfl
                        · rfl
                      refine hK.out _ _ ⟨(World.cell?_alloc_lt _ _ _ (World.block_lt_of_cell? _ _ (((HB.out.cell (World.block_lt_of_cell? w _ hw181_0)).trans hw181_0)))).trans (((HB.out.cell (World.block_lt_of_cell? w _ hw181_0)).trans hw181_0)), (World.cell?_alloc_lt _ _ _ (World.block_lt_of_cell? _ _ (((HB.out.cell (World.block_lt_of_cell? w _ hw182_0)).trans hw182_0)))).trans (((HB.out.cell (World.block_lt_of_cell? w _ hw182_0)).trans hw182_0))⟩ (fun hHeld => ?_)
                      clear hK K
                      refine norm_ (a' := ?_) ?_ ?_
                      rotate_left
                      · show Act.put _ (some 47) _ = _
                        simp only [Act.put, List.setIfInBounds_toArray, List.set_cons_zero, List.set_cons_succ, i64_w, i32_w]
                        rfl
                      refine one_ (i := 13) (N := some 48) #[true, true, true, true, true, true, true, true, true, true, true, true, true, true, false] rfl rfl (one_of HT_.out (by kernel_rfl)) (by decide) (fun K hK => ?_)
                      refine Kd.R_append_step k37 (w0 := w) w.heap.size (by rfl) (.tmp 35) (.tmp 47) 34 37 (.agg #[(.string ⟨#[]⟩), (.string ⟨#[]⟩)]) 32 rfl Try.underlying34 info37 rfl (by decide) (by omega) u6 x6_1 (⟨rdOf ByteArray.empty l1 x11_1, t183⟩ : S37) [.string (rdOf ByteArray.empty l1 x11_1), .string t183] (fun _ => True) (fun _ => False) rfl rfl ?aP (fun _ hk => hk.elim) ?aF ?aO ?aB ?aS ?aL ?_
                      (case aP => exact k37_mkM _ _ _ (⟨rdOf ByteArray.empty l1 x11_1, t183⟩ : S37))
                      (case aB => exact (by repeat (first | (with_reducible first | exact HB.out | apply below_alloc | apply pw_below_drewN | apply below_drew1) | exact HB.out)))
                      (case aF => exact (fun _ _ => trivial))
                      (case aO => exact (by (with_reducible repeat (first | apply Kd.R_alloc | apply Kd.R_drewN | apply Kd.R_drew)); exact HO_6.out))
                      (case aS => exact (below_size (by repeat (first | (with_reducible first | exact HB.out | apply below_alloc | apply pw_below_drewN | apply below_drew1) | exact HB.out))))
                      (case aL => have := LMc17.out; first | omega | exact this | exact Nat.le_of_lt this)
                      intro v185 w19 ho hb hg hat
                      rw [← Ny184.out] at ho
                      have n0_ := Aside0.mk (hb)
                      have n1_ := Aside0.mk (ho)
                      clear HB
                      clear HO_6
                      have HB := n0_
                      have HO186 := n1_
                      clear n0_ n1_
                      clear ho hb hg hat
                      refine hK.out _ _ ⟨((HB.out.cell (World.block_lt_of_cell? w _ hw181_0)).trans hw181_0), ((HB.out.cell (World.block_lt_of_cell? w _ hw182_0)).trans hw182_0)⟩ (fun hHeld => ?_)
                      clear hK K
                      refine norm_ (a' := ?_) ?_ ?_
                      rotate_left
                      · show Act.put _ (some 48) _ = _
                        simp only [Act.put, List.setIfInBounds_toArray, List.set_cons_zero, List.set_cons_succ, i64_w, i32_w]
                        rfl
                      refine pure_ (i := 14) (N := some 6) (v := ?_) (a' := ?_) #[true, true, true, true, true, true, true, true, true, true, true, true, true, true, true] rfl rfl (any_of HT_.out (by kernel_rfl)) (fun _ _ _ h => h) (Or.inl ⟨by rfl, ?_⟩) ?_ ?_
                      rotate_left
                      · intro w'
                        go_simp
                        with_reducible rfl
                      rotate_left
                      · simp only [Act.put, List.setIfInBounds_toArray, List.set_cons_zero, List.set_cons_succ, i64_w, i32_w]
                        rfl
                      refine done_ (done_of HT_.out (by kernel_rfl)) ?_
                      try go_wp2
                      go_roundg k2
                      case measure => have := HK1.out; have := HK2.out; omega
                      case rel => exact ⟨(y184), (wrap64 (x11_1 + 1)), (by first | rfl | (simp; done) | (simp [*]; done)), H', ⟨by have := HK1.out; have := HK2.out; omega⟩, ⟨by (with_reducible repeat (first | apply Kd.R_alloc | apply Kd.R_drewN | apply Kd.R_drew)); exact HO186.out⟩, ⟨by repeat (first | (with_reducible first | exact HB.out | apply below_alloc | apply pw_below_drewN | apply below_drew1) | exact HB.out)⟩⟩
                    · rw [if_neg c17] at H
                      exact absurd H (by simp)
                  · replace c15 := Bool.eq_false_iff.mpr c15
                    subst c15
                    have H1 : (some (0, 2)) = some (r1, r2) := by rw [if_neg (show ¬ (false = true) by decide)] at H; exact H
                    clear H
                    have H := H1
                    clear H1
                    simp only [Option.some.injEq, Prod.mk.injEq] at H
                    obtain ⟨rfl, rfl⟩ := H
                    have p179 : 0 ≤ (x11_1 : Int) := of_decide_eq_true (by first | (with_reducible assumption) | assumption)
                    have q179 : x11_1 < (l1.length : Int) := of_decide_eq_true (by first | (with_reducible assumption) | assumption)
                    obtain ⟨ad179, e179, hx179_0⟩ := Kd.at_string HR1.out x11_1 p179 q179
                    cases e179
                    replace hx179_0 := (HB.out.cell (World.block_lt_of_cell? w _ hx179_0)).trans hx179_0
                    replace p179 := eq_true p179
                    replace q179 := eq_true q179
                    go_wp2_with (first | ((with_reducible refine gate_callee (f := 25) rfl ?_); refine goesL_ (some 33) rfl rfl Try.func25 (by kernel_rfl) rfl #[.slice A0 l0.length c0, .string (rdOf ByteArray.empty l1 x11_1)] rfl (by (try simp only [List.map_toArray, List.map_cons, List.map_nil]); first | done | rfl | (simp only [List.length_drop, List.length_take]; rfl)) ?_; (with_reducible refine (spec_Has.calls k2 _ _ l0 (rdOf ByteArray.empty l1 x11_1) false _ ?side1 ?side2 A14.out).mono ?_); (case side1 => repeat (first | exact (Kd.C_below HR0.out HB.out) | (with_reducible refine Kd.C_alloc ?_ _) | (with_reducible refine Kd.C_drewN ?_ _) | (with_reducible refine Kd.C_drew ?_))); (case side2 => exact HC0.out); rintro e w' ⟨rfl, ⟨nd, rfl⟩⟩; refine ⟨_, rfl, ?_⟩))
                    go_ret2
                    exact ⟨by first | rfl | (simp [errW_none, errW_some] <;> rfl) | (simp [*, errW_none, errW_some] <;> rfl), by repeat (first | (with_reducible first | exact HB.out | apply below_alloc | apply pw_below_drewN | apply below_drew1) | exact HB.out)⟩
                · rw [if_neg c13] at H
                  exact absurd H (by simp)
              · rw [if_neg c12] at H
                exact absurd H (by simp)
      · rw [if_neg c3] at H
        have c3b0 : decide (x11_1 < (l1.length : Int)) = false := decide_eq_false c3
        clear c3
        replace H := Option.bind_eq_some_iff.mp H
        obtain ⟨t176, A200, H⟩ := H
        replace H : (some (t176, 1)) = some (r1, r2) := H
        have A20 := Aside0.mk A200
        clear A200
        simp only [Option.some.injEq, Prod.mk.injEq] at H
        obtain ⟨rfl, rfl⟩ := H
        obtain ⟨Ao21, co21, eo21⟩ := Kd.R_slice HO_6.out
        subst eo21
        go_wp2_with (first | ((with_reducible refine gate_callee (f := 27) rfl ?_); refine goesL_ (some 51) rfl rfl Try.func27 (by kernel_rfl) rfl #[.slice Ao21 x6_1.length co21] rfl (by (try simp only [List.map_toArray, List.map_cons, List.map_nil]); first | done | rfl | (simp only [List.length_drop, List.length_take]; rfl)) ?_; (with_reducible refine (spec_SetPrint.calls k1 _ _ x6_1 t176 _ ?side1 ?side2 A20.out).mono ?_); (case side1 => repeat (first | exact (Kd.R_reads' HO_6.out).2.2 | (with_reducible refine Kd.C_alloc ?_ _) | (with_reducible refine Kd.C_drewN ?_ _) | (with_reducible refine Kd.C_drew ?_))); (case side2 => exact (Kd.R_reads' HO_6.out).2.1); rintro e w22 ⟨rfl, hb⟩; refine ⟨_, rfl, ?_⟩; have n0_ := Aside0.mk (Kd.R_below (by (with_reducible repeat (first | apply Kd.R_alloc | apply Kd.R_drewN | apply Kd.R_drew)); exact HO_6.out) hb); have n1_ := Aside0.mk (below_step (by repeat (first | (with_reducible first | exact HB.out | apply below_alloc | apply pw_below_drewN | apply below_drew1) | exact HB.out)) hb); clear HO_6; clear HB; have HO_6 := n0_; have HB := n1_; clear n0_ n1_; (try clear hb); (try clear hb2); (try clear hk); (try clear hi)))
        go_ret2
        exact ⟨by first | rfl | (simp [errW_none, errW_some] <;> rfl) | (simp [*, errW_none, errW_some] <;> rfl), by repeat (first | (with_reducible first | exact HB.out | apply below_alloc | apply pw_below_drewN | apply below_drew1) | exact HB.out)⟩

/-! ### sort_insertionSort: function 42 -/
-- contracts that were proved by hand
-- nothing told here: the shelf's contract of sort.Sort stands in its place


/-! ### sort_siftDown: function 52 -/
-- contracts that were proved by hand
-- nothing told here: the shelf's contract of sort.Sort stands in its place


/-! ### sort_heapSort: function 43 -/
-- contracts that were proved by hand
-- nothing told here: the shelf's contract of sort.Sort stands in its place


/-! ### sort_nextPowerOfTwo: function 53 -/
-- contracts that were proved by hand
-- nothing told here: the shelf's contract of sort.Sort stands in its place


/-! ### sort_xorshift_Next: function 54 -/
-- contracts that were proved by hand
-- nothing told here: the shelf's contract of sort.Sort stands in its place


/-! ### sort_breakPatterns: function 44 -/
-- contracts that were proved by hand
-- nothing told here: the shelf's contract of sort.Sort stands in its place


/-! ### sort_order2: function 58 -/
-- contracts that were proved by hand
-- nothing told here: the shelf's contract of sort.Sort stands in its place


/-! ### sort_median: function 56 -/
-- contracts that were proved by hand
-- nothing told here: the shelf's contract of sort.Sort stands in its place


/-! ### sort_medianAdjacent: function 55 -/
-- contracts that were proved by hand
-- nothing told here: the shelf's contract of sort.Sort stands in its place


/-! ### sort_choosePivot: function 45 -/
-- contracts that were proved by hand
-- nothing told here: the shelf's contract of sort.Sort stands in its place


/-! ### sort_reverseRange: function 46 -/
-- contracts that were proved by hand
-- nothing told here: the shelf's contract of sort.Sort stands in its place


/-! ### sort_partialInsertionSort: function 47 -/
-- contracts that were proved by hand
-- nothing told here: the shelf's contract of sort.Sort stands in its place


/-! ### sort_partitionEqual: function 48 -/
-- contracts that were proved by hand
-- nothing told here: the shelf's contract of sort.Sort stands in its place


end Go.Proofs.Ytcneoonhdfblaaa.Q
