-- printed by this project's own program wip/tools/mkprint.py (the kit's print.py with hand-proved contracts put in)
import Derived.Test.YtbffhefeepmpcaaQx0
namespace Go.Proofs.Ytbffhefeepmpcaa.Q
open Go.RowKit Go.Proofs.YtbffhefeepmpcaaW.PrintWords Go.Proofs.YtbffhefeepmpcaaW.PrintLast Go.Proofs.YtbffhefeepmpcaaW.PrintMore
attribute [local go_sem] max2_int min2_int max_two min_two max_three min_three max_four min_four   -- for this text's walks alone
set_option linter.unusedVariables false
set_option linter.unusedSimpArgs false

/-! ### impl_labelSet: function 49 -/
-- contracts that were proved by hand
def setL (l : List S48) : MapsS.SM := l.foldl (fun m p => MapsS.ins p.f0 p.f1 m) []
theorem setL_snoc (l : List S48) (p : S48) : setL (l ++ [p]) = MapsS.ins p.f0 p.f1 (setL l) := by simp [setL, List.foldl_append]
def small2 (p : S48) : Bool := decide (p.f0.size ≤ maxLen) && decide (p.f1.size ≤ maxLen)
def lessMax (l : List S48) : Bool := decide (l.length < maxLen) && l.all small2
/-- Block b of w is the set of labels m. -/
abbrev LSet (w : World) (b n : Nat) (m : MapsS.SM) : Prop := MapsS.IsSM Try.prog 108 107 w b n m
set_option maxHeartbeats 1600000 in
set_option maxRecDepth 100000 in
theorem impl_labelSet.calls (A0 : Option Addr) (c0 : Nat) (l0 : List S48) (w : World) (hr0 : Kd.C k48 w A0 l0.length l0) (hc0 : l0.length ≤ c0) (hl : l0.length < maxLen) (hs : l0.all small2 = true) :
    Calls Try.prog 49 #[.slice A0 l0.length c0] w fun e w' => ∃ b, e = .returned (.map (some b)) ∧ w.heap.size ≤ b ∧ LSet w' b l0.length (setL l0) ∧ Below w.heap.size w w' := by
  have HR0 := Aside0.mk hr0
  have HC0 := Aside0.mk hc0
  have HS := Aside0.mk hs
  clear hr0 hc0 hs
  unfold maxLen at hl
  have hmm := @run_makeMap Try.prog
  go_enter Try.func49, Try.ntmps49
  go_wp2
  have H0 : LSet (w.alloc (.map #[] 0)) w.heap.size 0 (setL (l0.take 0)) := MapsS.IsSM.made w Try.prog _ _
  have HM0 := Aside0.mk H0
  clear H0
  go_loopw [9] (fun v9 wr => ∃ j : Nat, j ≤ l0.length ∧ v9 = .int .i64 j ∧ Aside0 (LSet wr w.heap.size j (setL (l0.take j))) ∧ Aside0 (Below w.heap.size w wr)) (fun v9 _ => l0.length - (intOf v9).toNat)
  case atStart => exact ⟨0, Nat.zero_le _, rfl, HM0, ⟨below_alloc (Below.refl _ _) _⟩⟩
  case round =>
    clear HM0
    obtain ⟨j, hj, rfl, HM, HB⟩ := hrel
    by_cases hlt : j < l0.length
    · obtain ⟨ad, e0, hx0, hx1⟩ := at_T48 HR0.out (j : Int) (by omega) (by omega)
      cases e0
      replace hx0 := (HB.out.cell (World.block_lt_of_cell? w _ hx0)).trans hx0
      replace hx1 := (HB.out.cell (World.block_lt_of_cell? w _ hx1)).trans hx1
      simp only [Int.toNat_natCast] at hx0 hx1
      have hsm := List.all_eq_true.1 HS.out (rd_T48 l0 (j : Int)) (by show l0.getD j z48 ∈ l0; rw [List.getD_eq_getElem?_getD, List.getElem?_eq_getElem hlt]; exact List.getElem_mem hlt)
      simp only [small2, Bool.and_eq_true, decide_eq_true_eq] at hsm
      have HK := Aside0.mk hsm.1
      have HV := Aside0.mk hsm.2
      have HT := Aside0.mk (show setL (l0.take (j + 1)) = MapsS.ins (rd_T48 l0 (j : Int)).f0 (rd_T48 l0 (j : Int)).f1 (setL (l0.take j)) by rw [Box.take_more l0 z48 j hlt, setL_snoc]; rfl)
      clear hsm
      go_wp2_with (at_mapUpdate; refine MapsS.wpList_store_sm (t := 74) (k := 108) (e := 107) rfl _ _ _ rfl Try.underlying74 Try.underlying108 Try.underlying107 rfl (HM.out.alloc _) (by unfold maxLen; omega) rfl rfl HK.out HV.out ?_; intro w2 hM2 hg2; rw [← HT.out] at hM2; have HM2 := Aside0.mk hM2; have HB2 := Aside0.mk (pw_below_grown (below_alloc HB.out _) _ (by have := below_size HB.out; simp; omega) hg2 (fun k hk => by injection hk with hk; omega)); clear hM2 hg2 HM HB HT)
      go_roundw
      case rel => exact ⟨j + 1, by omega, by go_num, HM2, HB2⟩
      case measure => simp [intOf]; omega
    · have hj2 : j = l0.length := by omega
      subst hj2
      go_wp2
      go_ret
      have h := HM.out
      rw [List.take_of_length_le (Nat.le_refl _)] at h
      exact ⟨_, rfl, Nat.le_refl _, h, HB.out⟩


end Go.Proofs.Ytbffhefeepmpcaa.Q
