-- printed by this project's own program wip/tools/mkprint.py (the kit's print.py with hand-proved contracts put in)
import Derived.Test.YtbffhefeepmpcaaQx0
import Derived.Test.YtbffhefeepmpcaaQx14
namespace Go.Proofs.Ytbffhefeepmpcaa.Q
open Go.RowKit Go.Proofs.YtbffhefeepmpcaaW.PrintWords Go.Proofs.YtbffhefeepmpcaaW.PrintLast Go.Proofs.YtbffhefeepmpcaaW.PrintMore
attribute [local go_sem] max2_int min2_int max_two min_two max_three min_three max_four min_four   -- for this text's walks alone
set_option linter.unusedVariables false
set_option linter.unusedSimpArgs false

/-! ### impl_inners: function 52 -/
-- contracts that were proved by hand
theorem infoPM : (Try.prog.info? 110).map (fun i => (i.zero, i.size, i.bytes)) = some (some (.pointer none), 1, 8) := by kernel_rfl
set_option maxHeartbeats 1600000 in
set_option maxRecDepth 100000 in
theorem impl_inners.calls (A0 : Option Addr) (c0 : Nat) (l0 : List S37) (w : World) (hr0 : Kd.C k37 w A0 l0.length l0) (hc0 : l0.length ≤ c0) (hl : l0.length ≤ 17592186044416) :
    Calls Try.prog 52 #[.slice A0 l0.length c0] w fun e w' => ∃ v, e = .returned v ∧ kMat.R 110 w' w.heap.size (fun _ => True) v (l0.map toMat) ∧ Below w.heap.size w w' := by
  have HR0 := Aside0.mk hr0
  have HC0 := Aside0.mk hc0
  clear hr0 hc0
  go_enter Try.func52, Try.ntmps52
  go_wp2
  go_loopw [3, 8] (fun v3 v8 wr => ∃ j : Nat, j ≤ l0.length ∧ v8 = .int .i64 j ∧ Aside0 (kMat.R 110 wr w.heap.size (fun _ => True) v3 ((l0.take j).map toMat)) ∧ Aside0 (Below w.heap.size w wr)) (fun _ v8 _ => l0.length - (intOf v8).toNat)
  case atStart => exact ⟨0, Nat.zero_le _, rfl, ⟨Kd.R_nil _ _ _ _ _⟩, ⟨Below.refl _ _⟩⟩
  case round =>
    obtain ⟨j, hj, rfl, HO, HB⟩ := hrel
    by_cases hlt : j < l0.length
    · obtain ⟨ad, e0, hx0, hx1, hx2⟩ := at_T37 HR0.out (j : Int) (by omega) (by omega)
      cases e0
      replace hx0 := (HB.out.cell (World.block_lt_of_cell? w _ hx0)).trans hx0
      replace hx1 := (HB.out.cell (World.block_lt_of_cell? w _ hx1)).trans hx1
      replace hx2 := (HB.out.cell (World.block_lt_of_cell? w _ hx2)).trans hx2
      simp only [Int.toNat_natCast] at hx0 hx1 hx2
      go_wp2_with fail
      refine (impl_inner.calls _ _ _ _).mono ?_
      rintro e w1 ⟨g, rfl, hg, hbox, hb1⟩
      have HO1 := Aside0.mk (Kd.R_below (Kd.R_alloc HO.out _) hb1)
      have HB1 := Aside0.mk (below_step (below_alloc HB.out _) hb1)
      have HS := Aside0.mk (show w.heap.size ≤ wr.heap.size from below_size HB.out)
      have HL := Aside0.mk (show ∀ k, u3.ownBlock = some k → k < wr.heap.size from fun k hk => by obtain ⟨_, inner, ho, _⟩ := HO.out; exact own_lt ho k hk)
      have HG := Aside0.mk (show wr.heap.size ≤ g by simp at hg; omega)
      have HX := Aside0.mk hbox
      have HT := Aside0.mk (show (l0.take (j + 1)).map toMat = (l0.take j).map toMat ++ [toMat (rd_T37 l0 (j : Int))] by rw [Box.take_more l0 z37 j hlt, List.map_append]; rfl)
      clear HO HB hb1 hbox hg hx0 hx1 hx2
      go_wp2_with ((with_reducible refine gate_builtin (b := .append) (xs := #[.tmp 12, .tmp 15]) rfl ?_); at_builtin; refine Kd.R_append kMat (w0 := w) w.heap.size rfl (.tmp 12) (.tmp 15) 79 110 (.pointer none) 8 rfl Try.underlying79 infoPM rfl (by decide) (by omega) u3 ((l0.take j).map toMat) (toMat (rd_T37 l0 (j : Int))) [.pointer (some ⟨g, 0, none⟩)] (fun _ => True) (fun k => k = g) rfl (by first | (go_simp; done) | (go_simp; rfl)) ?aP ?aK ?aF ?aO ?aB ?aS ?aL ?_; (case aP => exact kMat_new (Nat.le_trans HS.out HG.out) HX.out _ rfl); (case aK => (rintro k rfl; exact ⟨trivial, fun e => by have := HL.out _ e.symm; have := HG.out; omega⟩)); (case aF => exact fun _ _ => trivial); (case aO => exact HO1.out); (case aB => exact HB1.out); (case aS => exact below_size HB1.out); (case aL => rw [List.length_map, List.length_take]; omega); intro v2 w2 hO2 hB2 hg2 hat2; rw [← HT.out] at hO2; have HO2 := Aside0.mk hO2; have HB2 := Aside0.mk hB2; clear hO2 hB2 hg2 hat2 HO1 HB1 HX HT)
      go_roundw
      case rel => exact ⟨j + 1, by omega, by go_num, HO2, HB2⟩
      case measure => simp [intOf]; omega
    · have hj2 : j = l0.length := by omega
      subst hj2
      go_wp2
      go_ret
      have h := HO.out
      rw [List.take_of_length_le (Nat.le_refl _)] at h
      exact ⟨_, rfl, h, HB.out⟩


end Go.Proofs.Ytbffhefeepmpcaa.Q
