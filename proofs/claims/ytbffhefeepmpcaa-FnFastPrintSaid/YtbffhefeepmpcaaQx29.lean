-- printed by this project's own program wip/tools/mkprint.py (the kit's print.py with hand-proved contracts put in)
import Derived.Test.YtbffhefeepmpcaaQx0
import Derived.Test.YtbffhefeepmpcaaQx28
namespace Go.Proofs.Ytbffhefeepmpcaa.Q
open Go.RowKit Go.Proofs.YtbffhefeepmpcaaW.PrintWords Go.Proofs.YtbffhefeepmpcaaW.PrintLast Go.Proofs.YtbffhefeepmpcaaW.PrintMore
attribute [local go_sem] max2_int min2_int max_two min_two max_three min_three max_four min_four   -- for this text's walks alone
set_option linter.unusedVariables false
set_option linter.unusedSimpArgs false

/-! ### model_LabelSet_Equal: function 50 -/
-- contracts that were proved by hand
set_option maxHeartbeats 1600000 in
set_option maxRecDepth 100000 in
theorem model_LabelSet_Equal.calls (b1 n1 b2 n2 : Nat) (m1 m2 : MapsS.SM) (w : World) (h1 : LSet w b1 n1 m1) (h2 : LSet w b2 n2 m2) :
    Calls Try.prog 50 #[.map (some b1), .map (some b2)] w fun e w' => e = .returned (.bool (decide (m1 = m2))) ∧ Below w.heap.size w w' := by
  have e1 := fun ty => h1.len_run Try.underlying74 ty
  have e2 := fun ty => h2.len_run Try.underlying74 ty
  have HL1 := Aside0.mk h1.lt
  have HL2 := Aside0.mk h2.lt
  have H1 := Aside0.mk h1
  have H2 := Aside0.mk h2
  clear h1 h2
  by_cases hlen : m1.length = m2.length
  · have c1 : ((m1.length : Int) != (m2.length : Int)) = false := by simp [hlen]
    have HN := Aside0.mk hlen
    clear hlen
    obtain ⟨q, hq⟩ : ∃ q, decide (m1 = m2) = q := ⟨_, rfl⟩
    rw [hq]
    have HQ := Aside0.mk hq
    clear hq
    go_enter Try.func50, Try.ntmps50
    go_wp2_with (at_range; refine MapsS.wpList_range_sm (t := 74) rfl _ rfl Try.underlying74 Try.underlying108 rfl H1.out ?_; intro w2 r hr hR hg hsz; have HR := Aside0.mk hR; have HG := Aside0.mk (show r = w.heap.size from hr); have HB := Aside0.mk (pw_below_grown (Below.refl w.heap.size w) none (Nat.le_refl _) hg (by simp)); clear hr hR hg hsz)
    go_frame
    clear e1 e2 c1
    go_loopw [16] (fun v16 wr => ∃ seen, Aside0 (MapsS.RSM Try.prog 108 107 wr b1 r n1 m1 seen) ∧ Aside0 (Below w.heap.size w wr) ∧ Aside0 (∀ p ∈ seen, MapsS.look p.1 m2 = some p.2)) (fun _ wr => wr.rangeLeft b1 r)
    case atStart => exact ⟨[], HR, HB, ⟨fun p hp => by simp at hp⟩⟩
    case round =>
      clear HR HB
      obtain ⟨seen, HR, HB, HS⟩ := hrel
      go_wp2_with (at_next; refine MapsS.wpList_next_sm rfl _ rfl Try.underlying108 Try.underlying107 rfl HR.out ?_ ?_)
      · intro hp
        have hf : q = true := by
          rw [← HQ.out]
          exact decide_eq_true (MapsS.sm_eq H1.out.2.1 H2.out.2.1 HN.out (fun p hp1 => HS.out p (hp.mem_iff.2 hp1)))
        clear hp
        subst hf
        go_wp2
        go_ret
        exact ⟨rfl, HB.out⟩
      · intro x c w3 hmem hnot hR hlt hg hsz hen
        have HM := Aside0.mk hmem
        have HR3 := Aside0.mk hR
        have HB3 := Aside0.mk (pw_below_grown HB.out _ (below_size HB.out) hg (fun k hk => by injection hk with hk; have := HG.out; omega))
        have HT := Aside0.mk hlt
        have h2 := (H2.out.below HB3.out).look_ok_run Try.underlying74 Try.underlying108 Try.underlying107 (by rfl) (H1.out.2.2 _ hmem).1
        clear hmem hnot hR hg hsz hlt
        cases hk : MapsS.look x m2 with
        | none =>
          have hf : q = false := by
            rw [← HQ.out]
            refine decide_eq_false (fun e => ?_)
            have := (MapsS.look_mem H1.out.2.1).2 HM.out
            rw [e, hk] at this
            cases this
          subst hf
          rw [hk] at h2
          clear hk
          go_wp2
          go_ret
          exact ⟨rfl, HB3.out⟩
        | some v =>
          rw [hk] at h2
          cases hv : (v.toList == c.toList) with
          | true =>
            have e0 : v = c := MapsS.ba_ext' (beq_iff_eq.1 hv)
            have HS3 := Aside0.mk (show ∀ p ∈ seen ++ [(x, c)], MapsS.look p.1 m2 = some p.2 from fun p hp => by
              rcases List.mem_append.1 hp with hp | hp
              · exact HS.out p hp
              · rw [List.mem_singleton.1 hp, hk, e0])
            clear hk e0
            go_wp2
            go_roundw
            case rel => exact ⟨_, HR3, HB3, HS3⟩
            case measure => exact HT.out
          | false =>
            have hf : q = false := by
              rw [← HQ.out]
              refine decide_eq_false (fun e => ?_)
              have h3 := (MapsS.look_mem H1.out.2.1).2 HM.out
              rw [e, hk] at h3
              rw [Option.some.inj h3] at hv
              simp at hv
            subst hf
            clear hk
            go_wp2
            go_ret
            exact ⟨rfl, HB3.out⟩
  · have c1 : ((m1.length : Int) != (m2.length : Int)) = true := by simp; omega
    have hf : decide (m1 = m2) = false := decide_eq_false (fun e => hlen (by rw [e]))
    rw [hf]
    clear hf hlen
    go_enter Try.func50, Try.ntmps50
    go_wp2
    go_ret
    exact ⟨rfl, Below.refl _ _⟩


end Go.Proofs.Ytbffhefeepmpcaa.Q
