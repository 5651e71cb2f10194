-- printed by this project's own program wip/tools/mkprint.py (the kit's print.py with hand-proved contracts put in)
import Derived.Test.YtbffcmiabcmjcaaQx0
import Derived.Test.YtbffcmiabcmjcaaQx1
namespace Go.Proofs.Ytbffcmiabcmjcaa.Q
open Go.RowKit Go.Proofs.YtbffcmiabcmjcaaW.PrintWords Go.Proofs.YtbffcmiabcmjcaaW.PrintLast Go.Proofs.YtbffcmiabcmjcaaW.PrintMore
attribute [local go_sem] max2_int min2_int max_two min_two max_three min_three max_four min_four   -- for this text's walks alone
set_option linter.unusedVariables false
set_option linter.unusedSimpArgs false

/-! ### model_LabelSet_Equal: function 43 -/
-- contracts that were proved by hand
set_option maxHeartbeats 1600000 in
set_option maxRecDepth 100000 in
theorem model_LabelSet_Equal.calls (b1 n1 b2 n2 : Nat) (m1 m2 : MapsS.SM) (w : World) (h1 : LSet w b1 n1 m1) (h2 : LSet w b2 n2 m2) :
    Calls Try.prog 43 #[.map (some b1), .map (some b2)] w fun e w' => e = .returned (.bool (decide (m1 = m2))) ∧ Below w.heap.size w w' := by
  have e1 := fun ty => h1.len_run Try.underlying56 ty
  have e2 := fun ty => h2.len_run Try.underlying56 ty
  have HL1 := Aside0.mk h1.lt
  have HL2 := Aside0.mk h2.lt
  have H1 := Aside0.mk h1
  have H2 := Aside0.mk h2
  clear h1 h2
  by_cases hlen : m1.length = m2.length
  · have c1 : ((m1.length : Int) != (m2.length : Int)) = false := by simp [hlen]
    have HN := Aside0.mk hlen
    clear hlen
    obtain ⟨q, hq⟩ : ∃ q, decide (m1 = m2) = q := ⟨_, rfl⟩
    rw [hq]
    have HQ := Aside0.mk hq
    clear hq
    go_enter Try.func43, Try.ntmps43
    go_wp2_with (at_range; refine MapsS.wpList_range_sm (t := 56) rfl _ rfl Try.underlying56 Try.underlying79 rfl H1.out ?_; intro w2 r hr hR hg hsz; have HR := Aside0.mk hR; have HG := Aside0.mk (show r = w.heap.size from hr); have HB := Aside0.mk (pw_below_grown (Below.refl w.heap.size w) none (Nat.le_refl _) hg (by simp)); clear hr hR hg hsz)
    go_frame
    clear e1 e2 c1
    go_loopw [16] (fun v16 wr => ∃ seen, Aside0 (MapsS.RSM Try.prog 79 91 wr b1 r n1 m1 seen) ∧ Aside0 (Below w.heap.size w wr) ∧ Aside0 (∀ p ∈ seen, MapsS.look p.1 m2 = some p.2)) (fun _ wr => wr.rangeLeft b1 r)
    case atStart => exact ⟨[], HR, HB, ⟨fun p hp => by simp at hp⟩⟩
    case round =>
      clear HR HB
      obtain ⟨seen, HR, HB, HS⟩ := hrel
      go_wp2_with (at_next; refine MapsS.wpList_next_sm rfl _ rfl Try.underlying79 Try.underlying91 rfl HR.out ?_ ?_)
      · intro hp
        have hf : q = true := by
          rw [← HQ.out]
          exact decide_eq_true (MapsS.sm_eq H1.out.2.1 H2.out.2.1 HN.out (fun p hp1 => HS.out p (hp.mem_iff.2 hp1)))
        clear hp
        subst hf
        go_wp2
        go_ret
        exact ⟨rfl, HB.out⟩
      · intro x c w3 hmem hnot hR hlt hg hsz hen
        have HM := Aside0.mk hmem
        have HR3 := Aside0.mk hR
        have HB3 := Aside0.mk (pw_below_grown HB.out _ (below_size HB.out) hg (fun k hk => by injection hk with hk; have := HG.out; omega))
        have HT := Aside0.mk hlt
        have h2 := (H2.out.below HB3.out).look_ok_run Try.underlying56 Try.underlying79 Try.underlying91 (by rfl) (H1.out.2.2 _ hmem).1
        clear hmem hnot hR hg hsz hlt
        cases hk : MapsS.look x m2 with
        | none =>
          have hf : q = false := by
            rw [← HQ.out]
            refine decide_eq_false (fun e => ?_)
            have := (MapsS.look_mem H1.out.2.1).2 HM.out
            rw [e, hk] at this
            cases this
          subst hf
          rw [hk] at h2
          clear hk
          go_wp2
          go_ret
          exact ⟨rfl, HB3.out⟩
        | some v =>
          rw [hk] at h2
          cases hv : (v.toList == c.toList) with
          | true =>
            have e0 : v = c := MapsS.ba_ext' (beq_iff_eq.1 hv)
            have HS3 := Aside0.mk (show ∀ p ∈ seen ++ [(x, c)], MapsS.look p.1 m2 = some p.2 from fun p hp => by
              rcases List.mem_append.1 hp with hp | hp
              · exact HS.out p hp
              · rw [List.mem_singleton.1 hp, hk, e0])
            clear hk e0
            go_wp2
            go_roundw
            case rel => exact ⟨_, HR3, HB3, HS3⟩
            case measure => exact HT.out
          | false =>
            have hf : q = false := by
              rw [← HQ.out]
              refine decide_eq_false (fun e => ?_)
              have h3 := (MapsS.look_mem H1.out.2.1).2 HM.out
              rw [e, hk] at h3
              rw [Option.some.inj h3] at hv
              simp at hv
            subst hf
            clear hk
            go_wp2
            go_ret
            exact ⟨rfl, HB3.out⟩
  · have c1 : ((m1.length : Int) != (m2.length : Int)) = true := by simp; omega
    have hf : decide (m1 = m2) = false := decide_eq_false (fun e => hlen (by rw [e]))
    rw [hf]
    clear hf hlen
    go_enter Try.func43, Try.ntmps43
    go_wp2
    go_ret
    exact ⟨rfl, Below.refl _ _⟩


/-! ### impl_SetEqual: function 23 -/
-- a contract that was proved by hand
def impl_SetEqual.f (l0 l1 : List S26) : Option Bool := if lessMax l0 = true ∧ lessMax l1 = true then some (decide (setL l0 = setL l1)) else none
set_option maxHeartbeats 1600000 in
set_option maxRecDepth 100000 in
theorem impl_SetEqual.calls (A0 : Option Addr) (c0 : Nat) (l0 : List S26) (A1 : Option Addr) (c1 : Nat) (l1 : List S26) (r : Bool) (w : World) (hr0 : Kd.C k26 w A0 l0.length l0) (hc0 : l0.length ≤ c0) (hr1 : Kd.C k26 w A1 l1.length l1) (hc1 : l1.length ≤ c1) (h : impl_SetEqual.f l0 l1 = some r) :
    Calls Try.prog 23 #[.slice A0 l0.length c0, .slice A1 l1.length c1] w fun e w' => e = .returned (.bool r) ∧ Below w.heap.size w w' := by
  unfold impl_SetEqual.f at h
  split at h
  · rename_i hl
    simp only [lessMax, Bool.and_eq_true, decide_eq_true_eq] at hl
    obtain ⟨⟨h1, h2⟩, h3, h4⟩ := hl
    have hq := Option.some.inj h
    clear h
    have HQ := Aside0.mk hq
    clear hq
    have C0 := Aside0.mk (impl_labelSet.calls A0 c0 l0 w hr0 hc0 h1 h2)
    have R1 := Aside0.mk hr1
    have X1 := Aside0.mk hc1
    have X2 := Aside0.mk h3
    have X3 := Aside0.mk h4
    clear hr0 hc0 h1 h2 hr1 hc1 h3 h4
    go_enter Try.func23, Try.ntmps23
    go_wp2_with fail
    refine C0.out.mono ?_
    rintro e w1 ⟨b, rfl, hb, hM, hB⟩
    have HM := Aside0.mk hM
    have HB := Aside0.mk hB
    clear hM hB hb
    go_wp2_with fail
    refine (impl_labelSet.calls A1 c1 l1 w1 (Kd.C_below R1.out HB.out) X1.out X2.out X3.out).mono ?_
    rintro e w2 ⟨b', rfl, hb', hM', hB'⟩
    have HM2 := Aside0.mk (HM.out.below hB')
    have HM' := Aside0.mk hM'
    have HB2 := Aside0.mk (below_step HB.out hB')
    clear hM' hB' hb' HM HB
    go_wp2_with fail
    have HE := model_LabelSet_Equal.calls b _ b' _ _ _ w2 HM2.out HM'.out
    rw [HQ.out] at HE
    refine HE.mono ?_
    clear HE
    rintro e w3 ⟨rfl, hB3⟩
    have HB3 := Aside0.mk (below_step HB2.out hB3)
    clear hB3
    go_wp2
    go_ret
    exact ⟨rfl, HB3.out⟩
  · cases h


/-! ### laws_FnSetMergeMore: function 7 -/
mutual
def laws_FnSetMergeMore.j0 : Nat → List (S26) → List (S26) → List (S26) → Bool → Option (Bool)
  | 0, _, _, _, _ => none
  | k + 1, x0, x1, x2, x19 => if x19 = true then (some true) else ((impl_SetMerge.f (([(⟨(⟨#[97]⟩ : ByteArray), (⟨#[]⟩ : ByteArray)⟩ : S26)] : List (S26))) (([(⟨(⟨#[98]⟩ : ByteArray), (⟨#[]⟩ : ByteArray)⟩ : S26)] : List (S26)))).bind fun t114 => (if (t114.length : Int) = 2 then ((laws_much.f x0).bind fun t117 => (if t117 = true then (laws_FnSetMergeMore.j1 k x0 x1 x2 true) else ((laws_much.f x1).bind fun t118 => (if t118 = true then (laws_FnSetMergeMore.j1 k x0 x1 x2 true) else ((laws_much.f x2).bind fun t119 => (laws_FnSetMergeMore.j1 k x0 x1 x2 t119)))))) else (some false)))
def laws_FnSetMergeMore.j1 : Nat → List (S26) → List (S26) → List (S26) → Bool → Option (Bool)
  | 0, _, _, _, _ => none
  | k + 1, x0, x1, x2, x36 => if x36 = true then (some true) else ((impl_SetMerge.f x0 x1).bind fun t120 => ((impl_SetMerge.f t120 x2).bind fun t123 => ((impl_SetMerge.f x1 x2).bind fun t126 => ((impl_SetMerge.f x0 t126).bind fun t129 => ((impl_SetEqual.f t123 t129).bind fun t132 => (if t132 = true then ((impl_SetMerge.f x0 x0).bind fun t133 => ((impl_SetEqual.f t133 x0).bind fun t136 => (if t136 = true then ((impl_SetMerge.f x0 ([] : List (S26))).bind fun t137 => ((impl_SetEqual.f t137 x0).bind fun t140 => (if t140 = true then ((impl_SetMerge.f ([] : List (S26)) x0).bind fun t141 => ((impl_SetEqual.f t141 x0).bind fun t144 => (some t144))) else (some false)))) else (some false)))) else (some false)))))))
end
def laws_FnSetMergeMore.f (k : Nat) (l0 : List (S26)) (l1 : List (S26)) (l2 : List (S26)) : Option (Bool) := (laws_zzFits1.f k l0).bind fun t105 => (if t105 = true then ((laws_zzFits1.f k l1).bind fun t106 => (if t106 = true then ((laws_zzFits1.f k l2).bind fun t107 => (laws_FnSetMergeMore.j0 k l0 l1 l2 (!t107))) else (laws_FnSetMergeMore.j0 k l0 l1 l2 true))) else (laws_FnSetMergeMore.j0 k l0 l1 l2 true))
theorem laws_FnSetMergeMore.mono_l : ∀ k, (∀ y0 y1 y2 y3, LeO (laws_FnSetMergeMore.j0 k y0 y1 y2 y3) (laws_FnSetMergeMore.j0 (k + 1) y0 y1 y2 y3)) ∧ (∀ y0 y1 y2 y3, LeO (laws_FnSetMergeMore.j1 k y0 y1 y2 y3) (laws_FnSetMergeMore.j1 (k + 1) y0 y1 y2 y3))
  | 0 => ⟨fun _ _ _ _ r h => by simp [laws_FnSetMergeMore.j0] at h, fun _ _ _ _ r h => by simp [laws_FnSetMergeMore.j1] at h⟩
  | k + 1 => by
    obtain ⟨ih0, ih1⟩ := laws_FnSetMergeMore.mono_l k
    refine ⟨?_, ?_⟩
    · intro y0 y1 y2 y3
      unfold laws_FnSetMergeMore.j0
      repeat' first
      | (with_reducible exact ih0 _ _ _ _)
      | (with_reducible exact ih1 _ _ _ _)
      | (with_reducible exact laws_zzFits1.mono _ _)
      | (with_reducible exact LeO.refl _)
      | (with_reducible exact LeO.none _)
      | (with_reducible refine LeO.ite ?_ ?_)
      | (with_reducible refine LeO.bind ?_ (fun _ => ?_))
      | exact ih0 _ _ _ _
      | exact ih1 _ _ _ _
      | exact laws_zzFits1.mono _ _
      | exact LeO.none _
      | refine LeO.ite ?_ ?_
      | refine LeO.bind ?_ (fun _ => ?_)
    · intro y0 y1 y2 y3
      unfold laws_FnSetMergeMore.j1
      repeat' first
      | (with_reducible exact ih0 _ _ _ _)
      | (with_reducible exact ih1 _ _ _ _)
      | (with_reducible exact laws_zzFits1.mono _ _)
      | (with_reducible exact LeO.refl _)
      | (with_reducible exact LeO.none _)
      | (with_reducible refine LeO.ite ?_ ?_)
      | (with_reducible refine LeO.bind ?_ (fun _ => ?_))
      | exact ih0 _ _ _ _
      | exact ih1 _ _ _ _
      | exact laws_zzFits1.mono _ _
      | exact LeO.none _
      | refine LeO.ite ?_ ?_
      | refine LeO.bind ?_ (fun _ => ?_)
theorem laws_FnSetMergeMore.mono : ∀ a0 a1 a2 k, LeO (laws_FnSetMergeMore.f k a0 a1 a2) (laws_FnSetMergeMore.f (k + 1) a0 a1 a2) := by
  intro a0 a1 a2 k
  obtain ⟨ih0, ih1⟩ := laws_FnSetMergeMore.mono_l k
  unfold laws_FnSetMergeMore.f
  repeat' first
      | (with_reducible exact ih0 _ _ _ _)
      | (with_reducible exact ih1 _ _ _ _)
      | (with_reducible exact laws_zzFits1.mono _ _)
      | (with_reducible exact LeO.refl _)
      | (with_reducible exact LeO.none _)
      | (with_reducible refine LeO.ite ?_ ?_)
      | (with_reducible refine LeO.bind ?_ (fun _ => ?_))
      | exact ih0 _ _ _ _
      | exact ih1 _ _ _ _
      | exact laws_zzFits1.mono _ _
      | exact LeO.none _
      | refine LeO.ite ?_ ?_
      | refine LeO.bind ?_ (fun _ => ?_)
set_option maxHeartbeats 8000000 in
set_option maxRecDepth 100000 in
theorem laws_FnSetMergeMore.calls (k : Nat) (A0 : Option Addr) (c0 : Nat) (l0 : List (S26)) (A1 : Option Addr) (c1 : Nat) (l1 : List (S26)) (A2 : Option Addr) (c2 : Nat) (l2 : List (S26)) (r : Bool) (w : World) (hr0 : Kd.C k26 w A0 l0.length l0) (hc0 : l0.length ≤ c0) (hr1 : Kd.C k26 w A1 l1.length l1) (hc1 : l1.length ≤ c1) (hr2 : Kd.C k26 w A2 l2.length l2) (hc2 : l2.length ≤ c2) (h : laws_FnSetMergeMore.f k l0 l1 l2 = some r) :
    Calls Try.prog 7 #[.slice A0 l0.length c0, .slice A1 l1.length c1, .slice A2 l2.length c2] w fun e w' => e = .returned (.bool r) ∧ Below w.heap.size w w' := by
  have hu26 := Try.underlying26
  have HR0 := Aside0.mk hr0
  have HC0 := Aside0.mk hc0
  clear hr0 hc0
  have HR1 := Aside0.mk hr1
  have HC1 := Aside0.mk hc1
  clear hr1 hc1
  have HR2 := Aside0.mk hr2
  have HC2 := Aside0.mk hc2
  clear hr2 hc2
  have HB := Aside0.mk (Below.refl w.heap.size w)
  have H : ((laws_zzFits1.f k l0).bind fun t105 => (if t105 = true then ((laws_zzFits1.f k l1).bind fun t106 => (if t106 = true then ((laws_zzFits1.f k l2).bind fun t107 => (laws_FnSetMergeMore.j0 k l0 l1 l2 (!t107))) else (laws_FnSetMergeMore.j0 k l0 l1 l2 true))) else (laws_FnSetMergeMore.j0 k l0 l1 l2 true))) = some r := h
  clear h
  have HC4 := Aside0.mk H
  clear H
  go_enter Try.func7, Try.ntmps7
  go_upto_region 1 with (fail)
  go_cut [19] (fun v19 wc => ∃ (kq : Nat) (x19_3 : Bool), v19 = .bool x19_3 ∧ Aside0 (laws_FnSetMergeMore.j0 kq l0 l1 l2 x19_3 = some r) ∧ Aside0 (kq ≤ k) ∧ Aside0 (Below w.heap.size w wc))
  case first =>
    have H := HC4.out
    clear HC4
    replace H := Option.bind_eq_some_iff.mp H
    obtain ⟨t105, A50, H⟩ := H
    replace H : (if t105 = true then ((laws_zzFits1.f k l1).bind fun t106 => (if t106 = true then ((laws_zzFits1.f k l2).bind fun t107 => (laws_FnSetMergeMore.j0 k l0 l1 l2 (!t107))) else (laws_FnSetMergeMore.j0 k l0 l1 l2 true))) else (laws_FnSetMergeMore.j0 k l0 l1 l2 true)) = some r := H
    have A5 := Aside0.mk A50
    clear A50
    by_cases c6 : t105 = true
    · subst c6
      have H1 : ((laws_zzFits1.f k l1).bind fun t106 => (if t106 = true then ((laws_zzFits1.f k l2).bind fun t107 => (laws_FnSetMergeMore.j0 k l0 l1 l2 (!t107))) else (laws_FnSetMergeMore.j0 k l0 l1 l2 true))) = some r := by rw [if_pos rfl] at H; exact H
      clear H
      have H := H1
      clear H1
      replace H := Option.bind_eq_some_iff.mp H
      obtain ⟨t106, A70, H⟩ := H
      replace H : (if t106 = true then ((laws_zzFits1.f k l2).bind fun t107 => (laws_FnSetMergeMore.j0 k l0 l1 l2 (!t107))) else (laws_FnSetMergeMore.j0 k l0 l1 l2 true)) = some r := H
      have A7 := Aside0.mk A70
      clear A70
      by_cases c8 : t106 = true
      · subst c8
        have H1 : ((laws_zzFits1.f k l2).bind fun t107 => (laws_FnSetMergeMore.j0 k l0 l1 l2 (!t107))) = some r := by rw [if_pos rfl] at H; exact H
        clear H
        have H := H1
        clear H1
        replace H := Option.bind_eq_some_iff.mp H
        obtain ⟨t107, A90, H⟩ := H
        replace H : (laws_FnSetMergeMore.j0 k l0 l1 l2 (!t107)) = some r := H
        have A9 := Aside0.mk A90
        clear A90
        have H' := Aside0.mk H
        clear H
        go_wp2_with (first | ((with_reducible refine gate_callee (f := 11) rfl ?_); refine goesL_ (some 8) rfl rfl Try.func11 (by kernel_rfl) rfl #[.slice A0 l0.length c0] rfl (by (try simp only [List.map_toArray, List.map_cons, List.map_nil]); first | done | rfl | (simp only [List.length_drop, List.length_take]; rfl)) ?_; (with_reducible refine (laws_zzFits1.calls k _ _ l0 true _ ?side1 ?side2 A5.out).mono ?_); (case side1 => repeat (first | exact (Kd.C_below HR0.out HB.out) | (with_reducible refine Kd.C_alloc ?_ _) | (with_reducible refine Kd.C_drewN ?_ _) | (with_reducible refine Kd.C_drew ?_))); (case side2 => exact HC0.out); rintro e w10 ⟨rfl, hb⟩; refine ⟨_, rfl, ?_⟩; have n0_ := Aside0.mk (below_step (by repeat (first | (with_reducible first | exact HB.out | apply below_alloc | apply pw_below_drewN | apply below_drew1) | exact HB.out)) hb); clear HB; have HB := n0_; clear n0_; (try clear hb); (try clear hb2); (try clear hk); (try clear hi)) | (go_at_call 11; (with_reducible refine (laws_zzFits1.calls k _ _ l1 true _ ?side1 ?side2 A7.out).mono ?_); (case side1 => repeat (first | exact (Kd.C_below HR1.out HB.out) | (with_reducible refine Kd.C_alloc ?_ _) | (with_reducible refine Kd.C_drewN ?_ _) | (with_reducible refine Kd.C_drew ?_))); (case side2 => exact HC1.out); rintro e w11 ⟨rfl, hb⟩; have n0_ := Aside0.mk (below_step (by repeat (first | (with_reducible first | exact HB.out | apply below_alloc | apply pw_below_drewN | apply below_drew1) | exact HB.out)) hb); clear HB; have HB := n0_; clear n0_; (try clear hb); (try clear hb2); (try clear hk); (try clear hi)) | (go_at_call 11; (with_reducible refine (laws_zzFits1.calls k _ _ l2 t107 _ ?side1 ?side2 A9.out).mono ?_); (case side1 => repeat (first | exact (Kd.C_below HR2.out HB.out) | (with_reducible refine Kd.C_alloc ?_ _) | (with_reducible refine Kd.C_drewN ?_ _) | (with_reducible refine Kd.C_drew ?_))); (case side2 => exact HC2.out); rintro e w12 ⟨rfl, hb⟩; have n0_ := Aside0.mk (below_step (by repeat (first | (with_reducible first | exact HB.out | apply below_alloc | apply pw_below_drewN | apply below_drew1) | exact HB.out)) hb); clear HB; have HB := n0_; clear n0_; (try clear hb); (try clear hb2); (try clear hk); (try clear hi)))
        go_meet
        case rel => exact ⟨_, (!t107), (by first | rfl | (simp; done) | (simp [*]; done)), H', ⟨by first | omega | exact Nat.le_refl _⟩, ⟨by repeat (first | (with_reducible first | exact HB.out | apply below_alloc | apply pw_below_drewN | apply below_drew1) | exact HB.out)⟩⟩
      · replace c8 := Bool.eq_false_iff.mpr c8
        subst c8
        have H1 : (laws_FnSetMergeMore.j0 k l0 l1 l2 true) = some r := by rw [if_neg (show ¬ (false = true) by decide)] at H; exact H
        clear H
        have H := H1
        clear H1
        have H' := Aside0.mk H
        clear H
        go_wp2_with (first | ((with_reducible refine gate_callee (f := 11) rfl ?_); refine goesL_ (some 8) rfl rfl Try.func11 (by kernel_rfl) rfl #[.slice A0 l0.length c0] rfl (by (try simp only [List.map_toArray, List.map_cons, List.map_nil]); first | done | rfl | (simp only [List.length_drop, List.length_take]; rfl)) ?_; (with_reducible refine (laws_zzFits1.calls k _ _ l0 true _ ?side1 ?side2 A5.out).mono ?_); (case side1 => repeat (first | exact (Kd.C_below HR0.out HB.out) | (with_reducible refine Kd.C_alloc ?_ _) | (with_reducible refine Kd.C_drewN ?_ _) | (with_reducible refine Kd.C_drew ?_))); (case side2 => exact HC0.out); rintro e w13 ⟨rfl, hb⟩; refine ⟨_, rfl, ?_⟩; have n0_ := Aside0.mk (below_step (by repeat (first | (with_reducible first | exact HB.out | apply below_alloc | apply pw_below_drewN | apply below_drew1) | exact HB.out)) hb); clear HB; have HB := n0_; clear n0_; (try clear hb); (try clear hb2); (try clear hk); (try clear hi)) | (go_at_call 11; (with_reducible refine (laws_zzFits1.calls k _ _ l1 false _ ?side1 ?side2 A7.out).mono ?_); (case side1 => repeat (first | exact (Kd.C_below HR1.out HB.out) | (with_reducible refine Kd.C_alloc ?_ _) | (with_reducible refine Kd.C_drewN ?_ _) | (with_reducible refine Kd.C_drew ?_))); (case side2 => exact HC1.out); rintro e w14 ⟨rfl, hb⟩; have n0_ := Aside0.mk (below_step (by repeat (first | (with_reducible first | exact HB.out | apply below_alloc | apply pw_below_drewN | apply below_drew1) | exact HB.out)) hb); clear HB; have HB := n0_; clear n0_; (try clear hb); (try clear hb2); (try clear hk); (try clear hi)))
        go_meet
        case rel => exact ⟨_, (true), (by first | rfl | (simp; done) | (simp [*]; done)), H', ⟨by first | omega | exact Nat.le_refl _⟩, ⟨by repeat (first | (with_reducible first | exact HB.out | apply below_alloc | apply pw_below_drewN | apply below_drew1) | exact HB.out)⟩⟩
    · replace c6 := Bool.eq_false_iff.mpr c6
      subst c6
      have H1 : (laws_FnSetMergeMore.j0 k l0 l1 l2 true) = some r := by rw [if_neg (show ¬ (false = true) by decide)] at H; exact H
      clear H
      have H := H1
      clear H1
      have H' := Aside0.mk H
      clear H
      go_wp2_with (first | ((with_reducible refine gate_callee (f := 11) rfl ?_); refine goesL_ (some 8) rfl rfl Try.func11 (by kernel_rfl) rfl #[.slice A0 l0.length c0] rfl (by (try simp only [List.map_toArray, List.map_cons, List.map_nil]); first | done | rfl | (simp only [List.length_drop, List.length_take]; rfl)) ?_; (with_reducible refine (laws_zzFits1.calls k _ _ l0 false _ ?side1 ?side2 A5.out).mono ?_); (case side1 => repeat (first | exact (Kd.C_below HR0.out HB.out) | (with_reducible refine Kd.C_alloc ?_ _) | (with_reducible refine Kd.C_drewN ?_ _) | (with_reducible refine Kd.C_drew ?_))); (case side2 => exact HC0.out); rintro e w15 ⟨rfl, hb⟩; refine ⟨_, rfl, ?_⟩; have n0_ := Aside0.mk (below_step (by repeat (first | (with_reducible first | exact HB.out | apply below_alloc | apply pw_below_drewN | apply below_drew1) | exact HB.out)) hb); clear HB; have HB := n0_; clear n0_; (try clear hb); (try clear hb2); (try clear hk); (try clear hi)))
      go_meet
      case rel => exact ⟨_, (true), (by first | rfl | (simp; done) | (simp [*]; done)), H', ⟨by first | omega | exact Nat.le_refl _⟩, ⟨by repeat (first | (with_reducible first | exact HB.out | apply below_alloc | apply pw_below_drewN | apply below_drew1) | exact HB.out)⟩⟩
  case rest =>
    clear HC4
    try clear c1
    try clear c2
    try clear p2
    try clear c6
    try clear c7
    try clear c8
    try clear c11
    obtain ⟨kq, x19_3, rfl, HA, HJ3, HB⟩ := hcut
    cases kq with
    | zero => exact absurd HA.out (by simp [laws_FnSetMergeMore.j0])
    | succ kj3 =>
      have H := HA.out
      clear HA
      simp only [laws_FnSetMergeMore.j0] at H
      by_cases c16 : x19_3 = true
      · subst c16
        have H1 : (some true) = some r := by rw [if_pos rfl] at H; exact H
        clear H
        have H := H1
        clear H1
        obtain rfl := Option.some.inj H
        go_wp2
        go_ret
        exact ⟨by first | rfl | (simp [errW_none, errW_some] <;> rfl) | (simp [*, errW_none, errW_some] <;> rfl), by repeat (first | (with_reducible first | exact HB.out | apply below_alloc | apply pw_below_drewN | apply below_drew1) | exact HB.out)⟩
      · replace c16 := Bool.eq_false_iff.mpr c16
        subst c16
        have H1 : ((impl_SetMerge.f (([(⟨(⟨#[97]⟩ : ByteArray), (⟨#[]⟩ : ByteArray)⟩ : S26)] : List (S26))) (([(⟨(⟨#[98]⟩ : ByteArray), (⟨#[]⟩ : ByteArray)⟩ : S26)] : List (S26)))).bind fun t114 => (if (t114.length : Int) = 2 then ((laws_much.f l0).bind fun t117 => (if t117 = true then (laws_FnSetMergeMore.j1 kj3 l0 l1 l2 true) else ((laws_much.f l1).bind fun t118 => (if t118 = true then (laws_FnSetMergeMore.j1 kj3 l0 l1 l2 true) else ((laws_much.f l2).bind fun t119 => (laws_FnSetMergeMore.j1 kj3 l0 l1 l2 t119)))))) else (some false))) = some r := by rw [if_neg (show ¬ (false = true) by decide)] at H; exact H
        clear H
        have H := H1
        clear H1
        obtain ⟨y108, hy108⟩ : ∃ y_ : List (S26), y_ = (([(⟨(⟨#[97]⟩ : ByteArray), (⟨#[]⟩ : ByteArray)⟩ : S26)] : List (S26))) := ⟨_, rfl⟩
        replace H : ((impl_SetMerge.f y108 (([(⟨(⟨#[98]⟩ : ByteArray), (⟨#[]⟩ : ByteArray)⟩ : S26)] : List (S26)))).bind fun t114 => (if (t114.length : Int) = 2 then ((laws_much.f l0).bind fun t117 => (if t117 = true then (laws_FnSetMergeMore.j1 kj3 l0 l1 l2 true) else ((laws_much.f l1).bind fun t118 => (if t118 = true then (laws_FnSetMergeMore.j1 kj3 l0 l1 l2 true) else ((laws_much.f l2).bind fun t119 => (laws_FnSetMergeMore.j1 kj3 l0 l1 l2 t119)))))) else (some false))) = some r := by first | (rw [hy108]; with_reducible exact H) | (have H2_ := (Option.bind_some _ _).symm.trans H; rw [hy108]; with_reducible exact H2_) | (have H2_ := (Option.bind_some _ _).symm.trans H; with_reducible exact H2_) | with_reducible exact H | (rw [hy108]; exact H) | exact H
        have Ny108 := Aside0.mk hy108
        clear hy108
        obtain ⟨y111, hy111⟩ : ∃ y_ : List (S26), y_ = (([(⟨(⟨#[98]⟩ : ByteArray), (⟨#[]⟩ : ByteArray)⟩ : S26)] : List (S26))) := ⟨_, rfl⟩
        replace H : ((impl_SetMerge.f y108 y111).bind fun t114 => (if (t114.length : Int) = 2 then ((laws_much.f l0).bind fun t117 => (if t117 = true then (laws_FnSetMergeMore.j1 kj3 l0 l1 l2 true) else ((laws_much.f l1).bind fun t118 => (if t118 = true then (laws_FnSetMergeMore.j1 kj3 l0 l1 l2 true) else ((laws_much.f l2).bind fun t119 => (laws_FnSetMergeMore.j1 kj3 l0 l1 l2 t119)))))) else (some false))) = some r := by first | (rw [hy111]; with_reducible exact H) | (have H2_ := (Option.bind_some _ _).symm.trans H; rw [hy111]; with_reducible exact H2_) | (have H2_ := (Option.bind_some _ _).symm.trans H; with_reducible exact H2_) | with_reducible exact H | (rw [hy111]; exact H) | exact H
        have Ny111 := Aside0.mk hy111
        clear hy111
        replace H := Option.bind_eq_some_iff.mp H
        obtain ⟨t114, A170, H⟩ := H
        replace H : (if (t114.length : Int) = 2 then ((laws_much.f l0).bind fun t117 => (if t117 = true then (laws_FnSetMergeMore.j1 kj3 l0 l1 l2 true) else ((laws_much.f l1).bind fun t118 => (if t118 = true then (laws_FnSetMergeMore.j1 kj3 l0 l1 l2 true) else ((laws_much.f l2).bind fun t119 => (laws_FnSetMergeMore.j1 kj3 l0 l1 l2 t119)))))) else (some false)) = some r := H
        have A17 := Aside0.mk A170
        clear A170
        by_cases c18 : (t114.length : Int) = 2
        · rw [if_pos c18] at H
          have c18b0 : ((t114.length : Int) == 2) = true := beq_iff_eq.mpr c18
          have c18b1 : ((t114.length : Int) != 2) = false := bne_eq_false_iff_eq.mpr c18
          clear c18
          have HC19 := Aside0.mk H
          clear H
          go_upto_region 5 with (first | ((with_reducible refine gate_dst (N := 21) rfl ?_); refine Kd.R_lit k26 _ 26 ?hg (N := 21) ?hd (xs := ([(⟨(⟨#[97]⟩ : ByteArray), (⟨#[]⟩ : ByteArray)⟩ : S26)] : List (S26))) (inner := [.string (⟨#[97]⟩ : ByteArray), .string (⟨#[]⟩ : ByteArray)]) (ok := fun _ => True) (okp := fun _ => True) ?hr ?hp (fun _ hk => hk) trivial (Below.refl _ _) (Nat.le_refl _) (by simp) ?_; (case hd => rfl); (case hg => rfl); (case hr => first | (go_simp; done) | (go_simp; rfl)); (case hp => exact (Reps.c2 (show Kd.M k26 _ _ _ (⟨(⟨#[97]⟩ : ByteArray), (⟨#[]⟩ : ByteArray)⟩ : S26) [.string (⟨#[97]⟩ : ByteArray), .string (⟨#[]⟩ : ByteArray)] from (k26_mkM _ _ _ (⟨(⟨#[97]⟩ : ByteArray), (⟨#[]⟩ : ByteArray)⟩ : S26) )) (Reps.none _ _))); intro v109 w20 ho21 hb hg_ hnew_; clear hg_ hnew_; (first | rw [← Ny108.out] at ho21 | (simp only [Int.reduceToNat] at ho21; rw [← Ny108.out] at ho21)); have n0_ := Aside0.mk (Kd.R_lower ho21 (below_size (by repeat (first | (with_reducible first | exact HB.out | apply below_alloc | apply pw_below_drewN | apply below_drew1) | exact HB.out)))); have n1_ := Aside0.mk (below_step (by repeat (first | (with_reducible first | exact HB.out | apply below_alloc | apply pw_below_drewN | apply below_drew1) | exact HB.out)) hb); clear HB; have HO110 := n0_; have HB := n1_; clear n0_ n1_; clear hb ho21) | ((with_reducible refine gate_dst (N := 23) rfl ?_); refine Kd.R_lit k26 _ 26 ?hg (N := 23) ?hd (xs := ([(⟨(⟨#[98]⟩ : ByteArray), (⟨#[]⟩ : ByteArray)⟩ : S26)] : List (S26))) (inner := [.string (⟨#[98]⟩ : ByteArray), .string (⟨#[]⟩ : ByteArray)]) (ok := fun _ => True) (okp := fun _ => True) ?hr ?hp (fun _ hk => hk) trivial (Below.refl _ _) (Nat.le_refl _) (by simp) ?_; (case hd => rfl); (case hg => rfl); (case hr => first | (go_simp; done) | (go_simp; rfl)); (case hp => exact (Reps.c2 (show Kd.M k26 _ _ _ (⟨(⟨#[98]⟩ : ByteArray), (⟨#[]⟩ : ByteArray)⟩ : S26) [.string (⟨#[98]⟩ : ByteArray), .string (⟨#[]⟩ : ByteArray)] from (k26_mkM _ _ _ (⟨(⟨#[98]⟩ : ByteArray), (⟨#[]⟩ : ByteArray)⟩ : S26) )) (Reps.none _ _))); intro v112 w22 ho23 hb hg_ hnew_; clear hg_ hnew_; (first | rw [← Ny111.out] at ho23 | (simp only [Int.reduceToNat] at ho23; rw [← Ny111.out] at ho23)); have n0_ := Aside0.mk (Kd.R_elder' (by (with_reducible repeat (first | apply Kd.R_alloc | apply Kd.R_drewN | apply Kd.R_drew)); exact HO110.out) (Kd.R_base ho23) hb); have n1_ := Aside0.mk (Kd.R_lower (Kd.R_new' ho23 (Kd.R_lt (by (with_reducible repeat (first | apply Kd.R_alloc | apply Kd.R_drewN | apply Kd.R_drew)); exact HO110.out))) (below_size (by repeat (first | (with_reducible first | exact HB.out | apply below_alloc | apply pw_below_drewN | apply below_drew1) | exact HB.out)))); have n2_ := Aside0.mk (below_step (by repeat (first | (with_reducible first | exact HB.out | apply below_alloc | apply pw_below_drewN | apply below_drew1) | exact HB.out)) hb); clear HO110; clear HB; have HO110 := n0_; have HO113 := n1_; have HB := n2_; clear n0_ n1_ n2_; clear hb ho23; obtain ⟨Ao24, co24, eo24⟩ := Kd.R_slice HO110.out; subst eo24; obtain ⟨Ao25, co25, eo25⟩ := Kd.R_slice HO113.out; subst eo25) | ((with_reducible refine gate_callee (f := 22) rfl ?_); refine goesL_ (some 24) rfl rfl Try.func22 (by kernel_rfl) rfl #[.slice Ao24 y108.length co24, .slice Ao25 y111.length co25] rfl (by (try simp only [List.map_toArray, List.map_cons, List.map_nil]); first | done | rfl | (simp only [List.length_drop, List.length_take]; rfl)) ?_; (with_reducible refine (impl_SetMerge.calls _ _ y108 _ _ y111 t114 _ ?side1 ?side2 ?side3 ?side4 A17.out).mono ?_); (case side1 => repeat (first | exact (Kd.R_reads' HO110.out).2.2 | (with_reducible refine Kd.C_alloc ?_ _) | (with_reducible refine Kd.C_drewN ?_ _) | (with_reducible refine Kd.C_drew ?_))); (case side2 => exact (Kd.R_reads' HO110.out).2.1); (case side3 => repeat (first | exact (Kd.R_reads' HO113.out).2.2 | (with_reducible refine Kd.C_alloc ?_ _) | (with_reducible refine Kd.C_drewN ?_ _) | (with_reducible refine Kd.C_drew ?_))); (case side4 => exact (Kd.R_reads' HO113.out).2.1); rintro e w26 ⟨v115, rfl, ho0, hb⟩; refine ⟨_, rfl, ?_⟩; have n0_ := Aside0.mk (Kd.R_elder' (by (with_reducible repeat (first | apply Kd.R_alloc | apply Kd.R_drewN | apply Kd.R_drew)); exact HO110.out) (Kd.R_base ho0) hb); have n1_ := Aside0.mk (Kd.R_elder' (by (with_reducible repeat (first | apply Kd.R_alloc | apply Kd.R_drewN | apply Kd.R_drew)); exact HO113.out) (Kd.R_base ho0) hb); have n2_ := Aside0.mk (Kd.R_lower (Kd.R_new' (Kd.R_new' ho0 (Kd.R_lt (by (with_reducible repeat (first | apply Kd.R_alloc | apply Kd.R_drewN | apply Kd.R_drew)); exact HO110.out))) (Kd.R_lt (by (with_reducible repeat (first | apply Kd.R_alloc | apply Kd.R_drewN | apply Kd.R_drew)); exact HO113.out))) (below_size (by repeat (first | (with_reducible first | exact HB.out | apply below_alloc | apply pw_below_drewN | apply below_drew1) | exact HB.out)))); have n3_ := Aside0.mk (below_step (by repeat (first | (with_reducible first | exact HB.out | apply below_alloc | apply pw_below_drewN | apply below_drew1) | exact HB.out)) hb); clear HO110; clear HO113; clear HB; have HO110 := n0_; have HO113 := n1_; have HO116 := n2_; have HB := n3_; clear n0_ n1_ n2_ n3_; (try clear hb); (try clear hb2); (try clear hk); (try clear hi); (try clear ho0); obtain ⟨Ao27, co27, eo27⟩ := Kd.R_slice HO116.out; subst eo27))
          (try simp only [Act.put, List.setIfInBounds_toArray, List.set_cons_zero, List.set_cons_succ])
          go_cut [36] (fun v36 wc => ∃ (kq : Nat) (x36_18 : Bool), v36 = .bool x36_18 ∧ Aside0 (laws_FnSetMergeMore.j1 kq l0 l1 l2 x36_18 = some r) ∧ Aside0 (kq ≤ kj3) ∧ Aside0 (Below w.heap.size w wc))
          case first =>
            have H := HC19.out
            clear HC19
            replace H := Option.bind_eq_some_iff.mp H
            obtain ⟨t117, A280, H⟩ := H
            replace H : (if t117 = true then (laws_FnSetMergeMore.j1 kj3 l0 l1 l2 true) else ((laws_much.f l1).bind fun t118 => (if t118 = true then (laws_FnSetMergeMore.j1 kj3 l0 l1 l2 true) else ((laws_much.f l2).bind fun t119 => (laws_FnSetMergeMore.j1 kj3 l0 l1 l2 t119))))) = some r := H
            have A28 := Aside0.mk A280
            clear A280
            by_cases c29 : t117 = true
            · subst c29
              have H1 : (laws_FnSetMergeMore.j1 kj3 l0 l1 l2 true) = some r := by rw [if_pos rfl] at H; exact H
              clear H
              have H := H1
              clear H1
              have H' := Aside0.mk H
              clear H
              go_wp2_with (first | ((with_reducible refine gate_callee (f := 13) rfl ?_); refine goesL_ (some 28) rfl rfl Try.func13 (by kernel_rfl) rfl #[.slice A0 l0.length c0] rfl (by (try simp only [List.map_toArray, List.map_cons, List.map_nil]); first | done | rfl | (simp only [List.length_drop, List.length_take]; rfl)) ?_; (with_reducible refine (laws_much.calls _ _ l0 true _ ?side1 ?side2 A28.out).mono ?_); (case side1 => repeat (first | exact (Kd.C_below HR0.out HB.out) | (with_reducible refine Kd.C_alloc ?_ _) | (with_reducible refine Kd.C_drewN ?_ _) | (with_reducible refine Kd.C_drew ?_))); (case side2 => exact HC0.out); rintro e w' ⟨rfl, ⟨nd, rfl⟩⟩; refine ⟨_, rfl, ?_⟩))
              go_meet
              case rel => exact ⟨_, (true), (by first | rfl | (simp; done) | (simp [*]; done)), H', ⟨by have := HJ3.out; first | omega | exact Nat.le_refl _⟩, ⟨by repeat (first | (with_reducible first | exact HB.out | apply below_alloc | apply pw_below_drewN | apply below_drew1) | exact HB.out)⟩⟩
            · replace c29 := Bool.eq_false_iff.mpr c29
              subst c29
              have H1 : ((laws_much.f l1).bind fun t118 => (if t118 = true then (laws_FnSetMergeMore.j1 kj3 l0 l1 l2 true) else ((laws_much.f l2).bind fun t119 => (laws_FnSetMergeMore.j1 kj3 l0 l1 l2 t119)))) = some r := by rw [if_neg (show ¬ (false = true) by decide)] at H; exact H
              clear H
              have H := H1
              clear H1
              replace H := Option.bind_eq_some_iff.mp H
              obtain ⟨t118, A300, H⟩ := H
              replace H : (if t118 = true then (laws_FnSetMergeMore.j1 kj3 l0 l1 l2 true) else ((laws_much.f l2).bind fun t119 => (laws_FnSetMergeMore.j1 kj3 l0 l1 l2 t119))) = some r := H
              have A30 := Aside0.mk A300
              clear A300
              by_cases c31 : t118 = true
              · subst c31
                have H1 : (laws_FnSetMergeMore.j1 kj3 l0 l1 l2 true) = some r := by rw [if_pos rfl] at H; exact H
                clear H
                have H := H1
                clear H1
                have H' := Aside0.mk H
                clear H
                go_wp2_with (first | ((with_reducible refine gate_callee (f := 13) rfl ?_); refine goesL_ (some 28) rfl rfl Try.func13 (by kernel_rfl) rfl #[.slice A0 l0.length c0] rfl (by (try simp only [List.map_toArray, List.map_cons, List.map_nil]); first | done | rfl | (simp only [List.length_drop, List.length_take]; rfl)) ?_; (with_reducible refine (laws_much.calls _ _ l0 false _ ?side1 ?side2 A28.out).mono ?_); (case side1 => repeat (first | exact (Kd.C_below HR0.out HB.out) | (with_reducible refine Kd.C_alloc ?_ _) | (with_reducible refine Kd.C_drewN ?_ _) | (with_reducible refine Kd.C_drew ?_))); (case side2 => exact HC0.out); rintro e w' ⟨rfl, ⟨nd, rfl⟩⟩; refine ⟨_, rfl, ?_⟩) | (go_at_call 13; (with_reducible refine (laws_much.calls _ _ l1 true _ ?side1 ?side2 A30.out).mono ?_); (case side1 => repeat (first | exact (Kd.C_below HR1.out (by repeat (first | (with_reducible first | exact HB.out | apply below_alloc | apply pw_below_drewN | apply below_drew1) | exact HB.out))) | (with_reducible refine Kd.C_alloc ?_ _) | (with_reducible refine Kd.C_drewN ?_ _) | (with_reducible refine Kd.C_drew ?_))); (case side2 => exact HC1.out); rintro e w' ⟨rfl, ⟨nd, rfl⟩⟩))
                go_meet
                case rel => exact ⟨_, (true), (by first | rfl | (simp; done) | (simp [*]; done)), H', ⟨by have := HJ3.out; first | omega | exact Nat.le_refl _⟩, ⟨by repeat (first | (with_reducible first | exact HB.out | apply below_alloc | apply pw_below_drewN | apply below_drew1) | exact HB.out)⟩⟩
              · replace c31 := Bool.eq_false_iff.mpr c31
                subst c31
                have H1 : ((laws_much.f l2).bind fun t119 => (laws_FnSetMergeMore.j1 kj3 l0 l1 l2 t119)) = some r := by rw [if_neg (show ¬ (false = true) by decide)] at H; exact H
                clear H
                have H := H1
                clear H1
                replace H := Option.bind_eq_some_iff.mp H
                obtain ⟨t119, A320, H⟩ := H
                replace H : (laws_FnSetMergeMore.j1 kj3 l0 l1 l2 t119) = some r := H
                have A32 := Aside0.mk A320
                clear A320
                have H' := Aside0.mk H
                clear H
                go_wp2_with (first | ((with_reducible refine gate_callee (f := 13) rfl ?_); refine goesL_ (some 28) rfl rfl Try.func13 (by kernel_rfl) rfl #[.slice A0 l0.length c0] rfl (by (try simp only [List.map_toArray, List.map_cons, List.map_nil]); first | done | rfl | (simp only [List.length_drop, List.length_take]; rfl)) ?_; (with_reducible refine (laws_much.calls _ _ l0 false _ ?side1 ?side2 A28.out).mono ?_); (case side1 => repeat (first | exact (Kd.C_below HR0.out HB.out) | (with_reducible refine Kd.C_alloc ?_ _) | (with_reducible refine Kd.C_drewN ?_ _) | (with_reducible refine Kd.C_drew ?_))); (case side2 => exact HC0.out); rintro e w' ⟨rfl, ⟨nd, rfl⟩⟩; refine ⟨_, rfl, ?_⟩) | (go_at_call 13; (with_reducible refine (laws_much.calls _ _ l1 false _ ?side1 ?side2 A30.out).mono ?_); (case side1 => repeat (first | exact (Kd.C_below HR1.out (by repeat (first | (with_reducible first | exact HB.out | apply below_alloc | apply pw_below_drewN | apply below_drew1) | exact HB.out))) | (with_reducible refine Kd.C_alloc ?_ _) | (with_reducible refine Kd.C_drewN ?_ _) | (with_reducible refine Kd.C_drew ?_))); (case side2 => exact HC1.out); rintro e w' ⟨rfl, ⟨nd, rfl⟩⟩) | (go_at_call 13; (with_reducible refine (laws_much.calls _ _ l2 t119 _ ?side1 ?side2 A32.out).mono ?_); (case side1 => repeat (first | exact (Kd.C_below HR2.out (by repeat (first | (with_reducible first | exact HB.out | apply below_alloc | apply pw_below_drewN | apply below_drew1) | exact HB.out))) | (with_reducible refine Kd.C_alloc ?_ _) | (with_reducible refine Kd.C_drewN ?_ _) | (with_reducible refine Kd.C_drew ?_))); (case side2 => exact HC2.out); rintro e w' ⟨rfl, ⟨nd, rfl⟩⟩))
                go_meet
                case rel => exact ⟨_, (t119), (by first | rfl | (simp; done) | (simp [*]; done)), H', ⟨by have := HJ3.out; first | omega | exact Nat.le_refl _⟩, ⟨by repeat (first | (with_reducible first | exact HB.out | apply below_alloc | apply pw_below_drewN | apply below_drew1) | exact HB.out)⟩⟩
          case rest =>
            clear HC19
            try clear c1
            try clear c2
            try clear p2
            try clear c3
            try clear c6
            try clear c7
            try clear c8
            try clear c11
            try clear c13
            try clear c16
            try clear c18
            try clear c18b0
            try clear c18b1
            try clear c22
            try clear c29
            try clear c31
            try clear p2
            obtain ⟨kq, x36_18, rfl, HA, HJ18, HB⟩ := hcut
            cases kq with
            | zero => exact absurd HA.out (by simp [laws_FnSetMergeMore.j1])
            | succ kj18 =>
              have H := HA.out
              clear HA
              simp only [laws_FnSetMergeMore.j1] at H
              by_cases c33 : x36_18 = true
              · subst c33
                have H1 : (some true) = some r := by rw [if_pos rfl] at H; exact H
                clear H
                have H := H1
                clear H1
                obtain rfl := Option.some.inj H
                go_wp2
                go_ret
                exact ⟨by first | rfl | (simp [errW_none, errW_some] <;> rfl) | (simp [*, errW_none, errW_some] <;> rfl), by repeat (first | (with_reducible first | exact HB.out | apply below_alloc | apply pw_below_drewN | apply below_drew1) | exact HB.out)⟩
              · replace c33 := Bool.eq_false_iff.mpr c33
                subst c33
                have H1 : ((impl_SetMerge.f l0 l1).bind fun t120 => ((impl_SetMerge.f t120 l2).bind fun t123 => ((impl_SetMerge.f l1 l2).bind fun t126 => ((impl_SetMerge.f l0 t126).bind fun t129 => ((impl_SetEqual.f t123 t129).bind fun t132 => (if t132 = true then ((impl_SetMerge.f l0 l0).bind fun t133 => ((impl_SetEqual.f t133 l0).bind fun t136 => (if t136 = true then ((impl_SetMerge.f l0 ([] : List (S26))).bind fun t137 => ((impl_SetEqual.f t137 l0).bind fun t140 => (if t140 = true then ((impl_SetMerge.f ([] : List (S26)) l0).bind fun t141 => ((impl_SetEqual.f t141 l0).bind fun t144 => (some t144))) else (some false)))) else (some false)))) else (some false))))))) = some r := by rw [if_neg (show ¬ (false = true) by decide)] at H; exact H
                clear H
                have H := H1
                clear H1
                replace H := Option.bind_eq_some_iff.mp H
                obtain ⟨t120, A340, H⟩ := H
                replace H : ((impl_SetMerge.f t120 l2).bind fun t123 => ((impl_SetMerge.f l1 l2).bind fun t126 => ((impl_SetMerge.f l0 t126).bind fun t129 => ((impl_SetEqual.f t123 t129).bind fun t132 => (if t132 = true then ((impl_SetMerge.f l0 l0).bind fun t133 => ((impl_SetEqual.f t133 l0).bind fun t136 => (if t136 = true then ((impl_SetMerge.f l0 ([] : List (S26))).bind fun t137 => ((impl_SetEqual.f t137 l0).bind fun t140 => (if t140 = true then ((impl_SetMerge.f ([] : List (S26)) l0).bind fun t141 => ((impl_SetEqual.f t141 l0).bind fun t144 => (some t144))) else (some false)))) else (some false)))) else (some false)))))) = some r := H
                have A34 := Aside0.mk A340
                clear A340
                replace H := Option.bind_eq_some_iff.mp H
                obtain ⟨t123, A350, H⟩ := H
                replace H : ((impl_SetMerge.f l1 l2).bind fun t126 => ((impl_SetMerge.f l0 t126).bind fun t129 => ((impl_SetEqual.f t123 t129).bind fun t132 => (if t132 = true then ((impl_SetMerge.f l0 l0).bind fun t133 => ((impl_SetEqual.f t133 l0).bind fun t136 => (if t136 = true then ((impl_SetMerge.f l0 ([] : List (S26))).bind fun t137 => ((impl_SetEqual.f t137 l0).bind fun t140 => (if t140 = true then ((impl_SetMerge.f ([] : List (S26)) l0).bind fun t141 => ((impl_SetEqual.f t141 l0).bind fun t144 => (some t144))) else (some false)))) else (some false)))) else (some false))))) = some r := H
                have A35 := Aside0.mk A350
                clear A350
                replace H := Option.bind_eq_some_iff.mp H
                obtain ⟨t126, A360, H⟩ := H
                replace H : ((impl_SetMerge.f l0 t126).bind fun t129 => ((impl_SetEqual.f t123 t129).bind fun t132 => (if t132 = true then ((impl_SetMerge.f l0 l0).bind fun t133 => ((impl_SetEqual.f t133 l0).bind fun t136 => (if t136 = true then ((impl_SetMerge.f l0 ([] : List (S26))).bind fun t137 => ((impl_SetEqual.f t137 l0).bind fun t140 => (if t140 = true then ((impl_SetMerge.f ([] : List (S26)) l0).bind fun t141 => ((impl_SetEqual.f t141 l0).bind fun t144 => (some t144))) else (some false)))) else (some false)))) else (some false)))) = some r := H
                have A36 := Aside0.mk A360
                clear A360
                replace H := Option.bind_eq_some_iff.mp H
                obtain ⟨t129, A370, H⟩ := H
                replace H : ((impl_SetEqual.f t123 t129).bind fun t132 => (if t132 = true then ((impl_SetMerge.f l0 l0).bind fun t133 => ((impl_SetEqual.f t133 l0).bind fun t136 => (if t136 = true then ((impl_SetMerge.f l0 ([] : List (S26))).bind fun t137 => ((impl_SetEqual.f t137 l0).bind fun t140 => (if t140 = true then ((impl_SetMerge.f ([] : List (S26)) l0).bind fun t141 => ((impl_SetEqual.f t141 l0).bind fun t144 => (some t144))) else (some false)))) else (some false)))) else (some false))) = some r := H
                have A37 := Aside0.mk A370
                clear A370
                replace H := Option.bind_eq_some_iff.mp H
                obtain ⟨t132, A380, H⟩ := H
                replace H : (if t132 = true then ((impl_SetMerge.f l0 l0).bind fun t133 => ((impl_SetEqual.f t133 l0).bind fun t136 => (if t136 = true then ((impl_SetMerge.f l0 ([] : List (S26))).bind fun t137 => ((impl_SetEqual.f t137 l0).bind fun t140 => (if t140 = true then ((impl_SetMerge.f ([] : List (S26)) l0).bind fun t141 => ((impl_SetEqual.f t141 l0).bind fun t144 => (some t144))) else (some false)))) else (some false)))) else (some false)) = some r := H
                have A38 := Aside0.mk A380
                clear A380
                by_cases c39 : t132 = true
                · subst c39
                  have H1 : ((impl_SetMerge.f l0 l0).bind fun t133 => ((impl_SetEqual.f t133 l0).bind fun t136 => (if t136 = true then ((impl_SetMerge.f l0 ([] : List (S26))).bind fun t137 => ((impl_SetEqual.f t137 l0).bind fun t140 => (if t140 = true then ((impl_SetMerge.f ([] : List (S26)) l0).bind fun t141 => ((impl_SetEqual.f t141 l0).bind fun t144 => (some t144))) else (some false)))) else (some false)))) = some r := by rw [if_pos rfl] at H; exact H
                  clear H
                  have H := H1
                  clear H1
                  replace H := Option.bind_eq_some_iff.mp H
                  obtain ⟨t133, A400, H⟩ := H
                  replace H : ((impl_SetEqual.f t133 l0).bind fun t136 => (if t136 = true then ((impl_SetMerge.f l0 ([] : List (S26))).bind fun t137 => ((impl_SetEqual.f t137 l0).bind fun t140 => (if t140 = true then ((impl_SetMerge.f ([] : List (S26)) l0).bind fun t141 => ((impl_SetEqual.f t141 l0).bind fun t144 => (some t144))) else (some false)))) else (some false))) = some r := H
                  have A40 := Aside0.mk A400
                  clear A400
                  replace H := Option.bind_eq_some_iff.mp H
                  obtain ⟨t136, A410, H⟩ := H
                  replace H : (if t136 = true then ((impl_SetMerge.f l0 ([] : List (S26))).bind fun t137 => ((impl_SetEqual.f t137 l0).bind fun t140 => (if t140 = true then ((impl_SetMerge.f ([] : List (S26)) l0).bind fun t141 => ((impl_SetEqual.f t141 l0).bind fun t144 => (some t144))) else (some false)))) else (some false)) = some r := H
                  have A41 := Aside0.mk A410
                  clear A410
                  by_cases c42 : t136 = true
                  · subst c42
                    have H1 : ((impl_SetMerge.f l0 ([] : List (S26))).bind fun t137 => ((impl_SetEqual.f t137 l0).bind fun t140 => (if t140 = true then ((impl_SetMerge.f ([] : List (S26)) l0).bind fun t141 => ((impl_SetEqual.f t141 l0).bind fun t144 => (some t144))) else (some false)))) = some r := by rw [if_pos rfl] at H; exact H
                    clear H
                    have H := H1
                    clear H1
                    replace H := Option.bind_eq_some_iff.mp H
                    obtain ⟨t137, A430, H⟩ := H
                    replace H : ((impl_SetEqual.f t137 l0).bind fun t140 => (if t140 = true then ((impl_SetMerge.f ([] : List (S26)) l0).bind fun t141 => ((impl_SetEqual.f t141 l0).bind fun t144 => (some t144))) else (some false))) = some r := H
                    have A43 := Aside0.mk A430
                    clear A430
                    replace H := Option.bind_eq_some_iff.mp H
                    obtain ⟨t140, A440, H⟩ := H
                    replace H : (if t140 = true then ((impl_SetMerge.f ([] : List (S26)) l0).bind fun t141 => ((impl_SetEqual.f t141 l0).bind fun t144 => (some t144))) else (some false)) = some r := H
                    have A44 := Aside0.mk A440
                    clear A440
                    by_cases c45 : t140 = true
                    · subst c45
                      have H1 : ((impl_SetMerge.f ([] : List (S26)) l0).bind fun t141 => ((impl_SetEqual.f t141 l0).bind fun t144 => (some t144))) = some r := by rw [if_pos rfl] at H; exact H
                      clear H
                      have H := H1
                      clear H1
                      replace H := Option.bind_eq_some_iff.mp H
                      obtain ⟨t141, A460, H⟩ := H
                      replace H : ((impl_SetEqual.f t141 l0).bind fun t144 => (some t144)) = some r := H
                      have A46 := Aside0.mk A460
                      clear A460
                      replace H := Option.bind_eq_some_iff.mp H
                      obtain ⟨t144, A470, H⟩ := H
                      replace H : (some t144) = some r := H
                      have A47 := Aside0.mk A470
                      clear A470
                      obtain rfl := Option.some.inj H
                      go_wp2_with fail
                      (with_reducible refine (impl_SetMerge.calls _ _ l0 _ _ l1 t120 _ ?side1 ?side2 ?side3 ?side4 A34.out).mono ?_); (case side1 => repeat (first | exact (Kd.C_below HR0.out HB.out) | (with_reducible refine Kd.C_alloc ?_ _) | (with_reducible refine Kd.C_drewN ?_ _) | (with_reducible refine Kd.C_drew ?_))); (case side2 => exact HC0.out); (case side3 => repeat (first | exact (Kd.C_below HR1.out HB.out) | (with_reducible refine Kd.C_alloc ?_ _) | (with_reducible refine Kd.C_drewN ?_ _) | (with_reducible refine Kd.C_drew ?_))); (case side4 => exact HC1.out); rintro e w48 ⟨v121, rfl, ho0, hb⟩; have n0_ := Aside0.mk (Kd.R_lower ho0 (below_size (by repeat (first | (with_reducible first | exact HB.out | apply below_alloc | apply pw_below_drewN | apply below_drew1) | exact HB.out)))); have n1_ := Aside0.mk (below_step (by repeat (first | (with_reducible first | exact HB.out | apply below_alloc | apply pw_below_drewN | apply below_drew1) | exact HB.out)) hb); clear HB; have HO122 := n0_; have HB := n1_; clear n0_ n1_; (try clear hb); (try clear hb2); (try clear hk); (try clear hi); (try clear ho0); obtain ⟨Ao49, co49, eo49⟩ := Kd.R_slice HO122.out; subst eo49
                      go_wp2_with fail
                      (with_reducible refine (impl_SetMerge.calls _ _ t120 _ _ l2 t123 _ ?side1 ?side2 ?side3 ?side4 A35.out).mono ?_); (case side1 => repeat (first | exact (Kd.R_reads' HO122.out).2.2 | (with_reducible refine Kd.C_alloc ?_ _) | (with_reducible refine Kd.C_drewN ?_ _) | (with_reducible refine Kd.C_drew ?_))); (case side2 => exact (Kd.R_reads' HO122.out).2.1); (case side3 => repeat (first | exact (Kd.C_below HR2.out HB.out) | (with_reducible refine Kd.C_alloc ?_ _) | (with_reducible refine Kd.C_drewN ?_ _) | (with_reducible refine Kd.C_drew ?_))); (case side4 => exact HC2.out); rintro e w50 ⟨v124, rfl, ho0, hb⟩; have n0_ := Aside0.mk (Kd.R_elder' (by (with_reducible repeat (first | apply Kd.R_alloc | apply Kd.R_drewN | apply Kd.R_drew)); exact HO122.out) (Kd.R_base ho0) hb); have n1_ := Aside0.mk (Kd.R_lower (Kd.R_new' ho0 (Kd.R_lt (by (with_reducible repeat (first | apply Kd.R_alloc | apply Kd.R_drewN | apply Kd.R_drew)); exact HO122.out))) (below_size (by repeat (first | (with_reducible first | exact HB.out | apply below_alloc | apply pw_below_drewN | apply below_drew1) | exact HB.out)))); have n2_ := Aside0.mk (below_step (by repeat (first | (with_reducible first | exact HB.out | apply below_alloc | apply pw_below_drewN | apply below_drew1) | exact HB.out)) hb); clear HO122; clear HB; have HO122 := n0_; have HO125 := n1_; have HB := n2_; clear n0_ n1_ n2_; (try clear hb); (try clear hb2); (try clear hk); (try clear hi); (try clear ho0)
                      go_wp2_with fail
                      (with_reducible refine (impl_SetMerge.calls _ _ l1 _ _ l2 t126 _ ?side1 ?side2 ?side3 ?side4 A36.out).mono ?_); (case side1 => repeat (first | exact (Kd.C_below HR1.out HB.out) | (with_reducible refine Kd.C_alloc ?_ _) | (with_reducible refine Kd.C_drewN ?_ _) | (with_reducible refine Kd.C_drew ?_))); (case side2 => exact HC1.out); (case side3 => repeat (first | exact (Kd.C_below HR2.out HB.out) | (with_reducible refine Kd.C_alloc ?_ _) | (with_reducible refine Kd.C_drewN ?_ _) | (with_reducible refine Kd.C_drew ?_))); (case side4 => exact HC2.out); rintro e w51 ⟨v127, rfl, ho0, hb⟩; have n0_ := Aside0.mk (Kd.R_elder' (by (with_reducible repeat (first | apply Kd.R_alloc | apply Kd.R_drewN | apply Kd.R_drew)); exact HO122.out) (Kd.R_base ho0) hb); have n1_ := Aside0.mk (Kd.R_elder' (by (with_reducible repeat (first | apply Kd.R_alloc | apply Kd.R_drewN | apply Kd.R_drew)); exact HO125.out) (Kd.R_base ho0) hb); have n2_ := Aside0.mk (Kd.R_lower (Kd.R_new' (Kd.R_new' ho0 (Kd.R_lt (by (with_reducible repeat (first | apply Kd.R_alloc | apply Kd.R_drewN | apply Kd.R_drew)); exact HO122.out))) (Kd.R_lt (by (with_reducible repeat (first | apply Kd.R_alloc | apply Kd.R_drewN | apply Kd.R_drew)); exact HO125.out))) (below_size (by repeat (first | (with_reducible first | exact HB.out | apply below_alloc | apply pw_below_drewN | apply below_drew1) | exact HB.out)))); have n3_ := Aside0.mk (below_step (by repeat (first | (with_reducible first | exact HB.out | apply below_alloc | apply pw_below_drewN | apply below_drew1) | exact HB.out)) hb); clear HO122; clear HO125; clear HB; have HO122 := n0_; have HO125 := n1_; have HO128 := n2_; have HB := n3_; clear n0_ n1_ n2_ n3_; (try clear hb); (try clear hb2); (try clear hk); (try clear hi); (try clear ho0); obtain ⟨Ao52, co52, eo52⟩ := Kd.R_slice HO128.out; subst eo52
                      go_wp2_with fail
                      (with_reducible refine (impl_SetMerge.calls _ _ l0 _ _ t126 t129 _ ?side1 ?side2 ?side3 ?side4 A37.out).mono ?_); (case side1 => repeat (first | exact (Kd.C_below HR0.out HB.out) | (with_reducible refine Kd.C_alloc ?_ _) | (with_reducible refine Kd.C_drewN ?_ _) | (with_reducible refine Kd.C_drew ?_))); (case side2 => exact HC0.out); (case side3 => repeat (first | exact (Kd.R_reads' HO128.out).2.2 | (with_reducible refine Kd.C_alloc ?_ _) | (with_reducible refine Kd.C_drewN ?_ _) | (with_reducible refine Kd.C_drew ?_))); (case side4 => exact (Kd.R_reads' HO128.out).2.1); rintro e w53 ⟨v130, rfl, ho0, hb⟩; have n0_ := Aside0.mk (Kd.R_elder' (by (with_reducible repeat (first | apply Kd.R_alloc | apply Kd.R_drewN | apply Kd.R_drew)); exact HO122.out) (Kd.R_base ho0) hb); have n1_ := Aside0.mk (Kd.R_elder' (by (with_reducible repeat (first | apply Kd.R_alloc | apply Kd.R_drewN | apply Kd.R_drew)); exact HO125.out) (Kd.R_base ho0) hb); have n2_ := Aside0.mk (Kd.R_elder' (by (with_reducible repeat (first | apply Kd.R_alloc | apply Kd.R_drewN | apply Kd.R_drew)); exact HO128.out) (Kd.R_base ho0) hb); have n3_ := Aside0.mk (Kd.R_lower (Kd.R_new' (Kd.R_new' (Kd.R_new' ho0 (Kd.R_lt (by (with_reducible repeat (first | apply Kd.R_alloc | apply Kd.R_drewN | apply Kd.R_drew)); exact HO122.out))) (Kd.R_lt (by (with_reducible repeat (first | apply Kd.R_alloc | apply Kd.R_drewN | apply Kd.R_drew)); exact HO125.out))) (Kd.R_lt (by (with_reducible repeat (first | apply Kd.R_alloc | apply Kd.R_drewN | apply Kd.R_drew)); exact HO128.out))) (below_size (by repeat (first | (with_reducible first | exact HB.out | apply below_alloc | apply pw_below_drewN | apply below_drew1) | exact HB.out)))); have n4_ := Aside0.mk (below_step (by repeat (first | (with_reducible first | exact HB.out | apply below_alloc | apply pw_below_drewN | apply below_drew1) | exact HB.out)) hb); clear HO122; clear HO125; clear HO128; clear HB; have HO122 := n0_; have HO125 := n1_; have HO128 := n2_; have HO131 := n3_; have HB := n4_; clear n0_ n1_ n2_ n3_ n4_; (try clear hb); (try clear hb2); (try clear hk); (try clear hi); (try clear ho0); obtain ⟨Ao54, co54, eo54⟩ := Kd.R_slice HO125.out; subst eo54; obtain ⟨Ao55, co55, eo55⟩ := Kd.R_slice HO131.out; subst eo55
                      go_wp2_with fail
                      (with_reducible refine (impl_SetEqual.calls _ _ t123 _ _ t129 true _ ?side1 ?side2 ?side3 ?side4 A38.out).mono ?_); (case side1 => repeat (first | exact (Kd.R_reads' HO125.out).2.2 | (with_reducible refine Kd.C_alloc ?_ _) | (with_reducible refine Kd.C_drewN ?_ _) | (with_reducible refine Kd.C_drew ?_))); (case side2 => exact (Kd.R_reads' HO125.out).2.1); (case side3 => repeat (first | exact (Kd.R_reads' HO131.out).2.2 | (with_reducible refine Kd.C_alloc ?_ _) | (with_reducible refine Kd.C_drewN ?_ _) | (with_reducible refine Kd.C_drew ?_))); (case side4 => exact (Kd.R_reads' HO131.out).2.1); rintro e w56 ⟨rfl, hb⟩; have n0_ := Aside0.mk (Kd.R_below (by (with_reducible repeat (first | apply Kd.R_alloc | apply Kd.R_drewN | apply Kd.R_drew)); exact HO122.out) hb); have n1_ := Aside0.mk (Kd.R_below (by (with_reducible repeat (first | apply Kd.R_alloc | apply Kd.R_drewN | apply Kd.R_drew)); exact HO125.out) hb); have n2_ := Aside0.mk (Kd.R_below (by (with_reducible repeat (first | apply Kd.R_alloc | apply Kd.R_drewN | apply Kd.R_drew)); exact HO128.out) hb); have n3_ := Aside0.mk (Kd.R_below (by (with_reducible repeat (first | apply Kd.R_alloc | apply Kd.R_drewN | apply Kd.R_drew)); exact HO131.out) hb); have n4_ := Aside0.mk (below_step (by repeat (first | (with_reducible first | exact HB.out | apply below_alloc | apply pw_below_drewN | apply below_drew1) | exact HB.out)) hb); clear HO122; clear HO125; clear HO128; clear HO131; clear HB; have HO122 := n0_; have HO125 := n1_; have HO128 := n2_; have HO131 := n3_; have HB := n4_; clear n0_ n1_ n2_ n3_ n4_; (try clear hb); (try clear hb2); (try clear hk); (try clear hi)
                      go_wp2_with fail
                      (with_reducible refine (impl_SetMerge.calls _ _ l0 _ _ l0 t133 _ ?side1 ?side2 ?side3 ?side4 A40.out).mono ?_); (case side1 => repeat (first | exact (Kd.C_below HR0.out HB.out) | (with_reducible refine Kd.C_alloc ?_ _) | (with_reducible refine Kd.C_drewN ?_ _) | (with_reducible refine Kd.C_drew ?_))); (case side2 => exact HC0.out); (case side3 => repeat (first | exact (Kd.C_below HR0.out HB.out) | (with_reducible refine Kd.C_alloc ?_ _) | (with_reducible refine Kd.C_drewN ?_ _) | (with_reducible refine Kd.C_drew ?_))); (case side4 => exact HC0.out); rintro e w57 ⟨v134, rfl, ho0, hb⟩; have n0_ := Aside0.mk (Kd.R_elder' (by (with_reducible repeat (first | apply Kd.R_alloc | apply Kd.R_drewN | apply Kd.R_drew)); exact HO122.out) (Kd.R_base ho0) hb); have n1_ := Aside0.mk (Kd.R_elder' (by (with_reducible repeat (first | apply Kd.R_alloc | apply Kd.R_drewN | apply Kd.R_drew)); exact HO125.out) (Kd.R_base ho0) hb); have n2_ := Aside0.mk (Kd.R_elder' (by (with_reducible repeat (first | apply Kd.R_alloc | apply Kd.R_drewN | apply Kd.R_drew)); exact HO128.out) (Kd.R_base ho0) hb); have n3_ := Aside0.mk (Kd.R_elder' (by (with_reducible repeat (first | apply Kd.R_alloc | apply Kd.R_drewN | apply Kd.R_drew)); exact HO131.out) (Kd.R_base ho0) hb); have n4_ := Aside0.mk (Kd.R_lower (Kd.R_new' (Kd.R_new' (Kd.R_new' (Kd.R_new' ho0 (Kd.R_lt (by (with_reducible repeat (first | apply Kd.R_alloc | apply Kd.R_drewN | apply Kd.R_drew)); exact HO122.out))) (Kd.R_lt (by (with_reducible repeat (first | apply Kd.R_alloc | apply Kd.R_drewN | apply Kd.R_drew)); exact HO125.out))) (Kd.R_lt (by (with_reducible repeat (first | apply Kd.R_alloc | apply Kd.R_drewN | apply Kd.R_drew)); exact HO128.out))) (Kd.R_lt (by (with_reducible repeat (first | apply Kd.R_alloc | apply Kd.R_drewN | apply Kd.R_drew)); exact HO131.out))) (below_size (by repeat (first | (with_reducible first | exact HB.out | apply below_alloc | apply pw_below_drewN | apply below_drew1) | exact HB.out)))); have n5_ := Aside0.mk (below_step (by repeat (first | (with_reducible first | exact HB.out | apply below_alloc | apply pw_below_drewN | apply below_drew1) | exact HB.out)) hb); clear HO122; clear HO125; clear HO128; clear HO131; clear HB; have HO122 := n0_; have HO125 := n1_; have HO128 := n2_; have HO131 := n3_; have HO135 := n4_; have HB := n5_; clear n0_ n1_ n2_ n3_ n4_ n5_; (try clear hb); (try clear hb2); (try clear hk); (try clear hi); (try clear ho0); obtain ⟨Ao58, co58, eo58⟩ := Kd.R_slice HO135.out; subst eo58
                      go_wp2_with fail
                      (with_reducible refine (impl_SetEqual.calls _ _ t133 _ _ l0 true _ ?side1 ?side2 ?side3 ?side4 A41.out).mono ?_); (case side1 => repeat (first | exact (Kd.R_reads' HO135.out).2.2 | (with_reducible refine Kd.C_alloc ?_ _) | (with_reducible refine Kd.C_drewN ?_ _) | (with_reducible refine Kd.C_drew ?_))); (case side2 => exact (Kd.R_reads' HO135.out).2.1); (case side3 => repeat (first | exact (Kd.C_below HR0.out HB.out) | (with_reducible refine Kd.C_alloc ?_ _) | (with_reducible refine Kd.C_drewN ?_ _) | (with_reducible refine Kd.C_drew ?_))); (case side4 => exact HC0.out); rintro e w59 ⟨rfl, hb⟩; have n0_ := Aside0.mk (Kd.R_below (by (with_reducible repeat (first | apply Kd.R_alloc | apply Kd.R_drewN | apply Kd.R_drew)); exact HO122.out) hb); have n1_ := Aside0.mk (Kd.R_below (by (with_reducible repeat (first | apply Kd.R_alloc | apply Kd.R_drewN | apply Kd.R_drew)); exact HO125.out) hb); have n2_ := Aside0.mk (Kd.R_below (by (with_reducible repeat (first | apply Kd.R_alloc | apply Kd.R_drewN | apply Kd.R_drew)); exact HO128.out) hb); have n3_ := Aside0.mk (Kd.R_below (by (with_reducible repeat (first | apply Kd.R_alloc | apply Kd.R_drewN | apply Kd.R_drew)); exact HO131.out) hb); have n4_ := Aside0.mk (Kd.R_below (by (with_reducible repeat (first | apply Kd.R_alloc | apply Kd.R_drewN | apply Kd.R_drew)); exact HO135.out) hb); have n5_ := Aside0.mk (below_step (by repeat (first | (with_reducible first | exact HB.out | apply below_alloc | apply pw_below_drewN | apply below_drew1) | exact HB.out)) hb); clear HO122; clear HO125; clear HO128; clear HO131; clear HO135; clear HB; have HO122 := n0_; have HO125 := n1_; have HO128 := n2_; have HO131 := n3_; have HO135 := n4_; have HB := n5_; clear n0_ n1_ n2_ n3_ n4_ n5_; (try clear hb); (try clear hb2); (try clear hk); (try clear hi)
                      go_wp2_with fail
                      (refine (impl_SetMerge.calls _ _ l0 _ _ ([] : List (S26)) t137 _ ?side1 ?side2 ?side3 ?side4 A43.out).mono ?_); (case side1 => repeat (first | exact (Kd.C_below HR0.out HB.out) | (with_reducible refine Kd.C_alloc ?_ _) | (with_reducible refine Kd.C_drewN ?_ _) | (with_reducible refine Kd.C_drew ?_))); (case side2 => exact HC0.out); (case side3 => exact Kd.C_nil _ _); (case side4 => exact Nat.le_refl _); rintro e w60 ⟨v138, rfl, ho0, hb⟩; have n0_ := Aside0.mk (Kd.R_elder' (by (with_reducible repeat (first | apply Kd.R_alloc | apply Kd.R_drewN | apply Kd.R_drew)); exact HO122.out) (Kd.R_base ho0) hb); have n1_ := Aside0.mk (Kd.R_elder' (by (with_reducible repeat (first | apply Kd.R_alloc | apply Kd.R_drewN | apply Kd.R_drew)); exact HO125.out) (Kd.R_base ho0) hb); have n2_ := Aside0.mk (Kd.R_elder' (by (with_reducible repeat (first | apply Kd.R_alloc | apply Kd.R_drewN | apply Kd.R_drew)); exact HO128.out) (Kd.R_base ho0) hb); have n3_ := Aside0.mk (Kd.R_elder' (by (with_reducible repeat (first | apply Kd.R_alloc | apply Kd.R_drewN | apply Kd.R_drew)); exact HO131.out) (Kd.R_base ho0) hb); have n4_ := Aside0.mk (Kd.R_elder' (by (with_reducible repeat (first | apply Kd.R_alloc | apply Kd.R_drewN | apply Kd.R_drew)); exact HO135.out) (Kd.R_base ho0) hb); have n5_ := Aside0.mk (Kd.R_lower (Kd.R_new' (Kd.R_new' (Kd.R_new' (Kd.R_new' (Kd.R_new' ho0 (Kd.R_lt (by (with_reducible repeat (first | apply Kd.R_alloc | apply Kd.R_drewN | apply Kd.R_drew)); exact HO122.out))) (Kd.R_lt (by (with_reducible repeat (first | apply Kd.R_alloc | apply Kd.R_drewN | apply Kd.R_drew)); exact HO125.out))) (Kd.R_lt (by (with_reducible repeat (first | apply Kd.R_alloc | apply Kd.R_drewN | apply Kd.R_drew)); exact HO128.out))) (Kd.R_lt (by (with_reducible repeat (first | apply Kd.R_alloc | apply Kd.R_drewN | apply Kd.R_drew)); exact HO131.out))) (Kd.R_lt (by (with_reducible repeat (first | apply Kd.R_alloc | apply Kd.R_drewN | apply Kd.R_drew)); exact HO135.out))) (below_size (by repeat (first | (with_reducible first | exact HB.out | apply below_alloc | apply pw_below_drewN | apply below_drew1) | exact HB.out)))); have n6_ := Aside0.mk (below_step (by repeat (first | (with_reducible first | exact HB.out | apply below_alloc | apply pw_below_drewN | apply below_drew1) | exact HB.out)) hb); clear HO122; clear HO125; clear HO128; clear HO131; clear HO135; clear HB; have HO122 := n0_; have HO125 := n1_; have HO128 := n2_; have HO131 := n3_; have HO135 := n4_; have HO139 := n5_; have HB := n6_; clear n0_ n1_ n2_ n3_ n4_ n5_ n6_; (try clear hb); (try clear hb2); (try clear hk); (try clear hi); (try clear ho0); obtain ⟨Ao61, co61, eo61⟩ := Kd.R_slice HO139.out; subst eo61
                      go_wp2_with fail
                      (with_reducible refine (impl_SetEqual.calls _ _ t137 _ _ l0 true _ ?side1 ?side2 ?side3 ?side4 A44.out).mono ?_); (case side1 => repeat (first | exact (Kd.R_reads' HO139.out).2.2 | (with_reducible refine Kd.C_alloc ?_ _) | (with_reducible refine Kd.C_drewN ?_ _) | (with_reducible refine Kd.C_drew ?_))); (case side2 => exact (Kd.R_reads' HO139.out).2.1); (case side3 => repeat (first | exact (Kd.C_below HR0.out HB.out) | (with_reducible refine Kd.C_alloc ?_ _) | (with_reducible refine Kd.C_drewN ?_ _) | (with_reducible refine Kd.C_drew ?_))); (case side4 => exact HC0.out); rintro e w62 ⟨rfl, hb⟩; have n0_ := Aside0.mk (Kd.R_below (by (with_reducible repeat (first | apply Kd.R_alloc | apply Kd.R_drewN | apply Kd.R_drew)); exact HO122.out) hb); have n1_ := Aside0.mk (Kd.R_below (by (with_reducible repeat (first | apply Kd.R_alloc | apply Kd.R_drewN | apply Kd.R_drew)); exact HO125.out) hb); have n2_ := Aside0.mk (Kd.R_below (by (with_reducible repeat (first | apply Kd.R_alloc | apply Kd.R_drewN | apply Kd.R_drew)); exact HO128.out) hb); have n3_ := Aside0.mk (Kd.R_below (by (with_reducible repeat (first | apply Kd.R_alloc | apply Kd.R_drewN | apply Kd.R_drew)); exact HO131.out) hb); have n4_ := Aside0.mk (Kd.R_below (by (with_reducible repeat (first | apply Kd.R_alloc | apply Kd.R_drewN | apply Kd.R_drew)); exact HO135.out) hb); have n5_ := Aside0.mk (Kd.R_below (by (with_reducible repeat (first | apply Kd.R_alloc | apply Kd.R_drewN | apply Kd.R_drew)); exact HO139.out) hb); have n6_ := Aside0.mk (below_step (by repeat (first | (with_reducible first | exact HB.out | apply below_alloc | apply pw_below_drewN | apply below_drew1) | exact HB.out)) hb); clear HO122; clear HO125; clear HO128; clear HO131; clear HO135; clear HO139; clear HB; have HO122 := n0_; have HO125 := n1_; have HO128 := n2_; have HO131 := n3_; have HO135 := n4_; have HO139 := n5_; have HB := n6_; clear n0_ n1_ n2_ n3_ n4_ n5_ n6_; (try clear hb); (try clear hb2); (try clear hk); (try clear hi)
                      go_wp2_with fail
                      (refine (impl_SetMerge.calls _ _ ([] : List (S26)) _ _ l0 t141 _ ?side1 ?side2 ?side3 ?side4 A46.out).mono ?_); (case side1 => exact Kd.C_nil _ _); (case side2 => exact Nat.le_refl _); (case side3 => repeat (first | exact (Kd.C_below HR0.out HB.out) | (with_reducible refine Kd.C_alloc ?_ _) | (with_reducible refine Kd.C_drewN ?_ _) | (with_reducible refine Kd.C_drew ?_))); (case side4 => exact HC0.out); rintro e w63 ⟨v142, rfl, ho0, hb⟩; have n0_ := Aside0.mk (Kd.R_elder' (by (with_reducible repeat (first | apply Kd.R_alloc | apply Kd.R_drewN | apply Kd.R_drew)); exact HO122.out) (Kd.R_base ho0) hb); have n1_ := Aside0.mk (Kd.R_elder' (by (with_reducible repeat (first | apply Kd.R_alloc | apply Kd.R_drewN | apply Kd.R_drew)); exact HO125.out) (Kd.R_base ho0) hb); have n2_ := Aside0.mk (Kd.R_elder' (by (with_reducible repeat (first | apply Kd.R_alloc | apply Kd.R_drewN | apply Kd.R_drew)); exact HO128.out) (Kd.R_base ho0) hb); have n3_ := Aside0.mk (Kd.R_elder' (by (with_reducible repeat (first | apply Kd.R_alloc | apply Kd.R_drewN | apply Kd.R_drew)); exact HO131.out) (Kd.R_base ho0) hb); have n4_ := Aside0.mk (Kd.R_elder' (by (with_reducible repeat (first | apply Kd.R_alloc | apply Kd.R_drewN | apply Kd.R_drew)); exact HO135.out) (Kd.R_base ho0) hb); have n5_ := Aside0.mk (Kd.R_elder' (by (with_reducible repeat (first | apply Kd.R_alloc | apply Kd.R_drewN | apply Kd.R_drew)); exact HO139.out) (Kd.R_base ho0) hb); have n6_ := Aside0.mk (Kd.R_lower (Kd.R_new' (Kd.R_new' (Kd.R_new' (Kd.R_new' (Kd.R_new' (Kd.R_new' ho0 (Kd.R_lt (by (with_reducible repeat (first | apply Kd.R_alloc | apply Kd.R_drewN | apply Kd.R_drew)); exact HO122.out))) (Kd.R_lt (by (with_reducible repeat (first | apply Kd.R_alloc | apply Kd.R_drewN | apply Kd.R_drew)); exact HO125.out))) (Kd.R_lt (by (with_reducible repeat (first | apply Kd.R_alloc | apply Kd.R_drewN | apply Kd.R_drew)); exact HO128.out))) (Kd.R_lt (by (with_reducible repeat (first | apply Kd.R_alloc | apply Kd.R_drewN | apply Kd.R_drew)); exact HO131.out))) (Kd.R_lt (by (with_reducible repeat (first | apply Kd.R_alloc | apply Kd.R_drewN | apply Kd.R_drew)); exact HO135.out))) (Kd.R_lt (by (with_reducible repeat (first | apply Kd.R_alloc | apply Kd.R_drewN | apply Kd.R_drew)); exact HO139.out))) (below_size (by repeat (first | (with_reducible first | exact HB.out | apply below_alloc | apply pw_below_drewN | apply below_drew1) | exact HB.out)))); have n7_ := Aside0.mk (below_step (by repeat (first | (with_reducible first | exact HB.out | apply below_alloc | apply pw_below_drewN | apply below_drew1) | exact HB.out)) hb); clear HO122; clear HO125; clear HO128; clear HO131; clear HO135; clear HO139; clear HB; have HO122 := n0_; have HO125 := n1_; have HO128 := n2_; have HO131 := n3_; have HO135 := n4_; have HO139 := n5_; have HO143 := n6_; have HB := n7_; clear n0_ n1_ n2_ n3_ n4_ n5_ n6_ n7_; (try clear hb); (try clear hb2); (try clear hk); (try clear hi); (try clear ho0); obtain ⟨Ao64, co64, eo64⟩ := Kd.R_slice HO143.out; subst eo64
                      go_wp2_with fail
                      (with_reducible refine (impl_SetEqual.calls _ _ t141 _ _ l0 t144 _ ?side1 ?side2 ?side3 ?side4 A47.out).mono ?_); (case side1 => repeat (first | exact (Kd.R_reads' HO143.out).2.2 | (with_reducible refine Kd.C_alloc ?_ _) | (with_reducible refine Kd.C_drewN ?_ _) | (with_reducible refine Kd.C_drew ?_))); (case side2 => exact (Kd.R_reads' HO143.out).2.1); (case side3 => repeat (first | exact (Kd.C_below HR0.out HB.out) | (with_reducible refine Kd.C_alloc ?_ _) | (with_reducible refine Kd.C_drewN ?_ _) | (with_reducible refine Kd.C_drew ?_))); (case side4 => exact HC0.out); rintro e w65 ⟨rfl, hb⟩; have n0_ := Aside0.mk (Kd.R_below (by (with_reducible repeat (first | apply Kd.R_alloc | apply Kd.R_drewN | apply Kd.R_drew)); exact HO122.out) hb); have n1_ := Aside0.mk (Kd.R_below (by (with_reducible repeat (first | apply Kd.R_alloc | apply Kd.R_drewN | apply Kd.R_drew)); exact HO125.out) hb); have n2_ := Aside0.mk (Kd.R_below (by (with_reducible repeat (first | apply Kd.R_alloc | apply Kd.R_drewN | apply Kd.R_drew)); exact HO128.out) hb); have n3_ := Aside0.mk (Kd.R_below (by (with_reducible repeat (first | apply Kd.R_alloc | apply Kd.R_drewN | apply Kd.R_drew)); exact HO131.out) hb); have n4_ := Aside0.mk (Kd.R_below (by (with_reducible repeat (first | apply Kd.R_alloc | apply Kd.R_drewN | apply Kd.R_drew)); exact HO135.out) hb); have n5_ := Aside0.mk (Kd.R_below (by (with_reducible repeat (first | apply Kd.R_alloc | apply Kd.R_drewN | apply Kd.R_drew)); exact HO139.out) hb); have n6_ := Aside0.mk (Kd.R_below (by (with_reducible repeat (first | apply Kd.R_alloc | apply Kd.R_drewN | apply Kd.R_drew)); exact HO143.out) hb); have n7_ := Aside0.mk (below_step (by repeat (first | (with_reducible first | exact HB.out | apply below_alloc | apply pw_below_drewN | apply below_drew1) | exact HB.out)) hb); clear HO122; clear HO125; clear HO128; clear HO131; clear HO135; clear HO139; clear HO143; clear HB; have HO122 := n0_; have HO125 := n1_; have HO128 := n2_; have HO131 := n3_; have HO135 := n4_; have HO139 := n5_; have HO143 := n6_; have HB := n7_; clear n0_ n1_ n2_ n3_ n4_ n5_ n6_ n7_; (try clear hb); (try clear hb2); (try clear hk); (try clear hi)
                      go_wp2
                      go_ret
                      exact ⟨by first | rfl | (simp [errW_none, errW_some] <;> rfl) | (simp [*, errW_none, errW_some] <;> rfl), by repeat (first | (with_reducible first | exact HB.out | apply below_alloc | apply pw_below_drewN | apply below_drew1) | exact HB.out)⟩
                    · replace c45 := Bool.eq_false_iff.mpr c45
                      subst c45
                      have H1 : (some false) = some r := by rw [if_neg (show ¬ (false = true) by decide)] at H; exact H
                      clear H
                      have H := H1
                      clear H1
                      obtain rfl := Option.some.inj H
                      go_wp2_with fail
                      (with_reducible refine (impl_SetMerge.calls _ _ l0 _ _ l1 t120 _ ?side1 ?side2 ?side3 ?side4 A34.out).mono ?_); (case side1 => repeat (first | exact (Kd.C_below HR0.out HB.out) | (with_reducible refine Kd.C_alloc ?_ _) | (with_reducible refine Kd.C_drewN ?_ _) | (with_reducible refine Kd.C_drew ?_))); (case side2 => exact HC0.out); (case side3 => repeat (first | exact (Kd.C_below HR1.out HB.out) | (with_reducible refine Kd.C_alloc ?_ _) | (with_reducible refine Kd.C_drewN ?_ _) | (with_reducible refine Kd.C_drew ?_))); (case side4 => exact HC1.out); rintro e w66 ⟨v121, rfl, ho0, hb⟩; have n0_ := Aside0.mk (Kd.R_lower ho0 (below_size (by repeat (first | (with_reducible first | exact HB.out | apply below_alloc | apply pw_below_drewN | apply below_drew1) | exact HB.out)))); have n1_ := Aside0.mk (below_step (by repeat (first | (with_reducible first | exact HB.out | apply below_alloc | apply pw_below_drewN | apply below_drew1) | exact HB.out)) hb); clear HB; have HO122 := n0_; have HB := n1_; clear n0_ n1_; (try clear hb); (try clear hb2); (try clear hk); (try clear hi); (try clear ho0); obtain ⟨Ao67, co67, eo67⟩ := Kd.R_slice HO122.out; subst eo67
                      go_wp2_with fail
                      (with_reducible refine (impl_SetMerge.calls _ _ t120 _ _ l2 t123 _ ?side1 ?side2 ?side3 ?side4 A35.out).mono ?_); (case side1 => repeat (first | exact (Kd.R_reads' HO122.out).2.2 | (with_reducible refine Kd.C_alloc ?_ _) | (with_reducible refine Kd.C_drewN ?_ _) | (with_reducible refine Kd.C_drew ?_))); (case side2 => exact (Kd.R_reads' HO122.out).2.1); (case side3 => repeat (first | exact (Kd.C_below HR2.out HB.out) | (with_reducible refine Kd.C_alloc ?_ _) | (with_reducible refine Kd.C_drewN ?_ _) | (with_reducible refine Kd.C_drew ?_))); (case side4 => exact HC2.out); rintro e w68 ⟨v124, rfl, ho0, hb⟩; have n0_ := Aside0.mk (Kd.R_elder' (by (with_reducible repeat (first | apply Kd.R_alloc | apply Kd.R_drewN | apply Kd.R_drew)); exact HO122.out) (Kd.R_base ho0) hb); have n1_ := Aside0.mk (Kd.R_lower (Kd.R_new' ho0 (Kd.R_lt (by (with_reducible repeat (first | apply Kd.R_alloc | apply Kd.R_drewN | apply Kd.R_drew)); exact HO122.out))) (below_size (by repeat (first | (with_reducible first | exact HB.out | apply below_alloc | apply pw_below_drewN | apply below_drew1) | exact HB.out)))); have n2_ := Aside0.mk (below_step (by repeat (first | (with_reducible first | exact HB.out | apply below_alloc | apply pw_below_drewN | apply below_drew1) | exact HB.out)) hb); clear HO122; clear HB; have HO122 := n0_; have HO125 := n1_; have HB := n2_; clear n0_ n1_ n2_; (try clear hb); (try clear hb2); (try clear hk); (try clear hi); (try clear ho0)
                      go_wp2_with fail
                      (with_reducible refine (impl_SetMerge.calls _ _ l1 _ _ l2 t126 _ ?side1 ?side2 ?side3 ?side4 A36.out).mono ?_); (case side1 => repeat (first | exact (Kd.C_below HR1.out HB.out) | (with_reducible refine Kd.C_alloc ?_ _) | (with_reducible refine Kd.C_drewN ?_ _) | (with_reducible refine Kd.C_drew ?_))); (case side2 => exact HC1.out); (case side3 => repeat (first | exact (Kd.C_below HR2.out HB.out) | (with_reducible refine Kd.C_alloc ?_ _) | (with_reducible refine Kd.C_drewN ?_ _) | (with_reducible refine Kd.C_drew ?_))); (case side4 => exact HC2.out); rintro e w69 ⟨v127, rfl, ho0, hb⟩; have n0_ := Aside0.mk (Kd.R_elder' (by (with_reducible repeat (first | apply Kd.R_alloc | apply Kd.R_drewN | apply Kd.R_drew)); exact HO122.out) (Kd.R_base ho0) hb); have n1_ := Aside0.mk (Kd.R_elder' (by (with_reducible repeat (first | apply Kd.R_alloc | apply Kd.R_drewN | apply Kd.R_drew)); exact HO125.out) (Kd.R_base ho0) hb); have n2_ := Aside0.mk (Kd.R_lower (Kd.R_new' (Kd.R_new' ho0 (Kd.R_lt (by (with_reducible repeat (first | apply Kd.R_alloc | apply Kd.R_drewN | apply Kd.R_drew)); exact HO122.out))) (Kd.R_lt (by (with_reducible repeat (first | apply Kd.R_alloc | apply Kd.R_drewN | apply Kd.R_drew)); exact HO125.out))) (below_size (by repeat (first | (with_reducible first | exact HB.out | apply below_alloc | apply pw_below_drewN | apply below_drew1) | exact HB.out)))); have n3_ := Aside0.mk (below_step (by repeat (first | (with_reducible first | exact HB.out | apply below_alloc | apply pw_below_drewN | apply below_drew1) | exact HB.out)) hb); clear HO122; clear HO125; clear HB; have HO122 := n0_; have HO125 := n1_; have HO128 := n2_; have HB := n3_; clear n0_ n1_ n2_ n3_; (try clear hb); (try clear hb2); (try clear hk); (try clear hi); (try clear ho0); obtain ⟨Ao70, co70, eo70⟩ := Kd.R_slice HO128.out; subst eo70
                      go_wp2_with fail
                      (with_reducible refine (impl_SetMerge.calls _ _ l0 _ _ t126 t129 _ ?side1 ?side2 ?side3 ?side4 A37.out).mono ?_); (case side1 => repeat (first | exact (Kd.C_below HR0.out HB.out) | (with_reducible refine Kd.C_alloc ?_ _) | (with_reducible refine Kd.C_drewN ?_ _) | (with_reducible refine Kd.C_drew ?_))); (case side2 => exact HC0.out); (case side3 => repeat (first | exact (Kd.R_reads' HO128.out).2.2 | (with_reducible refine Kd.C_alloc ?_ _) | (with_reducible refine Kd.C_drewN ?_ _) | (with_reducible refine Kd.C_drew ?_))); (case side4 => exact (Kd.R_reads' HO128.out).2.1); rintro e w71 ⟨v130, rfl, ho0, hb⟩; have n0_ := Aside0.mk (Kd.R_elder' (by (with_reducible repeat (first | apply Kd.R_alloc | apply Kd.R_drewN | apply Kd.R_drew)); exact HO122.out) (Kd.R_base ho0) hb); have n1_ := Aside0.mk (Kd.R_elder' (by (with_reducible repeat (first | apply Kd.R_alloc | apply Kd.R_drewN | apply Kd.R_drew)); exact HO125.out) (Kd.R_base ho0) hb); have n2_ := Aside0.mk (Kd.R_elder' (by (with_reducible repeat (first | apply Kd.R_alloc | apply Kd.R_drewN | apply Kd.R_drew)); exact HO128.out) (Kd.R_base ho0) hb); have n3_ := Aside0.mk (Kd.R_lower (Kd.R_new' (Kd.R_new' (Kd.R_new' ho0 (Kd.R_lt (by (with_reducible repeat (first | apply Kd.R_alloc | apply Kd.R_drewN | apply Kd.R_drew)); exact HO122.out))) (Kd.R_lt (by (with_reducible repeat (first | apply Kd.R_alloc | apply Kd.R_drewN | apply Kd.R_drew)); exact HO125.out))) (Kd.R_lt (by (with_reducible repeat (first | apply Kd.R_alloc | apply Kd.R_drewN | apply Kd.R_drew)); exact HO128.out))) (below_size (by repeat (first | (with_reducible first | exact HB.out | apply below_alloc | apply pw_below_drewN | apply below_drew1) | exact HB.out)))); have n4_ := Aside0.mk (below_step (by repeat (first | (with_reducible first | exact HB.out | apply below_alloc | apply pw_below_drewN | apply below_drew1) | exact HB.out)) hb); clear HO122; clear HO125; clear HO128; clear HB; have HO122 := n0_; have HO125 := n1_; have HO128 := n2_; have HO131 := n3_; have HB := n4_; clear n0_ n1_ n2_ n3_ n4_; (try clear hb); (try clear hb2); (try clear hk); (try clear hi); (try clear ho0); obtain ⟨Ao72, co72, eo72⟩ := Kd.R_slice HO125.out; subst eo72; obtain ⟨Ao73, co73, eo73⟩ := Kd.R_slice HO131.out; subst eo73
                      go_wp2_with fail
                      (with_reducible refine (impl_SetEqual.calls _ _ t123 _ _ t129 true _ ?side1 ?side2 ?side3 ?side4 A38.out).mono ?_); (case side1 => repeat (first | exact (Kd.R_reads' HO125.out).2.2 | (with_reducible refine Kd.C_alloc ?_ _) | (with_reducible refine Kd.C_drewN ?_ _) | (with_reducible refine Kd.C_drew ?_))); (case side2 => exact (Kd.R_reads' HO125.out).2.1); (case side3 => repeat (first | exact (Kd.R_reads' HO131.out).2.2 | (with_reducible refine Kd.C_alloc ?_ _) | (with_reducible refine Kd.C_drewN ?_ _) | (with_reducible refine Kd.C_drew ?_))); (case side4 => exact (Kd.R_reads' HO131.out).2.1); rintro e w74 ⟨rfl, hb⟩; have n0_ := Aside0.mk (Kd.R_below (by (with_reducible repeat (first | apply Kd.R_alloc | apply Kd.R_drewN | apply Kd.R_drew)); exact HO122.out) hb); have n1_ := Aside0.mk (Kd.R_below (by (with_reducible repeat (first | apply Kd.R_alloc | apply Kd.R_drewN | apply Kd.R_drew)); exact HO125.out) hb); have n2_ := Aside0.mk (Kd.R_below (by (with_reducible repeat (first | apply Kd.R_alloc | apply Kd.R_drewN | apply Kd.R_drew)); exact HO128.out) hb); have n3_ := Aside0.mk (Kd.R_below (by (with_reducible repeat (first | apply Kd.R_alloc | apply Kd.R_drewN | apply Kd.R_drew)); exact HO131.out) hb); have n4_ := Aside0.mk (below_step (by repeat (first | (with_reducible first | exact HB.out | apply below_alloc | apply pw_below_drewN | apply below_drew1) | exact HB.out)) hb); clear HO122; clear HO125; clear HO128; clear HO131; clear HB; have HO122 := n0_; have HO125 := n1_; have HO128 := n2_; have HO131 := n3_; have HB := n4_; clear n0_ n1_ n2_ n3_ n4_; (try clear hb); (try clear hb2); (try clear hk); (try clear hi)
                      go_wp2_with fail
                      (with_reducible refine (impl_SetMerge.calls _ _ l0 _ _ l0 t133 _ ?side1 ?side2 ?side3 ?side4 A40.out).mono ?_); (case side1 => repeat (first | exact (Kd.C_below HR0.out HB.out) | (with_reducible refine Kd.C_alloc ?_ _) | (with_reducible refine Kd.C_drewN ?_ _) | (with_reducible refine Kd.C_drew ?_))); (case side2 => exact HC0.out); (case side3 => repeat (first | exact (Kd.C_below HR0.out HB.out) | (with_reducible refine Kd.C_alloc ?_ _) | (with_reducible refine Kd.C_drewN ?_ _) | (with_reducible refine Kd.C_drew ?_))); (case side4 => exact HC0.out); rintro e w75 ⟨v134, rfl, ho0, hb⟩; have n0_ := Aside0.mk (Kd.R_elder' (by (with_reducible repeat (first | apply Kd.R_alloc | apply Kd.R_drewN | apply Kd.R_drew)); exact HO122.out) (Kd.R_base ho0) hb); have n1_ := Aside0.mk (Kd.R_elder' (by (with_reducible repeat (first | apply Kd.R_alloc | apply Kd.R_drewN | apply Kd.R_drew)); exact HO125.out) (Kd.R_base ho0) hb); have n2_ := Aside0.mk (Kd.R_elder' (by (with_reducible repeat (first | apply Kd.R_alloc | apply Kd.R_drewN | apply Kd.R_drew)); exact HO128.out) (Kd.R_base ho0) hb); have n3_ := Aside0.mk (Kd.R_elder' (by (with_reducible repeat (first | apply Kd.R_alloc | apply Kd.R_drewN | apply Kd.R_drew)); exact HO131.out) (Kd.R_base ho0) hb); have n4_ := Aside0.mk (Kd.R_lower (Kd.R_new' (Kd.R_new' (Kd.R_new' (Kd.R_new' ho0 (Kd.R_lt (by (with_reducible repeat (first | apply Kd.R_alloc | apply Kd.R_drewN | apply Kd.R_drew)); exact HO122.out))) (Kd.R_lt (by (with_reducible repeat (first | apply Kd.R_alloc | apply Kd.R_drewN | apply Kd.R_drew)); exact HO125.out))) (Kd.R_lt (by (with_reducible repeat (first | apply Kd.R_alloc | apply Kd.R_drewN | apply Kd.R_drew)); exact HO128.out))) (Kd.R_lt (by (with_reducible repeat (first | apply Kd.R_alloc | apply Kd.R_drewN | apply Kd.R_drew)); exact HO131.out))) (below_size (by repeat (first | (with_reducible first | exact HB.out | apply below_alloc | apply pw_below_drewN | apply below_drew1) | exact HB.out)))); have n5_ := Aside0.mk (below_step (by repeat (first | (with_reducible first | exact HB.out | apply below_alloc | apply pw_below_drewN | apply below_drew1) | exact HB.out)) hb); clear HO122; clear HO125; clear HO128; clear HO131; clear HB; have HO122 := n0_; have HO125 := n1_; have HO128 := n2_; have HO131 := n3_; have HO135 := n4_; have HB := n5_; clear n0_ n1_ n2_ n3_ n4_ n5_; (try clear hb); (try clear hb2); (try clear hk); (try clear hi); (try clear ho0); obtain ⟨Ao76, co76, eo76⟩ := Kd.R_slice HO135.out; subst eo76
                      go_wp2_with fail
                      (with_reducible refine (impl_SetEqual.calls _ _ t133 _ _ l0 true _ ?side1 ?side2 ?side3 ?side4 A41.out).mono ?_); (case side1 => repeat (first | exact (Kd.R_reads' HO135.out).2.2 | (with_reducible refine Kd.C_alloc ?_ _) | (with_reducible refine Kd.C_drewN ?_ _) | (with_reducible refine Kd.C_drew ?_))); (case side2 => exact (Kd.R_reads' HO135.out).2.1); (case side3 => repeat (first | exact (Kd.C_below HR0.out HB.out) | (with_reducible refine Kd.C_alloc ?_ _) | (with_reducible refine Kd.C_drewN ?_ _) | (with_reducible refine Kd.C_drew ?_))); (case side4 => exact HC0.out); rintro e w77 ⟨rfl, hb⟩; have n0_ := Aside0.mk (Kd.R_below (by (with_reducible repeat (first | apply Kd.R_alloc | apply Kd.R_drewN | apply Kd.R_drew)); exact HO122.out) hb); have n1_ := Aside0.mk (Kd.R_below (by (with_reducible repeat (first | apply Kd.R_alloc | apply Kd.R_drewN | apply Kd.R_drew)); exact HO125.out) hb); have n2_ := Aside0.mk (Kd.R_below (by (with_reducible repeat (first | apply Kd.R_alloc | apply Kd.R_drewN | apply Kd.R_drew)); exact HO128.out) hb); have n3_ := Aside0.mk (Kd.R_below (by (with_reducible repeat (first | apply Kd.R_alloc | apply Kd.R_drewN | apply Kd.R_drew)); exact HO131.out) hb); have n4_ := Aside0.mk (Kd.R_below (by (with_reducible repeat (first | apply Kd.R_alloc | apply Kd.R_drewN | apply Kd.R_drew)); exact HO135.out) hb); have n5_ := Aside0.mk (below_step (by repeat (first | (with_reducible first | exact HB.out | apply below_alloc | apply pw_below_drewN | apply below_drew1) | exact HB.out)) hb); clear HO122; clear HO125; clear HO128; clear HO131; clear HO135; clear HB; have HO122 := n0_; have HO125 := n1_; have HO128 := n2_; have HO131 := n3_; have HO135 := n4_; have HB := n5_; clear n0_ n1_ n2_ n3_ n4_ n5_; (try clear hb); (try clear hb2); (try clear hk); (try clear hi)
                      go_wp2_with fail
                      (refine (impl_SetMerge.calls _ _ l0 _ _ ([] : List (S26)) t137 _ ?side1 ?side2 ?side3 ?side4 A43.out).mono ?_); (case side1 => repeat (first | exact (Kd.C_below HR0.out HB.out) | (with_reducible refine Kd.C_alloc ?_ _) | (with_reducible refine Kd.C_drewN ?_ _) | (with_reducible refine Kd.C_drew ?_))); (case side2 => exact HC0.out); (case side3 => exact Kd.C_nil _ _); (case side4 => exact Nat.le_refl _); rintro e w78 ⟨v138, rfl, ho0, hb⟩; have n0_ := Aside0.mk (Kd.R_elder' (by (with_reducible repeat (first | apply Kd.R_alloc | apply Kd.R_drewN | apply Kd.R_drew)); exact HO122.out) (Kd.R_base ho0) hb); have n1_ := Aside0.mk (Kd.R_elder' (by (with_reducible repeat (first | apply Kd.R_alloc | apply Kd.R_drewN | apply Kd.R_drew)); exact HO125.out) (Kd.R_base ho0) hb); have n2_ := Aside0.mk (Kd.R_elder' (by (with_reducible repeat (first | apply Kd.R_alloc | apply Kd.R_drewN | apply Kd.R_drew)); exact HO128.out) (Kd.R_base ho0) hb); have n3_ := Aside0.mk (Kd.R_elder' (by (with_reducible repeat (first | apply Kd.R_alloc | apply Kd.R_drewN | apply Kd.R_drew)); exact HO131.out) (Kd.R_base ho0) hb); have n4_ := Aside0.mk (Kd.R_elder' (by (with_reducible repeat (first | apply Kd.R_alloc | apply Kd.R_drewN | apply Kd.R_drew)); exact HO135.out) (Kd.R_base ho0) hb); have n5_ := Aside0.mk (Kd.R_lower (Kd.R_new' (Kd.R_new' (Kd.R_new' (Kd.R_new' (Kd.R_new' ho0 (Kd.R_lt (by (with_reducible repeat (first | apply Kd.R_alloc | apply Kd.R_drewN | apply Kd.R_drew)); exact HO122.out))) (Kd.R_lt (by (with_reducible repeat (first | apply Kd.R_alloc | apply Kd.R_drewN | apply Kd.R_drew)); exact HO125.out))) (Kd.R_lt (by (with_reducible repeat (first | apply Kd.R_alloc | apply Kd.R_drewN | apply Kd.R_drew)); exact HO128.out))) (Kd.R_lt (by (with_reducible repeat (first | apply Kd.R_alloc | apply Kd.R_drewN | apply Kd.R_drew)); exact HO131.out))) (Kd.R_lt (by (with_reducible repeat (first | apply Kd.R_alloc | apply Kd.R_drewN | apply Kd.R_drew)); exact HO135.out))) (below_size (by repeat (first | (with_reducible first | exact HB.out | apply below_alloc | apply pw_below_drewN | apply below_drew1) | exact HB.out)))); have n6_ := Aside0.mk (below_step (by repeat (first | (with_reducible first | exact HB.out | apply below_alloc | apply pw_below_drewN | apply below_drew1) | exact HB.out)) hb); clear HO122; clear HO125; clear HO128; clear HO131; clear HO135; clear HB; have HO122 := n0_; have HO125 := n1_; have HO128 := n2_; have HO131 := n3_; have HO135 := n4_; have HO139 := n5_; have HB := n6_; clear n0_ n1_ n2_ n3_ n4_ n5_ n6_; (try clear hb); (try clear hb2); (try clear hk); (try clear hi); (try clear ho0); obtain ⟨Ao79, co79, eo79⟩ := Kd.R_slice HO139.out; subst eo79
                      go_wp2_with fail
                      (with_reducible refine (impl_SetEqual.calls _ _ t137 _ _ l0 false _ ?side1 ?side2 ?side3 ?side4 A44.out).mono ?_); (case side1 => repeat (first | exact (Kd.R_reads' HO139.out).2.2 | (with_reducible refine Kd.C_alloc ?_ _) | (with_reducible refine Kd.C_drewN ?_ _) | (with_reducible refine Kd.C_drew ?_))); (case side2 => exact (Kd.R_reads' HO139.out).2.1); (case side3 => repeat (first | exact (Kd.C_below HR0.out HB.out) | (with_reducible refine Kd.C_alloc ?_ _) | (with_reducible refine Kd.C_drewN ?_ _) | (with_reducible refine Kd.C_drew ?_))); (case side4 => exact HC0.out); rintro e w80 ⟨rfl, hb⟩; have n0_ := Aside0.mk (Kd.R_below (by (with_reducible repeat (first | apply Kd.R_alloc | apply Kd.R_drewN | apply Kd.R_drew)); exact HO122.out) hb); have n1_ := Aside0.mk (Kd.R_below (by (with_reducible repeat (first | apply Kd.R_alloc | apply Kd.R_drewN | apply Kd.R_drew)); exact HO125.out) hb); have n2_ := Aside0.mk (Kd.R_below (by (with_reducible repeat (first | apply Kd.R_alloc | apply Kd.R_drewN | apply Kd.R_drew)); exact HO128.out) hb); have n3_ := Aside0.mk (Kd.R_below (by (with_reducible repeat (first | apply Kd.R_alloc | apply Kd.R_drewN | apply Kd.R_drew)); exact HO131.out) hb); have n4_ := Aside0.mk (Kd.R_below (by (with_reducible repeat (first | apply Kd.R_alloc | apply Kd.R_drewN | apply Kd.R_drew)); exact HO135.out) hb); have n5_ := Aside0.mk (Kd.R_below (by (with_reducible repeat (first | apply Kd.R_alloc | apply Kd.R_drewN | apply Kd.R_drew)); exact HO139.out) hb); have n6_ := Aside0.mk (below_step (by repeat (first | (with_reducible first | exact HB.out | apply below_alloc | apply pw_below_drewN | apply below_drew1) | exact HB.out)) hb); clear HO122; clear HO125; clear HO128; clear HO131; clear HO135; clear HO139; clear HB; have HO122 := n0_; have HO125 := n1_; have HO128 := n2_; have HO131 := n3_; have HO135 := n4_; have HO139 := n5_; have HB := n6_; clear n0_ n1_ n2_ n3_ n4_ n5_ n6_; (try clear hb); (try clear hb2); (try clear hk); (try clear hi)
                      go_wp2
                      go_ret
                      exact ⟨by first | rfl | (simp [errW_none, errW_some] <;> rfl) | (simp [*, errW_none, errW_some] <;> rfl), by repeat (first | (with_reducible first | exact HB.out | apply below_alloc | apply pw_below_drewN | apply below_drew1) | exact HB.out)⟩
                  · replace c42 := Bool.eq_false_iff.mpr c42
                    subst c42
                    have H1 : (some false) = some r := by rw [if_neg (show ¬ (false = true) by decide)] at H; exact H
                    clear H
                    have H := H1
                    clear H1
                    obtain rfl := Option.some.inj H
                    go_wp2_with fail
                    (with_reducible refine (impl_SetMerge.calls _ _ l0 _ _ l1 t120 _ ?side1 ?side2 ?side3 ?side4 A34.out).mono ?_); (case side1 => repeat (first | exact (Kd.C_below HR0.out HB.out) | (with_reducible refine Kd.C_alloc ?_ _) | (with_reducible refine Kd.C_drewN ?_ _) | (with_reducible refine Kd.C_drew ?_))); (case side2 => exact HC0.out); (case side3 => repeat (first | exact (Kd.C_below HR1.out HB.out) | (with_reducible refine Kd.C_alloc ?_ _) | (with_reducible refine Kd.C_drewN ?_ _) | (with_reducible refine Kd.C_drew ?_))); (case side4 => exact HC1.out); rintro e w81 ⟨v121, rfl, ho0, hb⟩; have n0_ := Aside0.mk (Kd.R_lower ho0 (below_size (by repeat (first | (with_reducible first | exact HB.out | apply below_alloc | apply pw_below_drewN | apply below_drew1) | exact HB.out)))); have n1_ := Aside0.mk (below_step (by repeat (first | (with_reducible first | exact HB.out | apply below_alloc | apply pw_below_drewN | apply below_drew1) | exact HB.out)) hb); clear HB; have HO122 := n0_; have HB := n1_; clear n0_ n1_; (try clear hb); (try clear hb2); (try clear hk); (try clear hi); (try clear ho0); obtain ⟨Ao82, co82, eo82⟩ := Kd.R_slice HO122.out; subst eo82
                    go_wp2_with fail
                    (with_reducible refine (impl_SetMerge.calls _ _ t120 _ _ l2 t123 _ ?side1 ?side2 ?side3 ?side4 A35.out).mono ?_); (case side1 => repeat (first | exact (Kd.R_reads' HO122.out).2.2 | (with_reducible refine Kd.C_alloc ?_ _) | (with_reducible refine Kd.C_drewN ?_ _) | (with_reducible refine Kd.C_drew ?_))); (case side2 => exact (Kd.R_reads' HO122.out).2.1); (case side3 => repeat (first | exact (Kd.C_below HR2.out HB.out) | (with_reducible refine Kd.C_alloc ?_ _) | (with_reducible refine Kd.C_drewN ?_ _) | (with_reducible refine Kd.C_drew ?_))); (case side4 => exact HC2.out); rintro e w83 ⟨v124, rfl, ho0, hb⟩; have n0_ := Aside0.mk (Kd.R_elder' (by (with_reducible repeat (first | apply Kd.R_alloc | apply Kd.R_drewN | apply Kd.R_drew)); exact HO122.out) (Kd.R_base ho0) hb); have n1_ := Aside0.mk (Kd.R_lower (Kd.R_new' ho0 (Kd.R_lt (by (with_reducible repeat (first | apply Kd.R_alloc | apply Kd.R_drewN | apply Kd.R_drew)); exact HO122.out))) (below_size (by repeat (first | (with_reducible first | exact HB.out | apply below_alloc | apply pw_below_drewN | apply below_drew1) | exact HB.out)))); have n2_ := Aside0.mk (below_step (by repeat (first | (with_reducible first | exact HB.out | apply below_alloc | apply pw_below_drewN | apply below_drew1) | exact HB.out)) hb); clear HO122; clear HB; have HO122 := n0_; have HO125 := n1_; have HB := n2_; clear n0_ n1_ n2_; (try clear hb); (try clear hb2); (try clear hk); (try clear hi); (try clear ho0)
                    go_wp2_with fail
                    (with_reducible refine (impl_SetMerge.calls _ _ l1 _ _ l2 t126 _ ?side1 ?side2 ?side3 ?side4 A36.out).mono ?_); (case side1 => repeat (first | exact (Kd.C_below HR1.out HB.out) | (with_reducible refine Kd.C_alloc ?_ _) | (with_reducible refine Kd.C_drewN ?_ _) | (with_reducible refine Kd.C_drew ?_))); (case side2 => exact HC1.out); (case side3 => repeat (first | exact (Kd.C_below HR2.out HB.out) | (with_reducible refine Kd.C_alloc ?_ _) | (with_reducible refine Kd.C_drewN ?_ _) | (with_reducible refine Kd.C_drew ?_))); (case side4 => exact HC2.out); rintro e w84 ⟨v127, rfl, ho0, hb⟩; have n0_ := Aside0.mk (Kd.R_elder' (by (with_reducible repeat (first | apply Kd.R_alloc | apply Kd.R_drewN | apply Kd.R_drew)); exact HO122.out) (Kd.R_base ho0) hb); have n1_ := Aside0.mk (Kd.R_elder' (by (with_reducible repeat (first | apply Kd.R_alloc | apply Kd.R_drewN | apply Kd.R_drew)); exact HO125.out) (Kd.R_base ho0) hb); have n2_ := Aside0.mk (Kd.R_lower (Kd.R_new' (Kd.R_new' ho0 (Kd.R_lt (by (with_reducible repeat (first | apply Kd.R_alloc | apply Kd.R_drewN | apply Kd.R_drew)); exact HO122.out))) (Kd.R_lt (by (with_reducible repeat (first | apply Kd.R_alloc | apply Kd.R_drewN | apply Kd.R_drew)); exact HO125.out))) (below_size (by repeat (first | (with_reducible first | exact HB.out | apply below_alloc | apply pw_below_drewN | apply below_drew1) | exact HB.out)))); have n3_ := Aside0.mk (below_step (by repeat (first | (with_reducible first | exact HB.out | apply below_alloc | apply pw_below_drewN | apply below_drew1) | exact HB.out)) hb); clear HO122; clear HO125; clear HB; have HO122 := n0_; have HO125 := n1_; have HO128 := n2_; have HB := n3_; clear n0_ n1_ n2_ n3_; (try clear hb); (try clear hb2); (try clear hk); (try clear hi); (try clear ho0); obtain ⟨Ao85, co85, eo85⟩ := Kd.R_slice HO128.out; subst eo85
                    go_wp2_with fail
                    (with_reducible refine (impl_SetMerge.calls _ _ l0 _ _ t126 t129 _ ?side1 ?side2 ?side3 ?side4 A37.out).mono ?_); (case side1 => repeat (first | exact (Kd.C_below HR0.out HB.out) | (with_reducible refine Kd.C_alloc ?_ _) | (with_reducible refine Kd.C_drewN ?_ _) | (with_reducible refine Kd.C_drew ?_))); (case side2 => exact HC0.out); (case side3 => repeat (first | exact (Kd.R_reads' HO128.out).2.2 | (with_reducible refine Kd.C_alloc ?_ _) | (with_reducible refine Kd.C_drewN ?_ _) | (with_reducible refine Kd.C_drew ?_))); (case side4 => exact (Kd.R_reads' HO128.out).2.1); rintro e w86 ⟨v130, rfl, ho0, hb⟩; have n0_ := Aside0.mk (Kd.R_elder' (by (with_reducible repeat (first | apply Kd.R_alloc | apply Kd.R_drewN | apply Kd.R_drew)); exact HO122.out) (Kd.R_base ho0) hb); have n1_ := Aside0.mk (Kd.R_elder' (by (with_reducible repeat (first | apply Kd.R_alloc | apply Kd.R_drewN | apply Kd.R_drew)); exact HO125.out) (Kd.R_base ho0) hb); have n2_ := Aside0.mk (Kd.R_elder' (by (with_reducible repeat (first | apply Kd.R_alloc | apply Kd.R_drewN | apply Kd.R_drew)); exact HO128.out) (Kd.R_base ho0) hb); have n3_ := Aside0.mk (Kd.R_lower (Kd.R_new' (Kd.R_new' (Kd.R_new' ho0 (Kd.R_lt (by (with_reducible repeat (first | apply Kd.R_alloc | apply Kd.R_drewN | apply Kd.R_drew)); exact HO122.out))) (Kd.R_lt (by (with_reducible repeat (first | apply Kd.R_alloc | apply Kd.R_drewN | apply Kd.R_drew)); exact HO125.out))) (Kd.R_lt (by (with_reducible repeat (first | apply Kd.R_alloc | apply Kd.R_drewN | apply Kd.R_drew)); exact HO128.out))) (below_size (by repeat (first | (with_reducible first | exact HB.out | apply below_alloc | apply pw_below_drewN | apply below_drew1) | exact HB.out)))); have n4_ := Aside0.mk (below_step (by repeat (first | (with_reducible first | exact HB.out | apply below_alloc | apply pw_below_drewN | apply below_drew1) | exact HB.out)) hb); clear HO122; clear HO125; clear HO128; clear HB; have HO122 := n0_; have HO125 := n1_; have HO128 := n2_; have HO131 := n3_; have HB := n4_; clear n0_ n1_ n2_ n3_ n4_; (try clear hb); (try clear hb2); (try clear hk); (try clear hi); (try clear ho0); obtain ⟨Ao87, co87, eo87⟩ := Kd.R_slice HO125.out; subst eo87; obtain ⟨Ao88, co88, eo88⟩ := Kd.R_slice HO131.out; subst eo88
                    go_wp2_with fail
                    (with_reducible refine (impl_SetEqual.calls _ _ t123 _ _ t129 true _ ?side1 ?side2 ?side3 ?side4 A38.out).mono ?_); (case side1 => repeat (first | exact (Kd.R_reads' HO125.out).2.2 | (with_reducible refine Kd.C_alloc ?_ _) | (with_reducible refine Kd.C_drewN ?_ _) | (with_reducible refine Kd.C_drew ?_))); (case side2 => exact (Kd.R_reads' HO125.out).2.1); (case side3 => repeat (first | exact (Kd.R_reads' HO131.out).2.2 | (with_reducible refine Kd.C_alloc ?_ _) | (with_reducible refine Kd.C_drewN ?_ _) | (with_reducible refine Kd.C_drew ?_))); (case side4 => exact (Kd.R_reads' HO131.out).2.1); rintro e w89 ⟨rfl, hb⟩; have n0_ := Aside0.mk (Kd.R_below (by (with_reducible repeat (first | apply Kd.R_alloc | apply Kd.R_drewN | apply Kd.R_drew)); exact HO122.out) hb); have n1_ := Aside0.mk (Kd.R_below (by (with_reducible repeat (first | apply Kd.R_alloc | apply Kd.R_drewN | apply Kd.R_drew)); exact HO125.out) hb); have n2_ := Aside0.mk (Kd.R_below (by (with_reducible repeat (first | apply Kd.R_alloc | apply Kd.R_drewN | apply Kd.R_drew)); exact HO128.out) hb); have n3_ := Aside0.mk (Kd.R_below (by (with_reducible repeat (first | apply Kd.R_alloc | apply Kd.R_drewN | apply Kd.R_drew)); exact HO131.out) hb); have n4_ := Aside0.mk (below_step (by repeat (first | (with_reducible first | exact HB.out | apply below_alloc | apply pw_below_drewN | apply below_drew1) | exact HB.out)) hb); clear HO122; clear HO125; clear HO128; clear HO131; clear HB; have HO122 := n0_; have HO125 := n1_; have HO128 := n2_; have HO131 := n3_; have HB := n4_; clear n0_ n1_ n2_ n3_ n4_; (try clear hb); (try clear hb2); (try clear hk); (try clear hi)
                    go_wp2_with fail
                    (with_reducible refine (impl_SetMerge.calls _ _ l0 _ _ l0 t133 _ ?side1 ?side2 ?side3 ?side4 A40.out).mono ?_); (case side1 => repeat (first | exact (Kd.C_below HR0.out HB.out) | (with_reducible refine Kd.C_alloc ?_ _) | (with_reducible refine Kd.C_drewN ?_ _) | (with_reducible refine Kd.C_drew ?_))); (case side2 => exact HC0.out); (case side3 => repeat (first | exact (Kd.C_below HR0.out HB.out) | (with_reducible refine Kd.C_alloc ?_ _) | (with_reducible refine Kd.C_drewN ?_ _) | (with_reducible refine Kd.C_drew ?_))); (case side4 => exact HC0.out); rintro e w90 ⟨v134, rfl, ho0, hb⟩; have n0_ := Aside0.mk (Kd.R_elder' (by (with_reducible repeat (first | apply Kd.R_alloc | apply Kd.R_drewN | apply Kd.R_drew)); exact HO122.out) (Kd.R_base ho0) hb); have n1_ := Aside0.mk (Kd.R_elder' (by (with_reducible repeat (first | apply Kd.R_alloc | apply Kd.R_drewN | apply Kd.R_drew)); exact HO125.out) (Kd.R_base ho0) hb); have n2_ := Aside0.mk (Kd.R_elder' (by (with_reducible repeat (first | apply Kd.R_alloc | apply Kd.R_drewN | apply Kd.R_drew)); exact HO128.out) (Kd.R_base ho0) hb); have n3_ := Aside0.mk (Kd.R_elder' (by (with_reducible repeat (first | apply Kd.R_alloc | apply Kd.R_drewN | apply Kd.R_drew)); exact HO131.out) (Kd.R_base ho0) hb); have n4_ := Aside0.mk (Kd.R_lower (Kd.R_new' (Kd.R_new' (Kd.R_new' (Kd.R_new' ho0 (Kd.R_lt (by (with_reducible repeat (first | apply Kd.R_alloc | apply Kd.R_drewN | apply Kd.R_drew)); exact HO122.out))) (Kd.R_lt (by (with_reducible repeat (first | apply Kd.R_alloc | apply Kd.R_drewN | apply Kd.R_drew)); exact HO125.out))) (Kd.R_lt (by (with_reducible repeat (first | apply Kd.R_alloc | apply Kd.R_drewN | apply Kd.R_drew)); exact HO128.out))) (Kd.R_lt (by (with_reducible repeat (first | apply Kd.R_alloc | apply Kd.R_drewN | apply Kd.R_drew)); exact HO131.out))) (below_size (by repeat (first | (with_reducible first | exact HB.out | apply below_alloc | apply pw_below_drewN | apply below_drew1) | exact HB.out)))); have n5_ := Aside0.mk (below_step (by repeat (first | (with_reducible first | exact HB.out | apply below_alloc | apply pw_below_drewN | apply below_drew1) | exact HB.out)) hb); clear HO122; clear HO125; clear HO128; clear HO131; clear HB; have HO122 := n0_; have HO125 := n1_; have HO128 := n2_; have HO131 := n3_; have HO135 := n4_; have HB := n5_; clear n0_ n1_ n2_ n3_ n4_ n5_; (try clear hb); (try clear hb2); (try clear hk); (try clear hi); (try clear ho0); obtain ⟨Ao91, co91, eo91⟩ := Kd.R_slice HO135.out; subst eo91
                    go_wp2_with fail
                    (with_reducible refine (impl_SetEqual.calls _ _ t133 _ _ l0 false _ ?side1 ?side2 ?side3 ?side4 A41.out).mono ?_); (case side1 => repeat (first | exact (Kd.R_reads' HO135.out).2.2 | (with_reducible refine Kd.C_alloc ?_ _) | (with_reducible refine Kd.C_drewN ?_ _) | (with_reducible refine Kd.C_drew ?_))); (case side2 => exact (Kd.R_reads' HO135.out).2.1); (case side3 => repeat (first | exact (Kd.C_below HR0.out HB.out) | (with_reducible refine Kd.C_alloc ?_ _) | (with_reducible refine Kd.C_drewN ?_ _) | (with_reducible refine Kd.C_drew ?_))); (case side4 => exact HC0.out); rintro e w92 ⟨rfl, hb⟩; have n0_ := Aside0.mk (Kd.R_below (by (with_reducible repeat (first | apply Kd.R_alloc | apply Kd.R_drewN | apply Kd.R_drew)); exact HO122.out) hb); have n1_ := Aside0.mk (Kd.R_below (by (with_reducible repeat (first | apply Kd.R_alloc | apply Kd.R_drewN | apply Kd.R_drew)); exact HO125.out) hb); have n2_ := Aside0.mk (Kd.R_below (by (with_reducible repeat (first | apply Kd.R_alloc | apply Kd.R_drewN | apply Kd.R_drew)); exact HO128.out) hb); have n3_ := Aside0.mk (Kd.R_below (by (with_reducible repeat (first | apply Kd.R_alloc | apply Kd.R_drewN | apply Kd.R_drew)); exact HO131.out) hb); have n4_ := Aside0.mk (Kd.R_below (by (with_reducible repeat (first | apply Kd.R_alloc | apply Kd.R_drewN | apply Kd.R_drew)); exact HO135.out) hb); have n5_ := Aside0.mk (below_step (by repeat (first | (with_reducible first | exact HB.out | apply below_alloc | apply pw_below_drewN | apply below_drew1) | exact HB.out)) hb); clear HO122; clear HO125; clear HO128; clear HO131; clear HO135; clear HB; have HO122 := n0_; have HO125 := n1_; have HO128 := n2_; have HO131 := n3_; have HO135 := n4_; have HB := n5_; clear n0_ n1_ n2_ n3_ n4_ n5_; (try clear hb); (try clear hb2); (try clear hk); (try clear hi)
                    go_wp2
                    go_ret
                    exact ⟨by first | rfl | (simp [errW_none, errW_some] <;> rfl) | (simp [*, errW_none, errW_some] <;> rfl), by repeat (first | (with_reducible first | exact HB.out | apply below_alloc | apply pw_below_drewN | apply below_drew1) | exact HB.out)⟩
                · replace c39 := Bool.eq_false_iff.mpr c39
                  subst c39
                  have H1 : (some false) = some r := by rw [if_neg (show ¬ (false = true) by decide)] at H; exact H
                  clear H
                  have H := H1
                  clear H1
                  obtain rfl := Option.some.inj H
                  go_wp2_with fail
                  (with_reducible refine (impl_SetMerge.calls _ _ l0 _ _ l1 t120 _ ?side1 ?side2 ?side3 ?side4 A34.out).mono ?_); (case side1 => repeat (first | exact (Kd.C_below HR0.out HB.out) | (with_reducible refine Kd.C_alloc ?_ _) | (with_reducible refine Kd.C_drewN ?_ _) | (with_reducible refine Kd.C_drew ?_))); (case side2 => exact HC0.out); (case side3 => repeat (first | exact (Kd.C_below HR1.out HB.out) | (with_reducible refine Kd.C_alloc ?_ _) | (with_reducible refine Kd.C_drewN ?_ _) | (with_reducible refine Kd.C_drew ?_))); (case side4 => exact HC1.out); rintro e w93 ⟨v121, rfl, ho0, hb⟩; have n0_ := Aside0.mk (Kd.R_lower ho0 (below_size (by repeat (first | (with_reducible first | exact HB.out | apply below_alloc | apply pw_below_drewN | apply below_drew1) | exact HB.out)))); have n1_ := Aside0.mk (below_step (by repeat (first | (with_reducible first | exact HB.out | apply below_alloc | apply pw_below_drewN | apply below_drew1) | exact HB.out)) hb); clear HB; have HO122 := n0_; have HB := n1_; clear n0_ n1_; (try clear hb); (try clear hb2); (try clear hk); (try clear hi); (try clear ho0); obtain ⟨Ao94, co94, eo94⟩ := Kd.R_slice HO122.out; subst eo94
                  go_wp2_with fail
                  (with_reducible refine (impl_SetMerge.calls _ _ t120 _ _ l2 t123 _ ?side1 ?side2 ?side3 ?side4 A35.out).mono ?_); (case side1 => repeat (first | exact (Kd.R_reads' HO122.out).2.2 | (with_reducible refine Kd.C_alloc ?_ _) | (with_reducible refine Kd.C_drewN ?_ _) | (with_reducible refine Kd.C_drew ?_))); (case side2 => exact (Kd.R_reads' HO122.out).2.1); (case side3 => repeat (first | exact (Kd.C_below HR2.out HB.out) | (with_reducible refine Kd.C_alloc ?_ _) | (with_reducible refine Kd.C_drewN ?_ _) | (with_reducible refine Kd.C_drew ?_))); (case side4 => exact HC2.out); rintro e w95 ⟨v124, rfl, ho0, hb⟩; have n0_ := Aside0.mk (Kd.R_elder' (by (with_reducible repeat (first | apply Kd.R_alloc | apply Kd.R_drewN | apply Kd.R_drew)); exact HO122.out) (Kd.R_base ho0) hb); have n1_ := Aside0.mk (Kd.R_lower (Kd.R_new' ho0 (Kd.R_lt (by (with_reducible repeat (first | apply Kd.R_alloc | apply Kd.R_drewN | apply Kd.R_drew)); exact HO122.out))) (below_size (by repeat (first | (with_reducible first | exact HB.out | apply below_alloc | apply pw_below_drewN | apply below_drew1) | exact HB.out)))); have n2_ := Aside0.mk (below_step (by repeat (first | (with_reducible first | exact HB.out | apply below_alloc | apply pw_below_drewN | apply below_drew1) | exact HB.out)) hb); clear HO122; clear HB; have HO122 := n0_; have HO125 := n1_; have HB := n2_; clear n0_ n1_ n2_; (try clear hb); (try clear hb2); (try clear hk); (try clear hi); (try clear ho0)
                  go_wp2_with fail
                  (with_reducible refine (impl_SetMerge.calls _ _ l1 _ _ l2 t126 _ ?side1 ?side2 ?side3 ?side4 A36.out).mono ?_); (case side1 => repeat (first | exact (Kd.C_below HR1.out HB.out) | (with_reducible refine Kd.C_alloc ?_ _) | (with_reducible refine Kd.C_drewN ?_ _) | (with_reducible refine Kd.C_drew ?_))); (case side2 => exact HC1.out); (case side3 => repeat (first | exact (Kd.C_below HR2.out HB.out) | (with_reducible refine Kd.C_alloc ?_ _) | (with_reducible refine Kd.C_drewN ?_ _) | (with_reducible refine Kd.C_drew ?_))); (case side4 => exact HC2.out); rintro e w96 ⟨v127, rfl, ho0, hb⟩; have n0_ := Aside0.mk (Kd.R_elder' (by (with_reducible repeat (first | apply Kd.R_alloc | apply Kd.R_drewN | apply Kd.R_drew)); exact HO122.out) (Kd.R_base ho0) hb); have n1_ := Aside0.mk (Kd.R_elder' (by (with_reducible repeat (first | apply Kd.R_alloc | apply Kd.R_drewN | apply Kd.R_drew)); exact HO125.out) (Kd.R_base ho0) hb); have n2_ := Aside0.mk (Kd.R_lower (Kd.R_new' (Kd.R_new' ho0 (Kd.R_lt (by (with_reducible repeat (first | apply Kd.R_alloc | apply Kd.R_drewN | apply Kd.R_drew)); exact HO122.out))) (Kd.R_lt (by (with_reducible repeat (first | apply Kd.R_alloc | apply Kd.R_drewN | apply Kd.R_drew)); exact HO125.out))) (below_size (by repeat (first | (with_reducible first | exact HB.out | apply below_alloc | apply pw_below_drewN | apply below_drew1) | exact HB.out)))); have n3_ := Aside0.mk (below_step (by repeat (first | (with_reducible first | exact HB.out | apply below_alloc | apply pw_below_drewN | apply below_drew1) | exact HB.out)) hb); clear HO122; clear HO125; clear HB; have HO122 := n0_; have HO125 := n1_; have HO128 := n2_; have HB := n3_; clear n0_ n1_ n2_ n3_; (try clear hb); (try clear hb2); (try clear hk); (try clear hi); (try clear ho0); obtain ⟨Ao97, co97, eo97⟩ := Kd.R_slice HO128.out; subst eo97
                  go_wp2_with fail
                  (with_reducible refine (impl_SetMerge.calls _ _ l0 _ _ t126 t129 _ ?side1 ?side2 ?side3 ?side4 A37.out).mono ?_); (case side1 => repeat (first | exact (Kd.C_below HR0.out HB.out) | (with_reducible refine Kd.C_alloc ?_ _) | (with_reducible refine Kd.C_drewN ?_ _) | (with_reducible refine Kd.C_drew ?_))); (case side2 => exact HC0.out); (case side3 => repeat (first | exact (Kd.R_reads' HO128.out).2.2 | (with_reducible refine Kd.C_alloc ?_ _) | (with_reducible refine Kd.C_drewN ?_ _) | (with_reducible refine Kd.C_drew ?_))); (case side4 => exact (Kd.R_reads' HO128.out).2.1); rintro e w98 ⟨v130, rfl, ho0, hb⟩; have n0_ := Aside0.mk (Kd.R_elder' (by (with_reducible repeat (first | apply Kd.R_alloc | apply Kd.R_drewN | apply Kd.R_drew)); exact HO122.out) (Kd.R_base ho0) hb); have n1_ := Aside0.mk (Kd.R_elder' (by (with_reducible repeat (first | apply Kd.R_alloc | apply Kd.R_drewN | apply Kd.R_drew)); exact HO125.out) (Kd.R_base ho0) hb); have n2_ := Aside0.mk (Kd.R_elder' (by (with_reducible repeat (first | apply Kd.R_alloc | apply Kd.R_drewN | apply Kd.R_drew)); exact HO128.out) (Kd.R_base ho0) hb); have n3_ := Aside0.mk (Kd.R_lower (Kd.R_new' (Kd.R_new' (Kd.R_new' ho0 (Kd.R_lt (by (with_reducible repeat (first | apply Kd.R_alloc | apply Kd.R_drewN | apply Kd.R_drew)); exact HO122.out))) (Kd.R_lt (by (with_reducible repeat (first | apply Kd.R_alloc | apply Kd.R_drewN | apply Kd.R_drew)); exact HO125.out))) (Kd.R_lt (by (with_reducible repeat (first | apply Kd.R_alloc | apply Kd.R_drewN | apply Kd.R_drew)); exact HO128.out))) (below_size (by repeat (first | (with_reducible first | exact HB.out | apply below_alloc | apply pw_below_drewN | apply below_drew1) | exact HB.out)))); have n4_ := Aside0.mk (below_step (by repeat (first | (with_reducible first | exact HB.out | apply below_alloc | apply pw_below_drewN | apply below_drew1) | exact HB.out)) hb); clear HO122; clear HO125; clear HO128; clear HB; have HO122 := n0_; have HO125 := n1_; have HO128 := n2_; have HO131 := n3_; have HB := n4_; clear n0_ n1_ n2_ n3_ n4_; (try clear hb); (try clear hb2); (try clear hk); (try clear hi); (try clear ho0); obtain ⟨Ao99, co99, eo99⟩ := Kd.R_slice HO125.out; subst eo99; obtain ⟨Ao100, co100, eo100⟩ := Kd.R_slice HO131.out; subst eo100
                  go_wp2_with fail
                  (with_reducible refine (impl_SetEqual.calls _ _ t123 _ _ t129 false _ ?side1 ?side2 ?side3 ?side4 A38.out).mono ?_); (case side1 => repeat (first | exact (Kd.R_reads' HO125.out).2.2 | (with_reducible refine Kd.C_alloc ?_ _) | (with_reducible refine Kd.C_drewN ?_ _) | (with_reducible refine Kd.C_drew ?_))); (case side2 => exact (Kd.R_reads' HO125.out).2.1); (case side3 => repeat (first | exact (Kd.R_reads' HO131.out).2.2 | (with_reducible refine Kd.C_alloc ?_ _) | (with_reducible refine Kd.C_drewN ?_ _) | (with_reducible refine Kd.C_drew ?_))); (case side4 => exact (Kd.R_reads' HO131.out).2.1); rintro e w101 ⟨rfl, hb⟩; have n0_ := Aside0.mk (Kd.R_below (by (with_reducible repeat (first | apply Kd.R_alloc | apply Kd.R_drewN | apply Kd.R_drew)); exact HO122.out) hb); have n1_ := Aside0.mk (Kd.R_below (by (with_reducible repeat (first | apply Kd.R_alloc | apply Kd.R_drewN | apply Kd.R_drew)); exact HO125.out) hb); have n2_ := Aside0.mk (Kd.R_below (by (with_reducible repeat (first | apply Kd.R_alloc | apply Kd.R_drewN | apply Kd.R_drew)); exact HO128.out) hb); have n3_ := Aside0.mk (Kd.R_below (by (with_reducible repeat (first | apply Kd.R_alloc | apply Kd.R_drewN | apply Kd.R_drew)); exact HO131.out) hb); have n4_ := Aside0.mk (below_step (by repeat (first | (with_reducible first | exact HB.out | apply below_alloc | apply pw_below_drewN | apply below_drew1) | exact HB.out)) hb); clear HO122; clear HO125; clear HO128; clear HO131; clear HB; have HO122 := n0_; have HO125 := n1_; have HO128 := n2_; have HO131 := n3_; have HB := n4_; clear n0_ n1_ n2_ n3_ n4_; (try clear hb); (try clear hb2); (try clear hk); (try clear hi)
                  go_wp2
                  go_ret
                  exact ⟨by first | rfl | (simp [errW_none, errW_some] <;> rfl) | (simp [*, errW_none, errW_some] <;> rfl), by repeat (first | (with_reducible first | exact HB.out | apply below_alloc | apply pw_below_drewN | apply below_drew1) | exact HB.out)⟩
        · rw [if_neg c18] at H
          have c18b0 : ((t114.length : Int) == 2) = false := beq_eq_false_iff_ne.mpr c18
          have c18b1 : ((t114.length : Int) != 2) = true := bne_iff_ne.mpr c18
          obtain rfl := Option.some.inj H
          go_wp2_with (first | ((with_reducible refine gate_dst (N := 21) rfl ?_); refine Kd.R_lit k26 _ 26 ?hg (N := 21) ?hd (xs := ([(⟨(⟨#[97]⟩ : ByteArray), (⟨#[]⟩ : ByteArray)⟩ : S26)] : List (S26))) (inner := [.string (⟨#[97]⟩ : ByteArray), .string (⟨#[]⟩ : ByteArray)]) (ok := fun _ => True) (okp := fun _ => True) ?hr ?hp (fun _ hk => hk) trivial (Below.refl _ _) (Nat.le_refl _) (by simp) ?_; (case hd => rfl); (case hg => rfl); (case hr => first | (go_simp; done) | (go_simp; rfl)); (case hp => exact (Reps.c2 (show Kd.M k26 _ _ _ (⟨(⟨#[97]⟩ : ByteArray), (⟨#[]⟩ : ByteArray)⟩ : S26) [.string (⟨#[97]⟩ : ByteArray), .string (⟨#[]⟩ : ByteArray)] from (k26_mkM _ _ _ (⟨(⟨#[97]⟩ : ByteArray), (⟨#[]⟩ : ByteArray)⟩ : S26) )) (Reps.none _ _))); intro v109 w102 ho103 hb hg_ hnew_; clear hg_ hnew_; (first | rw [← Ny108.out] at ho103 | (simp only [Int.reduceToNat] at ho103; rw [← Ny108.out] at ho103)); have n0_ := Aside0.mk (Kd.R_lower ho103 (below_size (by repeat (first | (with_reducible first | exact HB.out | apply below_alloc | apply pw_below_drewN | apply below_drew1) | exact HB.out)))); have n1_ := Aside0.mk (below_step (by repeat (first | (with_reducible first | exact HB.out | apply below_alloc | apply pw_below_drewN | apply below_drew1) | exact HB.out)) hb); clear HB; have HO110 := n0_; have HB := n1_; clear n0_ n1_; clear hb ho103) | ((with_reducible refine gate_dst (N := 23) rfl ?_); refine Kd.R_lit k26 _ 26 ?hg (N := 23) ?hd (xs := ([(⟨(⟨#[98]⟩ : ByteArray), (⟨#[]⟩ : ByteArray)⟩ : S26)] : List (S26))) (inner := [.string (⟨#[98]⟩ : ByteArray), .string (⟨#[]⟩ : ByteArray)]) (ok := fun _ => True) (okp := fun _ => True) ?hr ?hp (fun _ hk => hk) trivial (Below.refl _ _) (Nat.le_refl _) (by simp) ?_; (case hd => rfl); (case hg => rfl); (case hr => first | (go_simp; done) | (go_simp; rfl)); (case hp => exact (Reps.c2 (show Kd.M k26 _ _ _ (⟨(⟨#[98]⟩ : ByteArray), (⟨#[]⟩ : ByteArray)⟩ : S26) [.string (⟨#[98]⟩ : ByteArray), .string (⟨#[]⟩ : ByteArray)] from (k26_mkM _ _ _ (⟨(⟨#[98]⟩ : ByteArray), (⟨#[]⟩ : ByteArray)⟩ : S26) )) (Reps.none _ _))); intro v112 w104 ho105 hb hg_ hnew_; clear hg_ hnew_; (first | rw [← Ny111.out] at ho105 | (simp only [Int.reduceToNat] at ho105; rw [← Ny111.out] at ho105)); have n0_ := Aside0.mk (Kd.R_elder' (by (with_reducible repeat (first | apply Kd.R_alloc | apply Kd.R_drewN | apply Kd.R_drew)); exact HO110.out) (Kd.R_base ho105) hb); have n1_ := Aside0.mk (Kd.R_lower (Kd.R_new' ho105 (Kd.R_lt (by (with_reducible repeat (first | apply Kd.R_alloc | apply Kd.R_drewN | apply Kd.R_drew)); exact HO110.out))) (below_size (by repeat (first | (with_reducible first | exact HB.out | apply below_alloc | apply pw_below_drewN | apply below_drew1) | exact HB.out)))); have n2_ := Aside0.mk (below_step (by repeat (first | (with_reducible first | exact HB.out | apply below_alloc | apply pw_below_drewN | apply below_drew1) | exact HB.out)) hb); clear HO110; clear HB; have HO110 := n0_; have HO113 := n1_; have HB := n2_; clear n0_ n1_ n2_; clear hb ho105; obtain ⟨Ao106, co106, eo106⟩ := Kd.R_slice HO110.out; subst eo106; obtain ⟨Ao107, co107, eo107⟩ := Kd.R_slice HO113.out; subst eo107) | ((with_reducible refine gate_callee (f := 22) rfl ?_); refine goesL_ (some 24) rfl rfl Try.func22 (by kernel_rfl) rfl #[.slice Ao106 y108.length co106, .slice Ao107 y111.length co107] rfl (by (try simp only [List.map_toArray, List.map_cons, List.map_nil]); first | done | rfl | (simp only [List.length_drop, List.length_take]; rfl)) ?_; (with_reducible refine (impl_SetMerge.calls _ _ y108 _ _ y111 t114 _ ?side1 ?side2 ?side3 ?side4 A17.out).mono ?_); (case side1 => repeat (first | exact (Kd.R_reads' HO110.out).2.2 | (with_reducible refine Kd.C_alloc ?_ _) | (with_reducible refine Kd.C_drewN ?_ _) | (with_reducible refine Kd.C_drew ?_))); (case side2 => exact (Kd.R_reads' HO110.out).2.1); (case side3 => repeat (first | exact (Kd.R_reads' HO113.out).2.2 | (with_reducible refine Kd.C_alloc ?_ _) | (with_reducible refine Kd.C_drewN ?_ _) | (with_reducible refine Kd.C_drew ?_))); (case side4 => exact (Kd.R_reads' HO113.out).2.1); rintro e w108 ⟨v115, rfl, ho0, hb⟩; refine ⟨_, rfl, ?_⟩; have n0_ := Aside0.mk (Kd.R_elder' (by (with_reducible repeat (first | apply Kd.R_alloc | apply Kd.R_drewN | apply Kd.R_drew)); exact HO110.out) (Kd.R_base ho0) hb); have n1_ := Aside0.mk (Kd.R_elder' (by (with_reducible repeat (first | apply Kd.R_alloc | apply Kd.R_drewN | apply Kd.R_drew)); exact HO113.out) (Kd.R_base ho0) hb); have n2_ := Aside0.mk (Kd.R_lower (Kd.R_new' (Kd.R_new' ho0 (Kd.R_lt (by (with_reducible repeat (first | apply Kd.R_alloc | apply Kd.R_drewN | apply Kd.R_drew)); exact HO110.out))) (Kd.R_lt (by (with_reducible repeat (first | apply Kd.R_alloc | apply Kd.R_drewN | apply Kd.R_drew)); exact HO113.out))) (below_size (by repeat (first | (with_reducible first | exact HB.out | apply below_alloc | apply pw_below_drewN | apply below_drew1) | exact HB.out)))); have n3_ := Aside0.mk (below_step (by repeat (first | (with_reducible first | exact HB.out | apply below_alloc | apply pw_below_drewN | apply below_drew1) | exact HB.out)) hb); clear HO110; clear HO113; clear HB; have HO110 := n0_; have HO113 := n1_; have HO116 := n2_; have HB := n3_; clear n0_ n1_ n2_ n3_; (try clear hb); (try clear hb2); (try clear hk); (try clear hi); (try clear ho0); obtain ⟨Ao109, co109, eo109⟩ := Kd.R_slice HO116.out; subst eo109))
          go_ret
          exact ⟨by first | rfl | (simp [errW_none, errW_some] <;> rfl) | (simp [*, errW_none, errW_some] <;> rfl), by repeat (first | (with_reducible first | exact HB.out | apply below_alloc | apply pw_below_drewN | apply below_drew1) | exact HB.out)⟩

/-- THE ONE PURE STATEMENT of laws_FnSetMergeMore: yours. -/
def laws_FnSetMergeMore.Pure : Prop := ∀ (l0 : List (S26)) (l1 : List (S26)) (l2 : List (S26)), (l0.length ≤ maxLen ∧ ∀ y ∈ l0, okS26 y) → (l1.length ≤ maxLen ∧ ∀ y ∈ l1, okS26 y) → (l2.length ≤ maxLen ∧ ∀ y ∈ l2, okS26 y) → ∃ k, laws_FnSetMergeMore.f k l0 l1 l2 = some true

end Go.Proofs.Ytbffcmiabcmjcaa.Q
