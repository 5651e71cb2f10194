-- printed by this project's own program wip/tools/mkprint.py (the kit's print.py with hand-proved contracts put in)
import Derived.Test.YtcneoonhdfblaaaQx0
import Derived.Test.YtcneoonhdfblaaaQx1
import Derived.Test.YtcneoonhdfblaaaQx2
namespace Go.Proofs.Ytcneoonhdfblaaa.Q
open Go.RowKit Go.Proofs.YtcneoonhdfblaaaW.PrintWords Go.Proofs.YtcneoonhdfblaaaW.PrintLast Go.Proofs.YtcneoonhdfblaaaW.PrintMore
attribute [local go_sem] max2_int min2_int max_two min_two max_three min_three max_four min_four   -- for this text's walks alone
set_option linter.unusedVariables false
set_option linter.unusedSimpArgs false

/-! ### model_FingerprintSet_Equal: function 22 -/
-- contracts that were proved by hand
theorem riseI_all {a b : List Int} (h1 : MapsS.RiseI a) (h2 : MapsS.RiseI b) (hl : a.length = b.length) (h : ∀ x ∈ a, x ∈ b) : a = b :=
  MapsS.riseI_perm h1 h2 (MapsS.perm_of_sub (MapsS.riseI_nodup h1) h (by omega))
set_option maxHeartbeats 1600000 in
set_option maxRecDepth 100000 in
theorem model_FingerprintSet_Equal.calls (b1 n1 b2 n2 : Nat) (m1 m2 : List Int) (w : World) (h1 : MapsS.IsIS Try.prog 48 w b1 n1 m1) (h2 : MapsS.IsIS Try.prog 48 w b2 n2 m2) :
    Calls Try.prog 22 #[.map (some b1), .map (some b2)] w fun e w' => e = .returned (.bool (decide (m1 = m2))) ∧ Below w.heap.size w w' := by
  have e1 := fun ty => h1.len_run (t := 45) (e := 64) Try.underlying45 ty
  have e2 := fun ty => h2.len_run (t := 45) (e := 64) Try.underlying45 ty
  have HL1 := Aside0.mk h1.lt
  have H1 := Aside0.mk h1
  have H2 := Aside0.mk h2
  clear h1 h2
  by_cases hlen : m1.length = m2.length
  · have c1 : ((m1.length : Int) != (m2.length : Int)) = false := by simp [hlen]
    have HN := Aside0.mk hlen
    clear hlen
    obtain ⟨q, hq⟩ : ∃ q, decide (m1 = m2) = q := ⟨_, rfl⟩
    rw [hq]
    have HQ := Aside0.mk hq
    clear hq
    go_enter Try.func22, Try.ntmps22
    go_wp2_with (at_range; refine MapsS.wpList_range_is (t := 45) (e := 64) rfl _ rfl Try.underlying45 Try.underlying48 rfl H1.out ?_; intro w2 r hr hR hg hsz; have HR := Aside0.mk hR; have HG := Aside0.mk (show r = w.heap.size from hr); have HB := Aside0.mk (pw_below_grown (Below.refl w.heap.size w) none (Nat.le_refl _) hg (by simp)); have HZ := Aside0.mk (show r < w2.heap.size by omega); clear hr hR hg hsz)
    go_frame
    clear e1 e2 c1
    go_loopw [15] (fun v15 wr => ∃ seen, Aside0 (MapsS.RIS Try.prog 48 wr b1 r n1 m1 seen) ∧ Aside0 (Below w.heap.size w wr) ∧ Aside0 (r < wr.heap.size) ∧ Aside0 (∀ p ∈ seen, p ∈ m2)) (fun _ wr => wr.rangeLeft b1 r)
    case atStart => exact ⟨[], HR, HB, HZ, ⟨fun p hp => by simp at hp⟩⟩
    case round =>
      clear HR HB HZ
      obtain ⟨seen, HR, HB, HZ, HS⟩ := hrel
      go_wp2_with (at_next; refine MapsS.wpList_next_is rfl _ rfl Try.underlying48 rfl HR.out ?_ ?_)
      · intro hp
        have hf : q = true := by
          rw [← HQ.out]
          exact decide_eq_true (riseI_all H1.out.2.1 H2.out.2.1 HN.out (fun p hp1 => HS.out p (hp.mem_iff.2 hp1)))
        clear hp
        subst hf
        go_wp2
        go_ret
        exact ⟨rfl, HB.out⟩
      · intro x w3 hmem hnot hR hlt hg hsz hen
        have HB3 := Aside0.mk (pw_below_grown HB.out _ (below_size HB.out) hg (fun k hk => by injection hk with hk; have := HG.out; omega))
        have HR3 := Aside0.mk hR
        have HZ3 := Aside0.mk (show r < w3.heap.size by rw [hsz]; exact HZ.out)
        have HT3 := Aside0.mk hlt
        have HM := Aside0.mk hmem
        have h2 := (H2.out.below HB3.out).look_ok_run (t := 45) Try.underlying45 Try.underlying48 (by rfl) (H1.out.2.2 _ hmem)
        have hg4 := World.grownBy_alloc w3 (.cells #[] 64) none
        have HB4 := Aside0.mk (below_alloc HB3.out (.cells #[] 64))
        have HR4 := Aside0.mk (HR3.out.kept hg4 (by simp) (by simp))
        have HZ4 := Aside0.mk (Nat.lt_of_lt_of_le HZ3.out hg4.size)
        have HT4 := Aside0.mk (show (w3.alloc (.cells #[] 64)).rangeLeft b1 r < wr.rangeLeft b1 r by rw [rangeLeft_kept hg4 (by have := HL1.out; have := below_size HB3.out; omega) HZ3.out (by simp) (by simp)]; exact HT3.out)
        clear hmem hnot hR hg hsz hlt hg4 HB3 HR3 HZ3 HT3 HR HB HZ
        cases hk : MapsS.inI x m2 with
        | false =>
          have hf : q = false := by
            rw [← HQ.out]
            refine decide_eq_false (fun e => ?_)
            have := MapsS.inI_iff.2 (e ▸ HM.out)
            rw [hk] at this
            cases this
          subst hf
          rw [hk] at h2
          clear hk
          go_wp2
          go_ret
          exact ⟨rfl, HB4.out⟩
        | true =>
          rw [hk] at h2
          have HS3 := Aside0.mk (show ∀ p ∈ seen ++ [x], p ∈ m2 from fun p hp => by
            rcases List.mem_append.1 hp with hp | hp
            · exact HS.out p hp
            · rw [List.mem_singleton.1 hp]
              exact MapsS.inI_iff.1 hk)
          clear hk
          go_wp2
          go_roundw
          case rel => exact ⟨_, HR4, HB4, HZ4, HS3⟩
          case measure => exact HT4.out
  · have c1 : ((m1.length : Int) != (m2.length : Int)) = true := by simp; omega
    have hf : decide (m1 = m2) = false := decide_eq_false (fun e => hlen (by rw [e]))
    rw [hf]
    clear hf hlen
    go_enter Try.func22, Try.ntmps22
    go_wp2
    go_ret
    exact ⟨rfl, Below.refl _ _⟩


/-! ### impl_PrintsEqual: function 8 -/
-- a contract that was proved by hand
def impl_PrintsEqual.f (l0 : List Int) (l1 : List Int) : Option Bool := if l0.length ≤ 1000000 ∧ l1.length ≤ 1000000 ∧ okP l0 = true ∧ okP l1 = true then some (decide (setI l0 = setI l1)) else none
set_option maxHeartbeats 1600000 in
set_option maxRecDepth 100000 in
theorem impl_PrintsEqual.calls (A0 : Option Addr) (c0 : Nat) (l0 : List Int) (A1 : Option Addr) (c1 : Nat) (l1 : List Int) (r : Bool) (w : World) (hr0 : Kd.C (Kd.int .u64) w A0 l0.length l0) (hc0 : l0.length ≤ c0) (hr1 : Kd.C (Kd.int .u64) w A1 l1.length l1) (hc1 : l1.length ≤ c1) (h : impl_PrintsEqual.f l0 l1 = some r) :
    Calls Try.prog 8 #[.slice A0 l0.length c0, .slice A1 l1.length c1] w fun e w' => e = .returned (.bool r) ∧ Below w.heap.size w w' := by
  unfold impl_PrintsEqual.f at h
  by_cases hc : l0.length ≤ 1000000 ∧ l1.length ≤ 1000000 ∧ okP l0 = true ∧ okP l1 = true
  · rw [if_pos hc] at h
    obtain rfl := Option.some.inj h
    clear h
    obtain ⟨h1, h2, h3, h4⟩ := hc
    have C0 := Aside0.mk (impl_prints.calls A0 c0 l0 w hr0 h1 h3)
    have C1 := Aside0.mk (fun W (hb : Below w.heap.size w W) => impl_prints.calls A1 c1 l1 W (Kd.C_below hr1 hb) h2 h4)
    clear h1 h2 h3 h4 hr0 hr1 hc0 hc1
    generalize setI l0 = m0 at *
    generalize setI l1 = m1 at *
    go_enter Try.func8, Try.ntmps8
    go_wp2_with fail
    refine C0.out.mono ?_
    rintro e w1 ⟨b0, rfl, _, hM0, hB⟩
    have HM0 := Aside0.mk hM0
    have HB := Aside0.mk hB
    clear hM0 hB
    go_wp2_with fail
    refine (C1.out w1 HB.out).mono ?_
    rintro e w2 ⟨b1, rfl, _, hM1, hB'⟩
    have CE := Aside0.mk (model_FingerprintSet_Equal.calls b0 _ b1 _ m0 m1 w2 (HM0.out.below hB') hM1)
    have HB2 := Aside0.mk (below_step HB.out hB')
    clear hM1 hB'
    go_wp2_with fail
    refine CE.out.mono ?_
    rintro e w3 ⟨rfl, hB3⟩
    have HB3 := Aside0.mk (below_step HB2.out hB3)
    clear hB3
    go_wp2
    go_ret
    exact ⟨rfl, HB3.out⟩
  · rw [if_neg hc] at h
    cases h


/-! ### spec_PrintsEqual: function 9 -/
def spec_PrintsEqual.f (k : Nat) (l0 : List Int) (l1 : List Int) : Option (Bool) := (spec_allIn.f k l0 l1).bind fun t158 => (if t158 = true then ((spec_allIn.f k l1 l0).bind fun t159 => (some t159)) else (some false))
theorem spec_PrintsEqual.mono : ∀ a0 a1 k, LeO (spec_PrintsEqual.f k a0 a1) (spec_PrintsEqual.f (k + 1) a0 a1) := by
  intro a0 a1 k
  unfold spec_PrintsEqual.f
  repeat' first
      | (with_reducible exact spec_allIn.mono _ _ _)
      | (with_reducible exact LeO.refl _)
      | (with_reducible exact LeO.none _)
      | (with_reducible refine LeO.ite ?_ ?_)
      | (with_reducible refine LeO.bind ?_ (fun _ => ?_))
      | exact spec_allIn.mono _ _ _
      | exact LeO.none _
      | refine LeO.ite ?_ ?_
      | refine LeO.bind ?_ (fun _ => ?_)
set_option maxHeartbeats 8000000 in
set_option maxRecDepth 100000 in
theorem spec_PrintsEqual.calls (k : Nat) (A0 : Option Addr) (c0 : Nat) (l0 : List Int) (A1 : Option Addr) (c1 : Nat) (l1 : List Int) (r : Bool) (w : World) (hr0 : Kd.C (Kd.int .u64) w A0 l0.length l0) (hc0 : l0.length ≤ c0) (hr1 : Kd.C (Kd.int .u64) w A1 l1.length l1) (hc1 : l1.length ≤ c1) (h : spec_PrintsEqual.f k l0 l1 = some r) :
    Calls Try.prog 9 #[.slice A0 l0.length c0, .slice A1 l1.length c1] w fun e w' => e = .returned (.bool r) ∧ Drawn0 w w' := by
  have HR0 := Aside0.mk hr0
  have HC0 := Aside0.mk hc0
  clear hr0 hc0
  have HR1 := Aside0.mk hr1
  have HC1 := Aside0.mk hc1
  clear hr1 hc1
  have H : ((spec_allIn.f k l0 l1).bind fun t158 => (if t158 = true then ((spec_allIn.f k l1 l0).bind fun t159 => (some t159)) else (some false))) = some r := h
  clear h
  replace H := Option.bind_eq_some_iff.mp H
  obtain ⟨t158, A30, H⟩ := H
  replace H : (if t158 = true then ((spec_allIn.f k l1 l0).bind fun t159 => (some t159)) else (some false)) = some r := H
  have A3 := Aside0.mk A30
  clear A30
  by_cases c4 : t158 = true
  · subst c4
    have H1 : ((spec_allIn.f k l1 l0).bind fun t159 => (some t159)) = some r := by rw [if_pos rfl] at H; exact H
    clear H
    have H := H1
    clear H1
    replace H := Option.bind_eq_some_iff.mp H
    obtain ⟨t159, A50, H⟩ := H
    replace H : (some t159) = some r := H
    have A5 := Aside0.mk A50
    clear A50
    obtain rfl := Option.some.inj H
    go_enter Try.func9, Try.ntmps9
    go_wp2_with (first | ((with_reducible refine gate_callee (f := 21) rfl ?_); refine goesL_ (some 7) rfl rfl Try.func21 (by kernel_rfl) rfl #[.slice A0 l0.length c0, .slice A1 l1.length c1] rfl (by (try simp only [List.map_toArray, List.map_cons, List.map_nil]); first | done | rfl | (simp only [List.length_drop, List.length_take]; rfl)) ?_; (with_reducible refine (spec_allIn.calls k _ _ l0 _ _ l1 true _ ?side1 ?side2 ?side3 ?side4 A3.out).mono ?_); (case side1 => repeat (first | exact HR0.out | (with_reducible refine Kd.C_alloc ?_ _) | (with_reducible refine Kd.C_drewN ?_ _) | (with_reducible refine Kd.C_drew ?_))); (case side2 => exact HC0.out); (case side3 => repeat (first | exact HR1.out | (with_reducible refine Kd.C_alloc ?_ _) | (with_reducible refine Kd.C_drewN ?_ _) | (with_reducible refine Kd.C_drew ?_))); (case side4 => exact HC1.out); rintro e w' ⟨rfl, ⟨nd, rfl⟩⟩; refine ⟨_, rfl, ?_⟩) | (go_at_call 21; (with_reducible refine (spec_allIn.calls k _ _ l1 _ _ l0 t159 _ ?side1 ?side2 ?side3 ?side4 A5.out).mono ?_); (case side1 => repeat (first | exact HR1.out | (with_reducible refine Kd.C_alloc ?_ _) | (with_reducible refine Kd.C_drewN ?_ _) | (with_reducible refine Kd.C_drew ?_))); (case side2 => exact HC1.out); (case side3 => repeat (first | exact HR0.out | (with_reducible refine Kd.C_alloc ?_ _) | (with_reducible refine Kd.C_drewN ?_ _) | (with_reducible refine Kd.C_drew ?_))); (case side4 => exact HC0.out); rintro e w' ⟨rfl, ⟨nd, rfl⟩⟩))
    go_ret
    exact ⟨by first | rfl | (simp; done) | (simp [*]; done), by repeat (first | exact Drawn0.refl _ | apply Drawn0.step)⟩
  · replace c4 := Bool.eq_false_iff.mpr c4
    subst c4
    have H1 : (some false) = some r := by rw [if_neg (show ¬ (false = true) by decide)] at H; exact H
    clear H
    have H := H1
    clear H1
    obtain rfl := Option.some.inj H
    go_enter Try.func9, Try.ntmps9
    go_wp2_with (first | ((with_reducible refine gate_callee (f := 21) rfl ?_); refine goesL_ (some 7) rfl rfl Try.func21 (by kernel_rfl) rfl #[.slice A0 l0.length c0, .slice A1 l1.length c1] rfl (by (try simp only [List.map_toArray, List.map_cons, List.map_nil]); first | done | rfl | (simp only [List.length_drop, List.length_take]; rfl)) ?_; (with_reducible refine (spec_allIn.calls k _ _ l0 _ _ l1 false _ ?side1 ?side2 ?side3 ?side4 A3.out).mono ?_); (case side1 => repeat (first | exact HR0.out | (with_reducible refine Kd.C_alloc ?_ _) | (with_reducible refine Kd.C_drewN ?_ _) | (with_reducible refine Kd.C_drew ?_))); (case side2 => exact HC0.out); (case side3 => repeat (first | exact HR1.out | (with_reducible refine Kd.C_alloc ?_ _) | (with_reducible refine Kd.C_drewN ?_ _) | (with_reducible refine Kd.C_drew ?_))); (case side4 => exact HC1.out); rintro e w' ⟨rfl, ⟨nd, rfl⟩⟩; refine ⟨_, rfl, ?_⟩))
    go_ret
    exact ⟨by first | rfl | (simp; done) | (simp [*]; done), by repeat (first | exact Drawn0.refl _ | apply Drawn0.step)⟩

end Go.Proofs.Ytcneoonhdfblaaa.Q
