-- printed by this project's own program wip/tools/mkprint.py (the kit's print.py with hand-proved contracts put in)
import Derived.Test.YtbffhefeepmpcaaQx0
import Derived.Test.YtbffhefeepmpcaaQx7
import Derived.Test.YtbffhefeepmpcaaQx8
import Derived.Test.YtbffhefeepmpcaaQx11
namespace Go.Proofs.Ytbffhefeepmpcaa.Q
open Go.RowKit Go.Proofs.YtbffhefeepmpcaaW.PrintWords Go.Proofs.YtbffhefeepmpcaaW.PrintLast Go.Proofs.YtbffhefeepmpcaaW.PrintMore
attribute [local go_sem] max2_int min2_int max_two min_two max_three min_three max_four min_four   -- for this text's walks alone
set_option linter.unusedVariables false
set_option linter.unusedSimpArgs false

/-! ### labels_Matcher_Matches: function 71 -/
-- contracts that were proved by hand
def matchV (a : S114) (v : ByteArray) : Bool := if a.f0 = 0 then v.toList == a.f2.toList else !(v.toList == a.f2.toList)
set_option maxHeartbeats 1600000 in
set_option maxRecDepth 100000 in
theorem labels_Matcher_Matches.calls (g : Nat) (a : S114) (v : ByteArray) (w : World) (h0 : w.cell? ⟨g, 0, none⟩ = some (.int .i64 a.f0)) (h2 : w.cell? ⟨g, 2, none⟩ = some (.string a.f2)) (hk : a.f0 = 0 ∨ a.f0 = 1) :
    Calls Try.prog 71 #[.pointer (some ⟨g, 0, none⟩), .string v] w fun e w' => e = .returned (.bool (matchV a v)) ∧ Drawn0 w w' := by
  obtain ⟨x0, x1, x2⟩ := a
  simp only at h0 h2 hk
  rcases hk with rfl | rfl
  · have hf : matchV ⟨0, x1, x2⟩ v = (v.toList == x2.toList) := rfl
    rw [hf]
    clear hf
    generalize hq : (v.toList == x2.toList) = q
    go_enter Try.func71, Try.ntmps71
    go_wp2
    go_ret
    exact ⟨rfl, by repeat (first | exact Drawn0.refl _ | apply Drawn0.step)⟩
  · have hf : matchV ⟨1, x1, x2⟩ v = !(v.toList == x2.toList) := rfl
    rw [hf]
    clear hf
    generalize hq : (v.toList == x2.toList) = q
    go_enter Try.func71, Try.ntmps71
    go_wp2
    go_ret
    exact ⟨rfl, by repeat (first | exact Drawn0.refl _ | apply Drawn0.step)⟩


/-! ### labels_Matchers_Matches: function 58 -/
-- contracts that were proved by hand
theorem drawn_trans {w w1 w2 : World} (h : Drawn0 w w1) (h2 : Drawn0 w1 w2) : Drawn0 w w2 := by obtain ⟨j, rfl⟩ := h2; exact h.step j
def valOf (m : MapsS.SM) (k : ByteArray) : ByteArray := (MapsS.look k m).getD ⟨#[]⟩
def msOk (l : List S114) (m : MapsS.SM) : Bool := l.all fun a => matchV a (valOf m a.f1)
def okM (a : S114) : Prop := (a.f0 = 0 ∨ a.f0 = 1) ∧ a.f1.size ≤ maxLen
set_option maxHeartbeats 1600000 in
set_option maxRecDepth 100000 in
theorem labels_Matchers_Matches.calls (A0 : Option Addr) (c0 : Nat) (l : List S114) (b n : Nat) (m : MapsS.SM) (w : World) (hr : Kd.C kMat w A0 l.length l) (hl : l.length ≤ maxLen) (hk : ∀ a ∈ l, okM a) (hm : LSet w b n m) :
    Calls Try.prog 58 #[.slice A0 l.length c0, .map (some b)] w fun e w' => e = .returned (.bool (msOk l m)) ∧ Drawn0 w w' := by
  obtain ⟨q, hq⟩ : ∃ q, msOk l m = q := ⟨_, rfl⟩
  rw [hq]
  have HQ := Aside0.mk hq
  have HR := Aside0.mk hr
  have HK := Aside0.mk hk
  have HM := Aside0.mk hm
  unfold maxLen at hl
  clear hq hr hk hm
  go_enter Try.func58, Try.ntmps58
  go_wp2
  go_loopw [9] (fun v9 wr => ∃ j : Nat, j ≤ l.length ∧ v9 = .int .i64 j ∧ Aside0 (msOk (l.drop j) m = q) ∧ Aside0 (Drawn0 w wr)) (fun v9 _ => l.length - (intOf v9).toNat)
  case atStart => exact ⟨0, Nat.zero_le _, rfl, HQ, ⟨Drawn0.refl _⟩⟩
  case round =>
    clear HQ
    obtain ⟨j, hj, rfl, HQ, HD⟩ := hrel
    by_cases hlt : j < l.length
    · obtain ⟨ad, g, e0, hx, hx0, hx1, hx2⟩ := kMat_at (Kd.C_below HR.out HD.out.below) (j : Int) (by omega) (by omega)
      cases e0
      simp only [Int.toNat_natCast] at hx hx0 hx1 hx2
      have hd : l.drop j = l.getD j zMat :: l.drop (j + 1) := by rw [List.drop_eq_getElem_cons hlt, List.getD_eq_getElem?_getD, List.getElem?_eq_getElem hlt]; rfl
      have ha := HK.out (l.getD j zMat) (by rw [List.getD_eq_getElem?_getD, List.getElem?_eq_getElem hlt]; exact List.getElem_mem hlt)
      have hq := HQ.out
      clear HQ
      rw [hd] at hq
      generalize l.getD j zMat = a at *
      obtain ⟨hk1, hk2⟩ := ha
      have HK1 := Aside0.mk hk1
      have hq' : (matchV a (valOf m a.f1) && msOk (l.drop (j + 1)) m) = q := hq
      clear hd hq hk1
      have h2 : (Instr.lookup 74 (.map (some b)) (.string a.f1) false).run Try.prog wr = .ok (.string (valOf m a.f1)) wr := (HM.out.below HD.out.below).look_run Try.underlying74 Try.underlying108 Try.underlying107 (by rfl) hk2
      go_wp2_with fail
      refine (labels_Matcher_Matches.calls g a _ _ hx0 hx2 HK1.out).mono ?_
      rintro e w2 ⟨rfl, hD⟩
      have HD2 := Aside0.mk (drawn_trans HD.out hD)
      clear hD HD hx hx0 hx1 hx2 h2
      cases hv : matchV a (valOf m a.f1) with
      | true =>
        rw [hv, Bool.true_and] at hq'
        have HQ2 := Aside0.mk hq'
        clear hq' hv
        go_wp2
        go_roundw
        case rel => exact ⟨j + 1, by omega, by go_num, HQ2, HD2⟩
        case measure => simp [intOf]; omega
      | false =>
        rw [hv, Bool.false_and] at hq'
        subst hq'
        go_wp2
        go_ret
        exact ⟨rfl, HD2.out⟩
    · have hj2 : j = l.length := by omega
      subst hj2
      have hq := HQ.out
      rw [List.drop_of_length_le (Nat.le_refl _)] at hq
      obtain rfl : true = q := hq
      go_wp2
      go_ret
      exact ⟨rfl, HD.out⟩


/-! ### impl_MatchAll: function 31 -/
-- a contract that was proved by hand
def okM0 (x : S37) : Bool := (decide (x.f0 = 0) || decide (x.f0 = 1)) && decide (x.f1.size ≤ maxLen)
def less44 (l : List S37) : Bool := decide (l.length ≤ 17592186044416) && decide (l.length ≤ maxLen) && l.all okM0
def impl_MatchAll.f (l0 : List S37) (l1 : List S48) : Option Bool := if less44 l0 = true ∧ lessMax l1 = true then some (msOk (l0.map toMat) (setL l1)) else none
theorem okM_all {l : List S37} (h : l.all okM0 = true) : ∀ a ∈ l.map toMat, okM a := by
  intro a ha
  obtain ⟨x, hx, rfl⟩ := List.mem_map.1 ha
  have := List.all_eq_true.1 h x hx
  simp only [okM0, Bool.and_eq_true, Bool.or_eq_true, decide_eq_true_eq] at this
  exact this
set_option maxHeartbeats 1600000 in
set_option maxRecDepth 100000 in
theorem impl_MatchAll.calls (A0 : Option Addr) (c0 : Nat) (l0 : List S37) (A1 : Option Addr) (c1 : Nat) (l1 : List S48) (r : Bool) (w : World) (hr0 : Kd.C k37 w A0 l0.length l0) (hc0 : l0.length ≤ c0) (hr1 : Kd.C k48 w A1 l1.length l1) (hc1 : l1.length ≤ c1) (h : impl_MatchAll.f l0 l1 = some r) :
    Calls Try.prog 31 #[.slice A0 l0.length c0, .slice A1 l1.length c1] w fun e w' => e = .returned (.bool r) ∧ Below w.heap.size w w' := by
  unfold impl_MatchAll.f at h
  split at h
  · rename_i hl
    simp only [less44, lessMax, Bool.and_eq_true, decide_eq_true_eq] at hl
    obtain ⟨⟨⟨h1, h1'⟩, h2⟩, h3, h4⟩ := hl
    have HQ := Aside0.mk (Option.some.inj h)
    have HK := Aside0.mk (okM_all h2)
    have HL := Aside0.mk (show (l0.map toMat).length ≤ maxLen by rw [List.length_map]; exact h1')
    clear h h2 h1'
    have C0 := Aside0.mk (impl_inners.calls A0 c0 l0 w hr0 hc0 h1)
    generalize l0.map toMat = l at *
    have R1 := Aside0.mk hr1
    have X1 := Aside0.mk hc1
    have X2 := Aside0.mk h3
    have X3 := Aside0.mk h4
    clear hr0 hc0 h1 hr1 hc1 h3 h4
    go_enter Try.func31, Try.ntmps31
    go_wp2_with fail
    refine C0.out.mono ?_
    rintro e w1 ⟨v, rfl, hO, hB⟩
    have HO := Aside0.mk hO
    have HB := Aside0.mk hB
    clear hO hB
    go_wp2_with fail
    refine (impl_labelSet.calls A1 c1 l1 w1 (Kd.C_below R1.out HB.out) X1.out X2.out X3.out).mono ?_
    rintro e w2 ⟨b', rfl, hb', hM', hB'⟩
    have hO2 := Kd.R_below HO.out hB'
    obtain ⟨A, c, rfl, hlc, hC⟩ := Kd.R_reads hO2
    have HC := Aside0.mk hC
    have HM := Aside0.mk hM'
    have HB2 := Aside0.mk (below_step HB.out hB')
    clear hM' hB' hb' hO2 hC HO HB
    go_wp2_with fail
    have HE := labels_Matchers_Matches.calls A c l b' _ _ w2 HC.out HL.out HK.out HM.out
    rw [HQ.out] at HE
    refine HE.mono ?_
    clear HE
    rintro e w3 ⟨rfl, hD⟩
    have HB3 := Aside0.mk (below_step HB2.out hD.below)
    clear hD
    go_wp2
    go_ret
    exact ⟨rfl, HB3.out⟩
  · cases h


end Go.Proofs.Ytbffhefeepmpcaa.Q
