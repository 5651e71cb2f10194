-- printed by this project's own program wip/tools/mkprint.py (the kit's print.py with hand-proved contracts put in)
import Derived.Test.YtbffhefeepmpcaaQx0
import Derived.Test.YtbffhefeepmpcaaQx5
import Derived.Test.YtbffhefeepmpcaaQx8
namespace Go.Proofs.Ytbffhefeepmpcaa.Q
open Go.RowKit Go.Proofs.YtbffhefeepmpcaaW.PrintWords Go.Proofs.YtbffhefeepmpcaaW.PrintLast Go.Proofs.YtbffhefeepmpcaaW.PrintMore
attribute [local go_sem] max2_int min2_int max_two min_two max_three min_three max_four min_four   -- for this text's walks alone
set_option linter.unusedVariables false
set_option linter.unusedSimpArgs false

/-! ### labels_Matcher_Matches: function 71 -/
-- contracts that were proved by hand
def matchV (a : S114) (v : ByteArray) : Bool := if a.f0 = 0 then v.toList == a.f2.toList else !(v.toList == a.f2.toList)
set_option maxHeartbeats 1600000 in
set_option maxRecDepth 100000 in
theorem labels_Matcher_Matches.calls (g : Nat) (a : S114) (v : ByteArray) (w : World) (h0 : w.cell? ⟨g, 0, none⟩ = some (.int .i64 a.f0)) (h2 : w.cell? ⟨g, 2, none⟩ = some (.string a.f2)) (hk : a.f0 = 0 ∨ a.f0 = 1) :
    Calls Try.prog 71 #[.pointer (some ⟨g, 0, none⟩), .string v] w fun e w' => e = .returned (.bool (matchV a v)) ∧ Drawn0 w w' := by
  obtain ⟨x0, x1, x2⟩ := a
  simp only at h0 h2 hk
  rcases hk with rfl | rfl
  · have hf : matchV ⟨0, x1, x2⟩ v = (v.toList == x2.toList) := rfl
    rw [hf]
    clear hf
    generalize hq : (v.toList == x2.toList) = q
    go_enter Try.func71, Try.ntmps71
    go_wp2
    go_ret
    exact ⟨rfl, by repeat (first | exact Drawn0.refl _ | apply Drawn0.step)⟩
  · have hf : matchV ⟨1, x1, x2⟩ v = !(v.toList == x2.toList) := rfl
    rw [hf]
    clear hf
    generalize hq : (v.toList == x2.toList) = q
    go_enter Try.func71, Try.ntmps71
    go_wp2
    go_ret
    exact ⟨rfl, by repeat (first | exact Drawn0.refl _ | apply Drawn0.step)⟩


/-! ### labels_Matchers_Matches: function 58 -/
-- contracts that were proved by hand
theorem drawn_trans {w w1 w2 : World} (h : Drawn0 w w1) (h2 : Drawn0 w1 w2) : Drawn0 w w2 := by obtain ⟨j, rfl⟩ := h2; exact h.step j
def valOf (m : MapsS.SM) (k : ByteArray) : ByteArray := (MapsS.look k m).getD ⟨#[]⟩
def msOk (l : List S114) (m : MapsS.SM) : Bool := l.all fun a => matchV a (valOf m a.f1)
def okM (a : S114) : Prop := (a.f0 = 0 ∨ a.f0 = 1) ∧ a.f1.size ≤ maxLen
set_option maxHeartbeats 1600000 in
set_option maxRecDepth 100000 in
theorem labels_Matchers_Matches.calls (A0 : Option Addr) (c0 : Nat) (l : List S114) (b n : Nat) (m : MapsS.SM) (w : World) (hr : Kd.C kMat w A0 l.length l) (hl : l.length ≤ maxLen) (hk : ∀ a ∈ l, okM a) (hm : LSet w b n m) :
    Calls Try.prog 58 #[.slice A0 l.length c0, .map (some b)] w fun e w' => e = .returned (.bool (msOk l m)) ∧ Drawn0 w w' := by
  obtain ⟨q, hq⟩ : ∃ q, msOk l m = q := ⟨_, rfl⟩
  rw [hq]
  have HQ := Aside0.mk hq
  have HR := Aside0.mk hr
  have HK := Aside0.mk hk
  have HM := Aside0.mk hm
  unfold maxLen at hl
  clear hq hr hk hm
  go_enter Try.func58, Try.ntmps58
  go_wp2
  go_loopw [9] (fun v9 wr => ∃ j : Nat, j ≤ l.length ∧ v9 = .int .i64 j ∧ Aside0 (msOk (l.drop j) m = q) ∧ Aside0 (Drawn0 w wr)) (fun v9 _ => l.length - (intOf v9).toNat)
  case atStart => exact ⟨0, Nat.zero_le _, rfl, HQ, ⟨Drawn0.refl _⟩⟩
  case round =>
    clear HQ
    obtain ⟨j, hj, rfl, HQ, HD⟩ := hrel
    by_cases hlt : j < l.length
    · obtain ⟨ad, g, e0, hx, hx0, hx1, hx2⟩ := kMat_at (Kd.C_below HR.out HD.out.below) (j : Int) (by omega) (by omega)
      cases e0
      simp only [Int.toNat_natCast] at hx hx0 hx1 hx2
      have hd : l.drop j = l.getD j zMat :: l.drop (j + 1) := by rw [List.drop_eq_getElem_cons hlt, List.getD_eq_getElem?_getD, List.getElem?_eq_getElem hlt]; rfl
      have ha := HK.out (l.getD j zMat) (by rw [List.getD_eq_getElem?_getD, List.getElem?_eq_getElem hlt]; exact List.getElem_mem hlt)
      have hq := HQ.out
      clear HQ
      rw [hd] at hq
      generalize l.getD j zMat = a at *
      obtain ⟨hk1, hk2⟩ := ha
      have HK1 := Aside0.mk hk1
      have hq' : (matchV a (valOf m a.f1) && msOk (l.drop (j + 1)) m) = q := hq
      clear hd hq hk1
      have h2 : (Instr.lookup 74 (.map (some b)) (.string a.f1) false).run Try.prog wr = .ok (.string (valOf m a.f1)) wr := (HM.out.below HD.out.below).look_run Try.underlying74 Try.underlying108 Try.underlying107 (by rfl) hk2
      go_wp2_with fail
      refine (labels_Matcher_Matches.calls g a _ _ hx0 hx2 HK1.out).mono ?_
      rintro e w2 ⟨rfl, hD⟩
      have HD2 := Aside0.mk (drawn_trans HD.out hD)
      clear hD HD hx hx0 hx1 hx2 h2
      cases hv : matchV a (valOf m a.f1) with
      | true =>
        rw [hv, Bool.true_and] at hq'
        have HQ2 := Aside0.mk hq'
        clear hq' hv
        go_wp2
        go_roundw
        case rel => exact ⟨j + 1, by omega, by go_num, HQ2, HD2⟩
        case measure => simp [intOf]; omega
      | false =>
        rw [hv, Bool.false_and] at hq'
        subst hq'
        go_wp2
        go_ret
        exact ⟨rfl, HD2.out⟩
    · have hj2 : j = l.length := by omega
      subst hj2
      have hq := HQ.out
      rw [List.drop_of_length_le (Nat.le_refl _)] at hq
      obtain rfl : true = q := hq
      go_wp2
      go_ret
      exact ⟨rfl, HD.out⟩


/-! ### impl_MatchAll: function 31 -/
-- a contract that was proved by hand
def okM0 (x : S37) : Bool := (decide (x.f0 = 0) || decide (x.f0 = 1)) && decide (x.f1.size ≤ maxLen)
def less44 (l : List S37) : Bool := decide (l.length ≤ 17592186044416) && decide (l.length ≤ maxLen) && l.all okM0
def impl_MatchAll.f (l0 : List S37) (l1 : List S48) : Option Bool := if less44 l0 = true ∧ lessMax l1 = true then some (msOk (l0.map toMat) (setL l1)) else none
theorem okM_all {l : List S37} (h : l.all okM0 = true) : ∀ a ∈ l.map toMat, okM a := by
  intro a ha
  obtain ⟨x, hx, rfl⟩ := List.mem_map.1 ha
  have := List.all_eq_true.1 h x hx
  simp only [okM0, Bool.and_eq_true, Bool.or_eq_true, decide_eq_true_eq] at this
  exact this
set_option maxHeartbeats 1600000 in
set_option maxRecDepth 100000 in
theorem impl_MatchAll.calls (A0 : Option Addr) (c0 : Nat) (l0 : List S37) (A1 : Option Addr) (c1 : Nat) (l1 : List S48) (r : Bool) (w : World) (hr0 : Kd.C k37 w A0 l0.length l0) (hc0 : l0.length ≤ c0) (hr1 : Kd.C k48 w A1 l1.length l1) (hc1 : l1.length ≤ c1) (h : impl_MatchAll.f l0 l1 = some r) :
    Calls Try.prog 31 #[.slice A0 l0.length c0, .slice A1 l1.length c1] w fun e w' => e = .returned (.bool r) ∧ Below w.heap.size w w' := by
  unfold impl_MatchAll.f at h
  split at h
  · rename_i hl
    simp only [less44, lessMax, Bool.and_eq_true, decide_eq_true_eq] at hl
    obtain ⟨⟨⟨h1, h1'⟩, h2⟩, h3, h4⟩ := hl
    have HQ := Aside0.mk (Option.some.inj h)
    have HK := Aside0.mk (okM_all h2)
    have HL := Aside0.mk (show (l0.map toMat).length ≤ maxLen by rw [List.length_map]; exact h1')
    clear h h2 h1'
    have C0 := Aside0.mk (impl_inners.calls A0 c0 l0 w hr0 hc0 h1)
    generalize l0.map toMat = l at *
    have R1 := Aside0.mk hr1
    have X1 := Aside0.mk hc1
    have X2 := Aside0.mk h3
    have X3 := Aside0.mk h4
    clear hr0 hc0 h1 hr1 hc1 h3 h4
    go_enter Try.func31, Try.ntmps31
    go_wp2_with fail
    refine C0.out.mono ?_
    rintro e w1 ⟨v, rfl, hO, hB⟩
    have HO := Aside0.mk hO
    have HB := Aside0.mk hB
    clear hO hB
    go_wp2_with fail
    refine (impl_labelSet.calls A1 c1 l1 w1 (Kd.C_below R1.out HB.out) X1.out X2.out X3.out).mono ?_
    rintro e w2 ⟨b', rfl, hb', hM', hB'⟩
    have hO2 := Kd.R_below HO.out hB'
    obtain ⟨A, c, rfl, hlc, hC⟩ := Kd.R_reads hO2
    have HC := Aside0.mk hC
    have HM := Aside0.mk hM'
    have HB2 := Aside0.mk (below_step HB.out hB')
    clear hM' hB' hb' hO2 hC HO HB
    go_wp2_with fail
    have HE := labels_Matchers_Matches.calls A c l b' _ _ w2 HC.out HL.out HK.out HM.out
    rw [HQ.out] at HE
    refine HE.mono ?_
    clear HE
    rintro e w3 ⟨rfl, hD⟩
    have HB3 := Aside0.mk (below_step HB2.out hD.below)
    clear hD
    go_wp2
    go_ret
    exact ⟨rfl, HB3.out⟩
  · cases h


/-! ### laws_fits: function 32 -/
mutual
def laws_fits.l0 : Nat → List (S48) → List (S37) → Int → Int → Option (Bool)
  | 0, _, _, _, _ => none
  | k + 1, x1, x10, x11, x12 => if x12 < x11 then (if 0 ≤ x12 then (if x12 < (x10.length : Int) then (laws_fits.l1 k x1 (⟨#[]⟩ : ByteArray) x10 x11 x12 x1 (x1.length : Int) 0 ((rd_T37 x10 x12).f0) ((rd_T37 x10 x12).f1) ((rd_T37 x10 x12).f2)) else (none)) else (none)) else (some true)
def laws_fits.l1 : Nat → List (S48) → ByteArray → List (S37) → Int → Int → List (S48) → Int → Int → Int → ByteArray → ByteArray → Option (Bool)
  | 0, _, _, _, _, _, _, _, _, _, _, _ => none
  | k + 1, x1, x7, x10, x11, x12, x16, x17, x18, x285000, x285001, x285002 => if x18 < x17 then (if 0 ≤ x18 then (if x18 < (x16.length : Int) then (if ((rd_T48 x16 x18).f0).toList = x285001.toList then (laws_fits.l1 k x1 ((rd_T48 x16 x18).f1) x10 x11 x12 x16 x17 (wrap64 (x18 + 1)) x285000 x285001 x285002) else (laws_fits.l1 k x1 x7 x10 x11 x12 x16 x17 (wrap64 (x18 + 1)) x285000 x285001 x285002)) else (none)) else (none)) else (if ((x7.toList == x285002.toList) != (x285000 == 0)) = true then (some false) else (laws_fits.l0 k x1 x10 x11 (wrap64 (x12 + 1))))
end
def laws_fits.f (k : Nat) (l0 : List (S37)) (l1 : List (S48)) : Option (Bool) := laws_fits.l0 k l1 l0 (l0.length : Int) 0
theorem laws_fits.mono_l : ∀ k, (∀ y0 y1 y2 y3, LeO (laws_fits.l0 k y0 y1 y2 y3) (laws_fits.l0 (k + 1) y0 y1 y2 y3)) ∧ (∀ y0 y1 y2 y3 y4 y5 y6 y7 y8 y9 y10, LeO (laws_fits.l1 k y0 y1 y2 y3 y4 y5 y6 y7 y8 y9 y10) (laws_fits.l1 (k + 1) y0 y1 y2 y3 y4 y5 y6 y7 y8 y9 y10))
  | 0 => ⟨fun _ _ _ _ r h => by simp [laws_fits.l0] at h, fun _ _ _ _ _ _ _ _ _ _ _ r h => by simp [laws_fits.l1] at h⟩
  | k + 1 => by
    obtain ⟨ih0, ih1⟩ := laws_fits.mono_l k
    refine ⟨?_, ?_⟩
    · intro y0 y1 y2 y3
      unfold laws_fits.l0
      repeat' first
      | (with_reducible exact ih0 _ _ _ _)
      | (with_reducible exact ih1 _ _ _ _ _ _ _ _ _ _ _)
      | (with_reducible exact LeO.refl _)
      | (with_reducible exact LeO.none _)
      | (with_reducible refine LeO.ite ?_ ?_)
      | (with_reducible refine LeO.bind ?_ (fun _ => ?_))
      | exact ih0 _ _ _ _
      | exact ih1 _ _ _ _ _ _ _ _ _ _ _
      | exact LeO.none _
      | refine LeO.ite ?_ ?_
      | refine LeO.bind ?_ (fun _ => ?_)
    · intro y0 y1 y2 y3 y4 y5 y6 y7 y8 y9 y10
      unfold laws_fits.l1
      repeat' first
      | (with_reducible exact ih0 _ _ _ _)
      | (with_reducible exact ih1 _ _ _ _ _ _ _ _ _ _ _)
      | (with_reducible exact LeO.refl _)
      | (with_reducible exact LeO.none _)
      | (with_reducible refine LeO.ite ?_ ?_)
      | (with_reducible refine LeO.bind ?_ (fun _ => ?_))
      | exact ih0 _ _ _ _
      | exact ih1 _ _ _ _ _ _ _ _ _ _ _
      | exact LeO.none _
      | refine LeO.ite ?_ ?_
      | refine LeO.bind ?_ (fun _ => ?_)
theorem laws_fits.mono : ∀ a0 a1 k, LeO (laws_fits.f k a0 a1) (laws_fits.f (k + 1) a0 a1) := by
  intro a0 a1 k
  obtain ⟨ih0, ih1⟩ := laws_fits.mono_l k
  unfold laws_fits.f
  repeat' first
      | (with_reducible exact ih0 _ _ _ _)
      | (with_reducible exact ih1 _ _ _ _ _ _ _ _ _ _ _)
      | (with_reducible exact LeO.refl _)
      | (with_reducible exact LeO.none _)
      | (with_reducible refine LeO.ite ?_ ?_)
      | (with_reducible refine LeO.bind ?_ (fun _ => ?_))
      | exact ih0 _ _ _ _
      | exact ih1 _ _ _ _ _ _ _ _ _ _ _
      | exact LeO.none _
      | refine LeO.ite ?_ ?_
      | refine LeO.bind ?_ (fun _ => ?_)
set_option maxHeartbeats 8000000 in
set_option maxRecDepth 100000 in
theorem laws_fits.calls (k : Nat) (A0 : Option Addr) (c0 : Nat) (l0 : List (S37)) (A1 : Option Addr) (c1 : Nat) (l1 : List (S48)) (r : Bool) (w : World) (hr0 : Kd.C k37 w A0 l0.length l0) (hc0 : l0.length ≤ c0) (hr1 : Kd.C k48 w A1 l1.length l1) (hc1 : l1.length ≤ c1) (h : laws_fits.f k l0 l1 = some r) :
    Calls Try.prog 32 #[.slice A0 l0.length c0, .slice A1 l1.length c1] w fun e w' => e = .returned (.bool r) ∧ Below w.heap.size w w' := by
  have hu37 := Try.underlying37
  have hu48 := Try.underlying48
  have HR0 := Aside0.mk hr0
  have HC0 := Aside0.mk hc0
  clear hr0 hc0
  have HR1 := Aside0.mk hr1
  have HC1 := Aside0.mk hc1
  clear hr1 hc1
  have HB := Aside0.mk (Below.refl w.heap.size w)
  have H : (laws_fits.l0 k l1 l0 (l0.length : Int) 0) = some r := h
  clear h
  have H' := Aside0.mk H
  clear H
  go_enter Try.func32, Try.ntmps32
  go_wp2
  go_loopg [12] k (fun kq v12 w' => ∃ (x12_1 : Int), v12 = .int .i64 x12_1 ∧ Aside0 (laws_fits.l0 kq l1 l0 (l0.length : Int) x12_1 = some r) ∧ Aside0 (kq ≤ k) ∧ Aside0 (Below w.heap.size w w'))
  case atStart => exact ⟨(0), (by first | rfl | (simp; done) | (simp [*]; done)), H', ⟨Nat.le_refl _⟩, ⟨by repeat (first | (with_reducible first | exact HB.out | apply below_alloc | apply pw_below_drewN | apply below_drew1) | exact HB.out)⟩⟩
  case round =>
    clear H'
    try clear c1
    try clear p2
    obtain ⟨x12_1, rfl, HA, HK1, HB⟩ := hrel
    cases gk with
    | zero => exact absurd HA.out (by simp [laws_fits.l0])
    | succ k1 =>
      have H := HA.out
      clear HA
      simp only [laws_fits.l0] at H
      by_cases c3 : x12_1 < (l0.length : Int)
      · rw [if_pos c3] at H
        have c3b0 : decide (x12_1 < (l0.length : Int)) = true := decide_eq_true c3
        clear c3
        by_cases c4 : 0 ≤ x12_1
        · rw [if_pos c4] at H
          have c4b0 : decide (0 ≤ x12_1) = true := decide_eq_true c4
          clear c4
          by_cases c5 : x12_1 < (l0.length : Int)
          · rw [if_pos c5] at H
            have c5b0 : decide (x12_1 < (l0.length : Int)) = true := decide_eq_true c5
            clear c5
            have H' := Aside0.mk H
            clear H
            have p283 : 0 ≤ (x12_1 : Int) := of_decide_eq_true (by first | (with_reducible assumption) | assumption)
            have q283 : x12_1 < (l0.length : Int) := of_decide_eq_true (by first | (with_reducible assumption) | assumption)
            obtain ⟨ad283, e283, hx283_0, hx283_1, hx283_2⟩ := at_T37 HR0.out x12_1 p283 q283
            cases e283
            replace hx283_0 := (HB.out.cell (World.block_lt_of_cell? w _ hx283_0)).trans hx283_0
            replace hx283_1 := (HB.out.cell (World.block_lt_of_cell? w _ hx283_1)).trans hx283_1
            replace hx283_2 := (HB.out.cell (World.block_lt_of_cell? w _ hx283_2)).trans hx283_2
            replace p283 := eq_true p283
            replace q283 := eq_true q283
            go_wp2_with (first | ((with_reducible refine gate_dst (N := 6) rfl ?_); refine box_event ?hg (N := 6) ?hd (cs := #[.int .i64 0, .string (⟨#[]⟩ : ByteArray), .string (⟨#[]⟩ : ByteArray)]) (t := 37) ?hr ?_; (case hd => rfl); (case hg => rfl); (case hr => first | (go_simp; done) | (go_simp; rfl)); intro gb284 hg w6 hbox hb; have n0_ := Aside0.mk (below_step (by repeat (first | (with_reducible first | exact HB.out | apply below_alloc | apply pw_below_drewN | apply below_drew1) | exact HB.out)) hb); have n1_ := Aside0.mk (hbox); have n2_ := Aside0.mk ((by rw [hg]; exact (below_size (by repeat (first | (with_reducible first | exact HB.out | apply below_alloc | apply pw_below_drewN | apply below_drew1) | exact HB.out))) : w.heap.size ≤ gb284)); have n3_ := Aside0.mk ((by rw [hg]; exact (below_size (by repeat (first | (with_reducible first | exact HB.out | apply below_alloc | apply pw_below_drewN | apply below_drew1) | exact HB.out))) : w.heap.size ≤ gb284)); clear HB; have HB := n0_; have BK284 := n1_; have GW284 := n2_; have GE284 := n3_; clear n0_ n1_ n2_ n3_; clear hb hbox hg; have hcz7_0 : w6.cell? ⟨gb284, 0, none⟩ = some (.int .i64 0) := (blk_cell BK284.out 0).trans rfl; have hcz7_1 : w6.cell? ⟨gb284, 1, none⟩ = some (.string (⟨#[]⟩ : ByteArray)) := (blk_cell BK284.out 1).trans rfl; have hcz7_2 : w6.cell? ⟨gb284, 2, none⟩ = some (.string (⟨#[]⟩ : ByteArray)) := (blk_cell BK284.out 2).trans rfl; have hfz7_0 := blk_frozen BK284.out 0; have hfz7_1 := blk_frozen BK284.out 1; have hfz7_2 := blk_frozen BK284.out 2))
            go_loopg [7, 18] k1 (fun kq v7 v18 w' => ∃ (x7_2 : ByteArray) (x18_2 : Int), v7 = .string x7_2 ∧ v18 = .int .i64 x18_2 ∧ Aside0 (laws_fits.l1 kq l1 x7_2 l0 (l0.length : Int) x12_1 l1 (l1.length : Int) x18_2 ((rd_T37 l0 x12_1).f0) ((rd_T37 l0 x12_1).f1) ((rd_T37 l0 x12_1).f2) = some r) ∧ Aside0 (kq ≤ k1) ∧ Aside0 (w'.heap[gb284]? = some (.cells #[.int .i64 ((rd_T37 l0 x12_1).f0), .string ((rd_T37 l0 x12_1).f1), .string ((rd_T37 l0 x12_1).f2)] 37 (0, 0))) ∧ Aside0 (Below w.heap.size w w'))
            case atStart => exact ⟨((⟨#[]⟩ : ByteArray)), (0), (by first | rfl | (simp; done) | (simp [*]; done)), (by first | rfl | (simp; done) | (simp [*]; done)), H', ⟨Nat.le_refl _⟩, ⟨by (with_reducible repeat (first | refine blk_drewN ?_ _ | refine blk_drew ?_ | refine blk_alloc ?_ _)); refine blk_put (cs := #[.int .i64 ((rd_T37 l0 x12_1).f0), .string ((rd_T37 l0 x12_1).f1), .string (⟨#[]⟩ : ByteArray)]) ?_ 2 _ rfl; (with_reducible repeat (first | refine blk_drewN ?_ _ | refine blk_drew ?_ | refine blk_alloc ?_ _)); refine blk_put (cs := #[.int .i64 ((rd_T37 l0 x12_1).f0), .string (⟨#[]⟩ : ByteArray), .string (⟨#[]⟩ : ByteArray)]) ?_ 1 _ rfl; (with_reducible repeat (first | refine blk_drewN ?_ _ | refine blk_drew ?_ | refine blk_alloc ?_ _)); refine blk_put (cs := #[.int .i64 0, .string (⟨#[]⟩ : ByteArray), .string (⟨#[]⟩ : ByteArray)]) ?_ 0 _ rfl; (with_reducible repeat (first | refine blk_drewN ?_ _ | refine blk_drew ?_ | refine blk_alloc ?_ _)); exact BK284.out⟩, ⟨by repeat (first | (with_reducible first | exact HB.out | apply below_alloc | apply pw_below_drewN | apply below_drew1 | refine below_set ?_ GE284.out) | exact HB.out)⟩⟩
            case round =>
              clear H'
              try clear c1
              try clear p2
              try clear q2
              try clear hx2
              try clear c3
              try clear c3b0
              try clear c4
              try clear c4b0
              try clear c5
              try clear c5b0
              try clear hcz7_0
              try clear hcz7_1
              try clear hcz7_2
              try clear hfz7_0
              try clear hfz7_1
              try clear hfz7_2
              try clear hx283_0
              try clear hx283_1
              try clear hx283_2
              try clear p2
              try clear p283
              try clear q283
              obtain ⟨x7_2, x18_2, rfl, rfl, HA, HK2, BK284, HB⟩ := hrel
              cases gk with
              | zero => exact absurd HA.out (by simp [laws_fits.l1])
              | succ k2 =>
                have H := HA.out
                clear HA
                simp only [laws_fits.l1] at H
                by_cases c8 : x18_2 < (l1.length : Int)
                · rw [if_pos c8] at H
                  have c8b0 : decide (x18_2 < (l1.length : Int)) = true := decide_eq_true c8
                  clear c8
                  by_cases c9 : 0 ≤ x18_2
                  · rw [if_pos c9] at H
                    have c9b0 : decide (0 ≤ x18_2) = true := decide_eq_true c9
                    clear c9
                    by_cases c10 : x18_2 < (l1.length : Int)
                    · rw [if_pos c10] at H
                      have c10b0 : decide (x18_2 < (l1.length : Int)) = true := decide_eq_true c10
                      clear c10
                      by_cases c11 : ((rd_T48 l1 x18_2).f0).toList = ((rd_T37 l0 x12_1).f1).toList
                      · rw [if_pos c11] at H
                        have c11b0 : (((rd_T48 l1 x18_2).f0).toList == ((rd_T37 l0 x12_1).f1).toList) = true := beq_iff_eq.mpr c11
                        have c11b1 : (((rd_T48 l1 x18_2).f0).toList != ((rd_T37 l0 x12_1).f1).toList) = false := bne_eq_false_iff_eq.mpr c11
                        clear c11
                        have H' := Aside0.mk H
                        clear H
                        have p285 : 0 ≤ (x18_2 : Int) := of_decide_eq_true (by first | (with_reducible assumption) | assumption)
                        have q285 : x18_2 < (l1.length : Int) := of_decide_eq_true (by first | (with_reducible assumption) | assumption)
                        obtain ⟨ad285, e285, hx285_0, hx285_1⟩ := at_T48 HR1.out x18_2 p285 q285
                        cases e285
                        replace hx285_0 := (HB.out.cell (World.block_lt_of_cell? w _ hx285_0)).trans hx285_0
                        replace hx285_1 := (HB.out.cell (World.block_lt_of_cell? w _ hx285_1)).trans hx285_1
                        replace p285 := eq_true p285
                        replace q285 := eq_true q285
                        go_wp2_with (first | ((with_reducible refine gate_dst (N := 9) rfl ?_); refine box_event ?hg (N := 9) ?hd (cs := #[.string (⟨#[]⟩ : ByteArray), .string (⟨#[]⟩ : ByteArray)]) (t := 48) ?hr ?_; (case hd => rfl); (case hg => rfl); (case hr => first | (go_simp; done) | (go_simp; rfl)); intro gb286 hg w12 hbox hb; have n0_ := Aside0.mk (blk_below (g := gb284) (o := .cells #[.int .i64 ((rd_T37 l0 x12_1).f0), .string ((rd_T37 l0 x12_1).f1), .string ((rd_T37 l0 x12_1).f2)] 37 (0, 0)) (by (with_reducible repeat (first | refine blk_drewN ?_ _ | refine blk_drew ?_ | refine blk_alloc ?_ _)); exact BK284.out) hb); have n1_ := Aside0.mk (below_step (by repeat (first | (with_reducible first | exact HB.out | apply below_alloc | apply pw_below_drewN | apply below_drew1 | refine below_set ?_ GE284.out) | exact HB.out)) hb); have n2_ := Aside0.mk (hbox); have n3_ := Aside0.mk ((by rw [hg]; exact (below_size (by repeat (first | (with_reducible first | exact HB.out | apply below_alloc | apply pw_below_drewN | apply below_drew1 | refine below_set ?_ GE284.out) | exact HB.out))) : w.heap.size ≤ gb286)); have n4_ := Aside0.mk ((by rw [hg]; exact (below_size (by repeat (first | (with_reducible first | exact HB.out | apply below_alloc | apply pw_below_drewN | apply below_drew1 | refine below_set ?_ GE284.out) | exact HB.out))) : w.heap.size ≤ gb286)); have n5_ := Aside0.mk ((by rw [hg]; exact Nat.ne_of_lt (blk_lt (g := gb284) (o := .cells #[.int .i64 ((rd_T37 l0 x12_1).f0), .string ((rd_T37 l0 x12_1).f1), .string ((rd_T37 l0 x12_1).f2)] 37 (0, 0)) (by (with_reducible repeat (first | refine blk_drewN ?_ _ | refine blk_drew ?_ | refine blk_alloc ?_ _)); exact BK284.out)) : gb284 ≠ gb286)); have n6_ := Aside0.mk ((by rw [hg]; exact Nat.ne_of_gt (blk_lt (g := gb284) (o := .cells #[.int .i64 ((rd_T37 l0 x12_1).f0), .string ((rd_T37 l0 x12_1).f1), .string ((rd_T37 l0 x12_1).f2)] 37 (0, 0)) (by (with_reducible repeat (first | refine blk_drewN ?_ _ | refine blk_drew ?_ | refine blk_alloc ?_ _)); exact BK284.out)) : gb286 ≠ gb284)); clear BK284; clear HB; have BK284 := n0_; have HB := n1_; have BK286 := n2_; have GW286 := n3_; have GE286 := n4_; have NB284_286 := n5_; have NB286_284 := n6_; clear n0_ n1_ n2_ n3_ n4_ n5_ n6_; clear hb hbox hg; have hnb13 := NB286_284.out; have hnc13 := NB284_286.out; have hcz14_0 : w12.cell? ⟨gb286, 0, none⟩ = some (.string (⟨#[]⟩ : ByteArray)) := (blk_cell BK286.out 0).trans rfl; have hcz14_1 : w12.cell? ⟨gb286, 1, none⟩ = some (.string (⟨#[]⟩ : ByteArray)) := (blk_cell BK286.out 1).trans rfl; have hfz14_0 := blk_frozen BK286.out 0; have hfz14_1 := blk_frozen BK286.out 1; have hcz15_0 : w12.cell? ⟨gb284, 0, none⟩ = some (.int .i64 ((rd_T37 l0 x12_1).f0)) := (blk_cell BK284.out 0).trans rfl; have hcz15_1 : w12.cell? ⟨gb284, 1, none⟩ = some (.string ((rd_T37 l0 x12_1).f1)) := (blk_cell BK284.out 1).trans rfl; have hcz15_2 : w12.cell? ⟨gb284, 2, none⟩ = some (.string ((rd_T37 l0 x12_1).f2)) := (blk_cell BK284.out 2).trans rfl; have hfz15_0 := blk_frozen BK284.out 0; have hfz15_1 := blk_frozen BK284.out 1; have hfz15_2 := blk_frozen BK284.out 2))
                        go_roundg k2
                        case measure => have := HK1.out; have := HK2.out; omega
                        case rel => exact ⟨((rd_T48 l1 x18_2).f1), (wrap64 (x18_2 + 1)), (by first | rfl | (simp; done) | (simp [*]; done)), (by first | rfl | (simp; done) | (simp [*]; done)), H', ⟨by have := HK1.out; have := HK2.out; omega⟩, ⟨by (with_reducible repeat (first | refine blk_drewN ?_ _ | refine blk_drew ?_ | refine blk_alloc ?_ _)); refine blk_far ?_ NB284_286.out _; (with_reducible repeat (first | refine blk_drewN ?_ _ | refine blk_drew ?_ | refine blk_alloc ?_ _)); refine blk_far ?_ NB284_286.out _; (with_reducible repeat (first | refine blk_drewN ?_ _ | refine blk_drew ?_ | refine blk_alloc ?_ _)); exact BK284.out⟩, ⟨by repeat (first | (with_reducible first | exact HB.out | apply below_alloc | apply pw_below_drewN | apply below_drew1 | refine below_set ?_ GE284.out | refine below_set ?_ GE286.out) | exact HB.out)⟩⟩
                      · rw [if_neg c11] at H
                        have c11b0 : (((rd_T48 l1 x18_2).f0).toList == ((rd_T37 l0 x12_1).f1).toList) = false := beq_eq_false_iff_ne.mpr c11
                        have c11b1 : (((rd_T48 l1 x18_2).f0).toList != ((rd_T37 l0 x12_1).f1).toList) = true := bne_iff_ne.mpr c11
                        have H' := Aside0.mk H
                        clear H
                        have p285 : 0 ≤ (x18_2 : Int) := of_decide_eq_true (by first | (with_reducible assumption) | assumption)
                        have q285 : x18_2 < (l1.length : Int) := of_decide_eq_true (by first | (with_reducible assumption) | assumption)
                        obtain ⟨ad285, e285, hx285_0, hx285_1⟩ := at_T48 HR1.out x18_2 p285 q285
                        cases e285
                        replace hx285_0 := (HB.out.cell (World.block_lt_of_cell? w _ hx285_0)).trans hx285_0
                        replace hx285_1 := (HB.out.cell (World.block_lt_of_cell? w _ hx285_1)).trans hx285_1
                        replace p285 := eq_true p285
                        replace q285 := eq_true q285
                        go_wp2_with (first | ((with_reducible refine gate_dst (N := 9) rfl ?_); refine box_event ?hg (N := 9) ?hd (cs := #[.string (⟨#[]⟩ : ByteArray), .string (⟨#[]⟩ : ByteArray)]) (t := 48) ?hr ?_; (case hd => rfl); (case hg => rfl); (case hr => first | (go_simp; done) | (go_simp; rfl)); intro gb286 hg w16 hbox hb; have n0_ := Aside0.mk (blk_below (g := gb284) (o := .cells #[.int .i64 ((rd_T37 l0 x12_1).f0), .string ((rd_T37 l0 x12_1).f1), .string ((rd_T37 l0 x12_1).f2)] 37 (0, 0)) (by (with_reducible repeat (first | refine blk_drewN ?_ _ | refine blk_drew ?_ | refine blk_alloc ?_ _)); exact BK284.out) hb); have n1_ := Aside0.mk (below_step (by repeat (first | (with_reducible first | exact HB.out | apply below_alloc | apply pw_below_drewN | apply below_drew1 | refine below_set ?_ GE284.out) | exact HB.out)) hb); have n2_ := Aside0.mk (hbox); have n3_ := Aside0.mk ((by rw [hg]; exact (below_size (by repeat (first | (with_reducible first | exact HB.out | apply below_alloc | apply pw_below_drewN | apply below_drew1 | refine below_set ?_ GE284.out) | exact HB.out))) : w.heap.size ≤ gb286)); have n4_ := Aside0.mk ((by rw [hg]; exact (below_size (by repeat (first | (with_reducible first | exact HB.out | apply below_alloc | apply pw_below_drewN | apply below_drew1 | refine below_set ?_ GE284.out) | exact HB.out))) : w.heap.size ≤ gb286)); have n5_ := Aside0.mk ((by rw [hg]; exact Nat.ne_of_lt (blk_lt (g := gb284) (o := .cells #[.int .i64 ((rd_T37 l0 x12_1).f0), .string ((rd_T37 l0 x12_1).f1), .string ((rd_T37 l0 x12_1).f2)] 37 (0, 0)) (by (with_reducible repeat (first | refine blk_drewN ?_ _ | refine blk_drew ?_ | refine blk_alloc ?_ _)); exact BK284.out)) : gb284 ≠ gb286)); have n6_ := Aside0.mk ((by rw [hg]; exact Nat.ne_of_gt (blk_lt (g := gb284) (o := .cells #[.int .i64 ((rd_T37 l0 x12_1).f0), .string ((rd_T37 l0 x12_1).f1), .string ((rd_T37 l0 x12_1).f2)] 37 (0, 0)) (by (with_reducible repeat (first | refine blk_drewN ?_ _ | refine blk_drew ?_ | refine blk_alloc ?_ _)); exact BK284.out)) : gb286 ≠ gb284)); clear BK284; clear HB; have BK284 := n0_; have HB := n1_; have BK286 := n2_; have GW286 := n3_; have GE286 := n4_; have NB284_286 := n5_; have NB286_284 := n6_; clear n0_ n1_ n2_ n3_ n4_ n5_ n6_; clear hb hbox hg; have hnb17 := NB286_284.out; have hnc17 := NB284_286.out; have hcz18_0 : w16.cell? ⟨gb286, 0, none⟩ = some (.string (⟨#[]⟩ : ByteArray)) := (blk_cell BK286.out 0).trans rfl; have hcz18_1 : w16.cell? ⟨gb286, 1, none⟩ = some (.string (⟨#[]⟩ : ByteArray)) := (blk_cell BK286.out 1).trans rfl; have hfz18_0 := blk_frozen BK286.out 0; have hfz18_1 := blk_frozen BK286.out 1; have hcz19_0 : w16.cell? ⟨gb284, 0, none⟩ = some (.int .i64 ((rd_T37 l0 x12_1).f0)) := (blk_cell BK284.out 0).trans rfl; have hcz19_1 : w16.cell? ⟨gb284, 1, none⟩ = some (.string ((rd_T37 l0 x12_1).f1)) := (blk_cell BK284.out 1).trans rfl; have hcz19_2 : w16.cell? ⟨gb284, 2, none⟩ = some (.string ((rd_T37 l0 x12_1).f2)) := (blk_cell BK284.out 2).trans rfl; have hfz19_0 := blk_frozen BK284.out 0; have hfz19_1 := blk_frozen BK284.out 1; have hfz19_2 := blk_frozen BK284.out 2))
                        go_roundg k2
                        case measure => have := HK1.out; have := HK2.out; omega
                        case rel => exact ⟨(x7_2), (wrap64 (x18_2 + 1)), (by first | rfl | (simp; done) | (simp [*]; done)), (by first | rfl | (simp; done) | (simp [*]; done)), H', ⟨by have := HK1.out; have := HK2.out; omega⟩, ⟨by (with_reducible repeat (first | refine blk_drewN ?_ _ | refine blk_drew ?_ | refine blk_alloc ?_ _)); refine blk_far ?_ NB284_286.out _; (with_reducible repeat (first | refine blk_drewN ?_ _ | refine blk_drew ?_ | refine blk_alloc ?_ _)); refine blk_far ?_ NB284_286.out _; (with_reducible repeat (first | refine blk_drewN ?_ _ | refine blk_drew ?_ | refine blk_alloc ?_ _)); exact BK284.out⟩, ⟨by repeat (first | (with_reducible first | exact HB.out | apply below_alloc | apply pw_below_drewN | apply below_drew1 | refine below_set ?_ GE284.out | refine below_set ?_ GE286.out) | exact HB.out)⟩⟩
                    · rw [if_neg c10] at H
                      exact absurd H (by simp)
                  · rw [if_neg c9] at H
                    exact absurd H (by simp)
                · rw [if_neg c8] at H
                  have c8b0 : decide (x18_2 < (l1.length : Int)) = false := decide_eq_false c8
                  clear c8
                  by_cases c20 : ((x7_2.toList == ((rd_T37 l0 x12_1).f2).toList) != (((rd_T37 l0 x12_1).f0) == 0)) = true
                  · rw [if_pos c20] at H
                    have c20b0 : ((x7_2.toList == ((rd_T37 l0 x12_1).f2).toList) != (((rd_T37 l0 x12_1).f0) == 0)) = true := c20
                    (try (have c20b1 : decide ((x7_2.toList == ((rd_T37 l0 x12_1).f2).toList) = (((rd_T37 l0 x12_1).f0) == 0)) = false := by simpa using c20))
                    (try (have c20b2 : ((x7_2.toList == ((rd_T37 l0 x12_1).f2).toList) == (((rd_T37 l0 x12_1).f0) == 0)) = false := by simpa using c20))
                    (try (have c20b3 : ¬ ((x7_2.toList == ((rd_T37 l0 x12_1).f2).toList) = (((rd_T37 l0 x12_1).f0) == 0)) := by simpa using c20))
                    clear c20
                    obtain rfl := Option.some.inj H
                    have hcz21_0 : wr.cell? ⟨gb284, 0, none⟩ = some (.int .i64 ((rd_T37 l0 x12_1).f0)) := (blk_cell BK284.out 0).trans rfl
                    have hcz21_1 : wr.cell? ⟨gb284, 1, none⟩ = some (.string ((rd_T37 l0 x12_1).f1)) := (blk_cell BK284.out 1).trans rfl
                    have hcz21_2 : wr.cell? ⟨gb284, 2, none⟩ = some (.string ((rd_T37 l0 x12_1).f2)) := (blk_cell BK284.out 2).trans rfl
                    have hfz21_0 := blk_frozen BK284.out 0
                    have hfz21_1 := blk_frozen BK284.out 1
                    have hfz21_2 := blk_frozen BK284.out 2
                    go_wp2
                    go_ret
                    exact ⟨by first | rfl | (simp [errW_none, errW_some] <;> rfl) | (simp [*, errW_none, errW_some] <;> rfl), by repeat (first | (with_reducible first | exact HB.out | apply below_alloc | apply pw_below_drewN | apply below_drew1 | refine below_set ?_ GE284.out) | exact HB.out)⟩
                  · rw [if_neg c20] at H
                    have c20b0 : ((x7_2.toList == ((rd_T37 l0 x12_1).f2).toList) != (((rd_T37 l0 x12_1).f0) == 0)) = false := by simpa using c20
                    (try (have c20b1 : decide ((x7_2.toList == ((rd_T37 l0 x12_1).f2).toList) = (((rd_T37 l0 x12_1).f0) == 0)) = true := by simpa using c20))
                    (try (have c20b2 : ((x7_2.toList == ((rd_T37 l0 x12_1).f2).toList) == (((rd_T37 l0 x12_1).f0) == 0)) = true := by simpa using c20))
                    clear c20
                    have H' := Aside0.mk H
                    clear H
                    have hcz22_0 : wr.cell? ⟨gb284, 0, none⟩ = some (.int .i64 ((rd_T37 l0 x12_1).f0)) := (blk_cell BK284.out 0).trans rfl
                    have hcz22_1 : wr.cell? ⟨gb284, 1, none⟩ = some (.string ((rd_T37 l0 x12_1).f1)) := (blk_cell BK284.out 1).trans rfl
                    have hcz22_2 : wr.cell? ⟨gb284, 2, none⟩ = some (.string ((rd_T37 l0 x12_1).f2)) := (blk_cell BK284.out 2).trans rfl
                    have hfz22_0 := blk_frozen BK284.out 0
                    have hfz22_1 := blk_frozen BK284.out 1
                    have hfz22_2 := blk_frozen BK284.out 2
                    go_wp2
                    go_roundg k2
                    case measure => have := HK1.out; have := HK2.out; omega
                    case rel => exact ⟨(wrap64 (x12_1 + 1)), (by first | rfl | (simp; done) | (simp [*]; done)), H', ⟨by have := HK1.out; have := HK2.out; omega⟩, ⟨by repeat (first | (with_reducible first | exact HB.out | apply below_alloc | apply pw_below_drewN | apply below_drew1 | refine below_set ?_ GE284.out) | exact HB.out)⟩⟩
          · rw [if_neg c5] at H
            exact absurd H (by simp)
        · rw [if_neg c4] at H
          exact absurd H (by simp)
      · rw [if_neg c3] at H
        have c3b0 : decide (x12_1 < (l0.length : Int)) = false := decide_eq_false c3
        clear c3
        obtain rfl := Option.some.inj H
        go_wp2
        go_ret
        exact ⟨by first | rfl | (simp [errW_none, errW_some] <;> rfl) | (simp [*, errW_none, errW_some] <;> rfl), by repeat (first | (with_reducible first | exact HB.out | apply below_alloc | apply pw_below_drewN | apply below_drew1) | exact HB.out)⟩

/-! ### spec_MatchValue: function 59 -/
def spec_MatchValue.j0 : Nat → ByteArray → Bool → Int → ByteArray → ByteArray → Option (Int)
  | 0, _, _, _, _, _ => none
  | k + 1, x1, x12, x288000, x288001, x288002 => if x12 = true then (some 2) else (if ((x288002.toList == x1.toList) == (x288000 == 0)) = true then (some 1) else (some 0))
def spec_MatchValue.f (k : Nat) (a0_0 : Int) (a0_1 : ByteArray) (a0_2 : ByteArray) (a1 : ByteArray) : Option (Int) := if a0_0 = 0 then (spec_MatchValue.j0 k a1 false a0_0 a0_1 a0_2) else (spec_MatchValue.j0 k a1 (a0_0 != 1) a0_0 a0_1 a0_2)
theorem spec_MatchValue.mono_l : ∀ k, (∀ y0 y1 y2 y3 y4, LeO (spec_MatchValue.j0 k y0 y1 y2 y3 y4) (spec_MatchValue.j0 (k + 1) y0 y1 y2 y3 y4))
  | 0 => fun _ _ _ _ _ r h => by simp [spec_MatchValue.j0] at h
  | k + 1 => by
    have ih0 := spec_MatchValue.mono_l k
    · intro y0 y1 y2 y3 y4
      unfold spec_MatchValue.j0
      repeat' first
      | (with_reducible exact ih0 _ _ _ _ _)
      | (with_reducible exact LeO.refl _)
      | (with_reducible exact LeO.none _)
      | (with_reducible refine LeO.ite ?_ ?_)
      | (with_reducible refine LeO.bind ?_ (fun _ => ?_))
      | exact ih0 _ _ _ _ _
      | exact LeO.none _
      | refine LeO.ite ?_ ?_
      | refine LeO.bind ?_ (fun _ => ?_)
theorem spec_MatchValue.mono : ∀ a0 a1 a2 a3 k, LeO (spec_MatchValue.f k a0 a1 a2 a3) (spec_MatchValue.f (k + 1) a0 a1 a2 a3) := by
  intro a0 a1 a2 a3 k
  have ih0 := spec_MatchValue.mono_l k
  unfold spec_MatchValue.f
  repeat' first
      | (with_reducible exact ih0 _ _ _ _ _)
      | (with_reducible exact LeO.refl _)
      | (with_reducible exact LeO.none _)
      | (with_reducible refine LeO.ite ?_ ?_)
      | (with_reducible refine LeO.bind ?_ (fun _ => ?_))
      | exact ih0 _ _ _ _ _
      | exact LeO.none _
      | refine LeO.ite ?_ ?_
      | refine LeO.bind ?_ (fun _ => ?_)
set_option maxHeartbeats 8000000 in
set_option maxRecDepth 100000 in
theorem spec_MatchValue.calls (k : Nat) (a0_0 : Int) (a0_1 : ByteArray) (a0_2 : ByteArray) (a1 : ByteArray) (r : Int) (w : World) (h : spec_MatchValue.f k a0_0 a0_1 a0_2 a1 = some r) :
    Calls Try.prog 59 #[.agg #[.int .i64 a0_0, .string a0_1, .string a0_2], .string a1] w fun e w' => e = .returned (.int .i64 r) ∧ Below w.heap.size w w' := by
  have hu40 := Try.underlying40
  have HB := Aside0.mk (Below.refl w.heap.size w)
  have H : (if a0_0 = 0 then (spec_MatchValue.j0 k a1 false a0_0 a0_1 a0_2) else (spec_MatchValue.j0 k a1 (a0_0 != 1) a0_0 a0_1 a0_2)) = some r := h
  clear h
  have HC3 := Aside0.mk H
  clear H
  go_enter Try.func59, Try.ntmps59
  go_upto_region 1 with (first | ((with_reducible refine gate_dst (N := 2) rfl ?_); refine box_event ?hg (N := 2) ?hd (cs := #[.int .i64 a0_0, .string a0_1, .string a0_2]) (t := 40) ?hr ?_; (case hd => rfl); (case hg => rfl); (case hr => first | (go_simp; done) | (go_simp; rfl)); intro gb287 hg w4 hbox hb; have n0_ := Aside0.mk (below_step (by repeat (first | (with_reducible first | exact HB.out | apply below_alloc | apply pw_below_drewN | apply below_drew1) | exact HB.out)) hb); have n1_ := Aside0.mk (hbox); have n2_ := Aside0.mk ((by rw [hg]; exact (below_size (by repeat (first | (with_reducible first | exact HB.out | apply below_alloc | apply pw_below_drewN | apply below_drew1) | exact HB.out))) : w.heap.size ≤ gb287)); have n3_ := Aside0.mk ((by rw [hg]; exact (below_size (by repeat (first | (with_reducible first | exact HB.out | apply below_alloc | apply pw_below_drewN | apply below_drew1) | exact HB.out))) : w.heap.size ≤ gb287)); clear HB; have HB := n0_; have BK287 := n1_; have GW287 := n2_; have GE287 := n3_; clear n0_ n1_ n2_ n3_; clear hb hbox hg))
  (try simp only [Act.put, List.setIfInBounds_toArray, List.set_cons_zero, List.set_cons_succ])
  go_cut [12] (fun v12 wc => ∃ (kq : Nat) (x12_2 : Bool), v12 = .bool x12_2 ∧ Aside0 (spec_MatchValue.j0 kq a1 x12_2 a0_0 a0_1 a0_2 = some r) ∧ Aside0 (kq ≤ k) ∧ Aside0 (wc.heap[gb287]? = some (.cells #[.int .i64 a0_0, .string a0_1, .string a0_2] 40 (0, 0))) ∧ Aside0 (Below w.heap.size w wc))
  case first =>
    have H := HC3.out
    clear HC3
    by_cases c5 : a0_0 = 0
    · rw [if_pos c5] at H
      have c5b0 : (a0_0 == 0) = true := beq_iff_eq.mpr c5
      have c5b1 : (a0_0 != 0) = false := bne_eq_false_iff_eq.mpr c5
      clear c5
      (first | rw [c5b0] | (simp only [i64_w, i32_w]; rw [c5b0]) | skip)
      have H' := Aside0.mk H
      clear H
      have hcz6_0 : w4.cell? ⟨gb287, 0, none⟩ = some (.int .i64 a0_0) := (blk_cell BK287.out 0).trans rfl
      have hcz6_1 : w4.cell? ⟨gb287, 1, none⟩ = some (.string a0_1) := (blk_cell BK287.out 1).trans rfl
      have hcz6_2 : w4.cell? ⟨gb287, 2, none⟩ = some (.string a0_2) := (blk_cell BK287.out 2).trans rfl
      have hfz6_0 := blk_frozen BK287.out 0
      have hfz6_1 := blk_frozen BK287.out 1
      have hfz6_2 := blk_frozen BK287.out 2
      go_wp2
      go_meet
      case rel => exact ⟨_, (false), (by first | rfl | (simp; done) | (simp [*]; done)), H', ⟨by first | omega | exact Nat.le_refl _⟩, ⟨by (with_reducible repeat (first | refine blk_drewN ?_ _ | refine blk_drew ?_ | refine blk_alloc ?_ _)); exact BK287.out⟩, ⟨by repeat (first | (with_reducible first | exact HB.out | apply below_alloc | apply pw_below_drewN | apply below_drew1 | refine below_set ?_ GE287.out) | exact HB.out)⟩⟩
    · rw [if_neg c5] at H
      have c5b0 : (a0_0 == 0) = false := beq_eq_false_iff_ne.mpr c5
      have c5b1 : (a0_0 != 0) = true := bne_iff_ne.mpr c5
      (first | rw [c5b0] | (simp only [i64_w, i32_w]; rw [c5b0]) | skip)
      have H' := Aside0.mk H
      clear H
      have hcz7_0 : w4.cell? ⟨gb287, 0, none⟩ = some (.int .i64 a0_0) := (blk_cell BK287.out 0).trans rfl
      have hcz7_1 : w4.cell? ⟨gb287, 1, none⟩ = some (.string a0_1) := (blk_cell BK287.out 1).trans rfl
      have hcz7_2 : w4.cell? ⟨gb287, 2, none⟩ = some (.string a0_2) := (blk_cell BK287.out 2).trans rfl
      have hfz7_0 := blk_frozen BK287.out 0
      have hfz7_1 := blk_frozen BK287.out 1
      have hfz7_2 := blk_frozen BK287.out 2
      go_wp2
      go_meet
      case rel => exact ⟨_, ((a0_0 != 1)), (by first | rfl | (simp; done) | (simp [*]; done)), H', ⟨by first | omega | exact Nat.le_refl _⟩, ⟨by (with_reducible repeat (first | refine blk_drewN ?_ _ | refine blk_drew ?_ | refine blk_alloc ?_ _)); exact BK287.out⟩, ⟨by repeat (first | (with_reducible first | exact HB.out | apply below_alloc | apply pw_below_drewN | apply below_drew1 | refine below_set ?_ GE287.out) | exact HB.out)⟩⟩
  case rest =>
    clear HC3
    try clear p2
    try clear c5
    try clear c5b0
    try clear c5b1
    try clear hcz6_0
    try clear hcz6_1
    try clear hcz6_2
    try clear hcz7_0
    try clear hcz7_1
    try clear hcz7_2
    try clear hfz6_0
    try clear hfz6_1
    try clear hfz6_2
    try clear hfz7_0
    try clear hfz7_1
    try clear hfz7_2
    obtain ⟨kq, x12_2, rfl, HA, HJ2, BK287, HB⟩ := hcut
    cases kq with
    | zero => exact absurd HA.out (by simp [spec_MatchValue.j0])
    | succ kj2 =>
      have H := HA.out
      clear HA
      simp only [spec_MatchValue.j0] at H
      by_cases c8 : x12_2 = true
      · subst c8
        have H1 : (some 2) = some r := by rw [if_pos rfl] at H; exact H
        clear H
        have H := H1
        clear H1
        obtain rfl := Option.some.inj H
        go_wp2
        go_ret
        exact ⟨by first | rfl | (simp [errW_none, errW_some] <;> rfl) | (simp [*, errW_none, errW_some] <;> rfl), by repeat (first | (with_reducible first | exact HB.out | apply below_alloc | apply pw_below_drewN | apply below_drew1 | refine below_set ?_ GE287.out) | exact HB.out)⟩
      · replace c8 := Bool.eq_false_iff.mpr c8
        subst c8
        have H1 : (if ((a0_2.toList == a1.toList) == (a0_0 == 0)) = true then (some 1) else (some 0)) = some r := by rw [if_neg (show ¬ (false = true) by decide)] at H; exact H
        clear H
        have H := H1
        clear H1
        by_cases c9 : ((a0_2.toList == a1.toList) == (a0_0 == 0)) = true
        · rw [if_pos c9] at H
          have c9b0 : ((a0_2.toList == a1.toList) == (a0_0 == 0)) = true := c9
          (try (have c9b1 : decide ((a0_2.toList == a1.toList) = (a0_0 == 0)) = true := by simpa using c9))
          (try (have c9b2 : ((a0_2.toList == a1.toList) == (a0_0 == 0)) = true := by simpa using c9))
          clear c9
          obtain rfl := Option.some.inj H
          have hcz10_0 : wc.cell? ⟨gb287, 0, none⟩ = some (.int .i64 a0_0) := (blk_cell BK287.out 0).trans rfl
          have hcz10_1 : wc.cell? ⟨gb287, 1, none⟩ = some (.string a0_1) := (blk_cell BK287.out 1).trans rfl
          have hcz10_2 : wc.cell? ⟨gb287, 2, none⟩ = some (.string a0_2) := (blk_cell BK287.out 2).trans rfl
          have hfz10_0 := blk_frozen BK287.out 0
          have hfz10_1 := blk_frozen BK287.out 1
          have hfz10_2 := blk_frozen BK287.out 2
          go_wp2
          go_ret
          exact ⟨by first | rfl | (simp [errW_none, errW_some] <;> rfl) | (simp [*, errW_none, errW_some] <;> rfl), by repeat (first | (with_reducible first | exact HB.out | apply below_alloc | apply pw_below_drewN | apply below_drew1 | refine below_set ?_ GE287.out) | exact HB.out)⟩
        · rw [if_neg c9] at H
          have c9b0 : ((a0_2.toList == a1.toList) == (a0_0 == 0)) = false := by simpa using c9
          (try (have c9b1 : decide ((a0_2.toList == a1.toList) = (a0_0 == 0)) = false := by simpa using c9))
          (try (have c9b2 : ((a0_2.toList == a1.toList) == (a0_0 == 0)) = false := by simpa using c9))
          (try (have c9b3 : ¬ ((a0_2.toList == a1.toList) = (a0_0 == 0)) := by simpa using c9))
          clear c9
          obtain rfl := Option.some.inj H
          have hcz11_0 : wc.cell? ⟨gb287, 0, none⟩ = some (.int .i64 a0_0) := (blk_cell BK287.out 0).trans rfl
          have hcz11_1 : wc.cell? ⟨gb287, 1, none⟩ = some (.string a0_1) := (blk_cell BK287.out 1).trans rfl
          have hcz11_2 : wc.cell? ⟨gb287, 2, none⟩ = some (.string a0_2) := (blk_cell BK287.out 2).trans rfl
          have hfz11_0 := blk_frozen BK287.out 0
          have hfz11_1 := blk_frozen BK287.out 1
          have hfz11_2 := blk_frozen BK287.out 2
          go_wp2
          go_ret
          exact ⟨by first | rfl | (simp [errW_none, errW_some] <;> rfl) | (simp [*, errW_none, errW_some] <;> rfl), by repeat (first | (with_reducible first | exact HB.out | apply below_alloc | apply pw_below_drewN | apply below_drew1 | refine below_set ?_ GE287.out) | exact HB.out)⟩

/-! ### spec_Value: function 60 -/
def spec_Value.l0 : Nat → List (S50) → ByteArray → ByteArray → Int → Int → Option (ByteArray)
  | 0, _, _, _, _, _ => none
  | k + 1, x0, x1, x5, x8, x9 => if x9 < x8 then (if 0 ≤ x9 then (if x9 < (x0.length : Int) then (if ((rd_T50 x0 x9).f0).toList = x1.toList then (spec_Value.l0 k x0 x1 ((rd_T50 x0 x9).f1) x8 (wrap64 (x9 + 1))) else (spec_Value.l0 k x0 x1 x5 x8 (wrap64 (x9 + 1)))) else (none)) else (none)) else (some x5)
def spec_Value.f (k : Nat) (l0 : List (S50)) (a1 : ByteArray) : Option (ByteArray) := spec_Value.l0 k l0 a1 (⟨#[]⟩ : ByteArray) (l0.length : Int) 0
theorem spec_Value.mono_l : ∀ k, (∀ y0 y1 y2 y3 y4, LeO (spec_Value.l0 k y0 y1 y2 y3 y4) (spec_Value.l0 (k + 1) y0 y1 y2 y3 y4))
  | 0 => fun _ _ _ _ _ r h => by simp [spec_Value.l0] at h
  | k + 1 => by
    have ih0 := spec_Value.mono_l k
    · intro y0 y1 y2 y3 y4
      unfold spec_Value.l0
      repeat' first
      | (with_reducible exact ih0 _ _ _ _ _)
      | (with_reducible exact LeO.refl _)
      | (with_reducible exact LeO.none _)
      | (with_reducible refine LeO.ite ?_ ?_)
      | (with_reducible refine LeO.bind ?_ (fun _ => ?_))
      | exact ih0 _ _ _ _ _
      | exact LeO.none _
      | refine LeO.ite ?_ ?_
      | refine LeO.bind ?_ (fun _ => ?_)
theorem spec_Value.mono : ∀ a0 a1 k, LeO (spec_Value.f k a0 a1) (spec_Value.f (k + 1) a0 a1) := by
  intro a0 a1 k
  have ih0 := spec_Value.mono_l k
  unfold spec_Value.f
  repeat' first
      | (with_reducible exact ih0 _ _ _ _ _)
      | (with_reducible exact LeO.refl _)
      | (with_reducible exact LeO.none _)
      | (with_reducible refine LeO.ite ?_ ?_)
      | (with_reducible refine LeO.bind ?_ (fun _ => ?_))
      | exact ih0 _ _ _ _ _
      | exact LeO.none _
      | refine LeO.ite ?_ ?_
      | refine LeO.bind ?_ (fun _ => ?_)
set_option maxHeartbeats 8000000 in
set_option maxRecDepth 100000 in
theorem spec_Value.calls (k : Nat) (A0 : Option Addr) (c0 : Nat) (l0 : List (S50)) (a1 : ByteArray) (r : ByteArray) (w : World) (hr0 : Kd.C k50 w A0 l0.length l0) (hc0 : l0.length ≤ c0) (h : spec_Value.f k l0 a1 = some r) :
    Calls Try.prog 60 #[.slice A0 l0.length c0, .string a1] w fun e w' => e = .returned (.string r) ∧ Drawn0 w w' := by
  have HR0 := Aside0.mk hr0
  have HC0 := Aside0.mk hc0
  clear hr0 hc0
  have H : (spec_Value.l0 k l0 a1 (⟨#[]⟩ : ByteArray) (l0.length : Int) 0) = some r := h
  clear h
  have H' := Aside0.mk H
  clear H
  go_enter Try.func60, Try.ntmps60
  go_wp2
  go_loopg [5, 9] k (fun kq v5 v9 w' => ∃ (x5_1 : ByteArray) (x9_1 : Int), v5 = .string x5_1 ∧ v9 = .int .i64 x9_1 ∧ Aside0 (spec_Value.l0 kq l0 a1 x5_1 (l0.length : Int) x9_1 = some r) ∧ Aside0 (kq ≤ k) ∧ Drawn0 w w')
  case atStart => exact ⟨((⟨#[]⟩ : ByteArray)), (0), (by first | rfl | (simp; done) | (simp [*]; done)), (by first | rfl | (simp; done) | (simp [*]; done)), H', ⟨Nat.le_refl _⟩, by repeat (first | exact Drawn0.refl _ | apply Drawn0.step)⟩
  case round =>
    clear H'
    try clear p2
    obtain ⟨x5_1, x9_1, rfl, rfl, HA, HK1, ⟨m1, rfl⟩⟩ := hrel
    cases gk with
    | zero => exact absurd HA.out (by simp [spec_Value.l0])
    | succ k1 =>
      have H := HA.out
      clear HA
      simp only [spec_Value.l0] at H
      by_cases c3 : x9_1 < (l0.length : Int)
      · rw [if_pos c3] at H
        have c3b0 : decide (x9_1 < (l0.length : Int)) = true := decide_eq_true c3
        clear c3
        by_cases c4 : 0 ≤ x9_1
        · rw [if_pos c4] at H
          have c4b0 : decide (0 ≤ x9_1) = true := decide_eq_true c4
          clear c4
          by_cases c5 : x9_1 < (l0.length : Int)
          · rw [if_pos c5] at H
            have c5b0 : decide (x9_1 < (l0.length : Int)) = true := decide_eq_true c5
            clear c5
            by_cases c6 : ((rd_T50 l0 x9_1).f0).toList = a1.toList
            · rw [if_pos c6] at H
              have c6b0 : (((rd_T50 l0 x9_1).f0).toList == a1.toList) = true := beq_iff_eq.mpr c6
              have c6b1 : (((rd_T50 l0 x9_1).f0).toList != a1.toList) = false := bne_eq_false_iff_eq.mpr c6
              clear c6
              have H' := Aside0.mk H
              clear H
              have p288 : 0 ≤ (x9_1 : Int) := of_decide_eq_true (by first | (with_reducible assumption) | assumption)
              have q288 : x9_1 < (l0.length : Int) := of_decide_eq_true (by first | (with_reducible assumption) | assumption)
              obtain ⟨ad288, e288, hx288_0, hx288_1⟩ := at_T50 HR0.out x9_1 p288 q288
              cases e288
              replace p288 := eq_true p288
              replace q288 := eq_true q288
              have p289 : 0 ≤ (x9_1 : Int) := of_decide_eq_true (by first | (with_reducible assumption) | assumption)
              have q289 : x9_1 < (l0.length : Int) := of_decide_eq_true (by first | (with_reducible assumption) | assumption)
              obtain ⟨ad289, e289, hx289_0, hx289_1⟩ := at_T50 HR0.out x9_1 p289 q289
              obtain rfl : ad288 = ad289 := (by injection e289)
              replace p289 := eq_true p289
              replace q289 := eq_true q289
              go_wp2
              go_roundg k1
              case measure => have := HK1.out; omega
              case rel => exact ⟨((rd_T50 l0 x9_1).f1), (wrap64 (x9_1 + 1)), (by first | rfl | (simp; done) | (simp [*]; done)), (by first | rfl | (simp; done) | (simp [*]; done)), H', ⟨by have := HK1.out; omega⟩, by repeat (first | exact Drawn0.refl _ | apply Drawn0.step)⟩
            · rw [if_neg c6] at H
              have c6b0 : (((rd_T50 l0 x9_1).f0).toList == a1.toList) = false := beq_eq_false_iff_ne.mpr c6
              have c6b1 : (((rd_T50 l0 x9_1).f0).toList != a1.toList) = true := bne_iff_ne.mpr c6
              have H' := Aside0.mk H
              clear H
              have p288 : 0 ≤ (x9_1 : Int) := of_decide_eq_true (by first | (with_reducible assumption) | assumption)
              have q288 : x9_1 < (l0.length : Int) := of_decide_eq_true (by first | (with_reducible assumption) | assumption)
              obtain ⟨ad288, e288, hx288_0, hx288_1⟩ := at_T50 HR0.out x9_1 p288 q288
              cases e288
              replace p288 := eq_true p288
              replace q288 := eq_true q288
              go_wp2
              go_roundg k1
              case measure => have := HK1.out; omega
              case rel => exact ⟨(x5_1), (wrap64 (x9_1 + 1)), (by first | rfl | (simp; done) | (simp [*]; done)), (by first | rfl | (simp; done) | (simp [*]; done)), H', ⟨by have := HK1.out; omega⟩, by repeat (first | exact Drawn0.refl _ | apply Drawn0.step)⟩
          · rw [if_neg c5] at H
            exact absurd H (by simp)
        · rw [if_neg c4] at H
          exact absurd H (by simp)
      · rw [if_neg c3] at H
        have c3b0 : decide (x9_1 < (l0.length : Int)) = false := decide_eq_false c3
        clear c3
        obtain rfl := Option.some.inj H
        go_wp2
        go_ret
        exact ⟨by first | rfl | (simp; done) | (simp [*]; done), by repeat (first | exact Drawn0.refl _ | apply Drawn0.step)⟩

end Go.Proofs.Ytbffhefeepmpcaa.Q
