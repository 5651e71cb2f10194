-- printed by this project's own program wip/tools/mkprint.py (the kit's print.py with hand-proved contracts put in)
import Derived.Test.YtbffcmiabcmjcaaQx0
import Derived.Test.YtbffcmiabcmjcaaQx1
namespace Go.Proofs.Ytbffcmiabcmjcaa.Q
open Go.RowKit Go.Proofs.YtbffcmiabcmjcaaW.PrintWords Go.Proofs.YtbffcmiabcmjcaaW.PrintLast Go.Proofs.YtbffcmiabcmjcaaW.PrintMore
attribute [local go_sem] max2_int min2_int max_two min_two max_three min_three max_four min_four   -- for this text's walks alone
set_option linter.unusedVariables false
set_option linter.unusedSimpArgs false

/-! ### model_LabelSet_Before: function 44 -/
-- contracts that were proved by hand
theorem R_lt {α : Type} {kd : Kd α} {e : TypeId} {w : World} {base : Nat} {P : Nat → Prop} {v : Value} {xs : List α} (h : Kd.R kd e w base P v xs) : Kd.R kd e w base (fun j => j < w.heap.size) v xs := by
  exact Kd.R_mono (Kd.R_bound h) (fun k hk => hk.2.2.1)
theorem sortB_sorted (l : List ByteArray) : (sortB l).Pairwise fun x y => decide (x.data.toList ≤ y.data.toList) = true :=
  List.pairwise_mergeSort (le := fun x y : ByteArray => decide (x.data.toList ≤ y.data.toList)) (fun a b c h1 h2 => decide_eq_true (List.le_trans (of_decide_eq_true h1) (of_decide_eq_true h2))) (fun a b => by rcases List.le_total a.data.toList b.data.toList with h | h <;> simp [h]) l
theorem sortB_congr {a b : List ByteArray} (h : a.Perm b) : sortB a = sortB b :=
  List.Perm.eq_of_pairwise (le := fun x y => decide (x.data.toList ≤ y.data.toList) = true) (fun x y _ _ h1 h2 => MapsS.ba_ext (List.le_antisymm (of_decide_eq_true h1) (of_decide_eq_true h2))) (sortB_sorted a) (sortB_sorted b) ((sortB_perm a).trans (h.trans (sortB_perm b).symm))
theorem sortB_up (l : List ByteArray) : MapsS.Up (sortB l) := by
  refine List.Pairwise.imp (fun {p q} hpq => ?_) (sortB_sorted l)
  have h := of_decide_eq_true hpq
  rw [Pure.less_eq, ← Lib.toList_data, ← Lib.toList_data] at *
  exact decide_eq_false (List.not_lt.2 h)
/-- The names of both, sorted. -/
def bothNames (m1 m2 : MapsS.SM) : List ByteArray := sortB (m1.map (·.1) ++ m2.map (·.1))
def befS (m1 m2 : MapsS.SM) : Bool := if m1.length < m2.length then true else if m2.length < m1.length then false else MapsS.befL m1 m2 (bothNames m1 m2)
theorem mem_bothNames {m1 m2 : MapsS.SM} {k : ByteArray} (h : k ∈ bothNames m1 m2) : k ∈ m1.map (·.1) ∨ k ∈ m2.map (·.1) := List.mem_append.1 ((sortB_perm _).mem_iff.1 h)
theorem infoLN : (Try.prog.info? 79).map (fun i => (i.zero, i.size, i.bytes)) = some (some (.string ⟨#[]⟩), 1, 16) := by kernel_rfl
theorem R_startN {w : World} {base e : Nat} {v : Value} {P : Nat → Prop} (h : w.ownsRow base e 1 v 0 []) (hp : ∀ k, v.ownBlock = some k → P k) : Kd.R Kd.string e w base P v [] := ⟨hp, [], h, by simp [Reps]⟩
set_option maxHeartbeats 6400000 in
set_option maxRecDepth 100000 in
theorem model_LabelSet_Before.calls (b1 n1 b2 n2 : Nat) (m1 m2 : MapsS.SM) (w : World) (h1 : LSet w b1 n1 m1) (h2 : LSet w b2 n2 m2) (hl1 : m1.length ≤ 1000000000) (hl2 : m2.length ≤ 1000000000) :
    Calls Try.prog 44 #[.map (some b1), .map (some b2)] w fun e w' => e = .returned (.bool (befS m1 m2)) ∧ Below w.heap.size w w' := by
  have e1 := fun ty => h1.len_run Try.underlying56 ty
  have e2 := fun ty => h2.len_run Try.underlying56 ty
  have HL1 := Aside0.mk h1.lt
  have HL2 := Aside0.mk h2.lt
  have H1 := Aside0.mk h1
  have H2 := Aside0.mk h2
  clear h1 h2
  by_cases hlt : m1.length < m2.length
  · have hq : befS m1 m2 = true := by unfold befS; rw [if_pos hlt]
    rw [hq]
    clear hq
    go_enter Try.func44, Try.ntmps44
    go_wp2
    go_ret
    exact ⟨rfl, Below.refl _ _⟩
  by_cases hgt : m2.length < m1.length
  · have hq : befS m1 m2 = false := by unfold befS; rw [if_neg hlt, if_pos hgt]
    rw [hq]
    clear hq
    go_enter Try.func44, Try.ntmps44
    go_wp2
    go_ret
    exact ⟨rfl, Below.refl _ _⟩
  obtain ⟨q, hq⟩ : ∃ q, MapsS.befL m1 m2 (bothNames m1 m2) = q := ⟨_, rfl⟩
  have hb : befS m1 m2 = q := by unfold befS; rw [if_neg hlt, if_neg hgt, hq]
  rw [hb]
  clear hb
  have HQ := Aside0.mk hq
  clear hq
  obtain ⟨i0, hi, hz0, hz1, hz2⟩ := info_parts infoLN
  have HB2 := Aside0.mk (show i0.bytes * (m1.length + m2.length) ≤ 281474976710656 by rw [hz2]; omega)
  have HI := Aside0.mk hi
  have HZ0 := Aside0.mk hz0
  have HZ1 := Aside0.mk hz1
  have HM := Aside0.mk (show m1.length + m2.length ≤ maxLen by unfold maxLen; omega)
  clear hi hz0 hz1 hz2
  go_enter Try.func44, Try.ntmps44
  go_wp2_with (first | (at_make; refine wpList_make_own _ rfl _ _ 96 rfl w.heap.size 79 i0 (.string ⟨#[]⟩) 1 Try.underlying96 HI.out HZ0.out HZ1.out _ _ _ (m1.length + m2.length) rfl rfl (by omega) HB2.out HM.out (Nat.le_refl _) ?_; intro w1 hown hg; have HO1 := Aside0.mk (R_startN (P := fun k => k < w1.heap.size) hown (fun k hk => (hown.lt k hk).2)); have HB1 := Aside0.mk (pw_below_grown (Below.refl w.heap.size w) none (Nat.le_refl _) hg (by simp)); clear hown hg) | (at_range; refine MapsS.wpList_range_sm (t := 56) rfl _ rfl Try.underlying56 Try.underlying79 rfl (H1.out.below HB1.out) ?_; intro w2 r hr hR hg hsz; have HR := Aside0.mk hR; have HG := Aside0.mk (show r = w1.heap.size from hr); have HO2 := Aside0.mk (Kd.R_mono (Kd.R_grown HO1.out hg (fun k hk e => by cases e)) (fun k hk => show k ≠ r by omega)); have HB2 := Aside0.mk (pw_below_grown HB1.out none (below_size HB1.out) hg (by simp)); have HZ := Aside0.mk (show r < w2.heap.size by omega); clear hr hR hg hsz HO1))
  go_frame
  clear e1 e2
  go_loopw [5, 31] (fun v5 _ wr => ∃ seen : MapsS.SM, Aside0 (Kd.R Kd.string 79 wr w.heap.size (fun k => k ≠ r) v5 (seen.map (·.1))) ∧ Aside0 (MapsS.RSM Try.prog 79 91 wr b1 r n1 m1 seen) ∧ Aside0 (Below w.heap.size w wr) ∧ Aside0 (r < wr.heap.size)) (fun _ _ wr => wr.rangeLeft b1 r)
  case atStart => exact ⟨[], HO2, HR, HB2, HZ⟩
  case round =>
    clear HR HB2 HZ HO2
    obtain ⟨seen, HO, HR, HB, HZ⟩ := hrel
    go_wp2_with (at_next; refine MapsS.wpList_next_sm rfl _ rfl Try.underlying79 Try.underlying91 rfl HR.out ?_ ?_)
    · intro hp
      have HP := Aside0.mk (hp.map (·.1))
      have HN := Aside0.mk (show (seen.map (·.1)).length = m1.length by rw [List.length_map, hp.length_eq])
      clear hp HR
      go_wp2_with (at_range; refine MapsS.wpList_range_sm (t := 56) rfl _ rfl Try.underlying56 Try.underlying79 rfl (H2.out.below HB.out) ?_; intro w5 r5 hr hR hg hsz; have HR5 := Aside0.mk hR; have HG5 := Aside0.mk (show w.heap.size ≤ r5 by rw [hr]; exact below_size HB.out); have HO5 := Aside0.mk (Kd.R_mono (Kd.R_grown (R_lt HO.out) hg (fun k hk e => by cases e)) (fun k hk => show k ≠ r5 by omega)); have HB5 := Aside0.mk (pw_below_grown HB.out none (below_size HB.out) hg (by simp)); have HZ5 := Aside0.mk (show r5 < w5.heap.size by omega); clear hr hR hg hsz HO HB HZ)
      go_frame
      go_loopw [5, 41] (fun v5 _ wr => ∃ seen2 : MapsS.SM, Aside0 (Kd.R Kd.string 79 wr w.heap.size (fun k => k ≠ r5) v5 (seen.map (·.1) ++ seen2.map (·.1))) ∧ Aside0 (MapsS.RSM Try.prog 79 91 wr b2 r5 n2 m2 seen2) ∧ Aside0 (Below w.heap.size w wr) ∧ Aside0 (r5 < wr.heap.size)) (fun _ _ wr => wr.rangeLeft b2 r5)
      case atStart => exact ⟨[], ⟨by rw [List.map_nil, List.append_nil]; exact HO5.out⟩, HR5, HB5, HZ5⟩
      case round =>
        clear HR5 HB5 HZ5 HO5
        obtain ⟨seen2, HO, HR, HB, HZ⟩ := hrel
        go_wp2_with (at_next; refine MapsS.wpList_next_sm rfl _ rfl Try.underlying79 Try.underlying91 rfl HR.out ?_ ?_)
        · intro hp
          have HP2 := Aside0.mk (HP.out.append (hp.map (·.1)))
          have hlen : (seen.map (·.1) ++ seen2.map (·.1)).length < 4611686018427387904 := by rw [List.length_append, HN.out, List.length_map, hp.length_eq]; omega
          have HS := Aside0.mk (sort_Sort.names u5 (seen.map (·.1) ++ seen2.map (·.1)) wr w.heap.size (Kd.R_mono HO.out (fun _ _ => trivial)) hlen)
          have HE := Aside0.mk (show sortB (seen.map (·.1) ++ seen2.map (·.1)) = bothNames m1 m2 from sortB_congr HP2.out)
          have HK := Aside0.mk (show ∀ k, u5.ownBlock = some k → w.heap.size ≤ k from fun k hk => by obtain ⟨_, inner, ho, _⟩ := HO.out; exact own_base ho k hk)
          clear hp hlen HO HR HP2
          go_wp2_with fail
          refine HS.out.mono ?_
          rintro e w6 ⟨rfl, hO6, hg6⟩
          rw [HE.out] at hO6
          have HB6 := Aside0.mk (pw_below_grown HB.out u5.ownBlock (below_size HB.out) hg6 HK.out)
          have HL6 := Aside0.mk (show (bothNames m1 m2).length = m1.length + m2.length by unfold bothNames; rw [(sortB_perm _).length_eq, List.length_append, List.length_map, List.length_map])
          have HM6 := Aside0.mk (show ∀ k, k ∈ bothNames m1 m2 → k.size ≤ maxLen from fun k hk => by
            rcases mem_bothNames hk with h | h
            · obtain ⟨p, hp, rfl⟩ := List.mem_map.1 h
              exact (H1.out.2.2 p hp).1
            · obtain ⟨p, hp, rfl⟩ := List.mem_map.1 h
              exact (H2.out.2.2 p hp).1)
          have HQ6 := HQ
          generalize bothNames m1 m2 = L at *
          obtain ⟨A, c6, rfl, hlc, hC⟩ := Kd.R_reads hO6
          have HC := Aside0.mk hC
          have HL7 := Aside0.mk (show L.length < 4611686018427387904 by rw [HL6.out]; omega)
          clear hO6 hg6 hC HS HK HB HZ HE HP HN
          have hl7 := HL7.out
          go_wp2
          go_loopw [54] (fun v54 wr => ∃ j : Nat, j ≤ L.length ∧ v54 = .int .i64 j ∧ Aside0 (Below w6.heap.size w6 wr) ∧ Aside0 (MapsS.befL m1 m2 (L.drop j) = q)) (fun v54 _ => L.length - (intOf v54).toNat)
          case atStart => exact ⟨0, Nat.zero_le _, rfl, ⟨Below.refl _ _⟩, ⟨HQ.out⟩⟩
          case round =>
            obtain ⟨j, hj, rfl, HB7, HJ⟩ := hrel
            by_cases hlt : j < L.length
            · obtain ⟨ad, e0, hx⟩ := Kd.at_string (Kd.C_below HC.out HB7.out) (j : Int) (by omega) (by omega)
              cases e0
              have er : rdOf ByteArray.empty L (j : Int) = L[j] := by simp [rdOf, hlt]
              simp only [Int.toNat_natCast] at hx
              rw [er] at hx
              have hd : L.drop j = L[j] :: L.drop (j + 1) := List.drop_eq_getElem_cons hlt
              have hJ := HJ.out
              rw [hd] at hJ
              have hkm := HM6.out _ (List.getElem_mem hlt)
              have HBW := Aside0.mk (below_step HB6.out HB7.out)
              have h2 := (H1.out.below HBW.out).look_ok_run Try.underlying56 Try.underlying79 Try.underlying91 (by rfl) hkm
              have h3 := (H2.out.below HBW.out).look_ok_run Try.underlying56 Try.underlying79 Try.underlying91 (by rfl) hkm
              clear er hd hkm HJ
              generalize L[j] = x at *
              unfold MapsS.befL at hJ
              cases hk : MapsS.look x m1 with
              | none =>
                rw [hk] at h2 hJ
                have hq : q = true := hJ.symm
                subst hq
                clear hk h3 hJ
                go_wp2
                go_ret
                exact ⟨rfl, HBW.out⟩
              | some v1 =>
                rw [hk] at h2 hJ
                cases hk2 : MapsS.look x m2 with
                | none =>
                  rw [hk2] at h3 hJ
                  have hq : q = false := hJ.symm
                  subst hq
                  clear hk hk2 hJ
                  go_wp2
                  go_ret
                  exact ⟨rfl, HBW.out⟩
                | some v2 =>
                  rw [hk2] at h3 hJ
                  simp only [] at hJ
                  cases hl : Op.bytesLess v1.toList v2.toList with
                  | true =>
                    rw [hl, if_pos rfl] at hJ
                    have hq : q = true := hJ.symm
                    subst hq
                    clear hk hk2 hJ
                    go_wp2
                    go_ret
                    exact ⟨rfl, HBW.out⟩
                  | false =>
                    rw [hl, if_neg (by simp)] at hJ
                    cases hg : Op.bytesLess v2.toList v1.toList with
                    | true =>
                      rw [hg, if_pos rfl] at hJ
                      have he : (v1.toList == v2.toList) = false := beq_eq_false_iff_ne.2 (fun e => by rw [e, Pure.less_irrefl] at hg; cases hg)
                      have hq : q = false := hJ.symm
                      subst hq
                      clear hk hk2 hJ
                      go_wp2
                      go_ret
                      exact ⟨rfl, HBW.out⟩
                    | false =>
                      rw [hg, if_neg (by simp)] at hJ
                      have he : (v1.toList == v2.toList) = true := beq_iff_eq.2 (Decidable.byContradiction fun hn => by have := Pure.less_total hl hn; rw [hg] at this; cases this)
                      have HJ := Aside0.mk hJ
                      clear hk hk2 hJ
                      go_wp2
                      go_roundw
                      case rel => exact ⟨j + 1, by omega, by go_num, HB7, HJ⟩
                      case measure => simp [intOf]; omega
            · have hj2 : j = L.length := by omega
              subst hj2
              have hJ := HJ.out
              rw [List.drop_of_length_le (Nat.le_refl _)] at hJ
              have hq : q = false := hJ.symm
              subst hq
              clear hJ
              go_wp2
              go_ret
              exact ⟨rfl, below_step HB6.out HB7.out⟩
        · intro x c w3 hmem hnot hR hlt hg hsz hen
          have HO3 := Aside0.mk (Kd.R_grown HO.out hg (fun k hk e => hk (by injection e with e)))
          have HB3 := Aside0.mk (pw_below_grown HB.out (some r5) (below_size HB.out) hg (fun k hk => by injection hk with hk; have := HG5.out; omega))
          have HR3 := Aside0.mk hR
          have HZ3 := Aside0.mk (show r5 < w3.heap.size by rw [hsz]; exact HZ.out)
          have HT3 := Aside0.mk hlt
          have HT := Aside0.mk (show seen.map (·.1) ++ (seen2 ++ [(x, c)]).map (·.1) = (seen.map (·.1) ++ seen2.map (·.1)) ++ [x] by simp)
          have HL3 := Aside0.mk (show seen2.length < m2.length by
            obtain ⟨_, _, _, _, hsub, hnd, _⟩ := hR
            have := sub_len hnd hsub
            rw [List.length_append, List.length_singleton] at this
            omega)
          have HK := Aside0.mk (show ∀ k, u5.ownBlock = some k → w.heap.size ≤ k ∧ k ≠ r5 from fun k hk => by
            obtain ⟨h0, inner, ho, _⟩ := HO.out
            exact ⟨own_base ho k hk, h0 k hk⟩)
          clear hmem hnot hR hlt hg hsz HO HR HB HZ
          go_wp2_with ((with_reducible refine gate_builtin (b := .append) (xs := #[.tmp 45, .tmp 47]) rfl ?_); at_builtin; refine Kd.R_append Kd.string (w0 := w) w.heap.size rfl (.tmp 45) (.tmp 47) 96 79 (.string ⟨#[]⟩) 16 rfl Try.underlying96 infoLN rfl (by decide) (by omega) u5 (seen.map (·.1) ++ seen2.map (·.1)) x [.string x] (fun k => k ≠ r5) (fun _ => False) rfl (by first | (go_simp; done) | (go_simp; rfl)) rfl (fun _ hk => hk.elim) (fun k hk => by have := HZ3.out; omega) HO3.out HB3.out (below_size HB3.out) (by rw [List.length_append, HN.out, List.length_map]; have := HL3.out; omega) ?_; intro v2 w4 hO4 hB4 hg4 hat4; rw [← HT.out] at hO4; have HO4 := Aside0.mk hO4; have HB4 := Aside0.mk hB4; have HR4 := Aside0.mk (HR3.out.kept hg4 (fun e => by have := (HK.out _ e.symm).1; have := HL2.out; omega) (fun e => (HK.out _ e.symm).2 rfl)); have HZ4 := Aside0.mk (Nat.lt_of_lt_of_le HZ3.out hg4.size); have HT4 := Aside0.mk (show w4.rangeLeft b2 r5 < wr.rangeLeft b2 r5 by rw [rangeLeft_kept hg4 (by have := HL2.out; have := HZ3.out; have := HG5.out; omega) (by exact HZ3.out) (fun e => by have := (HK.out _ e.symm).1; have := HL2.out; omega) (fun e => (HK.out _ e.symm).2 rfl)]; exact HT3.out); clear hO4 hB4 hg4 hat4 HO3 HB3 HR3 HT HZ3 HT3)
          go_roundw
          case rel => first | exact ⟨seen2 ++ [(x, c)], HO4, HR4, HB4, HZ4⟩ | exact ⟨seen2 ++ [(x, c)], HO4, HR4⟩
          case measure => exact HT4.out
    · intro x c w3 hmem hnot hR hlt hg hsz hen
      have HO3 := Aside0.mk (Kd.R_grown HO.out hg (fun k hk e => hk (by injection e with e)))
      have HB3 := Aside0.mk (pw_below_grown HB.out (some r) (below_size HB.out) hg (fun k hk => by injection hk with hk; have := HG.out; have := below_size HB1.out; omega))
      have HR3 := Aside0.mk hR
      have HZ3 := Aside0.mk (show r < w3.heap.size by rw [hsz]; exact HZ.out)
      have HT3 := Aside0.mk hlt
      have HT := Aside0.mk (show (seen ++ [(x, c)]).map (·.1) = seen.map (·.1) ++ [x] by simp)
      have HL3 := Aside0.mk (show seen.length < m1.length by
        obtain ⟨_, _, _, _, hsub, hnd, _⟩ := hR
        have := sub_len hnd hsub
        rw [List.length_append, List.length_singleton] at this
        omega)
      have HK := Aside0.mk (show ∀ k, u5.ownBlock = some k → w.heap.size ≤ k ∧ k ≠ r from fun k hk => by
        obtain ⟨h0, inner, ho, _⟩ := HO.out
        exact ⟨own_base ho k hk, h0 k hk⟩)
      clear hmem hnot hR hlt hg hsz HO HR HB HZ
      go_wp2_with ((with_reducible refine gate_builtin (b := .append) (xs := #[.tmp 35, .tmp 37]) rfl ?_); at_builtin; refine Kd.R_append Kd.string (w0 := w) w.heap.size rfl (.tmp 35) (.tmp 37) 96 79 (.string ⟨#[]⟩) 16 rfl Try.underlying96 infoLN rfl (by decide) (by omega) u5 (seen.map (·.1)) x [.string x] (fun k => k ≠ r) (fun _ => False) rfl (by first | (go_simp; done) | (go_simp; rfl)) rfl (fun _ hk => hk.elim) (fun k hk => by have := HZ3.out; omega) HO3.out HB3.out (below_size HB3.out) (by rw [List.length_map]; have := HL3.out; omega) ?_; intro v2 w4 hO4 hB4 hg4 hat4; rw [← HT.out] at hO4; have HO4 := Aside0.mk hO4; have HB4 := Aside0.mk hB4; have HR4 := Aside0.mk (HR3.out.kept hg4 (fun e => by have := (HK.out _ e.symm).1; have := HL1.out; omega) (fun e => (HK.out _ e.symm).2 rfl)); have HZ4 := Aside0.mk (Nat.lt_of_lt_of_le HZ3.out hg4.size); have HT4 := Aside0.mk (show w4.rangeLeft b1 r < wr.rangeLeft b1 r by rw [rangeLeft_kept hg4 (by have := HL1.out; have := HZ3.out; have := HG.out; have := below_size HB1.out; omega) (by exact HZ3.out) (fun e => by have := (HK.out _ e.symm).1; have := HL1.out; omega) (fun e => (HK.out _ e.symm).2 rfl)]; exact HT3.out); clear hO4 hB4 hg4 hat4 HO3 HB3 HR3 HT HZ3 HT3)
      go_roundw
      case rel => first | exact ⟨seen ++ [(x, c)], HO4, HR4, HB4, HZ4⟩ | exact ⟨seen ++ [(x, c)], HO4, HR4⟩
      case measure => exact HT4.out


/-! ### impl_SetBefore: function 24 -/
-- a contract that was proved by hand
def impl_SetBefore.f (l0 l1 : List S26) : Option Bool := if less9 l0 = true ∧ less9 l1 = true then some (befS (setL l0) (setL l1)) else none
set_option maxHeartbeats 1600000 in
set_option maxRecDepth 100000 in
theorem impl_SetBefore.calls (A0 : Option Addr) (c0 : Nat) (l0 : List S26) (A1 : Option Addr) (c1 : Nat) (l1 : List S26) (r : Bool) (w : World) (hr0 : Kd.C k26 w A0 l0.length l0) (hc0 : l0.length ≤ c0) (hr1 : Kd.C k26 w A1 l1.length l1) (hc1 : l1.length ≤ c1) (h : impl_SetBefore.f l0 l1 = some r) :
    Calls Try.prog 24 #[.slice A0 l0.length c0, .slice A1 l1.length c1] w fun e w' => e = .returned (.bool r) ∧ Below w.heap.size w w' := by
  unfold impl_SetBefore.f at h
  split at h
  · rename_i hl
    simp only [less9, Bool.and_eq_true, decide_eq_true_eq] at hl
    obtain ⟨⟨h1, h2⟩, h3, h4⟩ := hl
    have n0 := Aside0.mk (Nat.le_trans (setL_le l0) h1)
    have n1 := Aside0.mk (Nat.le_trans (setL_le l1) h3)
    replace h1 : l0.length < maxLen := by unfold maxLen; omega
    replace h3 : l1.length < maxLen := by unfold maxLen; omega
    have hq := Option.some.inj h
    clear h
    have HQ := Aside0.mk hq
    clear hq
    have C0 := Aside0.mk (impl_labelSet.calls A0 c0 l0 w hr0 hc0 h1 h2)
    have R1 := Aside0.mk hr1
    have X1 := Aside0.mk hc1
    have X2 := Aside0.mk h3
    have X3 := Aside0.mk h4
    clear hr0 hc0 h1 h2 hr1 hc1 h3 h4
    go_enter Try.func24, Try.ntmps24
    go_wp2_with fail
    refine C0.out.mono ?_
    rintro e w1 ⟨b, rfl, hb, hM, hB⟩
    have HM := Aside0.mk hM
    have HB := Aside0.mk hB
    clear hM hB hb
    go_wp2_with fail
    refine (impl_labelSet.calls A1 c1 l1 w1 (Kd.C_below R1.out HB.out) X1.out X2.out X3.out).mono ?_
    rintro e w2 ⟨b', rfl, hb', hM', hB'⟩
    have HM2 := Aside0.mk (HM.out.below hB')
    have HM' := Aside0.mk hM'
    have HB2 := Aside0.mk (below_step HB.out hB')
    clear hM' hB' hb' HM HB
    go_wp2_with fail
    have HE := model_LabelSet_Before.calls b _ b' _ _ _ w2 HM2.out HM'.out n0.out n1.out
    rw [HQ.out] at HE
    refine HE.mono ?_
    clear HE
    rintro e w3 ⟨rfl, hB3⟩
    have HB3 := Aside0.mk (below_step HB2.out hB3)
    clear hB3
    go_wp2
    go_ret
    exact ⟨rfl, HB3.out⟩
  · cases h


end Go.Proofs.Ytbffcmiabcmjcaa.Q
