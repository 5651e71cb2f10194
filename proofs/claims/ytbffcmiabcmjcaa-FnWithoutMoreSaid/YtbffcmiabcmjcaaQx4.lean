-- printed by this project's own program wip/tools/mkprint.py (the kit's print.py with hand-proved contracts put in)
import Derived.Test.YtbffcmiabcmjcaaQx0
import Derived.Test.YtbffcmiabcmjcaaQx3
namespace Go.Proofs.Ytbffcmiabcmjcaa.Q
open Go.RowKit Go.Proofs.YtbffcmiabcmjcaaW.PrintWords Go.Proofs.YtbffcmiabcmjcaaW.PrintLast Go.Proofs.YtbffcmiabcmjcaaW.PrintMore
attribute [local go_sem] max2_int min2_int max_two min_two max_three min_three max_four min_four   -- for this text's walks alone
set_option linter.unusedVariables false
set_option linter.unusedSimpArgs false

/-! ### template_KV_SortedPairs: function 40 -/
-- contracts that were proved by hand
def toTP (p : ByteArray × ByteArray) : S92 := ⟨p.1, p.2⟩
theorem infoKS : (Try.prog.info? 9).map (fun i => (i.zero, i.size, i.bytes)) = some (some (.string ⟨#[]⟩), 1, 16) := by kernel_rfl
theorem infoTP : (Try.prog.info? 92).map (fun i => (i.zero, i.size, i.bytes)) = some (some (.agg #[(.string ⟨#[]⟩), (.string ⟨#[]⟩)]), 2, 32) := by kernel_rfl
theorem R_startK {α : Type} {kd : Kd α} {w : World} {base e : Nat} {v : Value} {P : Nat → Prop} (h : w.ownsRow base e kd.sz v 0 []) (hp : ∀ k, v.ownBlock = some k → P k) : Kd.R kd e w base P v [] := ⟨hp, [], h, by simp [Reps]⟩
theorem R_ne_nil {α : Type} {kd : Kd α} {e : TypeId} {w : World} {base : Nat} {P : Nat → Prop} {v : Value} {xs : List α} (h : Kd.R kd e w base P v xs) (hx : xs ≠ []) : v ≠ .slice none 0 0 := by
  rintro rfl
  obtain ⟨A, c, e1, _⟩ := Kd.R_reads h
  injection e1 with _ e2 _
  exact hx (List.length_eq_zero_iff.1 e2.symm)
theorem anB_toList : anB.toList = [97, 108, 101, 114, 116, 110, 97, 109, 101] := by kernel_rfl
section tail
open Go.Sort
theorem holds_tail {w : World} {g off : Nat} {cur : Array Value} {e : TypeId} {hd ss : List (List UInt8)} (ho : hd.length = off) (hb : w.heap[g]? = some (.cells cur e (0, 0))) (ht : cur.toList.take (hd ++ ss).length = (hd ++ ss).map encStr) : Holds encStr w g off ss.toArray := by
  intro j hj
  have hj' : j < ss.length := by simpa using hj
  refine ⟨?_, by simp [World.frozen?, hb]⟩
  have h1 : (cur.toList.take (hd ++ ss).length)[off + j]? = ((hd ++ ss).map encStr)[off + j]? := by rw [ht]
  rw [List.getElem?_take_of_lt (by rw [List.length_append]; omega), List.getElem?_map, List.getElem?_append_right (by omega), show off + j - hd.length = j by omega] at h1
  simp only [World.cell?, hb, Option.isSome_none, Bool.false_eq_true, if_false]
  rw [← Array.getElem?_toList, h1]
  simp [hj']
theorem heap_sorted_at {w : World} {g off n : Nat} {os : Array Obj} {cur : Array Value} {e : TypeId} {fr : Nat × Nat} (d : Array (List UInt8)) (hb : w.heap[g]? = some (.cells cur e fr)) :
    (grow (putRow encStr (Sort.ahead w n) g off d) os).heap[g]? = some (.cells (putCells encStr off d cur) e fr) := by
  have hg : g < w.heap.size := (Array.getElem?_eq_some_iff.1 hb).1
  rw [heap_grow_old _ _ (by simpa using hg)]
  simp [putRow, mapBlock, Sort.ahead, Array.getElem?_modify, hb, onCells]
theorem grownBy_sorted_at {w : World} {g off n : Nat} {os : Array Obj} (d : Array (List UInt8)) : w.grownBy (grow (putRow encStr (Sort.ahead w n) g off d) os) (some g) := by
  refine ⟨rfl, rfl, rfl, by simp, fun k hk hne => ?_⟩
  rw [heap_grow_old _ _ (by simpa using hk)]
  have : g ≠ k := fun e => hne (by rw [e])
  simp [putRow, mapBlock, Sort.ahead, Array.getElem?_modify, this]
theorem take_putCells_at (cur : Array Value) (hd ts : List (List UInt8)) {ss : List (List UInt8)} (hl : ts.length = ss.length) (h : (hd ++ ss).length ≤ cur.size) (ht : cur.toList.take (hd ++ ss).length = (hd ++ ss).map encStr) : (putCells encStr hd.length ts.toArray cur).toList.take (hd ++ ts).length = (hd ++ ts).map encStr := by
  have hL : (hd ++ ts).length = (hd ++ ss).length := by rw [List.length_append, List.length_append, hl]
  have hA : (hd ++ ts).length = hd.length + ts.length := List.length_append
  apply List.ext_getElem?
  intro j
  by_cases hj : j < (hd ++ ts).length
  · rw [List.getElem?_take_of_lt hj, Array.getElem?_toList]
    by_cases h1 : j < hd.length
    · have h2 : (cur.toList.take (hd ++ ss).length)[j]? = ((hd ++ ss).map encStr)[j]? := by rw [ht]
      rw [List.getElem?_take_of_lt (by omega), List.getElem?_map, List.getElem?_append_left h1, Array.getElem?_toList] at h2
      rw [List.getElem?_map, List.getElem?_append_left h1, ← h2]
      have h3 : j < cur.size := by omega
      simp [putCells, h3, show ¬ (hd.length ≤ j) by omega]
    · have h3 : j < cur.size := by omega
      have h4 : j - hd.length < ts.length := by omega
      rw [List.getElem?_map, List.getElem?_append_right (by omega), List.getElem?_eq_getElem h4]
      simp [putCells, h3, show hd.length ≤ j by omega, show j < hd.length + ts.length by omega, h4]
  · rw [List.getElem?_take_eq_none (by omega), List.getElem?_eq_none (by simp at hj ⊢; omega)]
/-- Texts of the call's own, sorted behind the first ones. -/
theorem sort_Strings.tail (g cap : Nat) (hd tl : List ByteArray) (w : World) (base : Nat) (ok : Nat → Prop) (h : Kd.R Kd.string 9 w base ok (.slice (some ⟨g, 0, none⟩) (hd ++ tl).length cap) (hd ++ tl)) (hl : tl.length < 4611686018427387904) (c : Nat) :
    Calls Try.prog 57 #[.slice (some ⟨g, hd.length, none⟩) tl.length c] w fun e w' => e = .returned (.tuple #[]) ∧ Kd.R Kd.string 9 w' base ok (.slice (some ⟨g, 0, none⟩) (hd ++ tl).length cap) (hd ++ sortB tl) ∧ w.grownBy w' (some g) := by
  have ho := Kd.own_of_R h
  have hok := h.1
  rcases ho.2 with ⟨e, _⟩ | ⟨g', cap', cur, e, hbase, hb, h1, h2, h3, h4⟩
  · cases e
  injection e with e1 e2 e3
  injection e1 with e1
  injection e1 with e1
  subst e1 e3
  have hm : ∀ l : List ByteArray, (l.map (·.data.toList)).length = l.length := fun l => List.length_map ..
  have hS : (hd.map (·.data.toList) ++ tl.map (·.data.toList)).length = (hd ++ tl).length := by rw [List.length_append, hm, hm, List.length_append]
  have h4' : cur.toList.take (hd.map (·.data.toList) ++ tl.map (·.data.toList)).length = (hd.map (·.data.toList) ++ tl.map (·.data.toList)).map encStr := by
    rw [hS, ← List.map_append, enc_map]
    simpa using h4
  have hH := holds_tail (hm hd) hb h4'
  have C := Try.sort_Strings g hd.length c (tl.map (·.data.toList)) w hH (Array.getElem?_eq_some_iff.1 hb).1 (by rw [hm]; exact hl)
  rw [hm] at C
  refine C.mono ?_
  rintro e w1 ⟨rfl, n, os, rfl⟩
  rw [← sortB_map]
  have hl3 : ((sortB tl).map (·.data.toList)).length = (tl.map (·.data.toList)).length := by rw [hm, hm, (sortB_perm tl).length_eq]
  have hT := take_putCells_at cur (hd.map (·.data.toList)) _ hl3 (by rw [hS, h3]; simpa using h1) h4'
  rw [hm, ← List.map_append, hm, enc_map] at hT
  have hLL : (hd ++ sortB tl).length = (hd ++ tl).length := by rw [List.length_append, List.length_append, (sortB_perm tl).length_eq]
  refine ⟨rfl, Kd.R_of_own ?_ hok, grownBy_sorted_at _⟩
  rw [hLL]
  refine ⟨?_, .inr ⟨g, cap, _, rfl, hbase, heap_sorted_at _ hb, h1, h2, by simp [putCells, h3], ?_⟩⟩
  · have := congrArg List.length (enc_map (hd ++ sortB tl))
    simp only [List.length_map] at this
    rw [← this, hLL, Nat.mul_one]
  · rw [Nat.mul_one, ← hLL]
    exact hT
end tail
set_option maxHeartbeats 6400000 in
set_option maxRecDepth 100000 in
theorem template_KV_SortedPairs.calls (b n : Nat) (m : MapsS.SM) (w : World) (h : KSet w b n m) (hl : m.length ≤ 1000000000) :
    Calls Try.prog 40 #[.map (some b)] w fun e w' => ∃ v, e = .returned v ∧ Kd.R k92 92 w' w.heap.size (fun _ => True) v ((kvOrder m).map toTP) ∧ Below w.heap.size w w' := by
  have e1 := fun ty => h.len_run Try.underlying63 ty
  have H := Aside0.mk h
  have HL := Aside0.mk h.lt
  clear h
  obtain ⟨i0, hi, hz0, hz1, hz2⟩ := info_parts infoTP
  have HB2 := Aside0.mk (show i0.bytes * m.length ≤ 281474976710656 by rw [hz2]; omega)
  have HI := Aside0.mk hi
  have HZ0 := Aside0.mk hz0
  have HZ1 := Aside0.mk hz1
  clear hi hz0 hz1 hz2
  obtain ⟨i1, hi, hz0, hz1, hz2⟩ := info_parts infoKS
  have HB3 := Aside0.mk (show i1.bytes * m.length ≤ 281474976710656 by rw [hz2]; omega)
  have HI1 := Aside0.mk hi
  have HZ2 := Aside0.mk hz0
  have HZ3 := Aside0.mk hz1
  have HM := Aside0.mk (show m.length ≤ maxLen by unfold maxLen; omega)
  clear hi hz0 hz1 hz2
  go_enter Try.func40, Try.ntmps40
  go_wp2_with (first
    | (at_make; refine wpList_make_own _ rfl _ _ 60 rfl w.heap.size 92 i0 (.agg #[(.string ⟨#[]⟩), (.string ⟨#[]⟩)]) 2 Try.underlying60 HI.out HZ0.out HZ1.out _ _ _ m.length rfl rfl rfl HB2.out HM.out (Nat.le_refl _) ?_; intro w1 hown hg; have HP1 := Aside0.mk (R_startK (kd := k92) (P := fun k => k < w1.heap.size) hown (fun k hk => (hown.lt k hk).2)); have HB1 := Aside0.mk (pw_below_grown (Below.refl w.heap.size w) none (Nat.le_refl _) hg (by simp)); have H1 := Aside0.mk (H.out.kept hg (by simp)); have HL1 := Aside0.mk (show b < w1.heap.size from Nat.lt_of_lt_of_le HL.out hg.size); have e2 := fun ty => H1.out.len_run Try.underlying63 ty; clear hown hg)
    | (at_make; refine wpList_make_own _ rfl _ _ 33 rfl w1.heap.size 9 i1 (.string ⟨#[]⟩) 1 Try.underlying33 HI1.out HZ2.out HZ3.out _ _ _ m.length rfl rfl rfl HB3.out HM.out (Nat.le_refl _) ?_; intro w2 hown hg; have HO2 := Aside0.mk (R_startK (kd := Kd.string) (P := fun k => k < w2.heap.size) hown (fun k hk => (hown.lt k hk).2)); have HB2' := Aside0.mk (pw_below_grown (Below.refl w1.heap.size w1) none (Nat.le_refl _) hg (by simp)); have H2 := Aside0.mk (H1.out.kept hg (by simp)); clear hown hg)
    | (at_range; refine MapsS.wpList_range_sm (t := 63) rfl _ rfl Try.underlying63 Try.underlying9 rfl H2.out ?_; intro w3 r hr hR hg hsz; have HR := Aside0.mk hR; have HG := Aside0.mk (show w1.heap.size ≤ r by rw [hr]; exact below_size HB2'.out); have HO := Aside0.mk (Kd.R_mono (Kd.R_grown HO2.out hg (fun k hk e => by cases e)) (fun k hk => show k ≠ r by omega)); have HB := Aside0.mk (pw_below_grown HB2'.out none (below_size HB2'.out) hg (by simp)); have HZ := Aside0.mk (show r < w3.heap.size by omega); clear hr hR hg hsz HO2 HB2' H2))
  go_frame
  clear e1 e2
  go_loopw [4, 5, 17] (fun v4 v5 _ wr => ∃ seen : MapsS.SM, v5 = .int .i64 (((seen.map (·.1)).filter isAn).length : Nat) ∧ Aside0 (v4 ≠ .slice none 0 0) ∧ Aside0 (Kd.R Kd.string 9 wr w1.heap.size (fun k => k ≠ r) v4 (kvKeys (seen.map (·.1)))) ∧ Aside0 (MapsS.RSM Try.prog 9 9 wr b r n m seen) ∧ Aside0 (Below w1.heap.size w1 wr) ∧ Aside0 (r < wr.heap.size)) (fun _ _ _ wr => wr.rangeLeft b r)
  case atStart => exact ⟨[], rfl, ⟨by simp⟩, HO, HR, HB, HZ⟩
  case round =>
    clear HR HB HZ HO
    obtain ⟨seen, rfl, HNN, HO, HR, HB, HZ⟩ := hrel
    go_wp2_with (at_next; refine MapsS.wpList_next_sm rfl _ rfl Try.underlying9 Try.underlying9 rfl HR.out ?_ ?_)
    · intro hp
      have HP := Aside0.mk (hp.map (·.1))
      have HN := Aside0.mk (show (kvKeys (seen.map (·.1))).length = m.length by rw [← kvOrder_names, List.length_map, kvOrder_len, hp.length_eq])
      clear hp HR
      obtain ⟨KK, hKK⟩ : ∃ KK, kvKeys (seen.map (·.1)) = KK := ⟨_, rfl⟩
      have HOw := HO.out
      rw [hKK] at HOw
      have ho := Kd.own_of_R HOw
      rcases ho.2 with ⟨e0, hn⟩ | ⟨g, cap, cur, rfl, hbase, hb, h1, h2, h3, h4⟩
      · exact absurd e0 HNN.out
      have hlt := (Array.getElem?_eq_some_iff.1 hb).1
      have HD := Aside0.mk (kv_done H.out.2.1 HP.out)
      have hN := HN.out
      rw [hKK] at hN
      unfold kvKeys at hKK
      generalize (seen.map (·.1)).filter isAn = F at *
      generalize (seen.map (·.1)).filter (fun k => !isAn k) = R at *
      subst hKK
      have hFR : (F ++ R).length = F.length + R.length := List.length_append
      have HC := Aside0.mk (sort_Strings.tail g cap F R wr w1.heap.size (fun k => k ≠ r) HOw (by omega) (cap - F.length))
      have HC0 := Aside0.mk (show cap - F.length = 0 → Calls Try.prog 57 #[.slice (some ⟨g, 0, none⟩) R.length 0] wr fun e w' => e = .returned (.tuple #[]) ∧ Kd.R Kd.string 9 w' w1.heap.size (fun k => k ≠ r) (.slice (some ⟨g, 0, none⟩) (F ++ R).length cap) (F ++ sortB R) ∧ wr.grownBy w' (some g) from fun hz => by
        have hR : R = [] := List.length_eq_zero_iff.1 (by omega)
        subst hR
        refine (Try.sort_Strings_none (some ⟨g, 0, none⟩) 0 wr).mono ?_
        rintro e w1 ⟨rfl, rfl⟩
        refine ⟨rfl, ?_, ⟨rfl, rfl, rfl, Nat.le_refl _, fun _ _ _ => rfl⟩⟩
        have e0 : sortB [] = [] := by simp [sortB]
        rw [e0]
        exact HOw)
      have HN2 := Aside0.mk hN
      have HFR := Aside0.mk hFR
      have hb1 : F.length ≤ (F ++ R).length := by omega
      have HLT := Aside0.mk hlt
      have HG6 := Aside0.mk hbase
      have HP6 := Aside0.mk (Kd.R_mono HP1.out (fun k hk => show k ≠ g by omega))
      unfold maxLen at h2
      clear hb h3 h4 cur ho HOw HO HNN HP HN hbase hN hFR hlt
      go_wp2_with fail
      all_goals first | refine HC.out.mono ?_ | (refine (HC0.out (by first | assumption | omega)).mono ?_)
      all_goals rintro e w6 ⟨rfl, hO6, hg6⟩
      all_goals clear HC HC0
      all_goals try clear hb1
      all_goals (
        rw [HD.out, ← kvOrder_names] at hO6
        have HB6 := Aside0.mk (pw_below_grown HB.out (some g) (below_size HB.out) hg6 (fun k hk => by injection hk with hk; have := HG6.out; omega))
        have HBW := Aside0.mk (below_step HB1.out HB6.out)
        have HP7 := Aside0.mk (Kd.R_below HP6.out HB6.out)
        have hkl : (kvOrder m).length = (F ++ R).length := by rw [kvOrder_len, HN2.out]
        have HK := Aside0.mk (Kd.R_of_own (h1 := fun _ => rfl) (ok := fun k => k = g) (Kd.own_of_R hO6) (fun k hk => by have hk' : g = k := (by simpa [Value.ownBlock] using hk); exact hk'.symm))
        have HMEM := Aside0.mk (show ∀ p ∈ kvOrder m, p ∈ m from fun p hp => kvOrder_mem hp)
        rw [← hkl] at HK
        clear hO6 hg6 HD HB6 HP6
        generalize hKO : kvOrder m = KO at *
        have HKE := Aside0.mk hKO
        clear hKO
        have hko : KO.length ≤ 1000000000 := by rw [hkl, HN2.out]; exact hl
        clear HN2 HFR
        have hkl2 : F.length + R.length = KO.length := by rw [hkl, List.length_append]
        rw [hkl2]
        rw [← hkl] at h1
        clear hkl2
        clear hkl
        have HGW := Aside0.mk (show w.heap.size < g by have := HG6.out; have h2 := HP1.out.1 w.heap.size rfl; omega)
        clear HP1 HG6 HLT
        go_wp2
        go_loopw [3, 37] (fun v3 v37 wr => ∃ j : Nat, j ≤ KO.length ∧ v37 = .int .i64 j ∧ Aside0 (Kd.R k92 92 wr w.heap.size (fun k => k ≠ g) v3 ((KO.take j).map toTP)) ∧ Aside0 (Kd.R Kd.string 9 wr w1.heap.size (fun k => k = g) (.slice (some ⟨g, 0, none⟩) KO.length cap) (KO.map (·.1))) ∧ Aside0 (Below w.heap.size w wr)) (fun _ v37 _ => KO.length - (intOf v37).toNat)
        case atStart => exact ⟨0, Nat.zero_le _, rfl, HP7, HK, HBW⟩
        case round =>
          clear HP7 HK HBW
          obtain ⟨j, hj, rfl, HO, HK, HB⟩ := hrel
          by_cases hlt : j < KO.length
          · have hC := (Kd.R_reads' HK.out).2.2
            rw [List.length_map] at hC
            obtain ⟨ad, e0, hx⟩ := Kd.at_string hC (j : Int) (by omega) (by omega)
            cases e0
            have er : rdOf ByteArray.empty (KO.map (·.1)) (j : Int) = KO[j].1 := by simp [rdOf, hlt]
            simp only [Int.toNat_natCast] at hx
            rw [er, add_plain] at hx
            have hm : (KO[j].1, KO[j].2) ∈ m := HMEM.out _ (List.getElem_mem hlt)
            have hk := (MapsS.look_mem H.out.2.1).2 hm
            have h2 : (Instr.lookup 63 (.map (some b)) (.string KO[j].1) false).run Try.prog wr = .ok (.string KO[j].2) wr := by
              have := (H.out.below HB.out).look_run Try.underlying63 Try.underlying9 Try.underlying9 (by rfl) (H.out.2.2 _ hm).1
              rw [hk] at this
              exact this
            have HT := Aside0.mk (show (KO.take (j + 1)).map toTP = (KO.take j).map toTP ++ [(⟨KO[j].1, KO[j].2⟩ : S92)] by rw [List.take_succ_eq_append_getElem hlt, List.map_append]; rfl)
            have HGL := Aside0.mk (show g < wr.heap.size from ((Kd.R_bound HK.out).1 g rfl).2.2.1)
            have HNE := Aside0.mk (show ∀ k, u3.ownBlock = some k → k ≠ g from HO.out.1)
            clear er hm hk hC
            generalize KO[j].1 = x at *
            generalize KO[j].2 = c at *
            go_wp2_with ((with_reducible refine gate_builtin (b := .append) (xs := #[.tmp 41, .tmp 47]) rfl ?_); at_builtin; refine Kd.R_append k92 (w0 := w) w.heap.size rfl (.tmp 41) (.tmp 47) 60 92 (.agg #[(.string ⟨#[]⟩), (.string ⟨#[]⟩)]) 32 rfl Try.underlying60 infoTP rfl (by decide) (by omega) u3 ((KO.take j).map toTP) (⟨x, c⟩ : S92) [.string x, .string c] (fun k => k ≠ g) (fun _ => False) rfl (by first | (go_simp; done) | (go_simp; rfl)) (k92_mkM _ _ _ (⟨x, c⟩ : S92)) (fun _ hk => hk.elim) (fun k hk => by have := HGL.out; omega) HO.out HB.out (below_size HB.out) (by rw [List.length_map, List.length_take]; omega) ?_; intro v2 w7 hO2 hB2 hg2 hat2; rw [← HT.out] at hO2; have HO2 := Aside0.mk hO2; have HB2 := Aside0.mk hB2; have HK2 := Aside0.mk (Kd.R_grown HK.out hg2 (fun k hk e => HNE.out k e.symm hk)); clear hO2 hB2 hg2 hat2 HO HK HB HT h2 hx HGL HNE)
            go_roundw
            case rel => exact ⟨j + 1, by omega, by go_num, HO2, HK2, HB2⟩
            case measure => simp [intOf]; omega
          · have hj2 : j = KO.length := by omega
            subst hj2
            have hO := HO.out
            rw [List.take_of_length_le (Nat.le_refl _)] at hO
            have HO2 := Aside0.mk (Kd.R_mono (ok' := fun _ => True) hO (fun _ _ => trivial))
            clear hO HO HK
            go_wp2
            go_ret
            refine ⟨u3, rfl, ?_, HB.out⟩
            rw [HKE.out]
            exact HO2.out)
    · intro x c w4 hmem hnot hR hlt hg hsz hen
      have HO3 := Aside0.mk (Kd.R_grown HO.out hg (fun k hk e => hk (by injection e with e)))
      have HB3 := Aside0.mk (pw_below_grown HB.out (some r) (below_size HB.out) hg (fun k hk => by injection hk with hk; have := HG.out; omega))
      have HR3 := Aside0.mk hR
      have HZ3 := Aside0.mk (show r < w4.heap.size by rw [hsz]; exact HZ.out)
      have HT3 := Aside0.mk hlt
      have HX := Aside0.mk (not_named H.out.2.1 (fun p hp => by obtain ⟨_, _, _, _, hsub, _⟩ := hR; exact hsub p (List.mem_append_left _ hp)) hmem hnot)
      have HL3 := Aside0.mk (show seen.length < m.length by
        obtain ⟨_, _, _, _, hsub, hnd, _⟩ := hR
        have := sub_len hnd hsub
        rw [List.length_append, List.length_singleton] at this
        omega)
      have HK := Aside0.mk (show ∀ k, u4.ownBlock = some k → w1.heap.size ≤ k ∧ k ≠ r from fun k hk => by
        obtain ⟨h0, inner, ho, _⟩ := HO.out
        exact ⟨own_base ho k hk, h0 k hk⟩)
      have HS := Aside0.mk (show (seen ++ [(x, c)]).map (·.1) = seen.map (·.1) ++ [x] by simp)
      have HN := Aside0.mk (show (kvKeys (seen.map (·.1))).length = seen.length by rw [← kvOrder_names, List.length_map, kvOrder_len])
      clear hmem hnot hR hlt hg hsz HO HR HB HZ
      by_cases hx : x = anB
      · have hc : (x.toList == [97, 108, 101, 114, 116, 110, 97, 109, 101]) = true := by rw [hx, anB_toList]; exact beq_self_eq_true _
        have HV := Aside0.mk (show kvKeys (seen.map (·.1) ++ [x]) = [x] ++ kvKeys (seen.map (·.1)) ∧ ((seen.map (·.1) ++ [x]).filter isAn).length = 1 by have h := kv_push_an (l := seen.map (·.1)) (by rw [← hx]; exact HX.out); rw [hx]; exact ⟨h.1, h.2.1⟩)
        clear hx HX
        obtain ⟨A4, c4, e4, hlc4, hC4⟩ := Kd.R_reads HO3.out
        subst e4
        have HC4 := Aside0.mk (Kd.C_alloc hC4 (.cells (encs Value.string [x]).toArray 9))
        have HOL := Aside0.mk (Kd.R_of_own (h1 := fun _ => rfl) (ok := fun k => k ≠ r) (own_lit_of (enc := Value.string) w4 w1.heap.size 9 [x] (below_size HB3.out) (by simp)) (fun k hk => by have hk' : w4.heap.size = k := (by simpa [Value.ownBlock] using hk); have := HZ3.out; show k ≠ r; omega))
        have HBL := Aside0.mk (below_alloc HB3.out (.cells (encs Value.string [x]).toArray 9))
        clear hC4
        go_wp2_with ((with_reducible refine gate_builtin (b := .append) (xs := #[.tmp 24, .tmp 25]) rfl ?_); at_builtin; refine Kd.R_append_row Value.string ByteArray.empty (w0 := w1) w1.heap.size rfl (.tmp 24) (.tmp 25) 33 9 (.string ⟨#[]⟩) 16 rfl Try.underlying33 infoKS rfl (by decide) (.slice (some ⟨w4.heap.size, 0, none⟩) 1 1) [x] _ A4 _ c4 (fun k => k ≠ r) (by first | rfl | (go_simp; done) | (go_simp; rfl)) (by first | rfl | (go_simp; done) | (go_simp; rfl)) (fun k hk => by have := HZ3.out; (try simp at hk); omega) HOL.out HC4.out HBL.out (below_size HBL.out) (by rw [HN.out]; have := HL3.out; simp; try omega) ?_; intro v2 w5 hO4 hB4 hg4 hat4; rw [← HV.out.1, ← HS.out] at hO4; have HO4 := Aside0.mk hO4; have HB4 := Aside0.mk hB4; have hk4 := World.grownBy_alloc w4 (.cells #[.string x] 9) none; have hne : ∀ k, k < w4.heap.size → some k ≠ (Value.slice (some ⟨w4.heap.size, 0, none⟩) 1 1).ownBlock := fun k hk e => (by have hk' : k = w4.heap.size := (by simpa [Value.ownBlock] using e); omega); have HR4 := Aside0.mk ((HR3.out.kept hk4 (by simp) (by simp)).kept hg4 (hne _ (by have := HL1.out; have := below_size HB3.out; omega)) (hne _ HZ3.out)); have HZ4 := Aside0.mk (show r < w5.heap.size by have h1 := hg4.size; have h2 := HZ3.out; (try simp at h1); omega); have HT4 := Aside0.mk (show w5.rangeLeft b r < wr.rangeLeft b r by rw [rangeLeft_kept hg4 (by have := HL1.out; have := below_size HB3.out; simp; try omega) (by have := HZ3.out; simp; try omega) (hne _ (by have := HL1.out; have := below_size HB3.out; omega)) (hne _ HZ3.out), rangeLeft_kept hk4 (by have := HL1.out; have := below_size HB3.out; omega) HZ3.out (by simp) (by simp)]; exact HT3.out); have HNN4 := Aside0.mk (show v2 ≠ .slice none 0 0 from R_ne_nil hO4 (by rw [HS.out, HV.out.1]; simp)); clear hO4 hB4 hg4 hat4 hk4 hne HO3 HB3 HR3 HZ3 HT3 HC4 HOL HBL)
        go_roundw
        case rel => exact ⟨seen ++ [(x, c)], (by rw [HS.out, HV.out.2]; rfl), HNN4, HO4, HR4, HB4, HZ4⟩
        case measure => exact HT4.out
      · have hc : (x.toList == [97, 108, 101, 114, 116, 110, 97, 109, 101]) = false := beq_eq_false_iff_ne.2 (fun e => hx (MapsS.ba_ext' (by rw [anB_toList]; exact e)))
        have HV := Aside0.mk (kv_push (l := seen.map (·.1)) hx)
        clear hx HX
        go_wp2_with ((with_reducible refine gate_builtin (b := .append) (xs := #[.tmp 27, .tmp 29]) rfl ?_); at_builtin; refine Kd.R_append Kd.string (w0 := w1) w1.heap.size rfl (.tmp 27) (.tmp 29) 33 9 (.string ⟨#[]⟩) 16 rfl Try.underlying33 infoKS rfl (by decide) (by omega) u4 (kvKeys (seen.map (·.1))) x [.string x] (fun k => k ≠ r) (fun _ => False) rfl (by first | (go_simp; done) | (go_simp; rfl)) rfl (fun _ hk => hk.elim) (fun k hk => by have := HZ3.out; omega) HO3.out HB3.out (below_size HB3.out) (by rw [HN.out]; have := HL3.out; omega) ?_; intro v2 w5 hO4 hB4 hg4 hat4; rw [← HV.out.1, ← HS.out] at hO4; have HO4 := Aside0.mk hO4; have HB4 := Aside0.mk hB4; have HR4 := Aside0.mk (HR3.out.kept hg4 (fun e => by have := (HK.out _ e.symm).1; have := HL1.out; omega) (fun e => (HK.out _ e.symm).2 rfl)); have HZ4 := Aside0.mk (Nat.lt_of_lt_of_le HZ3.out hg4.size); have HT4 := Aside0.mk (show w5.rangeLeft b r < wr.rangeLeft b r by rw [rangeLeft_kept hg4 (by have := HL1.out; have := below_size HB3.out; omega) (by exact HZ3.out) (fun e => by have := (HK.out _ e.symm).1; have := HL1.out; omega) (fun e => (HK.out _ e.symm).2 rfl)]; exact HT3.out); have HNN4 := Aside0.mk (show v2 ≠ .slice none 0 0 from R_ne_nil hO4 (by rw [HS.out, HV.out.1]; simp)); clear hO4 hB4 hg4 hat4 HO3 HB3 HR3 HZ3 HT3)
        go_roundw
        case rel => exact ⟨seen ++ [(x, c)], (by rw [HS.out, HV.out.2]), HNN4, HO4, HR4, HB4, HZ4⟩
        case measure => exact HT4.out
def toPK (p : ByteArray × ByteArray) : S26 := ⟨p.1, p.2⟩
def ofTP (p : S92) : S26 := ⟨p.f0, p.f1⟩
theorem plain_ev (l : List S92) (hl : l.length ≤ 4000000000) : Ev (fun k => impl_plain.f k l) (l.map ofTP) := by
  have h := Pure.ev_up (L := fun k i => impl_plain.l0 k ((l.take i).map ofTP) l (l.length : Int) (i : Int)) (fun _ => l.map ofTP) l.length (Pure.ev_succ (fun k => by
      simp only [impl_plain.l0]
      rw [if_neg (by omega), List.take_of_length_le (Nat.le_refl _)])) (fun i hi h => by
    refine Ev.step (fun k => ?_) h
    show impl_plain.l0 (k + 1) _ l (l.length : Int) (i : Int) = _
    simp only [impl_plain.l0]
    rw [if_pos (by omega), if_pos (by omega), if_pos (by omega), if_pos (by rw [List.length_map, List.length_take]; omega), Pure.wrap_next hi (by unfold maxLen; omega), List.take_succ_eq_append_getElem hi, List.map_append]
    congr 2
    show [_] = [ofTP l[i]]
    have e : rd_T92 l (i : Int) = l[i] := by
      show l.getD i z92 = _
      rw [List.getD_eq_getElem?_getD, List.getElem?_eq_getElem hi]
      rfl
    rw [e]
    rfl) l.length 0 (by omega)
  simpa [impl_plain.f] using h
theorem of_toTP (m : MapsS.SM) : (m.map toTP).map ofTP = m.map toPK := by rw [List.map_map]; rfl
theorem plain_all (m : MapsS.SM) (hl : m.length ≤ 4000000000) : ∃ k, impl_plain.f k (m.map toTP) = some (m.map toPK) := by
  obtain ⟨k, hk⟩ := plain_ev (m.map toTP) (by rw [List.length_map]; exact hl)
  exact ⟨k, by rw [← of_toTP]; exact hk _ (Nat.le_refl _)⟩


/-! ### template_KV_Remove: function 41 -/
-- contracts that were proved by hand
theorem run_makeSet_hint (n : Int) (w : World) : (Instr.makeMap 93 (some (.int .i64 n))).run Try.prog w = .ok (.map (some w.heap.size)) (w.alloc (.map #[] 0)) := by
  have hu := run_underlying (w := w) Try.underlying93
  simp [Instr.makeMap, hu, asInt]
  rfl
/-- What is left of a set without some names. -/
def without (l1 : List ByteArray) (m : MapsS.SM) : MapsS.SM := m.filter fun p => !MapsS.inL p.1 l1
theorem without_rises {l1 : List ByteArray} {m : MapsS.SM} (h : MapsS.Rises m) : MapsS.Rises (without l1 m) := List.Pairwise.filter _ h
theorem without_le (l1 : List ByteArray) (m : MapsS.SM) : (without l1 m).length ≤ m.length := List.length_filter_le _ _
theorem without_snoc (l1 : List ByteArray) (m : MapsS.SM) (p : ByteArray × ByteArray) : without l1 (m ++ [p]) = without l1 m ++ (if MapsS.inL p.1 l1 = true then [] else [p]) := by
  unfold without
  rw [List.filter_append]
  by_cases h : MapsS.inL p.1 l1 = true <;> simp [h]
theorem kfill_snoc (l : MapsS.SM) (x c : ByteArray) : MapsS.fill (l ++ [(x, c)]) [] = MapsS.ins x c (MapsS.fill l []) := by simp [MapsS.fill, List.foldl_append]
set_option maxHeartbeats 6400000 in
set_option maxRecDepth 100000 in
theorem template_KV_Remove.calls (b n : Nat) (m : MapsS.SM) (A1 : Option Addr) (c1 : Nat) (l1 : List ByteArray) (w : World) (h : KSet w b n m) (hr1 : Kd.C Kd.string w A1 l1.length l1) (_hc1 : l1.length ≤ c1) (hl : m.length ≤ 1000000000) (hl1 : l1.length ≤ 1000000000) (hs : ∀ s ∈ l1, s.size ≤ maxLen) :
    Calls Try.prog 41 #[.map (some b), .slice A1 l1.length c1] w fun e w' => ∃ b', e = .returned (.map (some b')) ∧ w.heap.size ≤ b' ∧ KSet w' b' m.length (without l1 m) ∧ Below w.heap.size w w' := by
  have H := Aside0.mk h
  have HL := Aside0.mk h.lt
  have HR1 := Aside0.mk hr1
  have HSZ := Aside0.mk hs
  have hmm := run_makeSet_hint
  have hmk := @run_makeMap Try.prog
  clear h hr1 hs
  go_enter Try.func41, Try.ntmps41
  go_wp2
  have HM0 := Aside0.mk (MapsS.IsUS.made w Try.prog 9)
  go_loopw [18] (fun v18 wr => ∃ j : Nat, j ≤ l1.length ∧ v18 = .int .i64 j ∧ Aside0 (MapsS.IsUS Try.prog 9 wr w.heap.size j (l1.take j)) ∧ Aside0 (Below w.heap.size w wr)) (fun v18 _ => l1.length - (intOf v18).toNat)
  case atStart => exact ⟨0, Nat.zero_le _, rfl, HM0, ⟨below_alloc (Below.refl _ _) _⟩⟩
  case round =>
    clear HM0
    obtain ⟨j, hj, rfl, HM, HB⟩ := hrel
    by_cases hlt : j < l1.length
    · obtain ⟨ad, e0, hx⟩ := Kd.at_string (Kd.C_below HR1.out HB.out) (j : Int) (by omega) (by omega)
      cases e0
      have er : rdOf ByteArray.empty l1 (j : Int) = l1[j] := by simp [rdOf, hlt]
      simp only [Int.toNat_natCast] at hx
      rw [er] at hx
      have HK := Aside0.mk (HSZ.out _ (List.getElem_mem hlt))
      have HT := Aside0.mk (show l1.take (j + 1) = l1.take j ++ [l1[j]] from List.take_succ_eq_append_getElem hlt)
      clear er
      generalize l1[j] = x at *
      go_wp2_with (at_mapUpdate; refine MapsS.wpList_store_us (t := 93) (k := 9) (e := 78) rfl _ _ _ rfl Try.underlying93 Try.underlying9 rfl HM.out (by unfold maxLen; omega) rfl rfl HK.out ?_; intro w2 hM2 hg2; rw [← HT.out] at hM2; have HM2 := Aside0.mk hM2; have HB2 := Aside0.mk (pw_below_grown HB.out _ (below_size HB.out) hg2 (fun k hk => by injection hk with hk; omega)); clear hM2 hg2 HM HB HT)
      go_roundw
      case rel => exact ⟨j + 1, by omega, by go_num, HM2, HB2⟩
      case measure => simp [intOf]; omega
    · have hj2 : j = l1.length := by omega
      subst hj2
      have hM := HM.out
      rw [List.take_of_length_le (Nat.le_refl _)] at hM
      have HM1 := Aside0.mk hM
      have HZ1 := Aside0.mk hM.lt
      have HBa := Aside0.mk (below_alloc HB.out (.map #[] 0))
      have HMa := Aside0.mk (hM.alloc (.map #[] 0))
      have HHa := Aside0.mk ((H.out.below HB.out).alloc (.map #[] 0))
      have HRa := Aside0.mk (show KSet (wr.alloc (.map #[] 0)) wr.heap.size 0 (MapsS.fill (without l1 []) []) from MapsS.IsSM.made wr Try.prog _ _)
      have HS0 := Aside0.mk (below_size HB.out)
      clear hM HM HM1
      go_wp2_with (at_range; refine MapsS.wpList_range_sm (t := 63) rfl _ rfl Try.underlying63 Try.underlying9 rfl HHa.out ?_; intro w3 r hr hR hg hsz; have HR := Aside0.mk hR; have HG := Aside0.mk (show r = wr.heap.size + 1 by rw [hr]; simp); have HB3 := Aside0.mk (pw_below_grown HBa.out none (below_size HBa.out) hg (by simp)); have HM3 := Aside0.mk (HMa.out.kept hg (by simp)); have HR3 := Aside0.mk (HRa.out.kept hg (by simp)); have HZ3 := Aside0.mk (show wr.heap.size + 1 < w3.heap.size by rw [hsz]; simp); clear hr hR hg hsz HBa HMa HHa HRa)
      generalize wr.heap.size = R0 at *
      go_frame
      go_loopw [29] (fun _ wq => ∃ seen : MapsS.SM, Aside0 (KSet wq R0 seen.length (MapsS.fill (without l1 seen) [])) ∧ Aside0 (MapsS.IsUS Try.prog 9 wq w.heap.size l1.length l1) ∧ Aside0 (MapsS.RSM Try.prog 9 9 wq b r n m seen) ∧ Aside0 (Below w.heap.size w wq) ∧ Aside0 (R0 + 1 < wq.heap.size)) (fun _ wq => wq.rangeLeft b r)
      case atStart => exact ⟨[], HR3, HM3, HR, HB3, HZ3⟩
      case round =>
        clear HR3 HM3 HR HB3 HZ3
        obtain ⟨seen, HO, HM, HR, HB3, HZ⟩ := hrel
        go_wp2_with (at_next; refine MapsS.wpList_next_sm rfl _ rfl Try.underlying9 Try.underlying9 rfl HR.out ?_ ?_)
        · intro hp
          have hM := HO.out
          have hE : MapsS.fill (without l1 seen) [] = without l1 m := fill_perm (without_rises H.out.2.1) (show (without l1 seen).Perm (without l1 m) from hp.filter _)
          rw [hE, hp.length_eq] at hM
          clear hE
          have HM2 := Aside0.mk hM
          clear hM hp HO HM HR
          go_wp2
          go_ret
          exact ⟨_, rfl, HS0.out, HM2.out, HB3.out⟩
        · intro x c w4 hmem hnot hR hlt hg hsz hen
          have HK := Aside0.mk (H.out.2.2 _ hmem)
          have HR4 := Aside0.mk hR
          have HT := Aside0.mk hlt
          have HO4 := Aside0.mk (HO.out.kept hg (fun e => by injection e with e; have := HG.out; omega))
          have HM4 := Aside0.mk (HM.out.kept hg (fun e => by injection e with e; have := HG.out; have := HS0.out; omega))
          have HB4 := Aside0.mk (pw_below_grown HB3.out (some r) (below_size HB3.out) hg (fun k hk => by injection hk with hk; have := HG.out; have := HS0.out; omega))
          have HZ4 := Aside0.mk (show R0 + 1 < w4.heap.size by rw [hsz]; exact HZ.out)
          have HL4 := Aside0.mk (show seen.length < maxLen by
            obtain ⟨_, _, _, _, hsub, hnd, _⟩ := hR
            have := sub_len hnd hsub
            rw [List.length_append, List.length_singleton] at this
            unfold maxLen
            omega)
          have HF := Aside0.mk (without_snoc l1 seen (x, c))
          have h2 := HM4.out.look_ok_run Try.underlying93 Try.underlying9 (by rfl) HK.out.1
          have hz0 : w4.heap.size < (w4.alloc (.cells #[] 78)).heap.size := by simp
          have hga := World.grownBy_alloc w4 (.cells #[] 78) none
          have HO5 := Aside0.mk (HO4.out.alloc (.cells #[] 78))
          have HM5 := Aside0.mk (HM4.out.alloc (.cells #[] 78))
          have HR5 := Aside0.mk (HR4.out.kept hga (by simp) (by simp))
          have HB5 := Aside0.mk (below_alloc HB4.out (.cells #[] 78))
          have HZ5 := Aside0.mk (show R0 + 1 < (w4.alloc (.cells #[] 78)).heap.size from Nat.lt_trans HZ4.out hz0)
          have HT5 := Aside0.mk (show (w4.alloc (.cells #[] 78)).rangeLeft b r < wr.rangeLeft b r by rw [rangeLeft_kept hga (by have := HL.out; have := HS0.out; have := HZ4.out; omega) (by have := HG.out; have := HZ4.out; omega) (by simp) (by simp)]; exact HT.out)
          clear hmem hnot hR hlt hg hsz HO HM HR HB3 HZ hz0 hga HO4 HR4 HB4 HZ4 HT
          cases hin : MapsS.inL x l1 with
          | true =>
            rw [hin] at h2
            have HO6 := Aside0.mk (show KSet (w4.alloc (.cells #[] 78)) R0 (seen ++ [(x, c)]).length (MapsS.fill (without l1 (seen ++ [(x, c)])) []) by rw [HF.out]; simp only [hin, if_true, List.append_nil]; exact HO5.out.mono (by simp))
            clear HO5 HF hin
            go_wp2
            go_roundw
            case rel => first | exact ⟨seen ++ [(x, c)], HO6, HM5, HR5, HB5, HZ5⟩ | exact ⟨seen ++ [(x, c)], HO6, HM5, HR5⟩ | exact ⟨seen ++ [(x, c)], HO6, HR5⟩
            case measure => exact HT5.out
          | false =>
            rw [hin] at h2
            have HF2 := Aside0.mk (show MapsS.fill (without l1 (seen ++ [(x, c)])) [] = MapsS.ins x c (MapsS.fill (without l1 seen) []) by rw [HF.out]; simp only [hin, Bool.false_eq_true, if_false]; exact kfill_snoc _ x c)
            clear HF hin
            go_wp2_with (at_mapUpdate; refine MapsS.wpList_store_sm (t := 63) (k := 9) (e := 9) rfl _ _ _ rfl Try.underlying63 Try.underlying9 Try.underlying9 rfl HO5.out HL4.out rfl rfl HK.out.1 HK.out.2 ?_; intro w6 hM6 hg6; rw [← HF2.out] at hM6; have HO6 := Aside0.mk hM6; have HB6 := Aside0.mk (pw_below_grown HB5.out (some R0) (below_size HB5.out) hg6 (fun k hk => by injection hk with hk; have := HS0.out; omega)); have HM6 := Aside0.mk (HM5.out.kept hg6 (fun e => by injection e with e; have := HZ1.out; omega)); have HR6 := Aside0.mk (HR5.out.kept hg6 (fun e => by injection e with e; have := HL.out; have := HS0.out; omega) (fun e => by injection e with e; have := HG.out; omega)); have HZ6 := Aside0.mk (Nat.lt_of_lt_of_le HZ5.out hg6.size); have HT6 := Aside0.mk (show w6.rangeLeft b r < wr.rangeLeft b r by rw [rangeLeft_kept hg6 (by have := HL.out; have := HS0.out; have := HZ5.out; omega) (by have := HG.out; have := HZ5.out; omega) (fun e => by injection e with e; have := HL.out; have := HS0.out; omega) (fun e => by injection e with e; have := HG.out; omega)]; exact HT5.out); clear hM6 hg6 HO5 HB5 HR5 HZ5 HT5 HM5)
            go_roundw
            case rel => first | exact ⟨seen ++ [(x, c)], (by rw [List.length_append]; exact HO6), HM6, HR6, HB6, HZ6⟩ | exact ⟨seen ++ [(x, c)], (by rw [List.length_append]; exact HO6), HM6, HR6⟩ | exact ⟨seen ++ [(x, c)], (by rw [List.length_append]; exact HO6), HR6⟩
            case measure => exact HT6.out


/-! ### impl_Without: function 20 -/
-- a contract that was proved by hand
def namesOk (l1 : List ByteArray) : Bool := decide (l1.length ≤ 1000000000) && l1.all fun s => decide (s.size ≤ maxLen)
def impl_Without.f (l0 : List S26) (l1 : List ByteArray) : Option (List S26) := if less9K l0 = true ∧ namesOk l1 = true then some ((kvOrder (without l1 (setK l0))).map toPK) else none
set_option maxHeartbeats 1600000 in
set_option maxRecDepth 100000 in
theorem impl_Without.calls (A0 : Option Addr) (c0 : Nat) (l0 : List S26) (A1 : Option Addr) (c1 : Nat) (l1 : List ByteArray) (r : List S26) (w : World) (hr0 : Kd.C k26 w A0 l0.length l0) (hc0 : l0.length ≤ c0) (hr1 : Kd.C Kd.string w A1 l1.length l1) (hc1 : l1.length ≤ c1) (h : impl_Without.f l0 l1 = some r) :
    Calls Try.prog 20 #[.slice A0 l0.length c0, .slice A1 l1.length c1] w fun e w' => ∃ v0_ : Value, e = .returned (v0_) ∧ Kd.R k26 26 w' w.heap.size (fun _ => True) v0_ r ∧ Below w.heap.size w w' := by
  unfold impl_Without.f at h
  split at h
  · rename_i hl
    simp only [less9K, namesOk, Bool.and_eq_true, decide_eq_true_eq] at hl
    obtain ⟨⟨h1, h2⟩, h3, h4⟩ := hl
    have hq := Option.some.inj h
    have hs := setK_le l0
    have C0 := Aside0.mk (impl_kv.calls A0 c0 l0 w hr0 hc0 (by unfold maxLen; omega) h2)
    have HS := Aside0.mk (show ∀ s ∈ l1, s.size ≤ maxLen from fun s hs => of_decide_eq_true (List.all_eq_true.1 h4 s hs))
    have HR1 := Aside0.mk hr1
    have HC1 := Aside0.mk hc1
    have HL1 := Aside0.mk h3
    generalize setK l0 = m at *
    have HL := Aside0.mk (show m.length ≤ 1000000000 by omega)
    have HW := Aside0.mk (show (without l1 m).length ≤ 1000000000 by have := without_le l1 m; omega)
    obtain ⟨k, hk⟩ := plain_all (kvOrder (without l1 m)) (by rw [kvOrder_len]; have := without_le l1 m; omega)
    rw [hq] at hk
    obtain ⟨TL, hTL⟩ : ∃ TL, (kvOrder (without l1 m)).map toTP = TL := ⟨_, rfl⟩
    rw [hTL] at hk
    have HP := Aside0.mk hk
    have HTL := Aside0.mk hTL
    clear hTL h hq hs h1 h2 h3 h4 hr0 hc0 hr1 hc1 hk
    go_enter Try.func20, Try.ntmps20
    go_wp2_with fail
    refine C0.out.mono ?_
    rintro e w1 ⟨b, rfl, hb, hM, hB⟩
    have HM := Aside0.mk hM
    have HB := Aside0.mk hB
    have HR2 := Aside0.mk (Kd.C_below HR1.out hB)
    clear hM hB hb
    go_wp2_with fail
    refine (template_KV_Remove.calls b _ m A1 c1 l1 w1 HM.out HR2.out HC1.out HL.out HL1.out HS.out).mono ?_
    rintro e w2 ⟨b', rfl, hb', hM', hB'⟩
    have HM' := Aside0.mk hM'
    have HB2 := Aside0.mk (below_step HB.out hB')
    clear hM' hB' hb' HM HB
    go_wp2_with fail
    refine (template_KV_SortedPairs.calls b' _ (without l1 m) w2 HM'.out HW.out).mono ?_
    rintro e w3 ⟨v, rfl, hO, hB'⟩
    rw [HTL.out] at hO
    obtain ⟨A, c, rfl, hlc, hC⟩ := Kd.R_reads hO
    have HC := Aside0.mk hC
    have HLC := Aside0.mk hlc
    have HB3 := Aside0.mk (below_step HB2.out hB')
    clear hB' HM' HB2 hO hC hlc
    go_wp2_with fail
    refine (impl_plain.calls k A c TL r w3 HC.out HLC.out HP.out).mono ?_
    rintro e w4 ⟨v, rfl, hO, hB4⟩
    have HO := Aside0.mk (Kd.R_lower hO (below_size HB3.out))
    have HB4 := Aside0.mk (below_step HB3.out hB4)
    clear hB4 hO HB3
    go_wp2
    go_ret
    exact ⟨_, rfl, HO.out, HB4.out⟩
  · cases h


/-! ### spec_Has: function 21 -/
def spec_Has.l0 : Nat → List (S44) → ByteArray → Int → Int → Option (Bool)
  | 0, _, _, _, _ => none
  | k + 1, x0, x1, x7, x8 => if x8 < x7 then (if 0 ≤ x8 then (if x8 < (x0.length : Int) then (if ((rd_T44 x0 x8).f0).toList = x1.toList then (some true) else (spec_Has.l0 k x0 x1 x7 (wrap64 (x8 + 1)))) else (none)) else (none)) else (some false)
def spec_Has.f (k : Nat) (l0 : List (S44)) (a1 : ByteArray) : Option (Bool) := spec_Has.l0 k l0 a1 (l0.length : Int) 0
theorem spec_Has.mono_l : ∀ k, (∀ y0 y1 y2 y3, LeO (spec_Has.l0 k y0 y1 y2 y3) (spec_Has.l0 (k + 1) y0 y1 y2 y3))
  | 0 => fun _ _ _ _ r h => by simp [spec_Has.l0] at h
  | k + 1 => by
    have ih0 := spec_Has.mono_l k
    · intro y0 y1 y2 y3
      unfold spec_Has.l0
      repeat' first
      | (with_reducible exact ih0 _ _ _ _)
      | (with_reducible exact LeO.refl _)
      | (with_reducible exact LeO.none _)
      | (with_reducible refine LeO.ite ?_ ?_)
      | (with_reducible refine LeO.bind ?_ (fun _ => ?_))
      | exact ih0 _ _ _ _
      | exact LeO.none _
      | refine LeO.ite ?_ ?_
      | refine LeO.bind ?_ (fun _ => ?_)
theorem spec_Has.mono : ∀ a0 a1 k, LeO (spec_Has.f k a0 a1) (spec_Has.f (k + 1) a0 a1) := by
  intro a0 a1 k
  have ih0 := spec_Has.mono_l k
  unfold spec_Has.f
  repeat' first
      | (with_reducible exact ih0 _ _ _ _)
      | (with_reducible exact LeO.refl _)
      | (with_reducible exact LeO.none _)
      | (with_reducible refine LeO.ite ?_ ?_)
      | (with_reducible refine LeO.bind ?_ (fun _ => ?_))
      | exact ih0 _ _ _ _
      | exact LeO.none _
      | refine LeO.ite ?_ ?_
      | refine LeO.bind ?_ (fun _ => ?_)
set_option maxHeartbeats 8000000 in
set_option maxRecDepth 100000 in
theorem spec_Has.calls (k : Nat) (A0 : Option Addr) (c0 : Nat) (l0 : List (S44)) (a1 : ByteArray) (r : Bool) (w : World) (hr0 : Kd.C k44 w A0 l0.length l0) (hc0 : l0.length ≤ c0) (h : spec_Has.f k l0 a1 = some r) :
    Calls Try.prog 21 #[.slice A0 l0.length c0, .string a1] w fun e w' => e = .returned (.bool r) ∧ Drawn0 w w' := by
  have HR0 := Aside0.mk hr0
  have HC0 := Aside0.mk hc0
  clear hr0 hc0
  have H : (spec_Has.l0 k l0 a1 (l0.length : Int) 0) = some r := h
  clear h
  have H' := Aside0.mk H
  clear H
  go_enter Try.func21, Try.ntmps21
  go_wp2
  go_loopg [8] k (fun kq v8 w' => ∃ (x8_1 : Int), v8 = .int .i64 x8_1 ∧ Aside0 (spec_Has.l0 kq l0 a1 (l0.length : Int) x8_1 = some r) ∧ Aside0 (kq ≤ k) ∧ Drawn0 w w')
  case atStart => exact ⟨(0), (by first | rfl | (simp; done) | (simp [*]; done)), H', ⟨Nat.le_refl _⟩, by repeat (first | exact Drawn0.refl _ | apply Drawn0.step)⟩
  case round =>
    clear H'
    try clear c2
    try clear p2
    obtain ⟨x8_1, rfl, HA, HK1, ⟨m1, rfl⟩⟩ := hrel
    cases gk with
    | zero => exact absurd HA.out (by simp [spec_Has.l0])
    | succ k1 =>
      have H := HA.out
      clear HA
      simp only [spec_Has.l0] at H
      by_cases c3 : x8_1 < (l0.length : Int)
      · rw [if_pos c3] at H
        have c3b0 : decide (x8_1 < (l0.length : Int)) = true := decide_eq_true c3
        clear c3
        by_cases c4 : 0 ≤ x8_1
        · rw [if_pos c4] at H
          have c4b0 : decide (0 ≤ x8_1) = true := decide_eq_true c4
          clear c4
          by_cases c5 : x8_1 < (l0.length : Int)
          · rw [if_pos c5] at H
            have c5b0 : decide (x8_1 < (l0.length : Int)) = true := decide_eq_true c5
            clear c5
            by_cases c6 : ((rd_T44 l0 x8_1).f0).toList = a1.toList
            · rw [if_pos c6] at H
              have c6b0 : (((rd_T44 l0 x8_1).f0).toList == a1.toList) = true := beq_iff_eq.mpr c6
              have c6b1 : (((rd_T44 l0 x8_1).f0).toList != a1.toList) = false := bne_eq_false_iff_eq.mpr c6
              clear c6
              obtain rfl := Option.some.inj H
              have p183 : 0 ≤ (x8_1 : Int) := of_decide_eq_true (by first | (with_reducible assumption) | assumption)
              have q183 : x8_1 < (l0.length : Int) := of_decide_eq_true (by first | (with_reducible assumption) | assumption)
              obtain ⟨ad183, e183, hx183_0, hx183_1⟩ := at_T44 HR0.out x8_1 p183 q183
              cases e183
              replace p183 := eq_true p183
              replace q183 := eq_true q183
              go_wp2
              go_ret
              exact ⟨by first | rfl | (simp; done) | (simp [*]; done), by repeat (first | exact Drawn0.refl _ | apply Drawn0.step)⟩
            · rw [if_neg c6] at H
              have c6b0 : (((rd_T44 l0 x8_1).f0).toList == a1.toList) = false := beq_eq_false_iff_ne.mpr c6
              have c6b1 : (((rd_T44 l0 x8_1).f0).toList != a1.toList) = true := bne_iff_ne.mpr c6
              have H' := Aside0.mk H
              clear H
              have p183 : 0 ≤ (x8_1 : Int) := of_decide_eq_true (by first | (with_reducible assumption) | assumption)
              have q183 : x8_1 < (l0.length : Int) := of_decide_eq_true (by first | (with_reducible assumption) | assumption)
              obtain ⟨ad183, e183, hx183_0, hx183_1⟩ := at_T44 HR0.out x8_1 p183 q183
              cases e183
              replace p183 := eq_true p183
              replace q183 := eq_true q183
              go_wp2
              go_roundg k1
              case measure => have := HK1.out; omega
              case rel => exact ⟨(wrap64 (x8_1 + 1)), (by first | rfl | (simp; done) | (simp [*]; done)), H', ⟨by have := HK1.out; omega⟩, by repeat (first | exact Drawn0.refl _ | apply Drawn0.step)⟩
          · rw [if_neg c5] at H
            exact absurd H (by simp)
        · rw [if_neg c4] at H
          exact absurd H (by simp)
      · rw [if_neg c3] at H
        have c3b0 : decide (x8_1 < (l0.length : Int)) = false := decide_eq_false c3
        clear c3
        obtain rfl := Option.some.inj H
        go_wp2
        go_ret
        exact ⟨by first | rfl | (simp; done) | (simp [*]; done), by repeat (first | exact Drawn0.refl _ | apply Drawn0.step)⟩

end Go.Proofs.Ytbffcmiabcmjcaa.Q
