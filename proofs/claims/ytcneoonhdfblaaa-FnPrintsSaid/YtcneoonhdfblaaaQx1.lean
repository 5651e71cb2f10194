-- printed by this project's own program wip/tools/mkprint.py (the kit's print.py with hand-proved contracts put in)
import Derived.Test.YtcneoonhdfblaaaQx0
namespace Go.Proofs.Ytcneoonhdfblaaa.Q
open Go.RowKit Go.Proofs.YtcneoonhdfblaaaW.PrintWords Go.Proofs.YtcneoonhdfblaaaW.PrintLast Go.Proofs.YtcneoonhdfblaaaW.PrintMore
attribute [local go_sem] max2_int min2_int max_two min_two max_three min_three max_four min_four   -- for this text's walks alone
set_option linter.unusedVariables false
set_option linter.unusedSimpArgs false

/-! ### impl_prints: function 18 -/
-- contracts that were proved by hand
def okP (l : List Int) : Bool := l.all fun x => (Lit.int .u64 x).wf
def setI (l : List Int) : List Int := l.foldl (fun m x => MapsS.insI x m) []
theorem setI_snoc (l : List Int) (x : Int) : setI (l ++ [x]) = MapsS.insI x (setI l) := by simp [setI, List.foldl_append]
theorem len_insI (k : Int) : ∀ m : List Int, (MapsS.insI k m).length ≤ m.length + 1
  | [] => Nat.le_refl _
  | p :: r => by
    unfold MapsS.insI
    split
    · exact Nat.le_succ _
    · split
      · exact Nat.le_refl _
      · have := len_insI k r
        rw [List.length_cons, List.length_cons]
        omega
set_option maxHeartbeats 3200000 in
set_option maxRecDepth 100000 in
theorem impl_prints.calls (A0 : Option Addr) (c0 : Nat) (l0 : List Int) (w : World) (hr0 : Kd.C (Kd.int .u64) w A0 l0.length l0) (hl : l0.length ≤ 1000000) (hok : okP l0 = true) :
    Calls Try.prog 18 #[.slice A0 l0.length c0] w fun e w' => ∃ b, e = .returned (.map (some b)) ∧ w.heap.size ≤ b ∧ MapsS.IsIS Try.prog 48 w' b l0.length (setI l0) ∧ Below w.heap.size w w' := by
  have HR0 := Aside0.mk hr0
  have HSZ := Aside0.mk (show ∀ x ∈ l0, MapsS.OkI x from fun x hx => List.all_eq_true.1 hok x hx)
  clear hr0 hok
  have hmk := @run_makeMap Try.prog
  go_enter Try.func18, Try.ntmps18
  go_wp2
  have HM0 := Aside0.mk (MapsS.IsIS.made w Try.prog 48)
  go_loopw [9] (fun v9 wr => ∃ j : Nat, j ≤ l0.length ∧ v9 = .int .i64 j ∧ Aside0 (MapsS.IsIS Try.prog 48 wr w.heap.size j (setI (l0.take j))) ∧ Aside0 (Below w.heap.size w wr)) (fun v9 _ => l0.length - (intOf v9).toNat)
  case atStart => exact ⟨0, Nat.zero_le _, rfl, HM0, ⟨below_alloc (Below.refl _ _) _⟩⟩
  case round =>
    clear HM0
    obtain ⟨j, hj, rfl, HM, HB⟩ := hrel
    by_cases hlt : j < l0.length
    · obtain ⟨ad, e0, hx⟩ := Kd.at_int (Kd.C_below HR0.out HB.out) (j : Int) (by omega) (by omega)
      cases e0
      have er : rd l0 (j : Int) = l0[j] := by simp [rd, hlt]
      simp only [Int.toNat_natCast] at hx
      rw [er] at hx
      have HK := Aside0.mk (HSZ.out _ (List.getElem_mem hlt))
      have HT := Aside0.mk (show setI (l0.take (j + 1)) = MapsS.insI l0[j] (setI (l0.take j)) by rw [List.take_succ_eq_append_getElem hlt, setI_snoc])
      clear er
      generalize l0[j] = x at *
      go_wp2_with (at_mapUpdate; refine MapsS.wpList_store_is (t := 45) (k := 48) (e := 64) rfl _ _ _ rfl Try.underlying45 Try.underlying48 rfl HM.out (by unfold maxLen; omega) rfl rfl HK.out ?_; intro w2 hM2 hg2; rw [← HT.out] at hM2; have HM2 := Aside0.mk hM2; have HB2 := Aside0.mk (pw_below_grown HB.out _ (below_size HB.out) hg2 (fun k hk => by injection hk with hk; omega)); clear hM2 hg2 HM HB HT)
      go_roundw
      case rel => exact ⟨j + 1, by omega, by go_num, HM2, HB2⟩
      case measure => simp [intOf]; omega
    · have hj2 : j = l0.length := by omega
      subst hj2
      have hM := HM.out
      rw [List.take_of_length_le (Nat.le_refl _)] at hM
      have HU := Aside0.mk hM
      clear hM HM
      go_wp2
      go_ret
      exact ⟨_, rfl, Nat.le_refl _, HU.out, HB.out⟩


/-! ### model_FingerprintSet_Intersection: function 19 -/
-- contracts that were proved by hand
def bothI (a b : List Int) : List Int := a.filter fun x => MapsS.inI x b
theorem bothI_rise {a b : List Int} (h : MapsS.RiseI a) : MapsS.RiseI (bothI a b) := List.Pairwise.filter _ h
theorem mem_bothI {a b : List Int} {x : Int} : x ∈ bothI a b ↔ x ∈ a ∧ x ∈ b := by unfold bothI; rw [List.mem_filter, MapsS.inI_iff]
theorem bothI_comm {a b : List Int} (h1 : MapsS.RiseI a) (h2 : MapsS.RiseI b) : bothI a b = bothI b a :=
  MapsS.riseI_ext (bothI_rise h1) (bothI_rise h2) fun x => by rw [mem_bothI, mem_bothI, and_comm]
/-- What has come of a set's numbers, put into another one. -/
def putI (b : List Int) (seen : List Int) : List Int := (seen.filter fun x => MapsS.inI x b).foldl (fun m x => MapsS.insI x m) []
theorem putI_rise (b seen : List Int) : MapsS.RiseI (putI b seen) := by
  have key : ∀ (l m : List Int), MapsS.RiseI m → MapsS.RiseI (l.foldl (fun m x => MapsS.insI x m) m) := by
    intro l
    induction l with
    | nil => exact fun m h => h
    | cons x l ih => exact fun m h => ih _ (MapsS.rise_insI h)
  exact key _ _ List.Pairwise.nil
theorem mem_fillI {x : Int} : ∀ (l m : List Int), x ∈ l.foldl (fun m x => MapsS.insI x m) m ↔ x ∈ l ∨ x ∈ m := by
  intro l
  induction l with
  | nil => intro m; simp
  | cons y l ih =>
    intro m
    rw [List.foldl_cons, ih, MapsS.mem_insI, List.mem_cons]
    constructor
    · rintro (h | h | h)
      · exact .inl (.inr h)
      · exact .inl (.inl h)
      · exact .inr h
    · rintro ((h | h) | h)
      · exact .inr (.inl h)
      · exact .inl h
      · exact .inr (.inr h)
theorem putI_end {a b seen : List Int} (h : MapsS.RiseI a) (hp : seen.Perm a) : putI b seen = bothI a b :=
  MapsS.riseI_ext (putI_rise _ _) (bothI_rise h) fun x => by
    unfold putI
    rw [mem_fillI, mem_bothI, List.mem_filter, MapsS.inI_iff, hp.mem_iff]
    simp
theorem putI_in {b seen : List Int} {x : Int} (h : MapsS.inI x b = true) : putI b (seen ++ [x]) = MapsS.insI x (putI b seen) := by
  unfold putI
  rw [List.filter_append, List.foldl_append]
  simp [h]
theorem putI_out {b seen : List Int} {x : Int} (h : MapsS.inI x b = false) : putI b (seen ++ [x]) = putI b seen := by
  unfold putI
  rw [List.filter_append]
  simp [h]
set_option maxHeartbeats 3200000 in
set_option maxRecDepth 100000 in
theorem model_FingerprintSet_Intersection.calls (b1 n1 b2 n2 : Nat) (m1 m2 : List Int) (w : World) (h1 : MapsS.IsIS Try.prog 48 w b1 n1 m1) (h2 : MapsS.IsIS Try.prog 48 w b2 n2 m2) (hn1 : n1 ≤ 1000000) (hn2 : n2 ≤ 1000000) :
    Calls Try.prog 19 #[.map (some b1), .map (some b2)] w fun e w' => ∃ b, e = .returned (.map (some b)) ∧ w.heap.size ≤ b ∧ MapsS.IsIS Try.prog 48 w' b 1000000 (bothI m1 m2) ∧ Below w.heap.size w w' := by
  have e1 := fun ty => h1.len_run (t := 45) (e := 64) Try.underlying45 ty
  have e2 := fun ty => h2.len_run (t := 45) (e := 64) Try.underlying45 ty
  have hmk := @run_makeMap Try.prog
  have hl1 := h1.len_le
  have hl2 := h2.len_le
  have H1 := Aside0.mk h1
  have H2 := Aside0.mk h2
  clear h1 h2
  obtain ⟨R, hR⟩ : ∃ R, bothI m1 m2 = R := ⟨_, rfl⟩
  rw [hR]
  have HR0 := Aside0.mk hR
  clear hR
  by_cases hm1 : m1.length = 0
  · obtain rfl : m1 = [] := List.length_eq_zero_iff.1 hm1
    obtain rfl : [] = R := HR0.out
    clear hm1 hl1 hl2
    go_enter Try.func19, Try.ntmps19
    go_wp2
    go_ret
    exact ⟨_, rfl, Nat.le_refl _, (MapsS.IsIS.made w _ _).mono (by omega), below_alloc (Below.refl _ _) _⟩
  have c1 : ((m1.length : Int) == 0) = false := by simp [hm1]
  by_cases hm2 : m2.length = 0
  · obtain rfl : m2 = [] := List.length_eq_zero_iff.1 hm2
    obtain rfl : [] = R := by rw [← HR0.out]; unfold bothI; exact (List.filter_eq_nil_iff.2 (fun x _ => by simp [MapsS.inI])).symm
    clear hm1 hm2 hl1 hl2
    go_enter Try.func19, Try.ntmps19
    go_wp2
    go_ret
    exact ⟨_, rfl, Nat.le_refl _, (MapsS.IsIS.made w _ _).mono (by omega), below_alloc (Below.refl _ _) _⟩
  have c2 : ((m2.length : Int) == 0) = false := by simp [hm2]
  by_cases hsw : m2.length < m1.length
  · have csw : decide ((m2.length : Int) < (m1.length : Int)) = true := by simp; omega
    have csw2 : decide (m2.length < m1.length) = true := by simp; omega
    have HE := Aside0.mk (show ∀ seen, seen.Perm m2 → putI m1 seen = R from fun seen hp => by rw [putI_end H2.out.2.1 hp]; rw [bothI_comm H2.out.2.1 H1.out.2.1]; exact HR0.out)
    have HLS := Aside0.mk H2.out.lt
    have HML := Aside0.mk (show m2.length ≤ 1000000 by omega)
    clear hm1 hm2 hl1 hl2 hsw HR0
    go_enter Try.func19, Try.ntmps19
    go_wp2_with (at_range; refine MapsS.wpList_range_is (t := 45) (e := 64) rfl _ rfl Try.underlying45 Try.underlying48 rfl (H2.out.alloc _) ?_; intro w2 r hr hR hg hsz; have HR := Aside0.mk hR; have hr' : r = w.heap.size + 1 := (by rw [hr, World.size_alloc]); have HG := Aside0.mk hr'; have HO := Aside0.mk ((MapsS.IsIS.made w Try.prog 48).kept hg (by simp)); have HB := Aside0.mk (pw_below_grown (below_alloc (Below.refl w.heap.size w) (.map #[] 0)) none (by rw [World.size_alloc]; omega) hg (by simp)); have HZ := Aside0.mk (show r < w2.heap.size by omega); clear hr hr' hR hg hsz)
    go_frame
    clear e1 e2 c1 c2 csw csw2
    go_loopw [34] (fun v34 wr => ∃ seen, Aside0 (MapsS.RIS Try.prog 48 wr b2 r n2 m2 seen) ∧ Aside0 (MapsS.IsIS Try.prog 48 wr w.heap.size seen.length (putI m1 seen)) ∧ Aside0 (Below w.heap.size w wr) ∧ Aside0 (r < wr.heap.size)) (fun _ wr => wr.rangeLeft b2 r)
    case atStart => exact ⟨[], HR, HO, HB, HZ⟩
    case round =>
      clear HR HB HZ HO
      obtain ⟨seen, HR, HO, HB, HZ⟩ := hrel
      go_wp2_with (at_next; refine MapsS.wpList_next_is rfl _ rfl Try.underlying48 rfl HR.out ?_ ?_)
      · intro hp
        have hO := HO.out
        rw [HE.out seen hp] at hO
        have HO2 := Aside0.mk (hO.mono (show seen.length ≤ 1000000 by rw [hp.length_eq]; exact HML.out))
        clear hp hO HO
        go_wp2
        go_ret
        exact ⟨_, rfl, Nat.le_refl _, HO2.out, HB.out⟩
      · intro x w3 hmem hnot hR hlt hg hsz hen
        have HB3 := Aside0.mk (pw_below_grown HB.out _ (below_size HB.out) hg (fun k hk => by injection hk with hk; have := HG.out; omega))
        have HO3 := Aside0.mk (HO.out.kept hg (fun e => by injection e with e; have := HG.out; omega))
        have HR3 := Aside0.mk hR
        have HZ3 := Aside0.mk (show r < w3.heap.size by rw [hsz]; exact HZ.out)
        have HT3 := Aside0.mk hlt
        have HX := Aside0.mk (H2.out.2.2 _ hmem)
        have h2 := (H1.out.below HB3.out).look_ok_run (t := 45) Try.underlying45 Try.underlying48 (by rfl) (H2.out.2.2 _ hmem)
        have HL3 := Aside0.mk (show seen.length < 1000000 by
          obtain ⟨_, _, _, _, hsub, hnd, _⟩ := hR
          have := sub_len hnd hsub
          rw [List.length_append, List.length_singleton] at this
          have := HML.out
          omega)
        have hg4 := World.grownBy_alloc w3 (.cells #[] 64) none
        have HO4 := Aside0.mk (HO3.out.kept hg4 (by simp))
        have HB4 := Aside0.mk (below_alloc HB3.out (.cells #[] 64))
        have HR4 := Aside0.mk (HR3.out.kept hg4 (by simp) (by simp))
        have HZ4 := Aside0.mk (Nat.lt_of_lt_of_le HZ3.out hg4.size)
        have HT4 := Aside0.mk (show (w3.alloc (.cells #[] 64)).rangeLeft b2 r < wr.rangeLeft b2 r by rw [rangeLeft_kept hg4 (by have := HLS.out; have := below_size HB3.out; omega) HZ3.out (by simp) (by simp)]; exact HT3.out)
        have HLN := Aside0.mk (show (seen ++ [x]).length = seen.length + 1 by simp)
        clear hmem hnot hR hg hsz hlt hg4 HB3 HR3 HZ3 HT3 HR HB HZ HO HO3
        cases hk : MapsS.inI x m1 with
        | false =>
          have HQ := Aside0.mk (show MapsS.IsIS Try.prog 48 (w3.alloc (.cells #[] 64)) w.heap.size (seen ++ [x]).length (putI m1 (seen ++ [x])) by
            rw [putI_out hk, HLN.out]
            exact HO4.out.mono (Nat.le_succ _))
          rw [hk] at h2
          clear hk HO4
          go_wp2
          go_roundw
          case rel => exact ⟨_, HR4, HQ, HB4, HZ4⟩
          case measure => exact HT4.out
        | true =>
          have HT := Aside0.mk (putI_in (seen := seen) hk)
          rw [hk] at h2
          clear hk
          go_wp2_with (at_mapUpdate; refine MapsS.wpList_store_is (t := 45) (k := 48) (e := 64) rfl _ _ _ rfl Try.underlying45 Try.underlying48 rfl HO4.out (by have := HL3.out; unfold maxLen; omega) rfl rfl HX.out ?_; intro w5 hM5 hg5; rw [← HT.out, ← HLN.out] at hM5; have HO5 := Aside0.mk hM5; have HB5 := Aside0.mk (pw_below_grown HB4.out _ (below_size HB4.out) hg5 (fun k hk => by injection hk with hk; omega)); have HR5 := Aside0.mk (HR4.out.kept hg5 (fun e => by injection e with e; have := HLS.out; omega) (fun e => by injection e with e; have := HG.out; omega)); have HZ5 := Aside0.mk (Nat.lt_of_lt_of_le HZ4.out hg5.size); have HT5 := Aside0.mk (show w5.rangeLeft b2 r < wr.rangeLeft b2 r by rw [rangeLeft_kept hg5 (by have := HLS.out; have := below_size HB4.out; omega) (by exact HZ4.out) (fun e => by injection e with e; have := HLS.out; omega) (fun e => by injection e with e; have := HG.out; omega)]; exact HT4.out); clear hM5 hg5 HO4 HB4 HR4 HZ4 HT4)
          go_roundw
          case rel => exact ⟨_, _, _, _, _, _, _, _, _, _, _, _, _, _, _, _, _, ⟨_, HR5, HO5, HB5, HZ5⟩, rfl⟩
          case measure => exact HT5.out
  · have csw : decide ((m2.length : Int) < (m1.length : Int)) = false := by simp; omega
    have csw2 : decide (m2.length < m1.length) = false := by simp; omega
    have HE := Aside0.mk (show ∀ seen, seen.Perm m1 → putI m2 seen = R from fun seen hp => by rw [putI_end H1.out.2.1 hp]; exact HR0.out)
    have HLS := Aside0.mk H1.out.lt
    have HML := Aside0.mk (show m1.length ≤ 1000000 by omega)
    clear hm1 hm2 hl1 hl2 hsw HR0
    go_enter Try.func19, Try.ntmps19
    go_wp2_with (at_range; refine MapsS.wpList_range_is (t := 45) (e := 64) rfl _ rfl Try.underlying45 Try.underlying48 rfl (H1.out.alloc _) ?_; intro w2 r hr hR hg hsz; have HR := Aside0.mk hR; have hr' : r = w.heap.size + 1 := (by rw [hr, World.size_alloc]); have HG := Aside0.mk hr'; have HO := Aside0.mk ((MapsS.IsIS.made w Try.prog 48).kept hg (by simp)); have HB := Aside0.mk (pw_below_grown (below_alloc (Below.refl w.heap.size w) (.map #[] 0)) none (by rw [World.size_alloc]; omega) hg (by simp)); have HZ := Aside0.mk (show r < w2.heap.size by omega); clear hr hr' hR hg hsz)
    go_frame
    clear e1 e2 c1 c2 csw csw2
    go_loopw [34] (fun v34 wr => ∃ seen, Aside0 (MapsS.RIS Try.prog 48 wr b1 r n1 m1 seen) ∧ Aside0 (MapsS.IsIS Try.prog 48 wr w.heap.size seen.length (putI m2 seen)) ∧ Aside0 (Below w.heap.size w wr) ∧ Aside0 (r < wr.heap.size)) (fun _ wr => wr.rangeLeft b1 r)
    case atStart => exact ⟨[], HR, HO, HB, HZ⟩
    case round =>
      clear HR HB HZ HO
      obtain ⟨seen, HR, HO, HB, HZ⟩ := hrel
      go_wp2_with (at_next; refine MapsS.wpList_next_is rfl _ rfl Try.underlying48 rfl HR.out ?_ ?_)
      · intro hp
        have hO := HO.out
        rw [HE.out seen hp] at hO
        have HO2 := Aside0.mk (hO.mono (show seen.length ≤ 1000000 by rw [hp.length_eq]; exact HML.out))
        clear hp hO HO
        go_wp2
        go_ret
        exact ⟨_, rfl, Nat.le_refl _, HO2.out, HB.out⟩
      · intro x w3 hmem hnot hR hlt hg hsz hen
        have HB3 := Aside0.mk (pw_below_grown HB.out _ (below_size HB.out) hg (fun k hk => by injection hk with hk; have := HG.out; omega))
        have HO3 := Aside0.mk (HO.out.kept hg (fun e => by injection e with e; have := HG.out; omega))
        have HR3 := Aside0.mk hR
        have HZ3 := Aside0.mk (show r < w3.heap.size by rw [hsz]; exact HZ.out)
        have HT3 := Aside0.mk hlt
        have HX := Aside0.mk (H1.out.2.2 _ hmem)
        have h2 := (H2.out.below HB3.out).look_ok_run (t := 45) Try.underlying45 Try.underlying48 (by rfl) (H1.out.2.2 _ hmem)
        have HL3 := Aside0.mk (show seen.length < 1000000 by
          obtain ⟨_, _, _, _, hsub, hnd, _⟩ := hR
          have := sub_len hnd hsub
          rw [List.length_append, List.length_singleton] at this
          have := HML.out
          omega)
        have hg4 := World.grownBy_alloc w3 (.cells #[] 64) none
        have HO4 := Aside0.mk (HO3.out.kept hg4 (by simp))
        have HB4 := Aside0.mk (below_alloc HB3.out (.cells #[] 64))
        have HR4 := Aside0.mk (HR3.out.kept hg4 (by simp) (by simp))
        have HZ4 := Aside0.mk (Nat.lt_of_lt_of_le HZ3.out hg4.size)
        have HT4 := Aside0.mk (show (w3.alloc (.cells #[] 64)).rangeLeft b1 r < wr.rangeLeft b1 r by rw [rangeLeft_kept hg4 (by have := HLS.out; have := below_size HB3.out; omega) HZ3.out (by simp) (by simp)]; exact HT3.out)
        have HLN := Aside0.mk (show (seen ++ [x]).length = seen.length + 1 by simp)
        clear hmem hnot hR hg hsz hlt hg4 HB3 HR3 HZ3 HT3 HR HB HZ HO HO3
        cases hk : MapsS.inI x m2 with
        | false =>
          have HQ := Aside0.mk (show MapsS.IsIS Try.prog 48 (w3.alloc (.cells #[] 64)) w.heap.size (seen ++ [x]).length (putI m2 (seen ++ [x])) by
            rw [putI_out hk, HLN.out]
            exact HO4.out.mono (Nat.le_succ _))
          rw [hk] at h2
          clear hk HO4
          go_wp2
          go_roundw
          case rel => exact ⟨_, HR4, HQ, HB4, HZ4⟩
          case measure => exact HT4.out
        | true =>
          have HT := Aside0.mk (putI_in (seen := seen) hk)
          rw [hk] at h2
          clear hk
          go_wp2_with (at_mapUpdate; refine MapsS.wpList_store_is (t := 45) (k := 48) (e := 64) rfl _ _ _ rfl Try.underlying45 Try.underlying48 rfl HO4.out (by have := HL3.out; unfold maxLen; omega) rfl rfl HX.out ?_; intro w5 hM5 hg5; rw [← HT.out, ← HLN.out] at hM5; have HO5 := Aside0.mk hM5; have HB5 := Aside0.mk (pw_below_grown HB4.out _ (below_size HB4.out) hg5 (fun k hk => by injection hk with hk; omega)); have HR5 := Aside0.mk (HR4.out.kept hg5 (fun e => by injection e with e; have := HLS.out; omega) (fun e => by injection e with e; have := HG.out; omega)); have HZ5 := Aside0.mk (Nat.lt_of_lt_of_le HZ4.out hg5.size); have HT5 := Aside0.mk (show w5.rangeLeft b1 r < wr.rangeLeft b1 r by rw [rangeLeft_kept hg5 (by have := HLS.out; have := below_size HB4.out; omega) (by exact HZ4.out) (fun e => by injection e with e; have := HLS.out; omega) (fun e => by injection e with e; have := HG.out; omega)]; exact HT4.out); clear hM5 hg5 HO4 HB4 HR4 HZ4 HT4)
          go_roundw
          case rel => exact ⟨_, _, _, _, _, _, _, _, _, _, _, _, _, _, _, _, _, ⟨_, HR5, HO5, HB5, HZ5⟩, rfl⟩
          case measure => exact HT5.out


/-! ### bits_Len32: function 40 -/
-- contracts that were proved by hand
-- nothing told here: the shelf's contract of sort.Strings stands in its place


/-! ### bits_Len64: function 41 -/
-- contracts that were proved by hand
-- nothing told here: the shelf's contract of sort.Strings stands in its place


/-! ### bits_Len: function 32 -/
-- contracts that were proved by hand
-- nothing told here: the shelf's contract of sort.Strings stands in its place


/-! ### sort_insertionSort: function 42 -/
-- contracts that were proved by hand
-- nothing told here: the shelf's contract of sort.Sort stands in its place


/-! ### sort_siftDown: function 52 -/
-- contracts that were proved by hand
-- nothing told here: the shelf's contract of sort.Sort stands in its place


/-! ### sort_heapSort: function 43 -/
-- contracts that were proved by hand
-- nothing told here: the shelf's contract of sort.Sort stands in its place


/-! ### sort_nextPowerOfTwo: function 53 -/
-- contracts that were proved by hand
-- nothing told here: the shelf's contract of sort.Sort stands in its place


/-! ### sort_xorshift_Next: function 54 -/
-- contracts that were proved by hand
-- nothing told here: the shelf's contract of sort.Sort stands in its place


/-! ### sort_breakPatterns: function 44 -/
-- contracts that were proved by hand
-- nothing told here: the shelf's contract of sort.Sort stands in its place


/-! ### sort_order2: function 58 -/
-- contracts that were proved by hand
-- nothing told here: the shelf's contract of sort.Sort stands in its place


/-! ### sort_median: function 56 -/
-- contracts that were proved by hand
-- nothing told here: the shelf's contract of sort.Sort stands in its place


/-! ### sort_medianAdjacent: function 55 -/
-- contracts that were proved by hand
-- nothing told here: the shelf's contract of sort.Sort stands in its place


/-! ### sort_choosePivot: function 45 -/
-- contracts that were proved by hand
-- nothing told here: the shelf's contract of sort.Sort stands in its place


/-! ### sort_reverseRange: function 46 -/
-- contracts that were proved by hand
-- nothing told here: the shelf's contract of sort.Sort stands in its place


/-! ### sort_partialInsertionSort: function 47 -/
-- contracts that were proved by hand
-- nothing told here: the shelf's contract of sort.Sort stands in its place


/-! ### sort_partitionEqual: function 48 -/
-- contracts that were proved by hand
-- nothing told here: the shelf's contract of sort.Sort stands in its place


/-! ### sort_partition: function 49 -/
-- contracts that were proved by hand
-- nothing told here: the shelf's contract of sort.Sort stands in its place


/-! ### sort_pdqsort: function 33 -/
-- contracts that were proved by hand
-- nothing told here: the shelf's contract of sort.Sort stands in its place


/-! ### sort_Sort: function 20 -/
-- contracts that were proved by hand
section names
open Go.Sort
theorem LNames.len_reached (p : Option Addr) (n c : Nat) : Reaches Try.prog 79 (.slice p n c) "Len" 96 := ⟨fun _ => by kernel_rfl, enters_of Try.func96 (by kernel_rfl) rfl⟩
theorem LNames.less_reached (p : Option Addr) (n c : Nat) : Reaches Try.prog 79 (.slice p n c) "Less" 97 := ⟨fun _ => by kernel_rfl, enters_of Try.func97 (by kernel_rfl) rfl⟩
theorem LNames.swap_reached (p : Option Addr) (n c : Nat) : Reaches Try.prog 79 (.slice p n c) "Swap" 99 := ⟨fun _ => by kernel_rfl, enters_of Try.func99 (by kernel_rfl) rfl⟩
theorem LNames.Len (p : Option Addr) (n c : Nat) (W : World) : LenM Try.prog 96 (.slice p n c) n W := by
  unfold LenM
  go_enter Try.func96, Try.ntmps96
  go_wp2
  go_ret
  exact ⟨rfl, 0, rfl⟩
set_option maxHeartbeats 2000000 in
theorem LNames.Less (blk off c size : Nat) (W : World) (G : Nat → List UInt8) (hc : ∀ t, t < size → W.cell? ⟨blk, off + t, none⟩ = some (encStr (G t))) (i j : Nat) (hi : i < size) (hj : j < size) (_hsz : size < 4611686018427387904) :
    Calls Try.prog 97 #[.slice (some ⟨blk, off, none⟩) size c, .int .i64 i, .int .i64 j] W fun e w' => e = .returned (.bool (ltStr (G i) (G j))) ∧ ∃ q, w' = W.drewN q := by
  have ci := hc i hi
  have cj := hc j hj
  go_enter Try.func97, Try.ntmps97
  go_wp2
  go_quiet (fail)
  go_wp2
  go_ret
  exact ⟨by simp [ltStr, Pure.less_eq], nq, rfl⟩
set_option maxHeartbeats 2000000 in
theorem LNames.Swap (blk off c size : Nat) (W : World) (x y : List UInt8) (i j : Nat) (hi : i < size) (hj : j < size) (_hsz : size < 4611686018427387904)
    (ci : W.cell? ⟨blk, off + i, none⟩ = some (encStr x)) (cj : W.cell? ⟨blk, off + j, none⟩ = some (encStr y)) (fi : W.frozen? ⟨blk, off + i, none⟩ = false) (fj : W.frozen? ⟨blk, off + j, none⟩ = false) :
    Calls Try.prog 99 #[.slice (some ⟨blk, off, none⟩) size c, .int .i64 i, .int .i64 j] W fun e w' => e = .returned (.tuple #[]) ∧ ∃ q, w' = ((W.setCell ⟨blk, off + i, none⟩ (encStr y)).setCell ⟨blk, off + j, none⟩ (encStr x)).drewN q := by
  obtain ⟨v', hy'⟩ := cell?_setCell_some (w := W) (p := ⟨blk, off + i, none⟩) (x := encStr y) (q := ⟨blk, off + j, none⟩) cj
  go_enter Try.func99, Try.ntmps99
  go_wp2
  go_region
  all_goals (try go_wp2)
  all_goals go_end0
  all_goals exact ⟨rfl, 1, rfl⟩
theorem LNames.LessM (blk off c : Nat) (d : Array (List UInt8)) (w : World) (hH : Holds encStr w blk off d) (hblk : blk < w.heap.size) (hsz : d.size < 4611686018427387904) :
    LessM Try.prog 97 (.slice (some ⟨blk, off, none⟩) d.size c) encStr ltStr blk off d.size w := fun m os dk hs i j hi hj =>
  LNames.Less blk off c d.size _ (fun t => dk[t]!) (fun t ht => ((holds_sortWorld encStr w blk off m d dk os hblk hH hs) t (by omega)).1) i j hi hj hsz
theorem LNames.SwapM (blk off c size : Nat) (hsz : size < 4611686018427387904) : SwapM Try.prog 99 (.slice (some ⟨blk, off, none⟩) size c) encStr blk off size := fun W dk hH hs i j hi hj =>
  LNames.Swap blk off c size W dk[i]! dk[j]! i j hi hj hsz (hH i (by omega)).1 (hH j (by omega)).1 (hH i (by omega)).2 (hH j (by omega)).2
theorem merge_ltStr (ss : List (List UInt8)) : ss.mergeSort (fun x y => !ltStr y x) = ss.mergeSort fun x y => decide (x ≤ y) := by
  congr 1
  funext x y
  show (!decide (y < x)) = decide (x ≤ y)
  by_cases h : x ≤ y
  · have h' : ¬ y < x := List.not_lt.2 h
    simp [h, h']
  · have h' : y < x := List.not_le.1 h
    simp [h, h']
set_option maxRecDepth 100000 in
/-- Names of the call's own, sorted in their place. -/
theorem sort_Sort.names (v : Value) (xs : List ByteArray) (w : World) (base : Nat) (h : Kd.R Kd.string 65 w base (fun _ => True) v xs) (hl : xs.length < 4611686018427387904) :
    Calls Try.prog 20 #[.iface 79 v] w fun e w' => e = .returned (.tuple #[]) ∧ Kd.R Kd.string 65 w' base (fun _ => True) v (sortB xs) ∧ w.grownBy w' v.ownBlock := by
  have ho := Kd.own_of_R h
  have small : ∀ p c, v = .slice p xs.length c → xs.length ≤ 1 → Calls Try.prog 20 #[.iface 79 v] w fun e w' => e = .returned (.tuple #[]) ∧ Kd.R Kd.string 65 w' base (fun _ => True) v (sortB xs) ∧ w.grownBy w' v.ownBlock := by
    rintro p c rfl hn
    refine (Try.sort_Sort_tiny (α := Nat) 79 _ _ (LNames.len_reached p xs.length c) xs.length hn w (LNames.Len _ _ _ _)).mono ?_
    rintro e w1 ⟨rfl, q, rfl⟩
    have e : sortB xs = xs := by
      match xs, hn with
      | [], _ => simp [sortB]
      | [x], _ => simp [sortB]
      | _ :: _ :: _, h => simp at h
    have hg : ∀ row, w.grownBy (w.drewN q) row := fun row => ⟨rfl, rfl, rfl, Nat.le_refl _, fun _ _ _ => rfl⟩
    rw [e]
    exact ⟨rfl, Kd.R_mono (Kd.R_grown (row := none) (Kd.R_mono h (fun _ _ => trivial)) (hg none) (fun _ _ => by simp)) (fun _ _ => trivial), hg _⟩
  rcases ho.2 with ⟨rfl, hn⟩ | ⟨g, cap, cur, rfl, hbase, hb, h1, h2, h3, h4⟩
  · obtain rfl : xs = [] := List.length_eq_zero_iff.1 hn
    exact small none 0 rfl (Nat.zero_le _)
  · by_cases hn : xs.length ≤ 1
    · exact small _ _ rfl hn
    have hl2 : (xs.map (·.data.toList)).length = xs.length := List.length_map ..
    have h4' : cur.toList.take (xs.map (·.data.toList)).length = (xs.map (·.data.toList)).map encStr := by rw [hl2, enc_map]; simpa using h4
    have hH := holds_of_block hb h4'
    have hsz : (xs.map (·.data.toList)).toArray.size = xs.length := by simp
    have hblk := (Array.getElem?_eq_some_iff.1 hb).1
    obtain ⟨d, hd0⟩ : ∃ d, (xs.map (·.data.toList)).toArray = d := ⟨_, rfl⟩
    rw [hd0] at hH hsz
    have rN := LNames.len_reached (some ⟨g, 0, none⟩) d.size cap
    have rL := LNames.less_reached (some ⟨g, 0, none⟩) d.size cap
    have rS := LNames.swap_reached (some ⟨g, 0, none⟩) d.size cap
    have hz : d.size < 4611686018427387904 := by rw [hsz]; exact hl
    have lL := LNames.LessM g 0 cap d w hH hblk hz
    have lS := LNames.SwapM g 0 cap d.size hz
    have lN := LNames.Len (some ⟨g, 0, none⟩) d.size cap w
    have C := Try.sort_Sort_sorted 79 (.slice (some ⟨g, 0, none⟩) d.size cap) 96 97 99 rN rL rS encStr ltStr swo_ltStr g 0 d (by rw [hsz]; omega) hz w lN lL lS hH hblk
    rw [hsz] at C
    refine C.mono ?_
    rintro e w1 ⟨rfl, d', n, os, hP, hS, rfl⟩
    rw [← hsz] at hP hS
    subst hd0
    have hd := sorted_unique_holds swo_ltStr (fun x y h1 h2 => by simp only [ltStr, decide_eq_false_iff_not, List.not_lt] at h1 h2; exact List.le_antisymm h2 h1) _ d' hP hS
    rw [merge_ltStr, List.toList_toArray, ← sortB_map] at hd
    have hd' : d' = ((sortB xs).map (·.data.toList)).toArray := by rw [← hd]
    rw [hd']
    have hl3 : ((sortB xs).map (·.data.toList)).length = (xs.map (·.data.toList)).length := by rw [List.length_map, List.length_map, (sortB_perm xs).length_eq]
    have hown := ownsRow_sorted (n := n) (os := os) hl3 hbase hb (by rw [hl2]; exact h1) h2 h3
    rw [enc_map, hl2] at hown
    refine ⟨rfl, Kd.R_of_own (by rw [(sortB_perm xs).length_eq]; exact hown) (fun _ _ => trivial), ?_⟩
    exact grownBy_sorted _
end names


/-! ### impl_PrintsBoth: function 5 -/
-- a contract that was proved by hand
section prints
open Go.Sort
def encU (x : Int) : Value := .int .u64 x
def ltI (x y : Int) : Bool := decide (x < y)
theorem ltI_swo : SWO ltI where
  irrefl x := by simp [ltI]
  trans x y z h g := by simp only [ltI, decide_eq_true_eq] at *; omega
  ntrans x y z h g := by simp only [ltI, decide_eq_false_iff_not] at *; omega
theorem Fps.len_reached (p : Option Addr) (n c : Nat) : Reaches Try.prog 43 (.slice p n c) "Len" 91 := ⟨fun _ => by kernel_rfl, enters_of Try.func91 (by kernel_rfl) rfl⟩
theorem Fps.less_reached (p : Option Addr) (n c : Nat) : Reaches Try.prog 43 (.slice p n c) "Less" 92 := ⟨fun _ => by kernel_rfl, enters_of Try.func92 (by kernel_rfl) rfl⟩
theorem Fps.swap_reached (p : Option Addr) (n c : Nat) : Reaches Try.prog 43 (.slice p n c) "Swap" 93 := ⟨fun _ => by kernel_rfl, enters_of Try.func93 (by kernel_rfl) rfl⟩
theorem Fps.Len (p : Option Addr) (n c : Nat) (W : World) : LenM Try.prog 91 (.slice p n c) n W := by
  unfold LenM
  go_enter Try.func91, Try.ntmps91
  go_wp2
  go_ret
  exact ⟨rfl, 0, rfl⟩
set_option maxHeartbeats 2000000 in
theorem Fps.Less (blk off c size : Nat) (W : World) (G : Nat → Int) (hc : ∀ t, t < size → W.cell? ⟨blk, off + t, none⟩ = some (.int .u64 (G t))) (i j : Nat) (hi : i < size) (hj : j < size) (_hsz : size < 4611686018427387904) :
    Calls Try.prog 92 #[.slice (some ⟨blk, off, none⟩) size c, .int .i64 i, .int .i64 j] W fun e w' => e = .returned (.bool (ltI (G i) (G j))) ∧ ∃ q, w' = W.drewN q := by
  have ci := hc i hi
  have cj := hc j hj
  go_enter Try.func92, Try.ntmps92
  go_wp2
  go_quiet (fail)
  go_wp2
  go_ret
  exact ⟨by simp [ltI], nq, rfl⟩
set_option maxHeartbeats 2000000 in
theorem Fps.Swap (blk off c size : Nat) (W : World) (x y : Int) (i j : Nat) (hi : i < size) (hj : j < size) (_hsz : size < 4611686018427387904)
    (ci : W.cell? ⟨blk, off + i, none⟩ = some (.int .u64 x)) (cj : W.cell? ⟨blk, off + j, none⟩ = some (.int .u64 y)) (fi : W.frozen? ⟨blk, off + i, none⟩ = false) (fj : W.frozen? ⟨blk, off + j, none⟩ = false) :
    Calls Try.prog 93 #[.slice (some ⟨blk, off, none⟩) size c, .int .i64 i, .int .i64 j] W fun e w' => e = .returned (.tuple #[]) ∧ ∃ q, w' = ((W.setCell ⟨blk, off + i, none⟩ (.int .u64 y)).setCell ⟨blk, off + j, none⟩ (.int .u64 x)).drewN q := by
  obtain ⟨v', hy'⟩ := cell?_setCell_some (w := W) (p := ⟨blk, off + i, none⟩) (x := .int .u64 y) (q := ⟨blk, off + j, none⟩) cj
  go_enter Try.func93, Try.ntmps93
  go_wp2
  go_region
  all_goals (try go_wp2)
  all_goals go_end0
  all_goals exact ⟨rfl, 1, rfl⟩
theorem Fps.LessM (blk off c : Nat) (d : Array Int) (w : World) (hH : Holds encU w blk off d) (hblk : blk < w.heap.size) (hsz : d.size < 4611686018427387904) :
    LessM Try.prog 92 (.slice (some ⟨blk, off, none⟩) d.size c) encU ltI blk off d.size w := fun m os dk hs i j hi hj =>
  Fps.Less blk off c d.size _ (fun t => dk[t]!) (fun t ht => ((holds_sortWorld encU w blk off m d dk os hblk hH hs) t (by omega)).1) i j hi hj hsz
theorem Fps.SwapM (blk off c size : Nat) (hsz : size < 4611686018427387904) : SwapM Try.prog 93 (.slice (some ⟨blk, off, none⟩) size c) encU blk off size := fun W dk hH hs i j hi hj =>
  Fps.Swap blk off c size W dk[i]! dk[j]! i j hi hj hsz (hH i (by omega)).1 (hH j (by omega)).1 (hH i (by omega)).2 (hH j (by omega)).2
theorem fp_rest {w : World} {g n : Nat} {os : Array Obj} (d : Array Int) {k : Nat} (hk : k < w.heap.size) (hne : k ≠ g) : (grow (putRow encU (Sort.ahead w n) g 0 d) os).heap[k]? = w.heap[k]? := by
  rw [heap_grow_old _ _ (by simpa using hk)]
  simp [putRow, mapBlock, Sort.ahead, Array.getElem?_modify, Ne.symm hne]
theorem fp_row {w : World} {g n : Nat} {os : Array Obj} {cur : Array Value} {e : TypeId} {fr : Nat × Nat} (d : Array Int) (hb : w.heap[g]? = some (.cells cur e fr)) :
    (grow (putRow encU (Sort.ahead w n) g 0 d) os).heap[g]? = some (.cells (putCells encU 0 d cur) e fr) := by
  have hg : g < w.heap.size := (Array.getElem?_eq_some_iff.1 hb).1
  rw [heap_grow_old _ _ (by simpa using hg)]
  simp [putRow, mapBlock, Sort.ahead, Array.getElem?_modify, hb, onCells]
theorem fp_grown {w : World} {g n : Nat} {os : Array Obj} (d : Array Int) : w.grownBy (grow (putRow encU (Sort.ahead w n) g 0 d) os) (some g) :=
  ⟨rfl, rfl, rfl, by simp, fun k hk hne => fp_rest d hk (fun e => hne (by rw [e]))⟩
theorem fp_take (cur : Array Value) (ts : List Int) (h : ts.length ≤ cur.size) : (putCells encU 0 ts.toArray cur).toList.take ts.length = ts.map encU := by
  apply List.ext_getElem?
  intro j
  by_cases hj : j < ts.length
  · rw [List.getElem?_take_of_lt hj, Array.getElem?_toList]
    simp [putCells, hj, show j < cur.size by omega]
  · rw [List.getElem?_take_eq_none (by omega), List.getElem?_eq_none (by simp; omega)]
theorem fp_holds {w : World} {g : Nat} {cur : Array Value} {e : TypeId} {ss : List Int} (hb : w.heap[g]? = some (.cells cur e (0, 0))) (ht : cur.toList.take ss.length = ss.map encU) : Holds encU w g 0 ss.toArray := by
  intro j hj
  have hj' : j < ss.length := by simpa using hj
  refine ⟨?_, by simp [World.frozen?, hb]⟩
  have h1 : (cur.toList.take ss.length)[j]? = (ss.map encU)[j]? := by rw [ht]
  rw [List.getElem?_take_of_lt hj'] at h1
  simp only [World.cell?, hb, Nat.zero_add]
  simp only [Option.isSome_none, Bool.false_eq_true, if_false]
  rw [← Array.getElem?_toList, h1]
  simp [hj']
set_option maxRecDepth 100000 in
/-- Numbers of the call's own, sorted in their place. -/
theorem sort_Sort.fps (v : Value) (xs : List Int) (w : World) (base : Nat) (h : Kd.R (Kd.int .u64) 48 w base (fun _ => True) v xs) (hl : xs.length < 4611686018427387904) :
    Calls Try.prog 20 #[.iface 43 v] w fun e w' => e = .returned (.tuple #[]) ∧ ∃ ys : List Int, ys.Perm xs ∧ ys.Pairwise (fun x y => ltI y x = false) ∧ Kd.R (Kd.int .u64) 48 w' base (fun _ => True) v ys ∧ w.grownBy w' v.ownBlock := by
  have ho := Kd.own_of_R h
  have small : ∀ p c, v = .slice p xs.length c → xs.length ≤ 1 → Calls Try.prog 20 #[.iface 43 v] w fun e w' => e = .returned (.tuple #[]) ∧ ∃ ys : List Int, ys.Perm xs ∧ ys.Pairwise (fun x y => ltI y x = false) ∧ Kd.R (Kd.int .u64) 48 w' base (fun _ => True) v ys ∧ w.grownBy w' v.ownBlock := by
    rintro p c rfl hn
    refine (Try.sort_Sort_tiny (α := Nat) 43 _ _ (Fps.len_reached p xs.length c) xs.length hn w (Fps.Len _ _ _ _)).mono ?_
    rintro e w1 ⟨rfl, q, rfl⟩
    have hg : ∀ row, w.grownBy (w.drewN q) row := fun row => ⟨rfl, rfl, rfl, Nat.le_refl _, fun _ _ _ => rfl⟩
    refine ⟨rfl, xs, List.Perm.refl _, ?_, Kd.R_drewN h q, hg _⟩
    match xs, hn with
    | [], _ => exact List.Pairwise.nil
    | [x], _ => exact List.pairwise_singleton _ _
    | _ :: _ :: _, h => simp at h
  rcases ho.2 with ⟨rfl, hn⟩ | ⟨g, cap, cur, rfl, hbase, hb, h1, h2, h3, h4⟩
  · exact small none 0 (by rw [hn]) (by omega)
  · by_cases hn : xs.length ≤ 1
    · exact small _ _ rfl hn
    have h4' : cur.toList.take xs.length = xs.map encU := (show cur.toList.take xs.length = xs.map (Value.int .u64) from by simpa [encs] using h4)
    have hH := fp_holds hb h4'
    have hsz : xs.toArray.size = xs.length := by simp
    have hblk := (Array.getElem?_eq_some_iff.1 hb).1
    obtain ⟨d, hd0⟩ : ∃ d, xs.toArray = d := ⟨_, rfl⟩
    rw [hd0] at hH hsz
    have hz : d.size < 4611686018427387904 := by rw [hsz]; exact hl
    have C := Try.sort_Sort_sorted 43 (.slice (some ⟨g, 0, none⟩) d.size cap) _ _ _ (Fps.len_reached _ _ _) (Fps.less_reached _ _ _) (Fps.swap_reached _ _ _) encU ltI ltI_swo g 0 d (by rw [hsz]; omega) hz w (Fps.Len _ _ _ _) (Fps.LessM g 0 cap d w hH hblk hz) (Fps.SwapM g 0 cap _ hz) hH hblk
    rw [hsz] at C
    refine C.mono ?_
    rintro e w1 ⟨rfl, d', n, os, hP, hS, rfl⟩
    have hsz' : d'.size = xs.length := hP.1.trans hsz
    have hperm : d'.toList.Perm xs := by
      have h := hP.2.2
      rw [← hsz, Array.extract_size] at h
      have e1 : d'.extract 0 d.size = d' := by rw [← hP.1]; exact Array.extract_size
      rw [e1] at h
      rw [← hd0] at h
      simpa using h
    have hdl : d'.toList.length = xs.length := by rw [Array.length_toList, hsz']
    refine ⟨rfl, d'.toList, hperm, ?_, Kd.R_of_own (ok := fun _ => True) ?_ (fun _ _ => trivial), fp_grown d'⟩
    · refine List.pairwise_iff_getElem.2 fun i j hi hj hij => ?_
      have h := hS i j (Nat.zero_le _) hij (by rw [← hsz']; simpa using hj)
      rw [getElem!_pos d' i (by simpa using hi), getElem!_pos d' j (by simpa using hj)] at h
      simpa using h
    · rw [hdl]
      refine ⟨by simp [encs, hsz'], .inr ⟨g, cap, _, rfl, hbase, fp_row d' hb, h1, h2, by simpa [putCells] using h3, ?_⟩⟩
      have h := fp_take cur d'.toList (by rw [Array.length_toList, hsz', h3]; omega)
      rw [hdl] at h
      rw [Nat.mul_one]
      have h : (putCells encU 0 d' cur).toList.take xs.length = d'.toList.map (Value.int .u64) := h
      simpa [encs] using h
end prints
theorem infoFp : (Try.prog.info? 48).map (fun i => (i.zero, i.size, i.bytes)) = some (some (.int .u64 0), 1, 8) := by kernel_rfl
theorem infoU64 : (Try.prog.info? 24).map (fun i => (i.zero, i.size, i.bytes)) = some (some (.int .u64 0), 1, 8) := by kernel_rfl
theorem fps_sorted {xs ys zs : List Int} (h1 : ys.Perm xs) (h2 : ys.Pairwise (fun x y => ltI y x = false)) (h3 : xs.Perm zs) (h4 : MapsS.RiseI zs) : ys = zs :=
  List.Perm.eq_of_pairwise (le := fun x y : Int => x ≤ y) (fun a b _ _ h h' => by omega) (h2.imp (fun {a b} h => by simp only [ltI, decide_eq_false_iff_not] at h; omega)) (h4.imp (fun {a b} h => by omega)) (h1.trans h3)
def impl_PrintsBoth.f (l0 : List Int) (l1 : List Int) : Option (List Int) := if l0.length ≤ 1000000 ∧ l1.length ≤ 1000000 ∧ okP l0 = true ∧ okP l1 = true then some (bothI (setI l0) (setI l1)) else none
set_option maxHeartbeats 6400000 in
set_option maxRecDepth 100000 in
theorem impl_PrintsBoth.calls (A0 : Option Addr) (c0 : Nat) (l0 : List Int) (A1 : Option Addr) (c1 : Nat) (l1 : List Int) (r : List Int) (w : World) (hr0 : Kd.C (Kd.int .u64) w A0 l0.length l0) (hc0 : l0.length ≤ c0) (hr1 : Kd.C (Kd.int .u64) w A1 l1.length l1) (hc1 : l1.length ≤ c1) (h : impl_PrintsBoth.f l0 l1 = some r) :
    Calls Try.prog 5 #[.slice A0 l0.length c0, .slice A1 l1.length c1] w fun e w' => ∃ v0_ : Value, e = .returned (v0_) ∧ Kd.R (Kd.int .u64) 24 w' w.heap.size (fun _ => True) v0_ r ∧ Below w.heap.size w w' := by
  unfold impl_PrintsBoth.f at h
  by_cases hc : l0.length ≤ 1000000 ∧ l1.length ≤ 1000000 ∧ okP l0 = true ∧ okP l1 = true
  · rw [if_pos hc] at h
    have hq := Option.some.inj h
    clear h
    obtain ⟨h1, h2, h3, h4⟩ := hc
    have C0 := Aside0.mk (impl_prints.calls A0 c0 l0 w hr0 h1 h3)
    have C1 := Aside0.mk (fun W (hb : Below w.heap.size w W) => impl_prints.calls A1 c1 l1 W (Kd.C_below hr1 hb) h2 h4)
    have HN0 := Aside0.mk h1
    have HN1 := Aside0.mk h2
    clear h1 h2 h3 h4 hr0 hr1 hc0 hc1
    generalize setI l0 = m0 at *
    generalize setI l1 = m1 at *
    have HQ := Aside0.mk hq
    clear hq
    go_enter Try.func5, Try.ntmps5
    go_wp2_with fail
    refine C0.out.mono ?_
    rintro e w1 ⟨b0, rfl, _, hM0, hB⟩
    have HM0 := Aside0.mk hM0
    have HB := Aside0.mk hB
    clear hM0 hB
    go_wp2_with fail
    refine (C1.out w1 HB.out).mono ?_
    rintro e w2 ⟨b1, rfl, _, hM1, hB'⟩
    have CE := Aside0.mk (model_FingerprintSet_Intersection.calls b0 _ b1 _ m0 m1 w2 (HM0.out.below hB') hM1 HN0.out HN1.out)
    have HB2 := Aside0.mk (below_step HB.out hB')
    clear hM1 hB' HM0 HB
    rw [HQ.out] at CE
    go_wp2_with fail
    refine CE.out.mono ?_
    rintro e w3 ⟨b, rfl, hbl, hM, hB3⟩
    have HM := Aside0.mk hM
    have HML := Aside0.mk hM.lt
    have HMN := Aside0.mk hM.len_le
    have HBB := Aside0.mk (show w.heap.size ≤ b by have := below_size HB2.out; omega)
    have HB3 := Aside0.mk (below_step HB2.out hB3)
    clear hM hB3 hbl HB2 CE C0 C1
    go_wp2_with (at_range; refine MapsS.wpList_range_is (t := 45) (e := 64) rfl _ rfl Try.underlying45 Try.underlying48 rfl HM.out ?_; intro w4 q hr hR hg hsz; have HR := Aside0.mk hR; have HG := Aside0.mk (show w.heap.size ≤ q by rw [hr]; exact below_size HB3.out); have HO0 := Aside0.mk (Kd.R_nil (Kd.int .u64) 48 w4 w.heap.size (fun k => k ≠ q ∧ k ≠ b)); have HBW := Aside0.mk (pw_below_grown HB3.out none (below_size HB3.out) hg (by simp)); have HZ := Aside0.mk (show q < w4.heap.size by omega); have HBZ := Aside0.mk (show b < w4.heap.size by have := HML.out; omega); clear hr hR hg hsz)
    go_frame
    go_loopw [5, 16] (fun v5 _ wr => ∃ seen : List Int, Aside0 (Kd.R (Kd.int .u64) 48 wr w.heap.size (fun k => k ≠ q ∧ k ≠ b) v5 seen) ∧ Aside0 (MapsS.RIS Try.prog 48 wr b q 1000000 r seen) ∧ Aside0 (Below w.heap.size w wr) ∧ Aside0 (q < wr.heap.size) ∧ Aside0 (b < wr.heap.size)) (fun _ _ wr => wr.rangeLeft b q)
    case atStart => exact ⟨[], HO0, HR, HBW, HZ, HBZ⟩
    case round =>
      clear HR HBW HZ HO0 HBZ
      obtain ⟨seen, HO, HR, HB, HZ, HBZ⟩ := hrel
      have HLE := Aside0.mk (show seen.length ≤ 1000000 by
        obtain ⟨_, _, _, _, hsub, hnd, _⟩ := HR.out
        have := sub_len hnd hsub
        have := HMN.out
        omega)
      go_wp2_with (at_next; refine MapsS.wpList_next_is rfl _ rfl Try.underlying48 rfl HR.out ?_ ?_)
      · intro hp
        have HP := Aside0.mk hp
        have HSO := Aside0.mk (sort_Sort.fps u5 seen wr w.heap.size (Kd.R_mono HO.out (fun _ _ => trivial)) (by have := HLE.out; omega))
        have HK := Aside0.mk (show ∀ k, u5.ownBlock = some k → w.heap.size ≤ k from fun k hk => by obtain ⟨_, inner, ho, _⟩ := HO.out; exact own_base ho k hk)
        have HRI := Aside0.mk (show MapsS.RiseI r from HM.out.2.1)
        have HRL := Aside0.mk (show r.length ≤ 1000000 from HMN.out)
        clear hp HR HZ HO
        go_wp2_with fail
        refine HSO.out.mono ?_
        rintro e w5 ⟨rfl, ys, hp1, hp2, hO5, hg5⟩
        have ey := fps_sorted hp1 hp2 HP.out HRI.out
        subst ey
        have HB5 := Aside0.mk (pw_below_grown HB.out _ (below_size HB.out) hg5 HK.out)
        obtain ⟨A, c, rfl, hlc, hC⟩ := Kd.R_reads hO5
        have HC := Aside0.mk hC
        clear hp1 hp2 hO5 hg5 HK HB HSO hlc hC HP HLE
        go_wp2
        have hrl := HRL.out
        go_loopw [7, 29] (fun v7 v29 wr => ∃ j : Nat, j ≤ ys.length ∧ v29 = .int .i64 j ∧ Aside0 (Kd.R (Kd.int .u64) 24 wr w5.heap.size (fun _ => True) v7 (ys.take j)) ∧ Aside0 (Below w5.heap.size w5 wr)) (fun _ v29 _ => ys.length - (intOf v29).toNat)
        case atStart => exact ⟨0, Nat.zero_le _, rfl, ⟨Kd.R_nil _ _ _ _ _⟩, ⟨Below.refl _ _⟩⟩
        case round =>
          obtain ⟨j, hj, rfl, HO, HB⟩ := hrel
          by_cases hlt : j < ys.length
          · obtain ⟨ad, e0, hx⟩ := Kd.at_int (Kd.C_below HC.out HB.out) (j : Int) (by omega) (by omega)
            cases e0
            have er : rd ys (j : Int) = ys[j] := by simp [rd, hlt]
            simp only [Int.toNat_natCast] at hx
            rw [er] at hx
            have HT := Aside0.mk (show ys.take (j + 1) = ys.take j ++ [ys[j]] from List.take_succ_eq_append_getElem hlt)
            have HLT := Aside0.mk hlt
            have HJ := Aside0.mk (show (ys.take j).length ≤ 1000000 by rw [List.length_take]; have := HRL.out; omega)
            clear er
            generalize ys[j] = x at *
            go_wp2_with ((with_reducible refine gate_builtin (b := .append) (xs := #[.tmp 33, .tmp 35]) rfl ?_); at_builtin; refine Kd.R_append (Kd.int .u64) (w0 := w5) w5.heap.size rfl (.tmp 33) (.tmp 35) 22 24 (.int .u64 0) 8 rfl Try.underlying22 infoU64 rfl (by decide) (by omega) u7 (ys.take j) x [.int .u64 x] (fun _ => True) (fun _ => False) rfl (by first | (go_simp; done) | (go_simp; rfl)) rfl (fun _ hk => hk.elim) (fun k hk => trivial) HO.out HB.out (below_size HB.out) (by have := HJ.out; omega) ?_; intro v2 w6 hO6 hB6 hg6 hat6; rw [← HT.out] at hO6; have HO7 := Aside0.mk hO6; have HB7 := Aside0.mk hB6; clear hO6 hB6 hg6 hat6 HO HB HT)
            go_roundw
            case rel => have := HRL.out; exact ⟨j + 1, HLT.out, by go_num, HO7, HB7⟩
            case measure => have := HRL.out; simp [intOf]; omega
          · have hj2 : j = ys.length := by omega
            subst hj2
            have hO := HO.out
            rw [List.take_of_length_le (Nat.le_refl _)] at hO
            have HO2 := Aside0.mk (Kd.R_lower hO (below_size HB5.out))
            have HB6 := Aside0.mk (below_step HB5.out HB.out)
            clear hO HO
            go_wp2
            go_ret
            exact ⟨_, rfl, HO2.out, HB6.out⟩
      · intro x w5 hmem hnot hR hlt hg hsz hen
        have HO3 := Aside0.mk (Kd.R_grown HO.out hg (fun k hk e => hk.1 (by injection e with e)))
        have HB3' := Aside0.mk (pw_below_grown HB.out (some q) (below_size HB.out) hg (fun k hk => by injection hk with hk; have := HG.out; omega))
        have HR3 := Aside0.mk hR
        have HZ3 := Aside0.mk (show q < w5.heap.size by rw [hsz]; exact HZ.out)
        have HBZ3 := Aside0.mk (show b < w5.heap.size by rw [hsz]; exact HBZ.out)
        have HT3 := Aside0.mk hlt
        have HK := Aside0.mk (show ∀ k, u5.ownBlock = some k → w.heap.size ≤ k ∧ k ≠ q ∧ k ≠ b from fun k hk => by
          obtain ⟨h0, inner, ho, _⟩ := HO.out
          exact ⟨own_base ho k hk, h0 k hk⟩)
        have HLN := Aside0.mk (show seen.length < 4398046511104 by have := HLE.out; omega)
        clear hmem hnot hR hlt hg hsz HO HR HB HZ HLE
        go_wp2_with ((with_reducible refine gate_builtin (b := .append) (xs := #[.tmp 20, .tmp 22]) rfl ?_); at_builtin; refine Kd.R_append (Kd.int .u64) (w0 := w) w.heap.size rfl (.tmp 20) (.tmp 22) 43 48 (.int .u64 0) 8 rfl Try.underlying43 infoFp rfl (by decide) (by omega) u5 seen x [.int .u64 x] (fun k => k ≠ q ∧ k ≠ b) (fun _ => False) rfl (by first | (go_simp; done) | (go_simp; rfl)) rfl (fun _ hk => hk.elim) (fun k hk => ⟨by have := HZ3.out; omega, by have := HBZ3.out; omega⟩) HO3.out HB3'.out (below_size HB3'.out) (by have := HLN.out; omega) ?_; intro v2 w6 hO6 hB6 hg6 hat6; have HO6 := Aside0.mk hO6; have HB6 := Aside0.mk hB6; have HR6 := Aside0.mk (HR3.out.kept hg6 (fun e => (HK.out _ e.symm).2.2 rfl) (fun e => (HK.out _ e.symm).2.1 rfl)); have HZ6 := Aside0.mk (Nat.lt_of_lt_of_le HZ3.out hg6.size); have HBZ6 := Aside0.mk (Nat.lt_of_lt_of_le HBZ3.out hg6.size); have HT6 := Aside0.mk (show w6.rangeLeft b q < wr.rangeLeft b q by rw [rangeLeft_kept hg6 (by exact HBZ3.out) (by exact HZ3.out) (fun e => (HK.out _ e.symm).2.2 rfl) (fun e => (HK.out _ e.symm).2.1 rfl)]; exact HT3.out); clear hO6 hB6 hg6 hat6 HO3 HB3' HR3 HZ3 HT3)
        go_roundw
        case rel => exact ⟨seen ++ [x], HO6, HR6, HB6, HZ6, HBZ6⟩
        case measure => exact HT6.out
  · rw [if_neg hc] at h
    cases h


end Go.Proofs.Ytcneoonhdfblaaa.Q
