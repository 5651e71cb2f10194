-- printed by this project's own program wip/tools/mkprint.py (the kit's print.py with hand-proved contracts put in)
import Derived.Test.YtcneoonhdfblaaaQx0
import Derived.Test.YtcneoonhdfblaaaQx1
namespace Go.Proofs.Ytcneoonhdfblaaa.Q
open Go.RowKit Go.Proofs.YtcneoonhdfblaaaW.PrintWords Go.Proofs.YtcneoonhdfblaaaW.PrintLast Go.Proofs.YtcneoonhdfblaaaW.PrintMore
attribute [local go_sem] max2_int min2_int max_two min_two max_three min_three max_four min_four   -- for this text's walks alone
set_option linter.unusedVariables false
set_option linter.unusedSimpArgs false

/-! ### sort_partition: function 49 -/
-- contracts that were proved by hand
-- nothing told here: the shelf's contract of sort.Sort stands in its place


/-! ### sort_pdqsort: function 33 -/
-- contracts that were proved by hand
-- nothing told here: the shelf's contract of sort.Sort stands in its place


/-! ### sort_Sort: function 20 -/
-- contracts that were proved by hand
section names
open Go.Sort
theorem LNames.len_reached (p : Option Addr) (n c : Nat) : Reaches Try.prog 79 (.slice p n c) "Len" 96 := ⟨fun _ => by kernel_rfl, enters_of Try.func96 (by kernel_rfl) rfl⟩
theorem LNames.less_reached (p : Option Addr) (n c : Nat) : Reaches Try.prog 79 (.slice p n c) "Less" 97 := ⟨fun _ => by kernel_rfl, enters_of Try.func97 (by kernel_rfl) rfl⟩
theorem LNames.swap_reached (p : Option Addr) (n c : Nat) : Reaches Try.prog 79 (.slice p n c) "Swap" 99 := ⟨fun _ => by kernel_rfl, enters_of Try.func99 (by kernel_rfl) rfl⟩
theorem LNames.Len (p : Option Addr) (n c : Nat) (W : World) : LenM Try.prog 96 (.slice p n c) n W := by
  unfold LenM
  go_enter Try.func96, Try.ntmps96
  go_wp2
  go_ret
  exact ⟨rfl, 0, rfl⟩
set_option maxHeartbeats 2000000 in
theorem LNames.Less (blk off c size : Nat) (W : World) (G : Nat → List UInt8) (hc : ∀ t, t < size → W.cell? ⟨blk, off + t, none⟩ = some (encStr (G t))) (i j : Nat) (hi : i < size) (hj : j < size) (_hsz : size < 4611686018427387904) :
    Calls Try.prog 97 #[.slice (some ⟨blk, off, none⟩) size c, .int .i64 i, .int .i64 j] W fun e w' => e = .returned (.bool (ltStr (G i) (G j))) ∧ ∃ q, w' = W.drewN q := by
  have ci := hc i hi
  have cj := hc j hj
  go_enter Try.func97, Try.ntmps97
  go_wp2
  go_quiet (fail)
  go_wp2
  go_ret
  exact ⟨by simp [ltStr, Pure.less_eq], nq, rfl⟩
set_option maxHeartbeats 2000000 in
theorem LNames.Swap (blk off c size : Nat) (W : World) (x y : List UInt8) (i j : Nat) (hi : i < size) (hj : j < size) (_hsz : size < 4611686018427387904)
    (ci : W.cell? ⟨blk, off + i, none⟩ = some (encStr x)) (cj : W.cell? ⟨blk, off + j, none⟩ = some (encStr y)) (fi : W.frozen? ⟨blk, off + i, none⟩ = false) (fj : W.frozen? ⟨blk, off + j, none⟩ = false) :
    Calls Try.prog 99 #[.slice (some ⟨blk, off, none⟩) size c, .int .i64 i, .int .i64 j] W fun e w' => e = .returned (.tuple #[]) ∧ ∃ q, w' = ((W.setCell ⟨blk, off + i, none⟩ (encStr y)).setCell ⟨blk, off + j, none⟩ (encStr x)).drewN q := by
  obtain ⟨v', hy'⟩ := cell?_setCell_some (w := W) (p := ⟨blk, off + i, none⟩) (x := encStr y) (q := ⟨blk, off + j, none⟩) cj
  go_enter Try.func99, Try.ntmps99
  go_wp2
  go_region
  all_goals (try go_wp2)
  all_goals go_end0
  all_goals exact ⟨rfl, 1, rfl⟩
theorem LNames.LessM (blk off c : Nat) (d : Array (List UInt8)) (w : World) (hH : Holds encStr w blk off d) (hblk : blk < w.heap.size) (hsz : d.size < 4611686018427387904) :
    LessM Try.prog 97 (.slice (some ⟨blk, off, none⟩) d.size c) encStr ltStr blk off d.size w := fun m os dk hs i j hi hj =>
  LNames.Less blk off c d.size _ (fun t => dk[t]!) (fun t ht => ((holds_sortWorld encStr w blk off m d dk os hblk hH hs) t (by omega)).1) i j hi hj hsz
theorem LNames.SwapM (blk off c size : Nat) (hsz : size < 4611686018427387904) : SwapM Try.prog 99 (.slice (some ⟨blk, off, none⟩) size c) encStr blk off size := fun W dk hH hs i j hi hj =>
  LNames.Swap blk off c size W dk[i]! dk[j]! i j hi hj hsz (hH i (by omega)).1 (hH j (by omega)).1 (hH i (by omega)).2 (hH j (by omega)).2
theorem merge_ltStr (ss : List (List UInt8)) : ss.mergeSort (fun x y => !ltStr y x) = ss.mergeSort fun x y => decide (x ≤ y) := by
  congr 1
  funext x y
  show (!decide (y < x)) = decide (x ≤ y)
  by_cases h : x ≤ y
  · have h' : ¬ y < x := List.not_lt.2 h
    simp [h, h']
  · have h' : y < x := List.not_le.1 h
    simp [h, h']
set_option maxRecDepth 100000 in
/-- Names of the call's own, sorted in their place. -/
theorem sort_Sort.names (v : Value) (xs : List ByteArray) (w : World) (base : Nat) (h : Kd.R Kd.string 65 w base (fun _ => True) v xs) (hl : xs.length < 4611686018427387904) :
    Calls Try.prog 20 #[.iface 79 v] w fun e w' => e = .returned (.tuple #[]) ∧ Kd.R Kd.string 65 w' base (fun _ => True) v (sortB xs) ∧ w.grownBy w' v.ownBlock := by
  have ho := Kd.own_of_R h
  have small : ∀ p c, v = .slice p xs.length c → xs.length ≤ 1 → Calls Try.prog 20 #[.iface 79 v] w fun e w' => e = .returned (.tuple #[]) ∧ Kd.R Kd.string 65 w' base (fun _ => True) v (sortB xs) ∧ w.grownBy w' v.ownBlock := by
    rintro p c rfl hn
    refine (Try.sort_Sort_tiny (α := Nat) 79 _ _ (LNames.len_reached p xs.length c) xs.length hn w (LNames.Len _ _ _ _)).mono ?_
    rintro e w1 ⟨rfl, q, rfl⟩
    have e : sortB xs = xs := by
      match xs, hn with
      | [], _ => simp [sortB]
      | [x], _ => simp [sortB]
      | _ :: _ :: _, h => simp at h
    have hg : ∀ row, w.grownBy (w.drewN q) row := fun row => ⟨rfl, rfl, rfl, Nat.le_refl _, fun _ _ _ => rfl⟩
    rw [e]
    exact ⟨rfl, Kd.R_mono (Kd.R_grown (row := none) (Kd.R_mono h (fun _ _ => trivial)) (hg none) (fun _ _ => by simp)) (fun _ _ => trivial), hg _⟩
  rcases ho.2 with ⟨rfl, hn⟩ | ⟨g, cap, cur, rfl, hbase, hb, h1, h2, h3, h4⟩
  · obtain rfl : xs = [] := List.length_eq_zero_iff.1 hn
    exact small none 0 rfl (Nat.zero_le _)
  · by_cases hn : xs.length ≤ 1
    · exact small _ _ rfl hn
    have hl2 : (xs.map (·.data.toList)).length = xs.length := List.length_map ..
    have h4' : cur.toList.take (xs.map (·.data.toList)).length = (xs.map (·.data.toList)).map encStr := by rw [hl2, enc_map]; simpa using h4
    have hH := holds_of_block hb h4'
    have hsz : (xs.map (·.data.toList)).toArray.size = xs.length := by simp
    have hblk := (Array.getElem?_eq_some_iff.1 hb).1
    obtain ⟨d, hd0⟩ : ∃ d, (xs.map (·.data.toList)).toArray = d := ⟨_, rfl⟩
    rw [hd0] at hH hsz
    have rN := LNames.len_reached (some ⟨g, 0, none⟩) d.size cap
    have rL := LNames.less_reached (some ⟨g, 0, none⟩) d.size cap
    have rS := LNames.swap_reached (some ⟨g, 0, none⟩) d.size cap
    have hz : d.size < 4611686018427387904 := by rw [hsz]; exact hl
    have lL := LNames.LessM g 0 cap d w hH hblk hz
    have lS := LNames.SwapM g 0 cap d.size hz
    have lN := LNames.Len (some ⟨g, 0, none⟩) d.size cap w
    have C := Try.sort_Sort_sorted 79 (.slice (some ⟨g, 0, none⟩) d.size cap) 96 97 99 rN rL rS encStr ltStr swo_ltStr g 0 d (by rw [hsz]; omega) hz w lN lL lS hH hblk
    rw [hsz] at C
    refine C.mono ?_
    rintro e w1 ⟨rfl, d', n, os, hP, hS, rfl⟩
    rw [← hsz] at hP hS
    subst hd0
    have hd := sorted_unique_holds swo_ltStr (fun x y h1 h2 => by simp only [ltStr, decide_eq_false_iff_not, List.not_lt] at h1 h2; exact List.le_antisymm h2 h1) _ d' hP hS
    rw [merge_ltStr, List.toList_toArray, ← sortB_map] at hd
    have hd' : d' = ((sortB xs).map (·.data.toList)).toArray := by rw [← hd]
    rw [hd']
    have hl3 : ((sortB xs).map (·.data.toList)).length = (xs.map (·.data.toList)).length := by rw [List.length_map, List.length_map, (sortB_perm xs).length_eq]
    have hown := ownsRow_sorted (n := n) (os := os) hl3 hbase hb (by rw [hl2]; exact h1) h2 h3
    rw [enc_map, hl2] at hown
    refine ⟨rfl, Kd.R_of_own (by rw [(sortB_perm xs).length_eq]; exact hown) (fun _ _ => trivial), ?_⟩
    exact grownBy_sorted _
end names


/-! ### model_SignatureForLabels: function 28 -/
-- contracts that were proved by hand
set_option maxHeartbeats 6400000 in
set_option maxRecDepth 100000 in
theorem model_SignatureForLabels.calls (b n : Nat) (m : MapsS.SM) (v : Value) (xs : List ByteArray) (base : Nat) (w : World) (h : MapsS.IsSM Try.prog 65 80 w b n m) (hv : Kd.R Kd.string 65 w base (fun _ => True) v xs) (hb : base ≤ w.heap.size) (hbb : b < base) (hl : xs.length ≤ 1000000000) (hs : ∀ x ∈ xs, x.size ≤ maxLen) :
    Calls Try.prog 28 #[.map (some b), v] w fun e w' => e = .returned (.int .u64 (sigN m (sortB xs))) ∧ Below base w w' := by
  obtain ⟨A, c, rfl⟩ := Kd.R_slice hv
  have HV := Aside0.mk hv
  have H := Aside0.mk h
  have HSX := Aside0.mk hs
  clear h hs hv
  by_cases hm : xs.length = 0
  · obtain rfl : xs = [] := List.length_eq_zero_iff.1 hm
    have e0 : sortB [] = [] := by simp [sortB]
    rw [e0]
    clear hm e0
    show Calls _ _ _ _ fun e w' => e = .returned (.int .u64 14695981039346656037) ∧ _
    go_enter Try.func28, Try.ntmps28
    go_wp2
    go_ret
    exact ⟨rfl, Below.refl _ _⟩
  have c1 : ((xs.length : Int) == 0) = false := by simp [hm]
  have c2 : ¬ (xs.length : Int) = 0 := by omega
  clear hm
  have HSO := Aside0.mk (sort_Sort.names _ xs w base HV.out (by omega))
  have hLl : (sortB xs).length ≤ 1000000000 := by rw [(sortB_perm xs).length_eq]; exact hl
  have HS := Aside0.mk (show ∀ x ∈ sortB xs, x.size ≤ maxLen from fun x hx => HSX.out x ((sortB_perm xs).mem_iff.1 hx))
  have HLE := Aside0.mk (sortB_perm xs).length_eq
  obtain ⟨R, hR⟩ : ∃ R, sigN m (sortB xs) = R := ⟨_, rfl⟩
  rw [hR]
  have HR := Aside0.mk hR
  have HK := Aside0.mk (show ∀ k, (Value.slice A xs.length c).ownBlock = some k → base ≤ k from fun k hk => by obtain ⟨_, inner, ho, _⟩ := HV.out; exact own_base ho k hk)
  clear hR
  generalize sortB xs = L at *
  go_enter Try.func28, Try.ntmps28
  go_wp2_with fail
  refine HSO.out.mono ?_
  rintro e w4 ⟨rfl, hO4, hg4⟩
  have HB4 := Aside0.mk (pw_below_grown (Below.refl base w) (Value.slice A xs.length c).ownBlock hb hg4 HK.out)
  have hC := (Kd.R_reads' hO4).2.2
  rw [← HLE.out]
  have HC := Aside0.mk hC
  have HM := Aside0.mk (H.out.kept hg4 (fun e => by have := HK.out _ e.symm; omega))
  clear hO4 hg4 hC HSO HK HV H HSX c1 c2
  go_wp2_with fail
  refine (hash_new _).mono ?_
  rintro e w5 ⟨rfl, hD⟩
  have HBh := Aside0.mk hD.below
  clear hD
  go_wp2
  go_loopw [5, 17] (fun v5 v17 wr => ∃ j : Nat, j ≤ L.length ∧ v17 = .int .i64 j ∧ v5 = .int .u64 (sigN m (L.take j)) ∧ Aside0 (Below w4.heap.size w4 wr)) (fun _ v17 _ => L.length - (intOf v17).toNat)
  case atStart => exact ⟨0, Nat.zero_le _, rfl, rfl, HBh⟩
  case round =>
    clear HBh
    obtain ⟨j, hj, rfl, rfl, HB5⟩ := hrel
    by_cases hlt : j < L.length
    · obtain ⟨ad, e0, hx⟩ := Kd.at_string (Kd.C_below HC.out HB5.out) (j : Int) (by omega) (by omega)
      cases e0
      have er : rdOf ByteArray.empty L (j : Int) = L[j] := by simp [rdOf, hlt]
      simp only [Int.toNat_natCast] at hx
      rw [er] at hx
      have HXS := Aside0.mk (HS.out _ (List.getElem_mem hlt))
      have HVS := Aside0.mk (val_size HM.out L[j])
      have HT := Aside0.mk (show sigN m (L.take (j + 1)) = sigStep m (sigN m (L.take j)) L[j] by rw [List.take_succ_eq_append_getElem hlt]; unfold sigN; rw [List.foldl_append]; rfl)
      unfold sigStep at HT
      clear er
      generalize L[j] = x at *
      generalize sigN m (L.take j) = s at *
      have A1 := Aside0.mk (fun W => hash_add s x W HXS.out)
      have A2 := Aside0.mk (fun W => hash_byte (hStr s x) W)
      have A3 := Aside0.mk (fun W => hash_add (hByte (hStr s x) 255) (valOf m x) W HVS.out)
      have A4 := Aside0.mk (fun W => hash_byte (hStr (hByte (hStr s x) 255) (valOf m x)) W)
      have LK := Aside0.mk (fun W (hW : Below w4.heap.size w4 W) => (HM.out.below hW).look_run (t := 59) Try.underlying59 Try.underlying65 Try.underlying80 (by rfl) HXS.out)
      change Aside0 (∀ W hW, (Instr.lookup 59 (.map (some b)) (.string x) false).run Try.prog W = .ok (.string (valOf m x)) W) at LK
      generalize valOf m x = v at *
      generalize hByte (hStr (hByte (hStr s x) 255) v) 255 = s4 at *
      generalize hStr (hByte (hStr s x) 255) v = s3 at *
      generalize hByte (hStr s x) 255 = s2 at *
      generalize hStr s x = s1 at *
      go_wp2_with fail
      refine (A1.out _).mono ?_
      rintro e w6 ⟨rfl, hD⟩
      have HB6 := Aside0.mk (below_step HB5.out hD.below)
      clear hD hx
      go_wp2_with fail
      refine (A2.out _).mono ?_
      rintro e w7 ⟨rfl, hD⟩
      have HB7 := Aside0.mk (below_step HB6.out hD.below)
      have h2 := LK.out w7 HB7.out
      clear hD
      go_wp2_with fail
      refine (A3.out _).mono ?_
      rintro e w8 ⟨rfl, hD⟩
      have HB8 := Aside0.mk (below_step HB7.out hD.below)
      clear hD h2
      go_wp2_with fail
      refine (A4.out _).mono ?_
      rintro e w9 ⟨rfl, hD⟩
      have HB9 := Aside0.mk (below_step HB8.out hD.below)
      clear hD
      go_wp2
      go_roundw
      case rel => exact ⟨j + 1, by omega, by go_num, by rw [HT.out], HB9⟩
      case measure => simp [intOf]; omega
    · have hj2 : j = L.length := by omega
      subst hj2
      have hR := HR.out
      rw [List.take_of_length_le (Nat.le_refl _)]
      rw [hR]
      clear hR
      go_wp2
      go_ret
      exact ⟨rfl, HB4.out.trans (HB5.out.mono (Nat.le_trans hb HB4.out.size))⟩


/-! ### impl_labelSet: function 39 -/
-- contracts that were proved by hand
def setL (l : List S32) : MapsS.SM := l.foldl (fun m p => MapsS.ins p.f0 p.f1 m) []
theorem setL_snoc (l : List S32) (p : S32) : setL (l ++ [p]) = MapsS.ins p.f0 p.f1 (setL l) := by simp [setL, List.foldl_append]
def small2 (p : S32) : Bool := decide (p.f0.size ≤ maxLen) && decide (p.f1.size ≤ maxLen)
def lessMax (l : List S32) : Bool := decide (l.length < maxLen) && l.all small2
def less9 (l : List S32) : Bool := decide (l.length ≤ 1000000000) && l.all small2
theorem setL_le (l : List S32) : (setL l).length ≤ l.length := by
  have h : ∀ (r : List S32) (m : MapsS.SM), (r.foldl (fun m p => MapsS.ins p.f0 p.f1 m) m).length ≤ m.length + r.length := by
    intro r
    induction r with
    | nil => intro m; exact Nat.le_refl _
    | cons x r ih =>
      intro m
      have h1 := ih (MapsS.ins x.f0 x.f1 m)
      have h2 := MapsS.len_ins x.f0 x.f1 m
      rw [List.foldl_cons, List.length_cons]
      omega
  have := h l []
  simpa [setL] using this
set_option maxHeartbeats 1600000 in
set_option maxRecDepth 100000 in
theorem impl_labelSet.calls (A0 : Option Addr) (c0 : Nat) (l0 : List S32) (w : World) (hr0 : Kd.C k32 w A0 l0.length l0) (hc0 : l0.length ≤ c0) (hl : l0.length < maxLen) (hs : l0.all small2 = true) :
    Calls Try.prog 39 #[.slice A0 l0.length c0] w fun e w' => ∃ b, e = .returned (.map (some b)) ∧ w.heap.size ≤ b ∧ LSet w' b l0.length (setL l0) ∧ Below w.heap.size w w' := by
  have HR0 := Aside0.mk hr0
  have HC0 := Aside0.mk hc0
  have HS := Aside0.mk hs
  clear hr0 hc0 hs
  unfold maxLen at hl
  have hmm := @run_makeMap Try.prog
  go_enter Try.func39, Try.ntmps39
  go_wp2
  have H0 : LSet (w.alloc (.map #[] 0)) w.heap.size 0 (setL (l0.take 0)) := MapsS.IsSM.made w Try.prog _ _
  have HM0 := Aside0.mk H0
  clear H0
  go_loopw [9] (fun v9 wr => ∃ j : Nat, j ≤ l0.length ∧ v9 = .int .i64 j ∧ Aside0 (LSet wr w.heap.size j (setL (l0.take j))) ∧ Aside0 (Below w.heap.size w wr)) (fun v9 _ => l0.length - (intOf v9).toNat)
  case atStart => exact ⟨0, Nat.zero_le _, rfl, HM0, ⟨below_alloc (Below.refl _ _) _⟩⟩
  case round =>
    clear HM0
    obtain ⟨j, hj, rfl, HM, HB⟩ := hrel
    by_cases hlt : j < l0.length
    · obtain ⟨ad, e0, hx0, hx1⟩ := at_T32 HR0.out (j : Int) (by omega) (by omega)
      cases e0
      replace hx0 := (HB.out.cell (World.block_lt_of_cell? w _ hx0)).trans hx0
      replace hx1 := (HB.out.cell (World.block_lt_of_cell? w _ hx1)).trans hx1
      simp only [Int.toNat_natCast] at hx0 hx1
      have hsm := List.all_eq_true.1 HS.out (rd_T32 l0 (j : Int)) (by show l0.getD j z32 ∈ l0; rw [List.getD_eq_getElem?_getD, List.getElem?_eq_getElem hlt]; exact List.getElem_mem hlt)
      simp only [small2, Bool.and_eq_true, decide_eq_true_eq] at hsm
      have HK := Aside0.mk hsm.1
      have HV := Aside0.mk hsm.2
      have HT := Aside0.mk (show setL (l0.take (j + 1)) = MapsS.ins (rd_T32 l0 (j : Int)).f0 (rd_T32 l0 (j : Int)).f1 (setL (l0.take j)) by rw [Box.take_more l0 z32 j hlt, setL_snoc]; rfl)
      clear hsm
      go_wp2_with (at_mapUpdate; refine MapsS.wpList_store_sm (t := 81) (k := 65) (e := 80) rfl _ _ _ rfl Try.underlying81 Try.underlying65 Try.underlying80 rfl (HM.out.alloc _) (by unfold maxLen; omega) rfl rfl HK.out HV.out ?_; intro w2 hM2 hg2; rw [← HT.out] at hM2; have HM2 := Aside0.mk hM2; have HB2 := Aside0.mk (pw_below_grown (below_alloc HB.out _) _ (by have := below_size HB.out; simp; omega) hg2 (fun k hk => by injection hk with hk; omega)); clear hM2 hg2 HM HB HT)
      go_roundw
      case rel => exact ⟨j + 1, by omega, by go_num, HM2, HB2⟩
      case measure => simp [intOf]; omega
    · have hj2 : j = l0.length := by omega
      subst hj2
      go_wp2
      go_ret
      have h := HM.out
      rw [List.take_of_length_le (Nat.le_refl _)] at h
      exact ⟨_, rfl, Nat.le_refl _, h, HB.out⟩


/-! ### impl_metric: function 29 -/
-- contracts that were proved by hand
theorem impl_metric.calls (A0 : Option Addr) (c0 : Nat) (l0 : List S32) (w : World) (m : MapsS.SM)
    (h : Calls Try.prog 39 #[.slice A0 l0.length c0] w fun e w' => ∃ b, e = .returned (.map (some b)) ∧ w.heap.size ≤ b ∧ LSet w' b l0.length m ∧ Below w.heap.size w w') :
    Calls Try.prog 29 #[.slice A0 l0.length c0] w fun e w' => ∃ b, e = .returned (.map (some b)) ∧ w.heap.size ≤ b ∧ LSet w' b l0.length m ∧ Below w.heap.size w w' := by
  have C0 := Aside0.mk h
  clear h
  go_enter Try.func29, Try.ntmps29
  go_wp2_with fail
  refine C0.out.mono ?_
  rintro e w1 ⟨b, rfl, hb, hM, hB⟩
  have HM := Aside0.mk hM
  have HB := Aside0.mk hB
  have HX := Aside0.mk hb
  clear hM hB hb
  go_wp2
  go_ret
  exact ⟨b, rfl, HX.out, HM.out, HB.out⟩


/-! ### impl_labelNames: function 30 -/
def impl_labelNames.l0 : Nat → List ByteArray → List ByteArray → Int → Int → Option (List ByteArray)
  | 0, _, _, _, _ => none
  | k + 1, x3, x6, x7, x8 => if x8 < x7 then (if 0 ≤ x8 then (if x8 < (x6.length : Int) then (if x3.length < 8796093022208 then (impl_labelNames.l0 k (x3 ++ [rdOf ByteArray.empty x6 x8]) x6 x7 (wrap64 (x8 + 1))) else (none)) else (none)) else (none)) else (some x3)
def impl_labelNames.f (k : Nat) (l0 : List ByteArray) : Option (List ByteArray) := impl_labelNames.l0 k ([] : List ByteArray) l0 (l0.length : Int) 0
theorem impl_labelNames.mono_l : ∀ k, (∀ y0 y1 y2 y3, LeO (impl_labelNames.l0 k y0 y1 y2 y3) (impl_labelNames.l0 (k + 1) y0 y1 y2 y3))
  | 0 => fun _ _ _ _ r h => by simp [impl_labelNames.l0] at h
  | k + 1 => by
    have ih0 := impl_labelNames.mono_l k
    · intro y0 y1 y2 y3
      unfold impl_labelNames.l0
      repeat' first
      | (with_reducible exact ih0 _ _ _ _)
      | (with_reducible exact LeO.refl _)
      | (with_reducible exact LeO.none _)
      | (with_reducible refine LeO.ite ?_ ?_)
      | (with_reducible refine LeO.bind ?_ (fun _ => ?_))
      | exact ih0 _ _ _ _
      | exact LeO.none _
      | refine LeO.ite ?_ ?_
      | refine LeO.bind ?_ (fun _ => ?_)
theorem impl_labelNames.mono : ∀ a0 k, LeO (impl_labelNames.f k a0) (impl_labelNames.f (k + 1) a0) := by
  intro a0 k
  have ih0 := impl_labelNames.mono_l k
  unfold impl_labelNames.f
  repeat' first
      | (with_reducible exact ih0 _ _ _ _)
      | (with_reducible exact LeO.refl _)
      | (with_reducible exact LeO.none _)
      | (with_reducible refine LeO.ite ?_ ?_)
      | (with_reducible refine LeO.bind ?_ (fun _ => ?_))
      | exact ih0 _ _ _ _
      | exact LeO.none _
      | refine LeO.ite ?_ ?_
      | refine LeO.bind ?_ (fun _ => ?_)
set_option maxHeartbeats 8000000 in
set_option maxRecDepth 100000 in
theorem impl_labelNames.calls (k : Nat) (A0 : Option Addr) (c0 : Nat) (l0 : List ByteArray) (r : List ByteArray) (w : World) (hr0 : Kd.C Kd.string w A0 l0.length l0) (hc0 : l0.length ≤ c0) (h : impl_labelNames.f k l0 = some r) :
    Calls Try.prog 30 #[.slice A0 l0.length c0] w fun e w' => ∃ v0_ : Value, e = .returned (v0_) ∧ Kd.R Kd.string 65 w' w.heap.size (fun _ => True) v0_ r ∧ Below w.heap.size w w' := by
  have HR0 := Aside0.mk hr0
  have HC0 := Aside0.mk hc0
  clear hr0 hc0
  have HB := Aside0.mk (Below.refl w.heap.size w)
  have H : (impl_labelNames.l0 k ([] : List ByteArray) l0 (l0.length : Int) 0) = some r := h
  clear h
  have H' := Aside0.mk H
  clear H
  go_enter Try.func30, Try.ntmps30
  go_wp2
  go_loopg [3, 8] k (fun kq v3 v8 w' => ∃ (x3_1 : List ByteArray) (x8_1 : Int), v8 = .int .i64 x8_1 ∧ Aside0 (impl_labelNames.l0 kq x3_1 l0 (l0.length : Int) x8_1 = some r) ∧ Aside0 (kq ≤ k) ∧ Aside0 (Kd.R Kd.string 65 w' w.heap.size (fun _ => True) v3 x3_1) ∧ Aside0 (Below w.heap.size w w'))
  case atStart => exact ⟨(([] : List ByteArray)), (0), (by first | rfl | (simp; done) | (simp [*]; done)), H', ⟨Nat.le_refl _⟩, ⟨by first | exact Kd.R_nil _ _ _ _ _ | exact Kd.N_nil _ _ _ _ _ | exact Kd.V_nil _ _ _ _ _ | exact Kd.Q_nil _ _ _ _ _ | exact Kd.S_nil _ _ _ _ _⟩, ⟨by repeat (first | (with_reducible first | exact HB.out | apply below_alloc | apply pw_below_drewN | apply below_drew1) | exact HB.out)⟩⟩
  case round =>
    clear H'
    obtain ⟨x3_1, x8_1, rfl, HA, HK1, HO_3, HB⟩ := hrel
    cases gk with
    | zero => exact absurd HA.out (by simp [impl_labelNames.l0])
    | succ k1 =>
      have H := HA.out
      clear HA
      simp only [impl_labelNames.l0] at H
      by_cases c2 : x8_1 < (l0.length : Int)
      · rw [if_pos c2] at H
        have c2b0 : decide (x8_1 < (l0.length : Int)) = true := decide_eq_true c2
        clear c2
        by_cases c3 : 0 ≤ x8_1
        · rw [if_pos c3] at H
          have c3b0 : decide (0 ≤ x8_1) = true := decide_eq_true c3
          clear c3
          by_cases c4 : x8_1 < (l0.length : Int)
          · rw [if_pos c4] at H
            have c4b0 : decide (x8_1 < (l0.length : Int)) = true := decide_eq_true c4
            clear c4
            by_cases c5 : x3_1.length < 8796093022208
            · rw [if_pos c5] at H
              have LMc5 := Aside0.mk c5
              clear c5
              obtain ⟨y188, hy188⟩ : ∃ y_ : List ByteArray, y_ = (x3_1 ++ [rdOf ByteArray.empty l0 x8_1]) := ⟨_, rfl⟩
              replace H : (impl_labelNames.l0 k1 y188 l0 (l0.length : Int) (wrap64 (x8_1 + 1))) = some r := by first | (rw [hy188]; with_reducible exact H) | (have H2_ := (Option.bind_some _ _).symm.trans H; rw [hy188]; with_reducible exact H2_) | (have H2_ := (Option.bind_some _ _).symm.trans H; with_reducible exact H2_) | with_reducible exact H | (rw [hy188]; exact H) | exact H
              have Ny188 := Aside0.mk hy188
              clear hy188
              have H' := Aside0.mk H
              clear H
              have p187 : 0 ≤ (x8_1 : Int) := of_decide_eq_true (by first | (with_reducible assumption) | assumption)
              have q187 : x8_1 < (l0.length : Int) := of_decide_eq_true (by first | (with_reducible assumption) | assumption)
              obtain ⟨ad187, e187, hx187_0⟩ := Kd.at_string HR0.out x8_1 p187 q187
              cases e187
              replace hx187_0 := (HB.out.cell (World.block_lt_of_cell? w _ hx187_0)).trans hx187_0
              replace p187 := eq_true p187
              replace q187 := eq_true q187
              go_wp2_with (first | ((with_reducible refine gate_builtin (b := .append) (xs := #[.tmp 12, .tmp 14]) rfl ?_); at_builtin; refine Kd.R_append Kd.string (w0 := w) w.heap.size rfl (.tmp 12) (.tmp 14) 61 65 (.string ⟨#[]⟩) 16 rfl Try.underlying61 info65 rfl (by decide) (by omega) u3 x3_1 (rdOf ByteArray.empty l0 x8_1) [.string (rdOf ByteArray.empty l0 x8_1)] (fun _ => True) (fun _ => False) rfl rfl ?aP (fun _ hk => hk.elim) ?aF ?aO ?aB ?aS ?aL ?_; (case aP => exact rfl); (case aB => exact (by repeat (first | (with_reducible first | exact HB.out | apply below_alloc | apply pw_below_drewN | apply below_drew1) | exact HB.out))); (case aF => exact (fun _ _ => trivial)); (case aO => exact (by (with_reducible repeat (first | apply Kd.R_alloc | apply Kd.R_drewN | apply Kd.R_drew)); exact HO_3.out)); (case aS => exact (below_size (by repeat (first | (with_reducible first | exact HB.out | apply below_alloc | apply pw_below_drewN | apply below_drew1) | exact HB.out)))); (case aL => have := LMc5.out; first | omega | exact this | exact Nat.le_of_lt this); intro v189 w6 ho hb hg hat; rw [← Ny188.out] at ho; have n0_ := Aside0.mk (hb); have n1_ := Aside0.mk (ho); clear HB; clear HO_3; have HB := n0_; have HO190 := n1_; clear n0_ n1_; clear ho hb hg hat))
              go_roundg k1
              case measure => have := HK1.out; omega
              case rel => exact ⟨(y188), (wrap64 (x8_1 + 1)), (by first | rfl | (simp; done) | (simp [*]; done)), H', ⟨by have := HK1.out; omega⟩, ⟨by (with_reducible repeat (first | apply Kd.R_alloc | apply Kd.R_drewN | apply Kd.R_drew)); exact HO190.out⟩, ⟨by repeat (first | (with_reducible first | exact HB.out | apply below_alloc | apply pw_below_drewN | apply below_drew1) | exact HB.out)⟩⟩
            · rw [if_neg c5] at H
              exact absurd H (by simp)
          · rw [if_neg c4] at H
            exact absurd H (by simp)
        · rw [if_neg c3] at H
          exact absurd H (by simp)
      · rw [if_neg c2] at H
        have c2b0 : decide (x8_1 < (l0.length : Int)) = false := decide_eq_false c2
        clear c2
        obtain rfl := Option.some.inj H
        go_wp2
        go_ret
        exact ⟨_, by first | rfl | (simp [errW_none, errW_some] <;> rfl) | (simp [*, errW_none, errW_some] <;> rfl), by (with_reducible repeat (first | apply Kd.R_alloc | apply Kd.R_drewN | apply Kd.R_drew)); exact HO_3.out, by repeat (first | (with_reducible first | exact HB.out | apply below_alloc | apply pw_below_drewN | apply below_drew1) | exact HB.out)⟩

/-! ### impl_SignatureFor: function 16 -/
-- a contract that was proved by hand
theorem labelNames_ev (l : List ByteArray) (hl : l.length ≤ 1000000000) : Ev (fun k => impl_labelNames.f k l) l := by
  have h := Pure.ev_up (L := fun k i => impl_labelNames.l0 k (l.take i) l (l.length : Int) (i : Int)) (fun _ => l) l.length (Pure.ev_succ (fun k => by
      simp only [impl_labelNames.l0]
      rw [if_neg (by omega), List.take_of_length_le (Nat.le_refl _)])) (fun i hi h => by
    refine Ev.step (fun k => ?_) h
    show impl_labelNames.l0 (k + 1) _ l (l.length : Int) (i : Int) = _
    simp only [impl_labelNames.l0]
    have e : rdOf ByteArray.empty l (i : Int) = l[i] := by simp [rdOf, hi]
    rw [if_pos (by omega), if_pos (by omega), if_pos (by omega), if_pos (by rw [List.length_take]; omega), Pure.wrap_next hi (by unfold maxLen; omega), List.take_succ_eq_append_getElem hi, e]) l.length 0 (by omega)
  simpa [impl_labelNames.f] using h
def okNm (l1 : List ByteArray) : Bool := decide (l1.length ≤ 1000000000) && l1.all fun s => decide (s.size ≤ maxLen)
def impl_SignatureFor.f (l0 : List S32) (l1 : List ByteArray) : Option Int := if lessMax l0 = true ∧ okNm l1 = true then some (sigN (setL l0) (sortB l1)) else none
set_option maxHeartbeats 1600000 in
theorem impl_SignatureFor.calls (A0 : Option Addr) (c0 : Nat) (l0 : List S32) (A1 : Option Addr) (c1 : Nat) (l1 : List ByteArray) (r : Int) (w : World) (hr0 : Kd.C k32 w A0 l0.length l0) (hc0 : l0.length ≤ c0) (hr1 : Kd.C Kd.string w A1 l1.length l1) (hc1 : l1.length ≤ c1) (h : impl_SignatureFor.f l0 l1 = some r) :
    Calls Try.prog 16 #[.slice A0 l0.length c0, .slice A1 l1.length c1] w fun e w' => e = .returned (.int .u64 r) ∧ Below w.heap.size w w' := by
  unfold impl_SignatureFor.f at h
  by_cases hc : lessMax l0 = true ∧ okNm l1 = true
  · rw [if_pos hc] at h
    obtain rfl := Option.some.inj h
    clear h
    obtain ⟨h1, h2⟩ := hc
    simp only [lessMax, Bool.and_eq_true, decide_eq_true_eq] at h1
    unfold okNm at h2
    rw [Bool.and_eq_true, decide_eq_true_eq] at h2
    obtain ⟨k, hk⟩ := (labelNames_ev l1 h2.1).rounds
    have C0 := Aside0.mk (impl_labelSet.calls A0 c0 l0 w hr0 hc0 h1.1 h1.2)
    have HK := Aside0.mk hk
    have HR1 := Aside0.mk hr1
    have HC1 := Aside0.mk hc1
    have HL1 := Aside0.mk h2.1
    have HS1 := Aside0.mk (show ∀ x ∈ l1, x.size ≤ maxLen from fun x hx => by have := List.all_eq_true.1 h2.2 x hx; simpa using this)
    clear h1 h2 hk hr0 hc0 hr1 hc1
    generalize setL l0 = m at *
    go_enter Try.func16, Try.ntmps16
    go_wp2_with fail
    refine (impl_metric.calls A0 c0 l0 w m C0.out).mono ?_
    rintro e w1 ⟨b, rfl, hb, hM, hB⟩
    have HM := Aside0.mk hM
    have HB := Aside0.mk hB
    have HBL := Aside0.mk hM.lt
    clear hM hB hb
    go_wp2_with fail
    refine (impl_labelNames.calls k A1 c1 l1 l1 w1 (Kd.C_below HR1.out HB.out) HC1.out HK.out).mono ?_
    rintro e w2 ⟨v, rfl, hR, hB2⟩
    have hz := below_size hB2
    have C2 := Aside0.mk (model_SignatureForLabels.calls b _ m v l1 w1.heap.size w2 (HM.out.below hB2) hR hz HBL.out HL1.out HS1.out)
    have HB2 := Aside0.mk (below_step HB.out hB2)
    have HB3 := Aside0.mk hB2
    have HZ := Aside0.mk (below_size HB.out)
    clear hR hB2 hz
    go_wp2_with fail
    refine C2.out.mono ?_
    rintro e w3 ⟨rfl, hb⟩
    have HB4 := Aside0.mk (HB.out.trans ((HB3.out.trans hb).mono HZ.out))
    clear hb
    go_wp2
    go_ret
    exact ⟨rfl, HB4.out⟩
  · rw [if_neg hc] at h
    cases h


end Go.Proofs.Ytcneoonhdfblaaa.Q
