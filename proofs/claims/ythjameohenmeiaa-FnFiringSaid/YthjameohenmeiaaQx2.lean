-- printed by this project's own program wip/tools/mkprint.py (the kit's print.py with hand-proved contracts put in)
import Derived.Test.YthjameohenmeiaaQx0
import Derived.Test.YthjameohenmeiaaQx1
namespace Go.Proofs.Ythjameohenmeiaa.Q
open Go.RowKit Go.Proofs.YthjameohenmeiaaW.PrintWords Go.Proofs.YthjameohenmeiaaW.PrintLast Go.Proofs.YthjameohenmeiaaW.PrintMore
attribute [local go_sem] max2_int min2_int max_two min_two max_three min_three max_four min_four   -- for this text's walks alone
set_option linter.unusedVariables false
set_option linter.unusedSimpArgs false

/-! ### template_Alerts_Firing: function 20 -/
-- contracts that were proved by hand
def firB : ByteArray := ⟨#[102, 105, 114, 105, 110, 103]⟩
theorem firB_toList : firB.toList = [102, 105, 114, 105, 110, 103] := by kernel_rfl
def isK (k : ByteArray) (p : ByteArray × Nat) : Bool := decide (p.1 = k)
set_option maxHeartbeats 3200000 in
set_option maxRecDepth 100000 in
theorem template_Alerts_Firing.calls (A0 : Option Addr) (c0 : Nat) (l0 : List (ByteArray × Nat)) (w : World) (hr0 : Kd.C kAl w A0 l0.length l0) (hl : l0.length ≤ 1000000000) :
    Calls Try.prog 20 #[.slice A0 l0.length c0] w fun e w' => ∃ v, e = .returned v ∧ Kd.R kAl 59 w' w.heap.size (fun _ => True) v (l0.filter (isK firB)) ∧ Below w.heap.size w w' := by
  have R0 := Aside0.mk hr0
  have HS0 := Aside0.mk (show Kd.R kAl 59 (w.alloc (.cells #[] 59)) w.heap.size (fun _ => True) (.slice (some ⟨w.heap.size, 0, none⟩) 0 0) [] from ⟨fun _ _ => trivial, [], World.ownsRow_lit (base := w.heap.size) (e := 59) (size := 11) w #[] 0 (Nat.le_refl _) (Nat.zero_le _) rfl, by simp [Reps]⟩)
  clear hr0
  go_enter Try.func20, Try.ntmps20
  go_wp2
  go_loopw [3, 9] (fun v3 v9 wr => ∃ j : Nat, j ≤ l0.length ∧ v9 = .int .i64 j ∧ Aside0 (Kd.R kAl 59 wr w.heap.size (fun _ => True) v3 ((l0.take j).filter (isK firB))) ∧ Aside0 (Below w.heap.size w wr)) (fun _ v9 _ => l0.length - (intOf v9).toNat)
  case atStart => exact ⟨0, Nat.zero_le _, rfl, HS0, ⟨below_alloc (Below.refl _ _) _⟩⟩
  case round =>
    clear HS0
    obtain ⟨j, hj, rfl, HO, HB⟩ := hrel
    by_cases hlt : j < l0.length
    · obtain ⟨ad, e0, hx, hy⟩ := at_kAl (Kd.C_below R0.out HB.out) j hlt
      cases e0
      have er : l0.getD j zAl = l0[j] := by rw [List.getD_eq_getElem?_getD, List.getElem?_eq_getElem hlt]; rfl
      rw [er] at hx hy
      have HT := Aside0.mk (show (l0.take (j + 1)).filter (isK firB) = (l0.take j).filter (isK firB) ++ (if isK firB l0[j] = true then [l0[j]] else []) by rw [List.take_succ_eq_append_getElem hlt, List.filter_append]; congr 1; cases h : isK firB l0[j] <;> simp [h])
      clear er
      generalize l0[j] = x at *
      obtain ⟨s, n⟩ := x
      have HE := Aside0.mk (show alE (s, n) = [.string s, .map none, .map none, .int .u64 (nsN n), .int .i64 (scN n), .pointer none, .int .u64 0, .int .i64 0, .pointer none, .string ⟨#[]⟩, .string ⟨#[]⟩] from rfl)
      have y1 := hy 0 _ rfl
      have y2 := hy 1 _ rfl
      have y3 := hy 2 _ rfl
      have y4 := hy 3 _ rfl
      have y5 := hy 4 _ rfl
      have y6 := hy 5 _ rfl
      have y7 := hy 6 _ rfl
      have y8 := hy 7 _ rfl
      have y9 := hy 8 _ rfl
      have y10 := hy 9 _ rfl
      simp only [Nat.zero_add, Nat.reduceAdd] at y1 y2 y3 y4 y5 y6 y7 y8 y9 y10
      clear hy
      simp only at hx
      have HO1 := Aside0.mk (Kd.R_alloc HO.out (.cells (alE (s, n)).toArray 59))
      have HB1 := Aside0.mk (below_alloc HB.out (.cells (alE (s, n)).toArray 59))
      clear HO HB HE
      by_cases hs : s = firB
      · have hc : (s.toList == [102, 105, 114, 105, 110, 103]) = true := by rw [hs, firB_toList]; exact beq_self_eq_true _
        have hk : isK firB (s, n) = true := decide_eq_true hs
        rw [hk, if_pos rfl] at HT
        clear hs hk
        go_wp2_with ((with_reducible refine gate_builtin (b := .append) (xs := #[.tmp 16, .tmp 18]) rfl ?_); at_builtin; refine Kd.R_append kAl (w0 := w) w.heap.size rfl (.tmp 16) (.tmp 18) 40 59 (.agg #[(.string ⟨#[]⟩), .map none, .map none, .int .u64 0, .int .i64 0, .pointer none, .int .u64 0, .int .i64 0, .pointer none, (.string ⟨#[]⟩), (.string ⟨#[]⟩)]) 112 rfl Try.underlying40 infoAl rfl (by decide) (by omega) u3 ((l0.take j).filter (isK firB)) (s, n) (alE (s, n)) (fun _ => True) (fun _ => False) rfl (by first | (go_simp; done) | (go_simp; rfl)) rfl (fun _ hk => hk.elim) (fun _ _ => trivial) HO1.out HB1.out (below_size HB1.out) (by have h := List.length_filter_le (isK firB) (l0.take j); rw [List.length_take] at h; omega) ?_; intro v2 w4 hO4 hB4 hg4 hat4; rw [← HT.out] at hO4; have HO4 := Aside0.mk hO4; have HB4 := Aside0.mk hB4; clear hO4 hB4 hg4 hat4 HO1 HB1 HT)
        go_roundw
        case rel => exact ⟨j + 1, by omega, by go_num, HO4, HB4⟩
        case measure => simp [intOf]; omega
      · have hc : (s.toList == [102, 105, 114, 105, 110, 103]) = false := beq_eq_false_iff_ne.2 (fun e => hs (ba_of_toList (by rw [firB_toList]; exact e)))
        have hk : isK firB (s, n) = false := decide_eq_false hs
        rw [hk, if_neg (by simp), List.append_nil] at HT
        have HO2 := Aside0.mk (show Kd.R kAl 59 (wr.alloc (.cells (alE (s, n)).toArray 59)) w.heap.size (fun _ => True) u3 ((l0.take (j + 1)).filter (isK firB)) by rw [HT.out]; exact HO1.out)
        clear hs hk HT HO1
        go_wp2
        go_roundw
        case rel => exact ⟨j + 1, by omega, by go_num, HO2, HB1⟩
        case measure => simp [intOf]; omega
    · have hj2 : j = l0.length := by omega
      subst hj2
      have hO := HO.out
      rw [List.take_of_length_le (Nat.le_refl _)] at hO
      have HO2 := Aside0.mk hO
      clear hO HO
      go_wp2
      go_ret
      exact ⟨_, rfl, HO2.out, HB.out⟩


/-! ### impl_Firing: function 6 -/
-- a contract that was proved by hand
def impl_Firing.f (l0 : List ByteArray) : Option (List Int) := if l0.length ≤ 1000000000 then some (((alsOf l0).filter (isK firB)).map fun p => (p.2 : Int)) else none
set_option maxHeartbeats 1600000 in
set_option maxRecDepth 100000 in
theorem impl_Firing.calls (A0 : Option Addr) (c0 : Nat) (l0 : List ByteArray) (r : List Int) (w : World) (hr0 : Kd.C Kd.string w A0 l0.length l0) (hc0 : l0.length ≤ c0) (h : impl_Firing.f l0 = some r) :
    Calls Try.prog 6 #[.slice A0 l0.length c0] w fun e w' => ∃ v0_ : Value, e = .returned (v0_) ∧ Kd.R (Kd.int .i64) 3 w' w.heap.size (fun _ => True) v0_ r ∧ Below w.heap.size w w' := by
  unfold impl_Firing.f at h
  split at h
  · rename_i hl
    have hq := Option.some.inj h
    have C0 := Aside0.mk (impl_alerts.calls A0 c0 l0 w hr0 hl)
    have hlen : (alsOf l0).length ≤ 1000000000 := by rw [alsOf_len]; exact hl
    have hlt : ∀ p ∈ (alsOf l0).filter (isK firB), p.2 < 9223372036854775808 := fun p hp => by
      have h1 := (List.mem_filter.1 hp).1
      obtain ⟨a, i⟩ := p
      have h2 := (List.mem_zipIdx h1).2.1
      show i < 9223372036854775808
      omega
    have hfl := List.length_filter_le (isK firB) (alsOf l0)
    obtain ⟨L, hL⟩ : ∃ L, alsOf l0 = L := ⟨_, rfl⟩
    rw [hL] at hq hlen hlt hfl C0
    obtain ⟨FL, hF⟩ : ∃ FL, L.filter (isK firB) = FL := ⟨_, rfl⟩
    rw [hF] at hq hlt hfl
    have HQ := Aside0.mk hq
    have HLT := Aside0.mk hlt
    have HLE := Aside0.mk hlen
    have HFL := Aside0.mk (show FL.length ≤ 1000000000 by omega)
    have HF := Aside0.mk hF
    clear h hq hlen hlt hfl hL hF hl hr0 hc0
    go_enter Try.func6, Try.ntmps6
    go_wp2_with fail
    refine C0.out.mono ?_
    rintro e w1 ⟨v, rfl, hO, hB⟩
    obtain ⟨A, c, rfl, hlc, hC⟩ := Kd.R_reads hO
    have HC := Aside0.mk hC
    have HB := Aside0.mk hB
    clear hO hlc hC hB C0
    go_wp2_with fail
    refine (template_Alerts_Firing.calls A c L w1 HC.out HLE.out).mono ?_
    rintro e w2 ⟨v, rfl, hO, hB⟩
    rw [HF.out] at hO
    obtain ⟨A', c', rfl, hlc, hC⟩ := Kd.R_reads hO
    have HC2 := Aside0.mk hC
    have HB2 := Aside0.mk (below_step HB.out hB)
    clear hO hlc hC hB HC HB
    go_wp2_with fail
    refine (impl_places.calls A' c' FL w2 HC2.out HFL.out HLT.out).mono ?_
    rintro e w3 ⟨v, rfl, hO, hB⟩
    rw [HQ.out] at hO
    have HO := Aside0.mk (Kd.R_lower hO (below_size HB2.out))
    have HB3 := Aside0.mk (below_step HB2.out hB)
    clear hO hB HB2 HC2
    go_wp2
    go_ret
    exact ⟨_, rfl, HO.out, HB3.out⟩
  · cases h


/-! ### template_Alerts_Resolved: function 21 -/
-- contracts that were proved by hand
def resB : ByteArray := ⟨#[114, 101, 115, 111, 108, 118, 101, 100]⟩
theorem resB_toList : resB.toList = [114, 101, 115, 111, 108, 118, 101, 100] := by kernel_rfl
set_option maxHeartbeats 3200000 in
set_option maxRecDepth 100000 in
theorem template_Alerts_Resolved.calls (A0 : Option Addr) (c0 : Nat) (l0 : List (ByteArray × Nat)) (w : World) (hr0 : Kd.C kAl w A0 l0.length l0) (hl : l0.length ≤ 1000000000) :
    Calls Try.prog 21 #[.slice A0 l0.length c0] w fun e w' => ∃ v, e = .returned v ∧ Kd.R kAl 59 w' w.heap.size (fun _ => True) v (l0.filter (isK resB)) ∧ Below w.heap.size w w' := by
  have R0 := Aside0.mk hr0
  have HS0 := Aside0.mk (show Kd.R kAl 59 (w.alloc (.cells #[] 59)) w.heap.size (fun _ => True) (.slice (some ⟨w.heap.size, 0, none⟩) 0 0) [] from ⟨fun _ _ => trivial, [], World.ownsRow_lit (base := w.heap.size) (e := 59) (size := 11) w #[] 0 (Nat.le_refl _) (Nat.zero_le _) rfl, by simp [Reps]⟩)
  clear hr0
  go_enter Try.func21, Try.ntmps21
  go_wp2
  go_loopw [3, 9] (fun v3 v9 wr => ∃ j : Nat, j ≤ l0.length ∧ v9 = .int .i64 j ∧ Aside0 (Kd.R kAl 59 wr w.heap.size (fun _ => True) v3 ((l0.take j).filter (isK resB))) ∧ Aside0 (Below w.heap.size w wr)) (fun _ v9 _ => l0.length - (intOf v9).toNat)
  case atStart => exact ⟨0, Nat.zero_le _, rfl, HS0, ⟨below_alloc (Below.refl _ _) _⟩⟩
  case round =>
    clear HS0
    obtain ⟨j, hj, rfl, HO, HB⟩ := hrel
    by_cases hlt : j < l0.length
    · obtain ⟨ad, e0, hx, hy⟩ := at_kAl (Kd.C_below R0.out HB.out) j hlt
      cases e0
      have er : l0.getD j zAl = l0[j] := by rw [List.getD_eq_getElem?_getD, List.getElem?_eq_getElem hlt]; rfl
      rw [er] at hx hy
      have HT := Aside0.mk (show (l0.take (j + 1)).filter (isK resB) = (l0.take j).filter (isK resB) ++ (if isK resB l0[j] = true then [l0[j]] else []) by rw [List.take_succ_eq_append_getElem hlt, List.filter_append]; congr 1; cases h : isK resB l0[j] <;> simp [h])
      clear er
      generalize l0[j] = x at *
      obtain ⟨s, n⟩ := x
      have HE := Aside0.mk (show alE (s, n) = [.string s, .map none, .map none, .int .u64 (nsN n), .int .i64 (scN n), .pointer none, .int .u64 0, .int .i64 0, .pointer none, .string ⟨#[]⟩, .string ⟨#[]⟩] from rfl)
      have y1 := hy 0 _ rfl
      have y2 := hy 1 _ rfl
      have y3 := hy 2 _ rfl
      have y4 := hy 3 _ rfl
      have y5 := hy 4 _ rfl
      have y6 := hy 5 _ rfl
      have y7 := hy 6 _ rfl
      have y8 := hy 7 _ rfl
      have y9 := hy 8 _ rfl
      have y10 := hy 9 _ rfl
      simp only [Nat.zero_add, Nat.reduceAdd] at y1 y2 y3 y4 y5 y6 y7 y8 y9 y10
      clear hy
      simp only at hx
      have HO1 := Aside0.mk (Kd.R_alloc HO.out (.cells (alE (s, n)).toArray 59))
      have HB1 := Aside0.mk (below_alloc HB.out (.cells (alE (s, n)).toArray 59))
      clear HO HB HE
      by_cases hs : s = resB
      · have hc : (s.toList == [114, 101, 115, 111, 108, 118, 101, 100]) = true := by rw [hs, resB_toList]; exact beq_self_eq_true _
        have hk : isK resB (s, n) = true := decide_eq_true hs
        rw [hk, if_pos rfl] at HT
        clear hs hk
        go_wp2_with ((with_reducible refine gate_builtin (b := .append) (xs := #[.tmp 16, .tmp 18]) rfl ?_); at_builtin; refine Kd.R_append kAl (w0 := w) w.heap.size rfl (.tmp 16) (.tmp 18) 40 59 (.agg #[(.string ⟨#[]⟩), .map none, .map none, .int .u64 0, .int .i64 0, .pointer none, .int .u64 0, .int .i64 0, .pointer none, (.string ⟨#[]⟩), (.string ⟨#[]⟩)]) 112 rfl Try.underlying40 infoAl rfl (by decide) (by omega) u3 ((l0.take j).filter (isK resB)) (s, n) (alE (s, n)) (fun _ => True) (fun _ => False) rfl (by first | (go_simp; done) | (go_simp; rfl)) rfl (fun _ hk => hk.elim) (fun _ _ => trivial) HO1.out HB1.out (below_size HB1.out) (by have h := List.length_filter_le (isK resB) (l0.take j); rw [List.length_take] at h; omega) ?_; intro v2 w4 hO4 hB4 hg4 hat4; rw [← HT.out] at hO4; have HO4 := Aside0.mk hO4; have HB4 := Aside0.mk hB4; clear hO4 hB4 hg4 hat4 HO1 HB1 HT)
        go_roundw
        case rel => exact ⟨j + 1, by omega, by go_num, HO4, HB4⟩
        case measure => simp [intOf]; omega
      · have hc : (s.toList == [114, 101, 115, 111, 108, 118, 101, 100]) = false := beq_eq_false_iff_ne.2 (fun e => hs (ba_of_toList (by rw [resB_toList]; exact e)))
        have hk : isK resB (s, n) = false := decide_eq_false hs
        rw [hk, if_neg (by simp), List.append_nil] at HT
        have HO2 := Aside0.mk (show Kd.R kAl 59 (wr.alloc (.cells (alE (s, n)).toArray 59)) w.heap.size (fun _ => True) u3 ((l0.take (j + 1)).filter (isK resB)) by rw [HT.out]; exact HO1.out)
        clear hs hk HT HO1
        go_wp2
        go_roundw
        case rel => exact ⟨j + 1, by omega, by go_num, HO2, HB1⟩
        case measure => simp [intOf]; omega
    · have hj2 : j = l0.length := by omega
      subst hj2
      have hO := HO.out
      rw [List.take_of_length_le (Nat.le_refl _)] at hO
      have HO2 := Aside0.mk hO
      clear hO HO
      go_wp2
      go_ret
      exact ⟨_, rfl, HO2.out, HB.out⟩


/-! ### impl_Ended: function 7 -/
-- a contract that was proved by hand
def impl_Ended.f (l0 : List ByteArray) : Option (List Int) := if l0.length ≤ 1000000000 then some (((alsOf l0).filter (isK resB)).map fun p => (p.2 : Int)) else none
set_option maxHeartbeats 1600000 in
set_option maxRecDepth 100000 in
theorem impl_Ended.calls (A0 : Option Addr) (c0 : Nat) (l0 : List ByteArray) (r : List Int) (w : World) (hr0 : Kd.C Kd.string w A0 l0.length l0) (hc0 : l0.length ≤ c0) (h : impl_Ended.f l0 = some r) :
    Calls Try.prog 7 #[.slice A0 l0.length c0] w fun e w' => ∃ v0_ : Value, e = .returned (v0_) ∧ Kd.R (Kd.int .i64) 3 w' w.heap.size (fun _ => True) v0_ r ∧ Below w.heap.size w w' := by
  unfold impl_Ended.f at h
  split at h
  · rename_i hl
    have hq := Option.some.inj h
    have C0 := Aside0.mk (impl_alerts.calls A0 c0 l0 w hr0 hl)
    have hlen : (alsOf l0).length ≤ 1000000000 := by rw [alsOf_len]; exact hl
    have hlt : ∀ p ∈ (alsOf l0).filter (isK resB), p.2 < 9223372036854775808 := fun p hp => by
      have h1 := (List.mem_filter.1 hp).1
      obtain ⟨a, i⟩ := p
      have h2 := (List.mem_zipIdx h1).2.1
      show i < 9223372036854775808
      omega
    have hfl := List.length_filter_le (isK resB) (alsOf l0)
    obtain ⟨L, hL⟩ : ∃ L, alsOf l0 = L := ⟨_, rfl⟩
    rw [hL] at hq hlen hlt hfl C0
    obtain ⟨FL, hF⟩ : ∃ FL, L.filter (isK resB) = FL := ⟨_, rfl⟩
    rw [hF] at hq hlt hfl
    have HQ := Aside0.mk hq
    have HLT := Aside0.mk hlt
    have HLE := Aside0.mk hlen
    have HFL := Aside0.mk (show FL.length ≤ 1000000000 by omega)
    have HF := Aside0.mk hF
    clear h hq hlen hlt hfl hL hF hl hr0 hc0
    go_enter Try.func7, Try.ntmps7
    go_wp2_with fail
    refine C0.out.mono ?_
    rintro e w1 ⟨v, rfl, hO, hB⟩
    obtain ⟨A, c, rfl, hlc, hC⟩ := Kd.R_reads hO
    have HC := Aside0.mk hC
    have HB := Aside0.mk hB
    clear hO hlc hC hB C0
    go_wp2_with fail
    refine (template_Alerts_Resolved.calls A c L w1 HC.out HLE.out).mono ?_
    rintro e w2 ⟨v, rfl, hO, hB⟩
    rw [HF.out] at hO
    obtain ⟨A', c', rfl, hlc, hC⟩ := Kd.R_reads hO
    have HC2 := Aside0.mk hC
    have HB2 := Aside0.mk (below_step HB.out hB)
    clear hO hlc hC hB HC HB
    go_wp2_with fail
    refine (impl_places.calls A' c' FL w2 HC2.out HFL.out HLT.out).mono ?_
    rintro e w3 ⟨v, rfl, hO, hB⟩
    rw [HQ.out] at hO
    have HO := Aside0.mk (Kd.R_lower hO (below_size HB2.out))
    have HB3 := Aside0.mk (below_step HB2.out hB)
    clear hO hB HB2 HC2
    go_wp2
    go_ret
    exact ⟨_, rfl, HO.out, HB3.out⟩
  · cases h


/-! ### laws_eqInts: function 8 -/
def laws_eqInts.l0 : Nat → List Int → List Int → Int → Int → Option (Bool)
  | 0, _, _, _, _ => none
  | k + 1, x0, x1, x12, x13 => if x13 < x12 then (if 0 ≤ x13 then (if x13 < (x0.length : Int) then (if x13 < (x1.length : Int) then (if (rd x0 x13) = (rd x1 x13) then (laws_eqInts.l0 k x0 x1 x12 (wrap64 (x13 + 1))) else (some false)) else (none)) else (none)) else (none)) else (some true)
def laws_eqInts.f (k : Nat) (l0 : List Int) (l1 : List Int) : Option (Bool) := if (l0.length : Int) = (l1.length : Int) then (laws_eqInts.l0 k l0 l1 (l0.length : Int) 0) else (some false)
theorem laws_eqInts.mono_l : ∀ k, (∀ y0 y1 y2 y3, LeO (laws_eqInts.l0 k y0 y1 y2 y3) (laws_eqInts.l0 (k + 1) y0 y1 y2 y3))
  | 0 => fun _ _ _ _ r h => by simp [laws_eqInts.l0] at h
  | k + 1 => by
    have ih0 := laws_eqInts.mono_l k
    · intro y0 y1 y2 y3
      unfold laws_eqInts.l0
      repeat' first
      | (with_reducible exact ih0 _ _ _ _)
      | (with_reducible exact LeO.refl _)
      | (with_reducible exact LeO.none _)
      | (with_reducible refine LeO.ite ?_ ?_)
      | (with_reducible refine LeO.bind ?_ (fun _ => ?_))
      | exact ih0 _ _ _ _
      | exact LeO.none _
      | refine LeO.ite ?_ ?_
      | refine LeO.bind ?_ (fun _ => ?_)
theorem laws_eqInts.mono : ∀ a0 a1 k, LeO (laws_eqInts.f k a0 a1) (laws_eqInts.f (k + 1) a0 a1) := by
  intro a0 a1 k
  have ih0 := laws_eqInts.mono_l k
  unfold laws_eqInts.f
  repeat' first
      | (with_reducible exact ih0 _ _ _ _)
      | (with_reducible exact LeO.refl _)
      | (with_reducible exact LeO.none _)
      | (with_reducible refine LeO.ite ?_ ?_)
      | (with_reducible refine LeO.bind ?_ (fun _ => ?_))
      | exact ih0 _ _ _ _
      | exact LeO.none _
      | refine LeO.ite ?_ ?_
      | refine LeO.bind ?_ (fun _ => ?_)
set_option maxHeartbeats 8000000 in
set_option maxRecDepth 100000 in
theorem laws_eqInts.calls (k : Nat) (A0 : Option Addr) (c0 : Nat) (l0 : List Int) (A1 : Option Addr) (c1 : Nat) (l1 : List Int) (r : Bool) (w : World) (hr0 : Kd.C (Kd.int .i64) w A0 l0.length l0) (hc0 : l0.length ≤ c0) (hr1 : Kd.C (Kd.int .i64) w A1 l1.length l1) (hc1 : l1.length ≤ c1) (h : laws_eqInts.f k l0 l1 = some r) :
    Calls Try.prog 8 #[.slice A0 l0.length c0, .slice A1 l1.length c1] w fun e w' => e = .returned (.bool r) ∧ Drawn0 w w' := by
  have HR0 := Aside0.mk hr0
  have HC0 := Aside0.mk hc0
  clear hr0 hc0
  have HR1 := Aside0.mk hr1
  have HC1 := Aside0.mk hc1
  clear hr1 hc1
  have H : (if (l0.length : Int) = (l1.length : Int) then (laws_eqInts.l0 k l0 l1 (l0.length : Int) 0) else (some false)) = some r := h
  clear h
  by_cases c3 : (l0.length : Int) = (l1.length : Int)
  · rw [if_pos c3] at H
    have c3b0 : ((l0.length : Int) == (l1.length : Int)) = true := beq_iff_eq.mpr c3
    have c3b1 : ((l0.length : Int) != (l1.length : Int)) = false := bne_eq_false_iff_eq.mpr c3
    have c3b2 : (l0.length == l1.length) = true := by first | simpa using c3 | (simp at c3 ⊢; omega)
    clear c3
    have H' := Aside0.mk H
    clear H
    go_enter Try.func8, Try.ntmps8
    go_wp2
    repeat (go_quiet (fail); try go_wp2)
    go_loopg [13] k (fun kq v13 w' => ∃ (x13_1 : Int), v13 = .int .i64 x13_1 ∧ Aside0 (laws_eqInts.l0 kq l0 l1 (l0.length : Int) x13_1 = some r) ∧ Aside0 (kq ≤ k) ∧ Drawn0 w w')
    case atStart => exact ⟨(0), (by first | rfl | (simp; done) | (simp [*]; done)), H', ⟨Nat.le_refl _⟩, by repeat (first | exact Drawn0.refl _ | apply Drawn0.step)⟩
    case round =>
      clear H'
      try clear c1
      try clear p2
      try clear c3
      try clear c3b0
      try clear c3b1
      try clear c3b2
      obtain ⟨x13_1, rfl, HA, HK1, ⟨m1, rfl⟩⟩ := hrel
      cases gk with
      | zero => exact absurd HA.out (by simp [laws_eqInts.l0])
      | succ k1 =>
        have H := HA.out
        clear HA
        simp only [laws_eqInts.l0] at H
        by_cases c4 : x13_1 < (l0.length : Int)
        · rw [if_pos c4] at H
          have c4b0 : decide (x13_1 < (l0.length : Int)) = true := decide_eq_true c4
          clear c4
          by_cases c5 : 0 ≤ x13_1
          · rw [if_pos c5] at H
            have c5b0 : decide (0 ≤ x13_1) = true := decide_eq_true c5
            clear c5
            by_cases c6 : x13_1 < (l0.length : Int)
            · rw [if_pos c6] at H
              have c6b0 : decide (x13_1 < (l0.length : Int)) = true := decide_eq_true c6
              clear c6
              by_cases c7 : x13_1 < (l1.length : Int)
              · rw [if_pos c7] at H
                have c7b0 : decide (x13_1 < (l1.length : Int)) = true := decide_eq_true c7
                clear c7
                by_cases c8 : (rd l0 x13_1) = (rd l1 x13_1)
                · rw [if_pos c8] at H
                  have c8b0 : ((rd l0 x13_1) == (rd l1 x13_1)) = true := beq_iff_eq.mpr c8
                  have c8b1 : ((rd l0 x13_1) != (rd l1 x13_1)) = false := bne_eq_false_iff_eq.mpr c8
                  clear c8
                  have H' := Aside0.mk H
                  clear H
                  have p102 : 0 ≤ (x13_1 : Int) := of_decide_eq_true (by first | (with_reducible assumption) | assumption)
                  have q102 : x13_1 < (l0.length : Int) := of_decide_eq_true (by first | (with_reducible assumption) | assumption)
                  obtain ⟨ad102, e102, hx102_0⟩ := Kd.at_int HR0.out x13_1 p102 q102
                  cases e102
                  replace p102 := eq_true p102
                  replace q102 := eq_true q102
                  have p103 : 0 ≤ (x13_1 : Int) := of_decide_eq_true (by first | (with_reducible assumption) | assumption)
                  have q103 : x13_1 < (l1.length : Int) := of_decide_eq_true (by first | (with_reducible assumption) | assumption)
                  obtain ⟨ad103, e103, hx103_0⟩ := Kd.at_int HR1.out x13_1 p103 q103
                  cases e103
                  replace p103 := eq_true p103
                  replace q103 := eq_true q103
                  go_wp2
                  repeat (go_quiet (fail); try go_wp2)
                  go_roundg k1
                  case measure => have := HK1.out; omega
                  case rel => exact ⟨(wrap64 (x13_1 + 1)), (by first | rfl | (simp; done) | (simp [*]; done)), H', ⟨by have := HK1.out; omega⟩, by repeat (first | exact Drawn0.refl _ | apply Drawn0.step)⟩
                · rw [if_neg c8] at H
                  have c8b0 : ((rd l0 x13_1) == (rd l1 x13_1)) = false := beq_eq_false_iff_ne.mpr c8
                  have c8b1 : ((rd l0 x13_1) != (rd l1 x13_1)) = true := bne_iff_ne.mpr c8
                  obtain rfl := Option.some.inj H
                  have p102 : 0 ≤ (x13_1 : Int) := of_decide_eq_true (by first | (with_reducible assumption) | assumption)
                  have q102 : x13_1 < (l0.length : Int) := of_decide_eq_true (by first | (with_reducible assumption) | assumption)
                  obtain ⟨ad102, e102, hx102_0⟩ := Kd.at_int HR0.out x13_1 p102 q102
                  cases e102
                  replace p102 := eq_true p102
                  replace q102 := eq_true q102
                  have p103 : 0 ≤ (x13_1 : Int) := of_decide_eq_true (by first | (with_reducible assumption) | assumption)
                  have q103 : x13_1 < (l1.length : Int) := of_decide_eq_true (by first | (with_reducible assumption) | assumption)
                  obtain ⟨ad103, e103, hx103_0⟩ := Kd.at_int HR1.out x13_1 p103 q103
                  cases e103
                  replace p103 := eq_true p103
                  replace q103 := eq_true q103
                  go_wp2
                  repeat (go_quiet (fail); try go_wp2)
                  go_ret
                  exact ⟨by first | rfl | (simp; done) | (simp [*]; done), by repeat (first | exact Drawn0.refl _ | apply Drawn0.step)⟩
              · rw [if_neg c7] at H
                exact absurd H (by simp)
            · rw [if_neg c6] at H
              exact absurd H (by simp)
          · rw [if_neg c5] at H
            exact absurd H (by simp)
        · rw [if_neg c4] at H
          have c4b0 : decide (x13_1 < (l0.length : Int)) = false := decide_eq_false c4
          clear c4
          obtain rfl := Option.some.inj H
          go_wp2
          repeat (go_quiet (fail); try go_wp2)
          go_ret
          exact ⟨by first | rfl | (simp; done) | (simp [*]; done), by repeat (first | exact Drawn0.refl _ | apply Drawn0.step)⟩
  · rw [if_neg c3] at H
    have c3b0 : ((l0.length : Int) == (l1.length : Int)) = false := beq_eq_false_iff_ne.mpr c3
    have c3b1 : ((l0.length : Int) != (l1.length : Int)) = true := bne_iff_ne.mpr c3
    have c3b2 : (l0.length == l1.length) = false := by first | simpa using c3 | (simp at c3 ⊢; omega)
    obtain rfl := Option.some.inj H
    go_enter Try.func8, Try.ntmps8
    go_wp2
    repeat (go_quiet (fail); try go_wp2)
    go_ret
    exact ⟨by first | rfl | (simp; done) | (simp [*]; done), by repeat (first | exact Drawn0.refl _ | apply Drawn0.step)⟩

/-! ### spec_Kept: function 9 -/
def spec_Kept.l0 : Nat → List ByteArray → ByteArray → List Int → Int → Int → Option (List Int)
  | 0, _, _, _, _, _ => none
  | k + 1, x0, x1, x5, x8, x9 => if x9 < x8 then (if 0 ≤ x9 then (if x9 < (x0.length : Int) then (if (rdOf ByteArray.empty x0 x9).toList = x1.toList then (if x5.length < 17592186044416 then (spec_Kept.l0 k x0 x1 (x5 ++ [x9]) x8 (wrap64 (x9 + 1))) else (none)) else (spec_Kept.l0 k x0 x1 x5 x8 (wrap64 (x9 + 1)))) else (none)) else (none)) else (some x5)
def spec_Kept.f (k : Nat) (l0 : List ByteArray) (a1 : ByteArray) : Option (List Int) := spec_Kept.l0 k l0 a1 ([] : List Int) (l0.length : Int) 0
theorem spec_Kept.mono_l : ∀ k, (∀ y0 y1 y2 y3 y4, LeO (spec_Kept.l0 k y0 y1 y2 y3 y4) (spec_Kept.l0 (k + 1) y0 y1 y2 y3 y4))
  | 0 => fun _ _ _ _ _ r h => by simp [spec_Kept.l0] at h
  | k + 1 => by
    have ih0 := spec_Kept.mono_l k
    · intro y0 y1 y2 y3 y4
      unfold spec_Kept.l0
      repeat' first
      | (with_reducible exact ih0 _ _ _ _ _)
      | (with_reducible exact LeO.refl _)
      | (with_reducible exact LeO.none _)
      | (with_reducible refine LeO.ite ?_ ?_)
      | (with_reducible refine LeO.bind ?_ (fun _ => ?_))
      | exact ih0 _ _ _ _ _
      | exact LeO.none _
      | refine LeO.ite ?_ ?_
      | refine LeO.bind ?_ (fun _ => ?_)
theorem spec_Kept.mono : ∀ a0 a1 k, LeO (spec_Kept.f k a0 a1) (spec_Kept.f (k + 1) a0 a1) := by
  intro a0 a1 k
  have ih0 := spec_Kept.mono_l k
  unfold spec_Kept.f
  repeat' first
      | (with_reducible exact ih0 _ _ _ _ _)
      | (with_reducible exact LeO.refl _)
      | (with_reducible exact LeO.none _)
      | (with_reducible refine LeO.ite ?_ ?_)
      | (with_reducible refine LeO.bind ?_ (fun _ => ?_))
      | exact ih0 _ _ _ _ _
      | exact LeO.none _
      | refine LeO.ite ?_ ?_
      | refine LeO.bind ?_ (fun _ => ?_)
set_option maxHeartbeats 8000000 in
set_option maxRecDepth 100000 in
theorem spec_Kept.calls (k : Nat) (A0 : Option Addr) (c0 : Nat) (l0 : List ByteArray) (a1 : ByteArray) (r : List Int) (w : World) (hr0 : Kd.C Kd.string w A0 l0.length l0) (hc0 : l0.length ≤ c0) (h : spec_Kept.f k l0 a1 = some r) :
    Calls Try.prog 9 #[.slice A0 l0.length c0, .string a1] w fun e w' => ∃ v0_ : Value, e = .returned (v0_) ∧ Kd.R (Kd.int .i64) 3 w' w.heap.size (fun _ => True) v0_ r ∧ Below w.heap.size w w' := by
  have HR0 := Aside0.mk hr0
  have HC0 := Aside0.mk hc0
  clear hr0 hc0
  have HB := Aside0.mk (Below.refl w.heap.size w)
  have H : (spec_Kept.l0 k l0 a1 ([] : List Int) (l0.length : Int) 0) = some r := h
  clear h
  have H' := Aside0.mk H
  clear H
  go_enter Try.func9, Try.ntmps9
  go_wp2
  go_loopg [5, 9] k (fun kq v5 v9 w' => ∃ (x5_1 : List Int) (x9_1 : Int), v9 = .int .i64 x9_1 ∧ Aside0 (spec_Kept.l0 kq l0 a1 x5_1 (l0.length : Int) x9_1 = some r) ∧ Aside0 (kq ≤ k) ∧ Aside0 (Kd.R (Kd.int .i64) 3 w' w.heap.size (fun _ => True) v5 x5_1) ∧ Aside0 (Below w.heap.size w w'))
  case atStart => exact ⟨(([] : List Int)), (0), (by first | rfl | (simp; done) | (simp [*]; done)), H', ⟨Nat.le_refl _⟩, ⟨by first | exact Kd.R_nil _ _ _ _ _ | exact Kd.N_nil _ _ _ _ _ | exact Kd.V_nil _ _ _ _ _ | exact Kd.Q_nil _ _ _ _ _ | exact Kd.S_nil _ _ _ _ _⟩, ⟨by repeat (first | (with_reducible first | exact HB.out | apply below_alloc | apply pw_below_drewN | apply below_drew1) | exact HB.out)⟩⟩
  case round =>
    clear H'
    try clear p2
    obtain ⟨x5_1, x9_1, rfl, HA, HK1, HO_5, HB⟩ := hrel
    cases gk with
    | zero => exact absurd HA.out (by simp [spec_Kept.l0])
    | succ k1 =>
      have H := HA.out
      clear HA
      simp only [spec_Kept.l0] at H
      by_cases c3 : x9_1 < (l0.length : Int)
      · rw [if_pos c3] at H
        have c3b0 : decide (x9_1 < (l0.length : Int)) = true := decide_eq_true c3
        clear c3
        by_cases c4 : 0 ≤ x9_1
        · rw [if_pos c4] at H
          have c4b0 : decide (0 ≤ x9_1) = true := decide_eq_true c4
          clear c4
          by_cases c5 : x9_1 < (l0.length : Int)
          · rw [if_pos c5] at H
            have c5b0 : decide (x9_1 < (l0.length : Int)) = true := decide_eq_true c5
            clear c5
            by_cases c6 : (rdOf ByteArray.empty l0 x9_1).toList = a1.toList
            · rw [if_pos c6] at H
              have c6b0 : ((rdOf ByteArray.empty l0 x9_1).toList == a1.toList) = true := beq_iff_eq.mpr c6
              have c6b1 : ((rdOf ByteArray.empty l0 x9_1).toList != a1.toList) = false := bne_eq_false_iff_eq.mpr c6
              clear c6
              by_cases c7 : x5_1.length < 17592186044416
              · rw [if_pos c7] at H
                have LMc7 := Aside0.mk c7
                clear c7
                obtain ⟨y105, hy105⟩ : ∃ y_ : List Int, y_ = (x5_1 ++ [x9_1]) := ⟨_, rfl⟩
                replace H : (spec_Kept.l0 k1 l0 a1 y105 (l0.length : Int) (wrap64 (x9_1 + 1))) = some r := by first | (rw [hy105]; with_reducible exact H) | (have H2_ := (Option.bind_some _ _).symm.trans H; rw [hy105]; with_reducible exact H2_) | (have H2_ := (Option.bind_some _ _).symm.trans H; with_reducible exact H2_) | with_reducible exact H | (rw [hy105]; exact H) | exact H
                have Ny105 := Aside0.mk hy105
                clear hy105
                have H' := Aside0.mk H
                clear H
                have p104 : 0 ≤ (x9_1 : Int) := of_decide_eq_true (by first | (with_reducible assumption) | assumption)
                have q104 : x9_1 < (l0.length : Int) := of_decide_eq_true (by first | (with_reducible assumption) | assumption)
                obtain ⟨ad104, e104, hx104_0⟩ := Kd.at_string HR0.out x9_1 p104 q104
                cases e104
                replace hx104_0 := (HB.out.cell (World.block_lt_of_cell? w _ hx104_0)).trans hx104_0
                replace p104 := eq_true p104
                replace q104 := eq_true q104
                go_wp2_with (first | ((with_reducible refine gate_builtin (b := .append) (xs := #[.tmp 18, .tmp 20]) rfl ?_); at_builtin; refine Kd.R_append (Kd.int .i64) (w0 := w) w.heap.size rfl (.tmp 18) (.tmp 20) 24 3 (.int .i64 0) 8 rfl Try.underlying24 info3 rfl (by decide) (by omega) u5 x5_1 x9_1 [.int .i64 x9_1] (fun _ => True) (fun _ => False) rfl rfl ?aP (fun _ hk => hk.elim) ?aF ?aO ?aB ?aS ?aL ?_; (case aP => exact rfl); (case aB => exact (by repeat (first | (with_reducible first | exact HB.out | apply below_alloc | apply pw_below_drewN | apply below_drew1) | exact HB.out))); (case aF => exact (fun _ _ => trivial)); (case aO => exact (by (with_reducible repeat (first | apply Kd.R_alloc | apply Kd.R_drewN | apply Kd.R_drew)); exact HO_5.out)); (case aS => exact (below_size (by repeat (first | (with_reducible first | exact HB.out | apply below_alloc | apply pw_below_drewN | apply below_drew1) | exact HB.out)))); (case aL => have := LMc7.out; omega); intro v106 w8 ho hb hg hat; rw [← Ny105.out] at ho; have n0_ := Aside0.mk (hb); have n1_ := Aside0.mk (ho); clear HB; clear HO_5; have HB := n0_; have HO107 := n1_; clear n0_ n1_; clear ho hb hg hat))
                go_roundg k1
                case measure => have := HK1.out; omega
                case rel => exact ⟨(y105), (wrap64 (x9_1 + 1)), (by first | rfl | (simp; done) | (simp [*]; done)), H', ⟨by have := HK1.out; omega⟩, ⟨by (with_reducible repeat (first | apply Kd.R_alloc | apply Kd.R_drewN | apply Kd.R_drew)); exact HO107.out⟩, ⟨by repeat (first | (with_reducible first | exact HB.out | apply below_alloc | apply pw_below_drewN | apply below_drew1) | exact HB.out)⟩⟩
              · rw [if_neg c7] at H
                exact absurd H (by simp)
            · rw [if_neg c6] at H
              have c6b0 : ((rdOf ByteArray.empty l0 x9_1).toList == a1.toList) = false := beq_eq_false_iff_ne.mpr c6
              have c6b1 : ((rdOf ByteArray.empty l0 x9_1).toList != a1.toList) = true := bne_iff_ne.mpr c6
              have H' := Aside0.mk H
              clear H
              have p104 : 0 ≤ (x9_1 : Int) := of_decide_eq_true (by first | (with_reducible assumption) | assumption)
              have q104 : x9_1 < (l0.length : Int) := of_decide_eq_true (by first | (with_reducible assumption) | assumption)
              obtain ⟨ad104, e104, hx104_0⟩ := Kd.at_string HR0.out x9_1 p104 q104
              cases e104
              replace hx104_0 := (HB.out.cell (World.block_lt_of_cell? w _ hx104_0)).trans hx104_0
              replace p104 := eq_true p104
              replace q104 := eq_true q104
              go_wp2
              go_roundg k1
              case measure => have := HK1.out; omega
              case rel => exact ⟨(x5_1), (wrap64 (x9_1 + 1)), (by first | rfl | (simp; done) | (simp [*]; done)), H', ⟨by have := HK1.out; omega⟩, ⟨by (with_reducible repeat (first | apply Kd.R_alloc | apply Kd.R_drewN | apply Kd.R_drew)); exact HO_5.out⟩, ⟨by repeat (first | (with_reducible first | exact HB.out | apply below_alloc | apply pw_below_drewN | apply below_drew1) | exact HB.out)⟩⟩
          · rw [if_neg c5] at H
            exact absurd H (by simp)
        · rw [if_neg c4] at H
          exact absurd H (by simp)
      · rw [if_neg c3] at H
        have c3b0 : decide (x9_1 < (l0.length : Int)) = false := decide_eq_false c3
        clear c3
        obtain rfl := Option.some.inj H
        go_wp2
        go_ret
        exact ⟨_, by first | rfl | (simp [errW_none, errW_some] <;> rfl) | (simp [*, errW_none, errW_some] <;> rfl), by (with_reducible repeat (first | apply Kd.R_alloc | apply Kd.R_drewN | apply Kd.R_drew)); exact HO_5.out, by repeat (first | (with_reducible first | exact HB.out | apply below_alloc | apply pw_below_drewN | apply below_drew1) | exact HB.out)⟩

end Go.Proofs.Ythjameohenmeiaa.Q
