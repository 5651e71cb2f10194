-- printed by this project's own program wip/tools/mkprint.py (the kit's print.py with hand-proved contracts put in)
import Derived.Test.YtfbcpnjeonijaaaDoorQx0
import Derived.Test.YtfbcpnjeonijaaaDoorQx1
namespace Go.Proofs.YtfbcpnjeonijaaaDoor.Q
open Go.RowKit Go.Proofs.YtfbcpnjeonijaaaDoorW.PrintWords Go.Proofs.YtfbcpnjeonijaaaDoorW.PrintLast Go.Proofs.YtfbcpnjeonijaaaDoorW.PrintMore
attribute [local go_sem] max2_int min2_int max_two min_two max_three min_three max_four min_four   -- for this text's walks alone
set_option linter.unusedVariables false
set_option linter.unusedSimpArgs false

/-! ### impl_Times: function 5 -/
-- a contract that was proved by hand
/-- Whether a byte is a digit from lo to hi. -/
def dgT (c : UInt8) (lo hi : Nat) : Bool := decide (lo ≤ c.toNat) && decide (c.toNat ≤ hi)
def validT : List UInt8 → Bool
  | [a, b, c, d, e] => decide ([a, b, c, d, e] = [50, 52, 58, 48, 48]) || (decide (c = 58) && dgT d 48 53 && dgT e 48 57 && ((dgT a 48 49 && dgT b 48 57) || (decide (a = 50) && dgT b 48 51)))
  | _ => false
theorem validT_mk (a b c d e : UInt8) : validT [a, b, c, d, e] = (decide ([a, b, c, d, e] = [50, 52, 58, 48, 48]) || (decide (c = 58) && dgT d 48 53 && dgT e 48 57 && ((dgT a 48 49 && dgT b 48 57) || (decide (a = 50) && dgT b 48 51)))) := rfl
def timeV : List UInt8 → Nat
  | [a, b, _, d, e] => ((a.toNat - 48) * 10 + (b.toNat - 48)) * 60 + ((d.toNat - 48) * 10 + (e.toNat - 48))
  | _ => 0
def parseT (l : List UInt8) : Option Nat := if validT l = true then some (timeV l) else none
theorem five {l : List UInt8} (h : l.length = 5) : ∃ a b c d e, l = [a, b, c, d, e] := by
  match l, h with
  | [a, b, c, d, e], _ => exact ⟨a, b, c, d, e, rfl⟩
theorem validT_five {l : List UInt8} (h : l.length ≠ 5) : validT l = false := by
  match l, h with
  | [], _ => rfl
  | [_], _ => rfl
  | [_, _], _ => rfl
  | [_, _, _], _ => rfl
  | [_, _, _, _], _ => rfl
  | [_, _, _, _, _], h => exact absurd rfl h
  | _ :: _ :: _ :: _ :: _ :: _ :: _, _ => rfl
theorem bt_list (s : ByteArray) (n : Nat) : bt s (n : Int) = ((s.data.toList.getD n 0).toNat : Int) := by
  have hz : s.data.size = s.size := rfl
  unfold bt
  by_cases hp : n < s.size
  · have h1 : n < s.data.toList.length := by rw [Array.length_toList]; exact hp
    simp [hp, List.getD, hz]
    rfl
  · have h1 : ¬ n < s.data.size := hp
    simp [hp, List.getD, h1]
theorem dig_val (c : UInt8) (lo hi : Nat) : timeinterval_zzDigit.f (c.toNat : Int) (lo : Int) (hi : Int) = some (dgT c lo hi) := by
  unfold timeinterval_zzDigit.f dgT
  by_cases h : lo ≤ c.toNat
  · rw [if_pos (by omega), decide_eq_true h]
    rw [show decide ((c.toNat : Int) ≤ (hi : Int)) = decide (c.toNat ≤ hi) from decide_eq_decide.2 (by omega)]
    rfl
  · rw [if_neg (by omega), decide_eq_false h]
    rfl
theorem valid_val (s : ByteArray) : timeinterval_zzValidTime.f 1 s = some (validT s.data.toList) := by
  have hz : s.data.toList.length = s.size := by rw [Array.length_toList]; rfl
  have b0 := bt_list s 0
  have b1 := bt_list s 1
  have b2 := bt_list s 2
  have b3 := bt_list s 3
  have b4 := bt_list s 4
  unfold timeinterval_zzValidTime.f
  rw [Lib.toList_data]
  by_cases h5 : s.data.toList.length = 5
  · obtain ⟨a, b, c, d, e, hl⟩ := five h5
    rw [hl] at hz b0 b1 b2 b3 b4 ⊢
    simp only [List.getD, List.getElem?_cons_zero, List.getElem?_cons_succ, Option.getD_some] at b0 b1 b2 b3 b4
    have hz5 : (s.size : Int) = 5 := by rw [← hz]; rfl
    rw [validT_mk]
    by_cases h24 : [a, b, c, d, e] = [50, 52, 58, 48, 48]
    · rw [if_pos h24, decide_eq_true h24]
      rfl
    · rw [if_neg h24, decide_eq_false h24, if_pos hz5, hz5, if_pos (by omega), if_pos (show (3 : Int) < 5 by omega), if_pos (show (4 : Int) < 5 by omega)]
      rw [show bt s 2 = (c.toNat : Int) from b2, show bt s 3 = (d.toNat : Int) from b3, show bt s 4 = (e.toNat : Int) from b4]
      have d3 := dig_val d 48 53
      have d4 := dig_val e 48 57
      have d0 := dig_val a 48 49
      have d1 := dig_val b 48 57
      have d2 := dig_val b 48 51
      simp only [Int.cast_ofNat_Int] at d0 d1 d2 d3 d4
      have hj : ∀ x, timeinterval_zzValidTime.j0 1 s x = some (!x && ((dgT a 48 49 && dgT b 48 57) || (decide (a = 50) && dgT b 48 51))) := by
        intro x
        show timeinterval_zzValidTime.j0 (0 + 1) s x = _
        simp only [timeinterval_zzValidTime.j0]
        cases x with
        | true => rw [if_pos rfl]; rfl
        | false =>
          rw [if_neg (by simp), hz5, if_pos (by omega), show bt s 0 = (a.toNat : Int) from b0, show bt s 1 = (b.toNat : Int) from b1, d0, d1, d2]
          have ha : ((a.toNat : Int) = 50) ↔ a = 50 := by
            constructor
            · intro h
              apply UInt8.toNat_inj.1
              show a.toNat = 50
              omega
            · rintro rfl; rfl
          cases h0 : dgT a 48 49 <;> cases h1 : dgT b 48 57 <;> by_cases h2 : a = 50
          all_goals simp [ha, h2]
      have hc : ((c.toNat : Int) = 58) ↔ c = 58 := by
        constructor
        · intro h
          apply UInt8.toNat_inj.1
          show c.toNat = 58
          omega
        · rintro rfl; rfl
      rw [d3, d4]
      simp only [Option.bind_some]
      rw [hj, hj]
      by_cases h58 : c = 58
      · rw [if_pos (hc.2 h58), decide_eq_true h58]
        cases dgT d 48 53 <;> cases dgT e 48 57 <;> simp
      · rw [if_neg (fun h => h58 (hc.1 h)), decide_eq_false h58]
        simp
  · rw [validT_five h5]
    rw [if_neg (fun h => h5 (by rw [h]; rfl)), if_neg (by omega)]
    show timeinterval_zzValidTime.j0 (0 + 1) s true = _
    simp only [timeinterval_zzValidTime.j0]
    rw [if_pos trivial]
theorem w64t (x : Int) (h0 : -9223372036854775808 ≤ x) (h1 : x ≤ 9223372036854775807) : wrap64 x = x := by unfold wrap64; omega
theorem ext_l (s : ByteArray) (i j : Nat) : (s.extract i j).toList = (s.data.toList.drop i).take (j - i) := by
  rw [Lib.toList_data, ByteArray.data_extract, Array.toList_extract, List.extract_eq_take_drop]
theorem idx_step (k : Nat) (s : ByteArray) (i : Nat) (hs : s.size ≤ 2147483647) (hi : i ≤ s.size) :
    timeinterval_zzIndex.l0 (k + 1) s ⟨#[58]⟩ (i : Int) = if i + 1 ≤ s.size then (if (s.data.toList.drop i).take 1 = [58] then some (i : Int) else timeinterval_zzIndex.l0 k s ⟨#[58]⟩ ((i + 1 : Nat) : Int)) else some (-1) := by
  have h1 : (⟨#[58]⟩ : ByteArray).size = 1 := rfl
  have hl : (⟨#[58]⟩ : ByteArray).toList = [58] := by rw [Lib.toList_data]
  simp only [timeinterval_zzIndex.l0]
  rw [h1, show wrap64 ((i : Int) + ((1 : Nat) : Int)) = ((i + 1 : Nat) : Int) by rw [w64t _ (by omega) (by omega)]; omega, hl]
  by_cases hf : i + 1 ≤ s.size
  · rw [if_pos (by omega), if_pos hf, if_pos (by omega), if_pos (by omega), Int.toNat_natCast, Int.toNat_natCast, ext_l, show i + 1 - i = 1 by omega]
    rw [show wrap64 ((i : Int) + 1) = ((i + 1 : Nat) : Int) by rw [w64t _ (by omega) (by omega)]; omega]
  · rw [if_neg (by omega), if_neg hf]
theorem of_five {s : ByteArray} {a b c d e : UInt8} (hl : s.data.toList = [a, b, c, d, e]) : s = ⟨#[a, b, c, d, e]⟩ := by
  apply ByteArray.ext
  apply Array.ext'
  rw [hl]
theorem split_five (a b d e : UInt8) (ha : a ≠ 58) (hb : b ≠ 58) (hd : d ≠ 58) (he : e ≠ 58) : timeinterval_zzSplit.f 8 ⟨#[a, b, 58, d, e]⟩ ⟨#[58]⟩ = some [⟨#[a, b]⟩, ⟨#[d, e]⟩] := by
  have h1 : (⟨#[58]⟩ : ByteArray).size = 1 := rfl
  have hz : (⟨#[a, b, 58, d, e]⟩ : ByteArray).size = 5 := rfl
  have hz2 : (⟨#[d, e]⟩ : ByteArray).size = 2 := rfl
  have i1 : timeinterval_zzIndex.f 7 ⟨#[a, b, 58, d, e]⟩ ⟨#[58]⟩ = some 2 := by
    unfold timeinterval_zzIndex.f
    show timeinterval_zzIndex.l0 (6 + 1) _ _ ((0 : Nat) : Int) = _
    rw [idx_step _ _ _ (by rw [hz]; omega) (by rw [hz]; omega), if_pos (by rw [hz]; omega), if_neg (by simp [ha])]
    show timeinterval_zzIndex.l0 (5 + 1) _ _ ((1 : Nat) : Int) = _
    rw [idx_step _ _ _ (by rw [hz]; omega) (by rw [hz]; omega), if_pos (by rw [hz]; omega), if_neg (by simp [hb])]
    show timeinterval_zzIndex.l0 (4 + 1) _ _ ((2 : Nat) : Int) = _
    rw [idx_step _ _ _ (by rw [hz]; omega) (by rw [hz]; omega), if_pos (by rw [hz]; omega), if_pos (by simp)]
    rfl
  have i2 : timeinterval_zzIndex.f 6 ⟨#[d, e]⟩ ⟨#[58]⟩ = some (-1) := by
    unfold timeinterval_zzIndex.f
    show timeinterval_zzIndex.l0 (5 + 1) _ _ ((0 : Nat) : Int) = _
    rw [idx_step _ _ _ (by rw [hz2]; omega) (by rw [hz2]; omega), if_pos (by rw [hz2]; omega), if_neg (by simp [hd])]
    show timeinterval_zzIndex.l0 (4 + 1) _ _ ((1 : Nat) : Int) = _
    rw [idx_step _ _ _ (by rw [hz2]; omega) (by rw [hz2]; omega), if_pos (by rw [hz2]; omega), if_neg (by simp [he])]
    show timeinterval_zzIndex.l0 (3 + 1) _ _ ((2 : Nat) : Int) = _
    rw [idx_step _ _ _ (by rw [hz2]; omega) (by rw [hz2]; omega), if_neg (by rw [hz2]; omega)]
  have x1 : (⟨#[a, b, 58, d, e]⟩ : ByteArray).extract 0 2 = ⟨#[a, b]⟩ := by
    apply ByteArray.ext; apply Array.ext'
    rw [ByteArray.data_extract, Array.toList_extract, List.extract_eq_take_drop]; rfl
  have x2 : (⟨#[a, b, 58, d, e]⟩ : ByteArray).extract 3 5 = ⟨#[d, e]⟩ := by
    apply ByteArray.ext; apply Array.ext'
    rw [ByteArray.data_extract, Array.toList_extract, List.extract_eq_take_drop]; rfl
  have hw : wrap64 ((2 : Int) + ((1 : Nat) : Int)) = 3 := by rw [w64t _ (by omega) (by omega)]; omega
  unfold timeinterval_zzSplit.f
  rw [h1, if_neg (by omega)]
  show timeinterval_zzSplit.l1 (7 + 1) _ _ _ = _
  simp only [timeinterval_zzSplit.l1]
  rw [i1]
  simp only [Option.bind_some]
  rw [h1, hw, hz, if_neg (by omega), if_pos (by omega), if_pos (by omega), if_pos (by simp), if_pos (by omega), if_pos (by omega), show (3 : Int).toNat = 3 from rfl, show (2 : Int).toNat = 2 from rfl, x1, x2]
  show timeinterval_zzSplit.l1 (6 + 1) _ _ _ = _
  simp only [timeinterval_zzSplit.l1]
  rw [i2]
  simp only [Option.bind_some]
  rw [if_pos (by omega), if_pos (by simp)]
  rfl
theorem atoi_two (a b : UInt8) (ha : 48 ≤ a.toNat ∧ a.toNat ≤ 57) (hb : 48 ≤ b.toNat ∧ b.toNat ≤ 57) : Lib.atoi [a, b] = some (((a.toNat - 48) * 10 + (b.toNat - 48) : Nat) : Int) := by
  have a1 : (a == 45) = false := by
    rw [beq_eq_false_iff_ne]
    rintro rfl
    exact absurd ha.1 (by decide)
  have a2 : (a == 43) = false := by
    rw [beq_eq_false_iff_ne]
    rintro rfl
    exact absurd ha.1 (by decide)
  have da : Lib.digitVal a = some (a.toNat - 48) := by unfold Lib.digitVal; rw [if_pos ha]
  have db : Lib.digitVal b = some (b.toNat - 48) := by unfold Lib.digitVal; rw [if_pos hb]
  simp only [Lib.atoi, a1, a2, Lib.decNat, Lib.decFrom, da, db, List.isEmpty_cons, Bool.false_eq_true, if_false, Option.map_some, Nat.zero_mul, Nat.zero_add]
theorem valid_facts {a b c d e : UInt8} (h : validT [a, b, c, d, e] = true) : c = 58 ∧ (48 ≤ a.toNat ∧ a.toNat ≤ 57) ∧ (48 ≤ b.toNat ∧ b.toNat ≤ 57) ∧ (48 ≤ d.toNat ∧ d.toNat ≤ 53) ∧ (48 ≤ e.toNat ∧ e.toNat ≤ 57) ∧ (a.toNat - 48) * 10 + (b.toNat - 48) ≤ 24 := by
  rw [validT_mk] at h
  rcases Bool.or_eq_true_iff.1 h with h | h
  · have := of_decide_eq_true h
    injection this with e1 this
    injection this with e2 this
    injection this with e3 this
    injection this with e4 this
    injection this with e5 this
    subst e1 e2 e3 e4 e5
    decide
  · unfold dgT at h
    simp only [Bool.and_eq_true, Bool.or_eq_true, decide_eq_true_eq] at h
    obtain ⟨⟨⟨h1, h2⟩, h3⟩, h4⟩ := h
    refine ⟨h1, ?_⟩
    rcases h4 with h4 | ⟨h4, h5⟩
    · omega
    · subst h4
      have : (50 : UInt8).toNat = 50 := rfl
      omega
theorem errNew (s : ByteArray) (w : World) :
    Calls Tryd.prog 13 #[.string s] w fun e w' => (∃ te pe, e = .returned (.iface te pe)) ∧ Below w.heap.size w w' := by
  go_enter Tryd.func13, Tryd.ntmps13
  go_wp2
  go_ret
  exact ⟨⟨_, _, rfl⟩, below_alloc (Below.refl _ _) _⟩
theorem at_str {w : World} {g n i : Nat} {xs : List ByteArray} (h : Kd.C Kd.string w (some ⟨g, 0, none⟩) n xs) (hi : i < n) : w.cell? ⟨g, i, none⟩ = some (.string (xs.getD i ByteArray.empty)) := by
  obtain ⟨ad, e1, h1⟩ := Kd.at_string h (i : Int) (by omega) (by omega)
  injection e1 with e1
  subst e1
  have : (⟨g, 0, none⟩ : Addr).add ((i : Int)).toNat = ⟨g, i, none⟩ := by unfold Addr.add; split <;> simp_all
  rw [this] at h1
  exact h1
def timePost (l : List UInt8) (e : Ending) : Prop := match parseT l with
  | some m => e = .returned (.tuple #[.int .i64 (m : Int), .nilIface])
  | none => ∃ te pe, e = .returned (.tuple #[.int .i64 0, .iface te pe])
theorem parse_time (s : ByteArray) (w : World) :
    Calls Tryd.prog 14 #[.string s] w fun e w' => timePost s.data.toList e ∧ Below w.heap.size w w' := by
  unfold timePost parseT
  cases hv : validT s.data.toList with
  | false =>
    have hV := Aside0.mk (by have h := valid_val s; rw [hv] at h; exact h)
    clear hv
    simp only [Bool.false_eq_true, if_false]
    go_enter Tryd.func14, Tryd.ntmps14
    go_wp2_with fail
    refine (timeinterval_zzValidTime.calls 1 s false _ hV.out).mono ?_
    rintro e w1 ⟨rfl, ⟨n, rfl⟩⟩
    go_wp2_with fail
    refine (errNew _ _).mono ?_
    rintro e w2 ⟨⟨te, pe, rfl⟩, hb⟩
    have HB := Aside0.mk (below_step (pw_below_drewN (Below.refl w.heap.size w) n) hb)
    clear hb
    go_wp2
    go_ret2
    exact ⟨⟨te, pe, rfl⟩, HB.out⟩
  | true =>
    have hV := Aside0.mk (by have h := valid_val s; rw [hv] at h; exact h)
    have h5 : s.data.toList.length = 5 := by
      by_cases h : s.data.toList.length = 5
      · exact h
      · rw [validT_five h] at hv; cases hv
    obtain ⟨a, b, c, d, e, hl⟩ := five h5
    have hs := of_five hl
    rw [hl] at hv ⊢
    obtain ⟨rfl, ha, hb, hd, he, hh⟩ := valid_facts hv
    clear hl h5 hv
    simp only [if_true]
    have ne58 : ∀ {x : UInt8}, x.toNat ≤ 57 → x ≠ 58 := by
      rintro x hx rfl
      exact absurd hx (by decide)
    have HS := Aside0.mk (split_five a b d e (ne58 ha.2) (ne58 hb.2) (ne58 (by omega)) (ne58 he.2))
    have HA1 := Aside0.mk (atoi_two a b ha hb)
    have HA2 := Aside0.mk (atoi_two d e (by omega) he)
    obtain ⟨H, hH⟩ : ∃ H : Nat, (a.toNat - 48) * 10 + (b.toNat - 48) = H := ⟨_, rfl⟩
    obtain ⟨M, hM⟩ : ∃ M : Nat, (d.toNat - 48) * 10 + (e.toNat - 48) = M := ⟨_, rfl⟩
    have hM2 : M ≤ 59 := by omega
    have ht : timeV [a, b, 58, d, e] = H * 60 + M := by rw [← hH, ← hM]; rfl
    rw [ht]
    rw [hH] at HA1 hh
    rw [hM] at HA2
    clear hH hM ht ha hb hd he ne58
    subst hs
    go_enter Tryd.func14, Tryd.ntmps14
    go_wp2_with fail
    refine (timeinterval_zzValidTime.calls 1 _ true _ hV.out).mono ?_
    rintro e1 w1 ⟨rfl, ⟨n, rfl⟩⟩
    go_wp2_with fail
    refine (timeinterval_zzSplit.calls 8 _ _ _ _ HS.out).mono ?_
    rintro e1 w2 ⟨v, rfl, hR, hb⟩
    obtain ⟨g, cap, rfl, _, _, _⟩ := Kd.R_form hR (by simp)
    obtain ⟨_, hcap, hC⟩ := Kd.R_reads' hR
    have HB := Aside0.mk (below_step (pw_below_drewN (Below.refl w.heap.size w) n) hb)
    have c0 := at_str hC (i := 0) (by simp)
    have c1 := at_str hC (i := 1) (by simp)
    simp only [List.getD, List.getElem?_cons_zero, List.getElem?_cons_succ, Option.getD_some] at c0 c1
    clear hR hb hC
    go_wp2_with fail
    refine (Tryd.strconv_Atoi _ _ (show (⟨#[a, b]⟩ : ByteArray).size ≤ 18 from (show 2 ≤ 18 by omega)) HA1.out _).mono ?_
    rintro e1 w3 ⟨rfl, t3, rfl⟩
    have hb3 := Lib.bytesWorld_below w2 5 t3
    have c2 := (hb3.cell (World.block_lt_of_cell? w2 _ c1)).trans c1
    have HB3 := Aside0.mk (below_step HB.out hb3)
    clear c0 c1 hb3
    go_wp2_with fail
    refine (Tryd.strconv_Atoi _ _ (show (⟨#[d, e]⟩ : ByteArray).size ≤ 18 from (show 2 ≤ 18 by omega)) HA2.out _).mono ?_
    rintro e1 w4 ⟨rfl, t4, rfl⟩
    have HB4 := Aside0.mk (below_step HB3.out (Lib.bytesWorld_below _ 5 t4))
    clear c2
    go_wp2
    go_ret2
    exact ⟨rfl, HB4.out⟩
theorem ta_ok (B : Nat) (W : World) : (Instr.typeAssert (.iface 41 (.pointer (some ⟨B, 0, none⟩))) 20 41 false).run Tryd.prog W = .ok (.pointer (some ⟨B, 0, none⟩)) W := by kernel_rfl
theorem zz_fn (s1 s2 y1 y2 : ByteArray) (B1 B2 By base : Nat) (w : World) (h1 : w.heap[B1]? = some (.cells #[.string s1] 9 (0, 0))) (h2 : w.heap[B2]? = some (.cells #[.string s2] 9 (0, 0))) (hy : w.heap[By]? = some (.cells #[.string y1, .string y2] 40 (0, 0))) (hb : base ≤ By) :
    Calls Tryd.prog 12 #[.iface 41 (.pointer (some ⟨By, 0, none⟩)), .pointer (some ⟨B1, 0, none⟩), .pointer (some ⟨B2, 0, none⟩)] w fun e w' =>
      e = .returned .nilIface ∧ w'.heap[By]? = some (.cells #[.string s1, .string s2] 40 (0, 0)) ∧ Below base w w' ∧ w.heap.size ≤ w'.heap.size := by
  have c1 : w.cell? ⟨B1, 0, none⟩ = some (.string s1) := by unfold World.cell?; rw [h1]; rfl
  have c2 : w.cell? ⟨B2, 0, none⟩ = some (.string s2) := by unfold World.cell?; rw [h2]; rfl
  have HY := Aside0.mk hy
  go_enter Tryd.func12, Tryd.ntmps12
  have y1 : w.cell? ⟨By, 0, none⟩ = some (.string y1) := by unfold World.cell?; rw [hy]; rfl
  have y2 : w.cell? ⟨By, 1, none⟩ = some (.string y2) := by unfold World.cell?; rw [hy]; rfl
  have f1 : w.frozen? ⟨By, 0, none⟩ = false := by unfold World.frozen?; rw [hy]; rfl
  have f2 : w.frozen? ⟨By, 1, none⟩ = false := by unfold World.frozen?; rw [hy]; rfl
  clear h1 h2 hy
  have hta := ta_ok By
  go_wp2
  go_region
  all_goals
    go_wp2
    go_ret
    have g1 := Lib.heap_setCell_same (i := 0) HY.out (.string s1)
    have g2 := Lib.heap_setCell_same (i := 1) g1 (.string s2)
    exact ⟨rfl, g2, ((below_drew1 (Below.refl base w)).setCell hb _).setCell hb _, by simp⟩
def timesV (l1 l2 : List UInt8) : Option (Nat × Nat) := if l1 = [] ∨ l2 = [] then none else match parseT l1, parseT l2 with
  | some a, some b => if b ≤ a then none else some (a, b)
  | _, _ => none
theorem cells_two {w : World} {B : Nat} {a b : Value} {t : TypeId} (h : w.heap[B]? = some (.cells #[a, b] t (0, 0))) : w.cell? ⟨B, 0, none⟩ = some a ∧ w.cell? ⟨B, 1, none⟩ = some b ∧ w.frozen? ⟨B, 0, none⟩ = false ∧ w.frozen? ⟨B, 1, none⟩ = false := by
  unfold World.cell? World.frozen?
  rw [h]
  exact ⟨rfl, rfl, rfl, rfl⟩
theorem unmarshal (s1 s2 : ByteArray) (B1 B2 Bt base : Nat) (w : World) (h1 : w.heap[B1]? = some (.cells #[.string s1] 9 (0, 0))) (h2 : w.heap[B2]? = some (.cells #[.string s2] 9 (0, 0)))
    (ht : w.heap[Bt]? = some (.cells #[.int .i64 0, .int .i64 0] 30 (0, 0))) (hbt : base ≤ Bt) (hbs : base ≤ w.heap.size) :
    Calls Tryd.prog 11 #[.pointer (some ⟨Bt, 0, none⟩), .func (.func 12) #[] #[.pointer (some ⟨B1, 0, none⟩), .pointer (some ⟨B2, 0, none⟩)]] w fun e w' =>
      (match timesV s1.data.toList s2.data.toList with
        | some (a, b) => e = .returned .nilIface ∧ w'.heap[Bt]? = some (.cells #[.int .i64 (a : Int), .int .i64 (b : Int)] 30 (0, 0))
        | none => (∃ te pe, e = .returned (.iface te pe)) ∧ w'.heap[Bt]? = some (.cells #[.int .i64 0, .int .i64 0] 30 (0, 0))) ∧ Below base w w' := by
  obtain ⟨V, hV⟩ : ∃ V, timesV s1.data.toList s2.data.toList = V := ⟨_, rfl⟩
  rw [hV]
  have HV := Aside0.mk hV
  clear hV
  have hbt2 := (Array.getElem?_eq_some_iff.1 ht).1
  have hb11 := (Array.getElem?_eq_some_iff.1 h1).1
  have hb12 := (Array.getElem?_eq_some_iff.1 h2).1
  have H1 := Aside0.mk (show (w.alloc (.cells #[.string ⟨#[]⟩, .string ⟨#[]⟩] 40)).heap[B1]? = _ from (Below.heap_alloc w _ _ hb11).trans h1)
  have H2 := Aside0.mk (show (w.alloc (.cells #[.string ⟨#[]⟩, .string ⟨#[]⟩] 40)).heap[B2]? = _ from (Below.heap_alloc w _ _ hb12).trans h2)
  have HT := Aside0.mk ht
  clear h1 h2 ht
  go_enter Tryd.func11, Tryd.ntmps11
  go_wp2_with fail
  refine (zz_fn s1 s2 ⟨#[]⟩ ⟨#[]⟩ B1 B2 w.heap.size w.heap.size _ H1.out H2.out (heap_alloc_new w _) (Nat.le_refl _)).mono ?_
  rintro e w1 ⟨rfl, hy, hb1, hz1⟩
  have hb1' : Below w.heap.size w w1 := ((Below.refl _ w).alloc (Nat.le_refl _) _).trans hb1
  obtain ⟨c0, c1, _, _⟩ := cells_two hy
  have hsz : w.heap.size < w1.heap.size := (Array.getElem?_eq_some_iff.1 hy).1
  have HB := Aside0.mk hb1'
  have HT1 := Aside0.mk ((hb1'.block Bt hbt2).trans HT.out)
  clear hy hb1 hb1' hz1 H1 H2 HT
  have fin : ∀ w2, Below w1.heap.size w1 w2 → Below base w w2 := fun w2 hb => ((HB.out.mono hbs).trans (hb.mono (by omega)))
  have keep : ∀ w2, Below w1.heap.size w1 w2 → w2.heap[Bt]? = some (.cells #[.int .i64 0, .int .i64 0] 30 (0, 0)) := fun w2 hb => (hb.block Bt (by omega)).trans HT1.out
  have FIN := Aside0.mk fin
  have KEEP := Aside0.mk keep
  clear fin keep
  by_cases e2 : s2.data.toList = []
  · have hv : timesV s1.data.toList s2.data.toList = none := by unfold timesV; rw [if_pos (Or.inr e2)]
    have hv2 : V = none := HV.out.symm.trans hv
    clear HV
    subst hv2
    have b2 : (s2.toList == []) = true := by rw [Lib.toList_data, e2]; rfl
    clear e2 hv
    go_wp2_with fail
    refine (errNew _ _).mono ?_
    rintro e w2 ⟨⟨te, pe, rfl⟩, hb⟩
    have HF := Aside0.mk (FIN.out w2 hb)
    have HK := Aside0.mk (KEEP.out w2 hb)
    clear hb
    go_wp2
    go_ret
    exact ⟨⟨⟨te, pe, rfl⟩, HK.out⟩, HF.out⟩
  have b2 : (s2.toList == []) = false := by rw [Lib.toList_data]; simpa using e2
  by_cases e1 : s1.data.toList = []
  · have hv : timesV s1.data.toList s2.data.toList = none := by unfold timesV; rw [if_pos (Or.inl e1)]
    have hv2 : V = none := HV.out.symm.trans hv
    clear HV
    subst hv2
    have b1 : (s1.toList == []) = true := by rw [Lib.toList_data, e1]; rfl
    clear e1 hv e2
    go_wp2_with fail
    refine (errNew _ _).mono ?_
    rintro e w2 ⟨⟨te, pe, rfl⟩, hb⟩
    have HF := Aside0.mk (FIN.out w2 hb)
    have HK := Aside0.mk (KEEP.out w2 hb)
    clear hb
    go_wp2
    go_ret
    exact ⟨⟨⟨te, pe, rfl⟩, HK.out⟩, HF.out⟩
  have b1 : (s1.toList == []) = false := by rw [Lib.toList_data]; simpa using e1
  have hv : timesV s1.data.toList s2.data.toList = match parseT s1.data.toList, parseT s2.data.toList with
    | some a, some b => if b ≤ a then none else some (a, b)
    | _, _ => none := by unfold timesV; rw [if_neg (fun h => h.elim e1 e2)]
  have HW := Aside0.mk (HV.out.symm.trans hv)
  clear hv e1 e2 HV
  go_wp2_with fail
  refine (parse_time s1 _).mono ?_
  rintro e w2 ⟨hp, hb⟩
  unfold timePost at hp
  have HB2 := Aside0.mk hb
  have c1' := (hb.cell (World.block_lt_of_cell? w1 _ c1)).trans c1
  clear hb c0 c1
  cases hp1 : parseT s1.data.toList with
  | none =>
    rw [hp1] at hp
    have hw := HW.out
    rw [hp1] at hw
    clear HW
    obtain ⟨te, pe, rfl⟩ := hp
    subst hw
    have HF := Aside0.mk (FIN.out w2 HB2.out)
    have HK := Aside0.mk (KEEP.out w2 HB2.out)
    clear hp1 c1'
    go_wp2
    go_ret
    exact ⟨⟨⟨te, pe, rfl⟩, HK.out⟩, HF.out⟩
  | some m1 =>
  rw [hp1] at hp
  have hw := HW.out
  rw [hp1] at hw
  replace HW := Aside0.mk hw
  subst hp
  clear hp1 hw
  go_wp2_with fail
  refine (parse_time s2 _).mono ?_
  rintro e w3 ⟨hp, hb⟩
  unfold timePost at hp
  have HB3 := Aside0.mk (below_step HB2.out hb)
  clear hb c1'
  cases hp2 : parseT s2.data.toList with
  | none =>
    rw [hp2] at hp
    have hw := HW.out
    rw [hp2] at hw
    clear HW
    obtain ⟨te, pe, rfl⟩ := hp
    subst hw
    have HF := Aside0.mk (FIN.out w3 HB3.out)
    have HK := Aside0.mk (KEEP.out w3 HB3.out)
    clear hp2
    go_wp2
    go_ret
    exact ⟨⟨⟨te, pe, rfl⟩, HK.out⟩, HF.out⟩
  | some m2 =>
  rw [hp2] at hp
  have hw := HW.out
  rw [hp2] at hw
  clear HW
  subst hp
  clear hp2
  by_cases hle : m2 ≤ m1
  · simp only [if_pos hle] at hw
    subst hw
    have hge : decide ((m1 : Int) ≥ (m2 : Int)) = true := decide_eq_true (by omega)
    go_wp2_with fail
    refine (errNew _ _).mono ?_
    rintro e w4 ⟨⟨te, pe, rfl⟩, hb⟩
    have HB4 := Aside0.mk (below_step HB3.out hb)
    have HF := Aside0.mk (FIN.out w4 HB4.out)
    have HK := Aside0.mk (KEEP.out w4 HB4.out)
    clear hb
    go_wp2
    go_ret
    exact ⟨⟨⟨te, pe, rfl⟩, HK.out⟩, HF.out⟩
  · simp only [if_neg hle] at hw
    subst hw
    have hge : decide ((m1 : Int) ≥ (m2 : Int)) = false := decide_eq_false (by omega)
    have hk := KEEP.out w3 HB3.out
    obtain ⟨c0, c1, f0, f1⟩ := cells_two hk
    have HK := Aside0.mk hk
    have HF := Aside0.mk (FIN.out w3 HB3.out)
    clear hk
    go_wp2
    go_ret
    have g1 := Lib.heap_setCell_same (i := 0) HK.out (.int .i64 (m1 : Int))
    have g2 := Lib.heap_setCell_same (i := 1) g1 (.int .i64 (m2 : Int))
    exact ⟨⟨rfl, g2⟩, (HF.out.setCell hbt _).setCell hbt _⟩
theorem alloc_new' (w : World) (o : Obj) (n : Nat) (h : n = w.heap.size) : (w.alloc o).heap[n]? = some o := by subst h; exact heap_alloc_new w o
theorem zz_times (s1 s2 : ByteArray) (w : World) :
    Calls Tryd.prog 8 #[.string s1, .string s2] w fun e w' =>
      (match timesV s1.data.toList s2.data.toList with
        | some (a, b) => e = .returned (.tuple #[.agg #[.int .i64 (a : Int), .int .i64 (b : Int)], .nilIface])
        | none => (∃ te pe, e = .returned (.tuple #[.agg #[.int .i64 0, .int .i64 0], .iface te pe]))) ∧ Below w.heap.size w w' := by
  obtain ⟨V, hV⟩ : ∃ V, timesV s1.data.toList s2.data.toList = V := ⟨_, rfl⟩
  rw [hV]
  have HV := Aside0.mk hV
  clear hV
  go_enter Tryd.func8, Tryd.ntmps8
  go_wp2_with fail
  obtain ⟨W, hW⟩ : ∃ W, W = (((w.alloc (.cells #[.string s1] 9)).alloc (.cells #[.string s2] 9)).alloc (.cells #[.int .i64 0, .int .i64 0] 30)).alloc (.cells #[.int .i64 0, .int .i64 0] 30) := ⟨_, rfl⟩
  have k0 : W.heap[w.heap.size]? = some (.cells #[.string s1] 9 (0, 0)) := by rw [hW, Below.heap_alloc _ _ _ (by first | (simp; done) | (simp; omega)), Below.heap_alloc _ _ _ (by first | (simp; done) | (simp; omega)), Below.heap_alloc _ _ _ (by simp)]; exact alloc_new' _ _ _ rfl
  have k1 : W.heap[w.heap.size + 1]? = some (.cells #[.string s2] 9 (0, 0)) := by rw [hW, Below.heap_alloc _ _ _ (by first | (simp; done) | (simp; omega)), Below.heap_alloc _ _ _ (by simp)]; exact alloc_new' _ _ _ (by simp)
  have k2 : W.heap[w.heap.size + 1 + 1]? = some (.cells #[.int .i64 0, .int .i64 0] 30 (0, 0)) := by rw [hW, Below.heap_alloc _ _ _ (by simp)]; exact alloc_new' _ _ _ (by simp)
  have k3 : W.heap[w.heap.size + 1 + 1 + 1]? = some (.cells #[.int .i64 0, .int .i64 0] 30 (0, 0)) := by rw [hW]; exact alloc_new' _ _ _ (by simp)
  have kb : Below w.heap.size w W := by rw [hW]; exact ((((Below.refl _ w).alloc (Nat.le_refl _) _).alloc (by simp) _).alloc (by simp; omega) _).alloc (by simp; omega) _
  have kz : W.heap.size = w.heap.size + 4 := by rw [hW]; simp
  rw [← hW]
  clear hW
  refine (unmarshal s1 s2 w.heap.size (w.heap.size + 1) (w.heap.size + 1 + 1 + 1) (w.heap.size + 1 + 1 + 1) W k0 k1 k3 (Nat.le_refl _) (by omega)).mono ?_
  rintro e w2 ⟨hp, hb⟩
  rw [HV.out] at hp
  clear HV
  have k2' := (hb.block (w.heap.size + 1 + 1) (by omega)).trans k2
  have HB := Aside0.mk (kb.trans (hb.mono (by omega)))
  obtain ⟨a0, a1, b0, b1⟩ := cells_two k2'
  have K2 := Aside0.mk k2'
  clear k0 k1 k2 k3 kb hb k2'
  cases V with
  | none =>
    obtain ⟨⟨te, pe, rfl⟩, ht⟩ := hp
    obtain ⟨c0, c1, _, _⟩ := cells_two ht
    clear ht
    go_wp2
    have g1 := Lib.heap_setCell_same (i := 0) K2.out (.int .i64 0)
    have g2 := Lib.heap_setCell_same (i := 1) g1 (.int .i64 0)
    refine bodyPost_ret (results_ct rfl _ _ (w.heap.size + 1 + 1) 30 _ (0, 0) _ rfl g2 Tryd.underlying30 rfl (by kernel_rfl)) rfl ⟨⟨te, pe, rfl⟩, ((HB.out.setCell (by show w.heap.size ≤ w.heap.size + 1 + 1; omega) _).setCell (by show w.heap.size ≤ w.heap.size + 1 + 1; omega) _)⟩
  | some p =>
    obtain ⟨x, y⟩ := p
    obtain ⟨rfl, ht⟩ := hp
    obtain ⟨c0, c1, _, _⟩ := cells_two ht
    clear ht
    go_wp2
    have g1 := Lib.heap_setCell_same (i := 0) K2.out (.int .i64 (x : Int))
    have g2 := Lib.heap_setCell_same (i := 1) g1 (.int .i64 (y : Int))
    refine bodyPost_ret (results_ct rfl _ _ (w.heap.size + 1 + 1) 30 _ (0, 0) _ rfl g2 Tryd.underlying30 rfl (by kernel_rfl)) rfl ⟨rfl, ((HB.out.setCell (by show w.heap.size ≤ w.heap.size + 1 + 1; omega) _).setCell (by show w.heap.size ≤ w.heap.size + 1 + 1; omega) _)⟩
def impl_Times.f (a0 a1 : ByteArray) : Option (Int × Int × Bool) := match timesV a0.data.toList a1.data.toList with
  | some (a, b) => some ((a : Int), (b : Int), true)
  | none => some (0, 0, false)
theorem impl_Times.calls (a0 a1 : ByteArray) (r1 r2 : Int) (r3 : Bool) (w : World) (h : impl_Times.f a0 a1 = some (r1, r2, r3)) :
    Calls Tryd.prog 5 #[.string a0, .string a1] w fun e w' => e = .returned (.tuple #[.int .i64 r1, .int .i64 r2, .bool r3]) ∧ Below w.heap.size w w' := by
  have hz := zz_times a0 a1 w
  unfold impl_Times.f at h
  cases hv : timesV a0.data.toList a1.data.toList with
  | none =>
    rw [hv] at h hz
    injection h with h
    injection h with e1 h
    injection h with e2 e3
    subst e1 e2 e3
    have H := Aside0.mk hz
    clear hz hv
    go_enter Tryd.func5, Tryd.ntmps5
    go_wp2_with fail
    refine H.out.mono ?_
    rintro e w1 ⟨⟨te, pe, rfl⟩, hb⟩
    have HB := Aside0.mk hb
    clear hb
    go_wp2
    go_ret3
    exact ⟨rfl, below_step HB.out (by first | exact (Below.refl _ _).alloc (Nat.le_refl _) _ | exact ((Below.refl _ _).alloc (Nat.le_refl _) _).setCell (Nat.le_refl _) _ | exact (((Below.refl _ _).alloc (Nat.le_refl _) _).setCell (Nat.le_refl _) _).setCell (Nat.le_refl _) _)⟩
  | some p =>
    obtain ⟨x, y⟩ := p
    rw [hv] at h hz
    injection h with h
    injection h with e1 h
    injection h with e2 e3
    subst e1 e2 e3
    have H := Aside0.mk hz
    clear hz hv
    go_enter Tryd.func5, Tryd.ntmps5
    go_wp2_with fail
    refine H.out.mono ?_
    rintro e w1 ⟨rfl, hb⟩
    have HB := Aside0.mk hb
    clear hb
    go_wp2
    go_quiet (fail)
    go_wp2
    go_ret3
    refine ⟨rfl, below_step HB.out ?_⟩
    repeat (first | exact Below.refl _ _ | exact (Below.refl _ _).alloc (Nat.le_refl _) _ | refine pw_below_drewN ?_ _ | refine below_drew1 ?_ | refine Below.setCell ?_ (Nat.le_refl _) _)


end Go.Proofs.YtfbcpnjeonijaaaDoor.Q
