/- The law FnTimes over plain texts. -/
import Derived.Test.YtfbcpnjeonijaaaDoorQx4
import Derived.Test.YtfbcpnjeonijaaaDoorLib
set_option linter.unusedVariables false
set_option linter.unusedSimpArgs false
namespace Go.Proofs.YtfbcpnjeonijaaaDoor.Pure
open Go.RowKit Go.Lib Go.Proofs.YtfbcpnjeonijaaaDoor.Q Go.Proofs.YtfbcpnjeonijaaaDoorW.PrintWords Go.Proofs.YtfbcpnjeonijaaaDoorW.PrintLast
set_option linter.unusedSimpArgs false
theorem l0_step (s : ByteArray) (i : Nat) (c : UInt8) (k : Nat) (hi : i < 5) (h2 : i ≠ 2) (h5 : s.size = 5) (hb : bt s (i : Int) = (c.toNat : Int)) :
    spec_minute.l0 (k + 1) s (i : Int) = if dgT c 48 57 = true then spec_minute.l0 k s ((i + 1 : Nat) : Int) else some (0, 0) := by
  simp only [spec_minute.l0]
  rw [if_pos (by omega), if_neg (by omega), if_pos (by omega), if_pos (by omega), hb, w64t _ (by omega) (by omega)]
  unfold dgT
  by_cases h1 : (c.toNat : Int) < 48
  · rw [if_pos h1, decide_eq_false (by omega), if_neg (by simp)]
  · rw [if_neg h1]
    by_cases h3 : (c.toNat : Int) > 57
    · rw [if_pos h3, decide_eq_false (show ¬ c.toNat ≤ 57 by omega), if_neg (by simp)]
    · rw [if_neg h3, decide_eq_true (show 48 ≤ c.toNat by omega), decide_eq_true (show c.toNat ≤ 57 by omega), if_pos (show (true && true) = true from rfl)]
      rfl
theorem l0_two (s : ByteArray) (k : Nat) : spec_minute.l0 (k + 1) s 2 = spec_minute.l0 k s 3 := by
  have hw : wrap64 ((2 : Int) + 1) = 3 := by rw [w64t _ (by omega) (by omega)]; rfl
  simp only [spec_minute.l0]
  rw [hw]
  rfl
theorem dg_le {c : UInt8} {lo hi : Nat} (h : dgT c lo hi = true) : lo ≤ c.toNat ∧ c.toNat ≤ hi := by
  unfold dgT at h
  simpa using h
/-- What spec's minute says of a text: its number and its answer. -/
def Says (s : ByteArray) (n p : Int) : Prop := (p = 1 ∧ ∃ m : Nat, n = (m : Int) ∧ parseT s.data.toList = some m) ∨ (p = 0 ∧ parseT s.data.toList = none) ∨ p = 2
theorem parse_no {l : List UInt8} (h : validT l = false) : parseT l = none := by unfold parseT; rw [h, if_neg (by simp)]
theorem valid_not {a b c d e : UInt8} (h : ¬ (dgT a 48 57 = true ∧ dgT b 48 57 = true ∧ dgT d 48 57 = true ∧ dgT e 48 57 = true)) : validT [a, b, c, d, e] = false := by
  cases hv : validT [a, b, c, d, e] with
  | false => rfl
  | true =>
    obtain ⟨_, h1, h2, h3, h4, _⟩ := valid_facts hv
    refine absurd ⟨?_, ?_, ?_, ?_⟩ h <;> unfold dgT <;> simp <;> omega
theorem letters_ev (s : ByteArray) (hs : s.size ≤ 2147483647) (n : Nat) : ∀ i, s.size - i ≤ n → ∃ p : Int, (p = 0 ∨ p = 2) ∧ Ev (fun k => spec_minute.l1 k s (i : Int)) (0, p) := by
  induction n with
  | zero =>
    intro i h
    refine ⟨0, Or.inl rfl, ev_succ fun k => ?_⟩
    simp only [spec_minute.l1]
    rw [if_neg (by omega)]
  | succ n ih =>
    intro i h
    by_cases hi : i < s.size
    · obtain ⟨p, hp, hE⟩ := ih (i + 1) (by omega)
      have hw : wrap64 ((i : Int) + 1) = ((i + 1 : Nat) : Int) := by rw [w64t _ (by omega) (by omega)]; omega
      have h0 : ∀ k, spec_minute.l1 (k + 1) s (i : Int) = (if (bt s (i : Int)) < 97 then (if (bt s (i : Int)) < 65 then (some (0, 2)) else (if (bt s (i : Int)) > 90 then (some (0, 2)) else (spec_minute.l1 k s ((i + 1 : Nat) : Int)))) else (if (bt s (i : Int)) > 122 then (if (bt s (i : Int)) < 65 then (some (0, 2)) else (if (bt s (i : Int)) > 90 then (some (0, 2)) else (spec_minute.l1 k s ((i + 1 : Nat) : Int)))) else (spec_minute.l1 k s ((i + 1 : Nat) : Int)))) := by
        intro k
        simp only [spec_minute.l1]
        rw [if_pos (by omega), if_pos (by omega), hw]
      generalize bt s (i : Int) = c at h0
      by_cases h1 : c < 97
      · by_cases h2 : c < 65
        · exact ⟨2, Or.inr rfl, ev_succ fun k => by rw [h0, if_pos h1, if_pos h2]⟩
        · by_cases h3 : c > 90
          · exact ⟨2, Or.inr rfl, ev_succ fun k => by rw [h0, if_pos h1, if_neg h2, if_pos h3]⟩
          · exact ⟨p, hp, Ev.step (fun k => by rw [h0, if_pos h1, if_neg h2, if_neg h3]) hE⟩
      · by_cases h2 : c > 122
        · exact ⟨2, Or.inr rfl, ev_succ fun k => by rw [h0, if_neg h1, if_pos h2, if_neg (by omega), if_pos (by omega)]⟩
        · exact ⟨p, hp, Ev.step (fun k => by rw [h0, if_neg h1, if_neg h2]) hE⟩
    · refine ⟨0, Or.inl rfl, ev_succ fun k => ?_⟩
      simp only [spec_minute.l1]
      rw [if_neg (by omega)]
theorem plain_ev (s : ByteArray) (hs : s.size ≤ 2147483647) (hv : validT s.data.toList = false) (hf : ∀ k, spec_minute.f (k + 1) s = spec_minute.l1 k s 0) : ∃ n p, Ev (fun k => spec_minute.f k s) (n, p) ∧ Says s n p := by
  obtain ⟨p, hp, hE⟩ := letters_ev s hs s.size 0 (by omega)
  refine ⟨0, p, Ev.step hf hE, ?_⟩
  rcases hp with rfl | rfl
  · exact Or.inr (Or.inl ⟨rfl, parse_no hv⟩)
  · exact Or.inr (Or.inr rfl)
theorem minute_ev (s : ByteArray) (hs : s.size ≤ 2147483647) : ∃ n p, Ev (fun k => spec_minute.f k s) (n, p) ∧ Says s n p := by
  have hz : s.data.toList.length = s.size := by rw [Array.length_toList]; rfl
  by_cases h5 : s.size = 5
  · obtain ⟨a, b, c, d, e, hl⟩ := five (hz.trans h5)
    have b0 := bt_list s 0
    have b1 := bt_list s 1
    have b2 := bt_list s 2
    have b3 := bt_list s 3
    have b4 := bt_list s 4
    rw [hl] at b0 b1 b2 b3 b4
    simp only [List.getD, List.getElem?_cons_zero, List.getElem?_cons_succ, Option.getD_some] at b0 b1 b2 b3 b4
    have hc : ((c.toNat : Int) = 58) ↔ c = 58 := by
      constructor
      · intro h
        apply UInt8.toNat_inj.1
        show c.toNat = 58
        omega
      · rintro rfl; rfl
    by_cases h58 : c = 58
    · have hf : ∀ k, spec_minute.f (k + 1) s = spec_minute.l0 k s ((0 : Nat) : Int) := by
        intro k
        unfold spec_minute.f
        rw [if_pos (by omega), if_pos (by omega), show bt s 2 = (c.toNat : Int) from b2, hc.2 h58]
        simp only [spec_minute.j0]
        rfl
      have no : ∀ (h : ¬ (dgT a 48 57 = true ∧ dgT b 48 57 = true ∧ dgT d 48 57 = true ∧ dgT e 48 57 = true)), Says s 0 0 := fun h => Or.inr (Or.inl ⟨rfl, parse_no (by rw [hl]; exact valid_not h)⟩)
      cases ha : dgT a 48 57 with
      | false => exact ⟨0, 0, ⟨2, fun k hk => by obtain ⟨k, rfl⟩ : ∃ m, k = m + 2 := ⟨k - 2, by omega⟩; show spec_minute.f (k + 2) s = _; rw [hf, l0_step s 0 a k (by omega) (by omega) h5 b0, ha, if_neg (by simp)]⟩, no (by rw [ha]; simp)⟩
      | true =>
      cases hb : dgT b 48 57 with
      | false => exact ⟨0, 0, ⟨3, fun k hk => by obtain ⟨k, rfl⟩ : ∃ m, k = m + 3 := ⟨k - 3, by omega⟩; show spec_minute.f (k + 3) s = _; rw [hf, l0_step s 0 a _ (by omega) (by omega) h5 b0, ha, if_pos rfl, l0_step s 1 b k (by omega) (by omega) h5 b1, hb, if_neg (by simp)]⟩, no (by rw [hb]; simp)⟩
      | true =>
      cases hd : dgT d 48 57 with
      | false => exact ⟨0, 0, ⟨5, fun k hk => by obtain ⟨k, rfl⟩ : ∃ m, k = m + 5 := ⟨k - 5, by omega⟩; show spec_minute.f (k + 5) s = _; rw [hf, l0_step s 0 a _ (by omega) (by omega) h5 b0, ha, if_pos rfl, l0_step s 1 b _ (by omega) (by omega) h5 b1, hb, if_pos rfl]; show spec_minute.l0 (k + 1 + 1) s 2 = _; rw [l0_two]; show spec_minute.l0 (k + 1) s ((3 : Nat) : Int) = _; rw [l0_step s 3 d k (by omega) (by omega) h5 b3, hd, if_neg (by simp)]⟩, no (by rw [hd]; simp)⟩
      | true =>
      cases he : dgT e 48 57 with
      | false => exact ⟨0, 0, ⟨6, fun k hk => by obtain ⟨k, rfl⟩ : ∃ m, k = m + 6 := ⟨k - 6, by omega⟩; show spec_minute.f (k + 6) s = _; rw [hf, l0_step s 0 a _ (by omega) (by omega) h5 b0, ha, if_pos rfl, l0_step s 1 b _ (by omega) (by omega) h5 b1, hb, if_pos rfl]; show spec_minute.l0 (k + 2 + 1) s 2 = _; rw [l0_two]; show spec_minute.l0 (k + 1 + 1) s ((3 : Nat) : Int) = _; rw [l0_step s 3 d _ (by omega) (by omega) h5 b3, hd, if_pos rfl, l0_step s 4 e k (by omega) (by omega) h5 b4, he, if_neg (by simp)]⟩, no (by rw [he]; simp)⟩
      | true =>
      have A := dg_le ha
      have B := dg_le hb
      have D := dg_le hd
      have E := dg_le he
      obtain ⟨H, hH⟩ : ∃ H : Nat, (a.toNat - 48) * 10 + (b.toNat - 48) = H := ⟨_, rfl⟩
      obtain ⟨M, hM⟩ : ∃ M : Nat, (d.toNat - 48) * 10 + (e.toNat - 48) = M := ⟨_, rfl⟩
      have hend : ∀ k, spec_minute.f (k + 7) s = if (M : Int) > 59 then some (0, 0) else if 60 * (H : Int) + M > 1440 then some (0, 0) else some (60 * (H : Int) + M, 1) := by
        intro k
        rw [hf, l0_step s 0 a _ (by omega) (by omega) h5 b0, ha, if_pos rfl, l0_step s 1 b _ (by omega) (by omega) h5 b1, hb, if_pos rfl]
        show spec_minute.l0 (k + 3 + 1) s 2 = _
        rw [l0_two]
        show spec_minute.l0 (k + 2 + 1) s ((3 : Nat) : Int) = _
        rw [l0_step s 3 d _ (by omega) (by omega) h5 b3, hd, if_pos rfl, l0_step s 4 e _ (by omega) (by omega) h5 b4, he, if_pos rfl]
        simp only [spec_minute.l0]
        rw [if_neg (by omega), if_pos (by omega), if_pos (by omega), if_pos (by omega), if_pos (by omega)]
        rw [show bt s 0 = (a.toNat : Int) from b0, show bt s 1 = (b.toNat : Int) from b1, show bt s 3 = (d.toNat : Int) from b3, show bt s 4 = (e.toNat : Int) from b4]
        rw [show ((d.toNat : Int) - 48) % 256 * 10 + ((e.toNat : Int) - 48) % 256 = (M : Int) by omega, show ((a.toNat : Int) - 48) % 256 * 10 + ((b.toNat : Int) - 48) % 256 = (H : Int) by omega]
      have hev : ∀ r, (∀ k, spec_minute.f (k + 7) s = some r) → Ev (fun k => spec_minute.f k s) r := fun r h => ⟨7, fun k hk => by obtain ⟨k, rfl⟩ : ∃ m, k = m + 7 := ⟨k - 7, by omega⟩; exact h k⟩
      have htv : timeV [a, b, c, d, e] = H * 60 + M := by rw [← hH, ← hM]; rfl
      have hvb : validT [a, b, c, d, e] = true → M ≤ 59 ∧ 60 * H + M ≤ 1440 := by
        intro hv
        rw [validT_mk] at hv
        rcases Bool.or_eq_true_iff.1 hv with h | h
        · have := of_decide_eq_true h
          injection this with e1 this
          injection this with e2 this
          injection this with e3 this
          injection this with e4 this
          injection this with e5 this
          subst e1 e2 e4 e5
          have hx : (48 : UInt8).toNat = 48 ∧ (50 : UInt8).toNat = 50 ∧ (52 : UInt8).toNat = 52 := by decide
          omega
        · simp only [Bool.and_eq_true, Bool.or_eq_true, decide_eq_true_eq] at h
          obtain ⟨⟨⟨_, h2⟩, h3⟩, h4⟩ := h
          have h2 := dg_le h2
          rcases h4 with ⟨h4, _⟩ | ⟨h4, h5⟩
          · have := dg_le h4
            omega
          · have := dg_le h5
            subst h4
            have : (50 : UInt8).toNat = 50 := rfl
            omega
      by_cases m1 : (M : Int) > 59
      · exact ⟨0, 0, hev _ (fun k => by rw [hend, if_pos m1]), Or.inr (Or.inl ⟨rfl, parse_no (by
          rw [hl]
          cases hv : validT [a, b, c, d, e] with
          | false => rfl
          | true => have := hvb hv; omega)⟩)⟩
      · by_cases m2 : 60 * (H : Int) + M > 1440
        · exact ⟨0, 0, hev _ (fun k => by rw [hend, if_neg m1, if_pos m2]), Or.inr (Or.inl ⟨rfl, parse_no (by
            rw [hl]
            cases hv : validT [a, b, c, d, e] with
            | false => rfl
            | true => have := hvb hv; omega)⟩)⟩
        · refine ⟨60 * (H : Int) + M, 1, hev _ (fun k => by rw [hend, if_neg m1, if_neg m2]), Or.inl ⟨rfl, H * 60 + M, by omega, ?_⟩⟩
          rw [hl]
          unfold parseT
          have hv : validT [a, b, c, d, e] = true := by
            rw [validT_mk]
            have hd5 : dgT d 48 53 = true := by unfold dgT; simp; omega
            rw [decide_eq_true h58, hd5, he]
            have ua : ∀ n : Nat, a.toNat = n → a = UInt8.ofNat n := fun n h => by rw [← h]; simp
            have ub : ∀ n : Nat, b.toNat = n → b = UInt8.ofNat n := fun n h => by rw [← h]; simp
            have ud : ∀ n : Nat, d.toNat = n → d = UInt8.ofNat n := fun n h => by rw [← h]; simp
            have ue : ∀ n : Nat, e.toNat = n → e = UInt8.ofNat n := fun n h => by rw [← h]; simp
            by_cases a1 : a.toNat ≤ 49
            · have : dgT a 48 49 = true := by unfold dgT; simp; omega
              rw [this, hb]
              simp
            · have ha50 := ua 50 (by omega)
              by_cases b51 : b.toNat ≤ 51
              · have : dgT b 48 51 = true := by unfold dgT; simp; omega
                rw [this, decide_eq_true (show a = 50 from ha50)]
                simp
              · have hb52 := ub 52 (by omega)
                have hd48 := ud 48 (by omega)
                have he48 := ue 48 (by omega)
                rw [ha50, hb52, h58, hd48, he48]
                simp
          rw [if_pos hv, htv]
    · refine plain_ev s hs ?_ (fun k => ?_)
      · rw [hl]
        cases hv : validT [a, b, c, d, e] with
        | false => rfl
        | true => exact absurd (valid_facts hv).1 h58
      · unfold spec_minute.f
        rw [if_pos (by omega), if_pos (by omega), show bt s 2 = (c.toNat : Int) from b2]
        simp only [spec_minute.j0]
        rw [if_neg (by simpa using fun h => h58 (hc.1 h))]
  · refine plain_ev s hs (validT_five (by omega)) (fun k => ?_)
    unfold spec_minute.f
    rw [if_neg (by omega)]
    simp only [spec_minute.j0]
    rw [if_neg (by simp)]
theorem both_val (p q : Int) (k : Nat) : spec_both.f (k + 1) p q = some (if p = 0 ∨ q = 0 then 0 else if p = 2 ∨ q = 2 then 2 else 1) := by
  unfold spec_both.f
  by_cases p0 : p = 0
  · rw [if_pos p0, if_pos (Or.inl p0)]
    simp only [spec_both.j0]
    rfl
  · rw [if_neg p0]
    simp only [spec_both.j0]
    by_cases q0 : q = 0
    · rw [if_pos (by simpa using q0), if_pos (Or.inr q0)]
    · rw [if_neg (by simpa using q0), if_neg (show ¬ (p = 0 ∨ q = 0) by omega)]
      by_cases p2 : p = 2
      · rw [if_pos p2, if_pos (Or.inl p2)]
      · rw [if_neg p2]
        by_cases q2 : q = 2
        · rw [if_pos q2, if_pos (Or.inr q2)]
        · rw [if_neg q2, if_neg (show ¬ (p = 2 ∨ q = 2) by omega)]
/-- What the law looks at: the code's answer fits spec's. -/
theorem times_ok (s t : ByteArray) (hs : s.size ≤ 2147483647) (ht : t.size ≤ 2147483647) : ∃ x y p r1 r2 r3, Ev (fun k => spec_Times.f k s t) (x, y, p) ∧ impl_Times.f s t = some (r1, r2, r3) ∧ laws_told.f r1 r2 r3 x y p = some true := by
  obtain ⟨n, p, hn, sn⟩ := minute_ev s hs
  obtain ⟨m, q, hm, sm⟩ := minute_ev t ht
  have himp : ∃ r1 r2 r3, impl_Times.f s t = some (r1, r2, r3) ∧ (timesV s.data.toList t.data.toList = none → r3 = false) ∧ ∀ a b : Nat, timesV s.data.toList t.data.toList = some (a, b) → r1 = a ∧ r2 = b ∧ r3 = true := by
    unfold impl_Times.f
    cases hv : timesV s.data.toList t.data.toList with
    | none => exact ⟨0, 0, false, rfl, fun _ => rfl, fun a b h => by cases h⟩
    | some x =>
      obtain ⟨a, b⟩ := x
      exact ⟨a, b, true, rfl, fun h => by (cases h), fun a' b' h => by injection h with h; injection h with h1 h2; subst h1 h2; exact ⟨rfl, rfl, rfl⟩⟩
  obtain ⟨r1, r2, r3, hi, hno, hyes⟩ := himp
  have hev : ∀ z, (∀ k, ((spec_both.f (k + 1) p q).bind fun t123 => if t123 = 1 then spec_Times.j0 (k + 1) n m t123 (decide (n ≥ m)) else spec_Times.j0 (k + 1) n m t123 false) = some z) → Ev (fun k => spec_Times.f k s t) z := by
    intro z hz
    refine Ev.bind hn (Ev.bind hm ?_)
    exact Ev.step (f := fun _ => some z) (fun k => hz k) (Ev.now z)
  by_cases hno0 : p = 0 ∨ q = 0
  · refine ⟨0, 0, 0, r1, r2, r3, hev _ (fun k => ?_), hi, ?_⟩
    · rw [both_val, if_pos hno0]
      simp only [Option.bind_some]
      rw [if_neg (by omega)]
      simp only [spec_Times.j0]
      rw [if_neg (by simp), if_neg (by omega)]
    · have hv : timesV s.data.toList t.data.toList = none := by
        unfold timesV
        split
        · rfl
        · rcases hno0 with h | h
          · rcases sn with ⟨h1, _⟩ | ⟨_, h1⟩ | h1
            · omega
            · rw [h1]
            · omega
          · rcases sm with ⟨h1, _⟩ | ⟨_, h1⟩ | h1
            · omega
            · rw [h1]
              cases parseT s.data.toList <;> rfl
            · omega
      rw [hno hv]
      rfl
  · by_cases hop : p = 2 ∨ q = 2
    · refine ⟨0, 0, 2, r1, r2, r3, hev _ (fun k => ?_), hi, ?_⟩
      · rw [both_val, if_neg hno0, if_pos hop]
        simp only [Option.bind_some]
        rw [if_neg (by omega)]
        simp only [spec_Times.j0]
        rw [if_neg (by simp), if_neg (by omega)]
      · rfl
    · have hp1 : p = 1 ∧ ∃ a : Nat, n = (a : Int) ∧ parseT s.data.toList = some a := by
        rcases sn with h | ⟨h, _⟩ | h
        · exact h
        · omega
        · omega
      have hq1 : q = 1 ∧ ∃ a : Nat, m = (a : Int) ∧ parseT t.data.toList = some a := by
        rcases sm with h | ⟨h, _⟩ | h
        · exact h
        · omega
        · omega
      obtain ⟨_, a, ha, hpa⟩ := hp1
      obtain ⟨_, b, hb, hpb⟩ := hq1
      by_cases hge : n ≥ m
      · refine ⟨0, 0, 2, r1, r2, r3, hev _ (fun k => ?_), hi, rfl⟩
        rw [both_val, if_neg hno0, if_neg hop]
        simp only [Option.bind_some]
        rw [if_pos trivial, decide_eq_true hge]
        simp only [spec_Times.j0]
        rw [if_pos trivial, if_neg (by omega)]
      · have hne : ∀ {l : List UInt8} {c : Nat}, parseT l = some c → l ≠ [] := by
          rintro l c h rfl
          cases h
        have hv : timesV s.data.toList t.data.toList = some (a, b) := by
          unfold timesV
          rw [if_neg (fun h => h.elim (hne hpa) (hne hpb)), hpa, hpb]
          simp only
          rw [if_neg (by omega)]
        obtain ⟨g1, g2, g3⟩ := hyes a b hv
        refine ⟨n, m, 1, r1, r2, r3, hev _ (fun k => ?_), hi, ?_⟩
        · rw [both_val, if_neg hno0, if_neg hop]
          simp only [Option.bind_some]
          rw [if_pos trivial, decide_eq_false hge]
          simp only [spec_Times.j0]
          rw [if_neg (by simp), if_pos trivial]
        · unfold laws_told.f
          rw [if_pos rfl, g3, if_pos rfl, g1, if_pos ha.symm, g2, hb]
          simp
theorem FnTimes : laws_FnTimes.Pure := by
  intro s t _ _
  have hk : ∀ {g : Nat → Option Bool}, Ev g true → ∃ k, g k = some true := fun h => h.rounds
  refine hk (g := fun k => laws_FnTimes.f k s t) ?_
  unfold laws_FnTimes.f
  by_cases h1 : (s.size : Int) > 2147483647
  · exact Ev.congr (fun k => by rw [if_pos h1]) (ev_succ fun k => by simp only [laws_FnTimes.j0]; rfl)
  by_cases h2 : (t.size : Int) > 2147483647
  · exact Ev.congr (fun k => by rw [if_neg h1, decide_eq_true h2]) (ev_succ fun k => by simp only [laws_FnTimes.j0]; rfl)
  refine Ev.congr (fun k => by rw [if_neg h1, decide_eq_false h2]) ?_
  have hl : ∀ u : ByteArray, laws_long.f u = some (decide ((u.size : Int) > 65536)) := fun u => rfl
  by_cases l1 : (s.size : Int) > 65536
  · refine Ev.step (f := fun k => laws_FnTimes.j1 k s t true) (fun k => ?_) (ev_succ fun k => by simp only [laws_FnTimes.j1]; rfl)
    simp only [laws_FnTimes.j0]
    rw [if_neg (by simp), hl, decide_eq_true l1]
    rfl
  by_cases l2 : (t.size : Int) > 65536
  · refine Ev.step (f := fun k => laws_FnTimes.j1 k s t true) (fun k => ?_) (ev_succ fun k => by simp only [laws_FnTimes.j1]; rfl)
    simp only [laws_FnTimes.j0]
    rw [if_neg (by simp), hl, hl, decide_eq_false l1, decide_eq_true l2]
    rfl
  refine Ev.step (f := fun k => laws_FnTimes.j1 k s t false) (fun k => ?_) ?_
  · simp only [laws_FnTimes.j0]
    rw [if_neg (by simp), hl, hl, decide_eq_false l1, decide_eq_false l2]
    rfl
  obtain ⟨x, y, p, r1, r2, r3, hS, hI, hT⟩ := times_ok s t (by omega) (by omega)
  have h9 : impl_Times.f ⟨#[48, 57, 58, 48, 48]⟩ ⟨#[49, 55, 58, 48, 48]⟩ = some (540, 1020, true) := by decide +kernel
  refine Ev.step (f := fun k => (spec_Times.f k s t).bind fun bt129 => (laws_told.f r1 r2 r3 bt129.1 bt129.2.1 bt129.2.2).bind fun t135 => if t135 = true then some true else some false) (fun k => ?_) ?_
  · simp only [laws_FnTimes.j1]
    rw [if_neg (by simp), hI, h9]
    rfl
  · refine Ev.bind hS ?_
    exact Ev.congr (fun k => by show ((laws_told.f r1 r2 r3 x y p).bind _) = _; rw [hT]; rfl) (Ev.now true)
end Go.Proofs.YtfbcpnjeonijaaaDoor.Pure
