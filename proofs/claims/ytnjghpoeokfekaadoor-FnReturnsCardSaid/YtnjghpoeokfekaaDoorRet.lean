/- spec.Returns in plain words: what its yes says. -/
import Derived.Test.YtnjghpoeokfekaaDoorUnesc
import Derived.Test.YtnjghpoeokfekaaDoorValid
import Derived.Test.YtnjghpoeokfekaaDoorQx6
namespace Go.Proofs.YtnjghpoeokfekaaDoor.Door
open Go.RowKit Go.Lib Go.Proofs.YtnjghpoeokfekaaDoor.Q Go.Proofs.YtnjghpoeokfekaaDoor.Pure Go.Proofs.YtnjghpoeokfekaaDoorW.PrintWords Go.Proofs.YtnjghpoeokfekaaDoorW.PrintLast
set_option linter.unusedVariables false
set_option linter.unusedSimpArgs false
theorem point_some (s : ByteArray) (n : Nat) (h1 : 1 ≤ n) (h2 : n ≤ s.size) : ∃ r, spec_point.f s (n : Int) = some r := by
  unfold spec_point.f
  by_cases e2 : (n : Int) = 2
  · rw [if_pos e2, if_pos (by omega), if_pos (by omega)]
    exact ⟨_, rfl⟩
  · rw [if_neg e2]
    by_cases e3 : (n : Int) = 3
    · rw [if_pos e3, if_pos (by omega), if_pos (by omega), if_pos (by omega)]
      exact ⟨_, rfl⟩
    · rw [if_neg e3]
      by_cases e4 : (n : Int) = 4
      · rw [if_pos e4, if_pos (by omega), if_pos (by omega), if_pos (by omega), if_pos (by omega)]
        exact ⟨_, rfl⟩
      · rw [if_neg e4, if_pos (by omega)]
        exact ⟨_, rfl⟩
theorem w64 (x : Int) (h0 : -9223372036854775808 ≤ x) (h1 : x ≤ 9223372036854775807) : wrap64 x = x := by unfold wrap64; omega
theorem small_step {s x : ByteArray} {pos L : Nat} {r : Int} {b : Bool} (hp : pos < s.size) (hs : s.size ≤ 5000) (hL : pos + L ≤ s.size) (hx : s.extract pos s.size = x) (h1 : Ev (fun k => spec_runeLen.f k x) (L : Int)) (h2 : spec_point.f x (L : Int) = some r)
    (h3 : r ≥ 1048576 ∨ Ev (fun k => spec_small.l0 k s ((pos + L : Nat) : Int)) b) : ∃ b', Ev (fun k => spec_small.l0 k s (pos : Int)) b' := by
  have hw : wrap64 ((pos : Int) + (L : Int)) = ((pos + L : Nat) : Int) := by rw [w64 _ (by omega) (by omega)]; omega
  by_cases hr : r ≥ 1048576
  · refine ⟨false, Ev.step (f := fun k => (spec_runeLen.f k x).bind fun t143 => (spec_point.f x t143).bind fun t144 => if t144 ≥ 1048576 then some false else spec_small.l0 k s (wrap64 ((pos : Int) + t143))) (fun k => ?_) (Ev.bind h1 ?_)⟩
    · simp only [spec_small.l0]
      rw [if_pos (by omega), if_pos (by omega), if_pos (by omega), Int.toNat_natCast, hx]
    · rw [h2]
      exact Ev.congr (fun k => by show (if r ≥ 1048576 then _ else _) = _; rw [if_pos hr]) (Ev.now false)
  · rcases h3 with h3 | h3
    · exact absurd h3 hr
    · refine ⟨b, Ev.step (f := fun k => (spec_runeLen.f k x).bind fun t143 => (spec_point.f x t143).bind fun t144 => if t144 ≥ 1048576 then some false else spec_small.l0 k s (wrap64 ((pos : Int) + t143))) (fun k => ?_) (Ev.bind h1 ?_)⟩
      · simp only [spec_small.l0]
        rw [if_pos (by omega), if_pos (by omega), if_pos (by omega), Int.toNat_natCast, hx]
      · rw [h2]
        exact Ev.congr (fun k => by show (if r ≥ 1048576 then _ else _) = _; rw [if_neg hr, hw]) h3
theorem small_ev (s : ByteArray) (hs : s.size ≤ 5000) (n : Nat) : ∀ pos, s.size - pos ≤ n → ∃ b, Ev (fun k => spec_small.l0 k s (pos : Int)) b := by
  induction n with
  | zero =>
    intro pos h
    refine ⟨true, ev_succ fun k => ?_⟩
    simp only [spec_small.l0]
    rw [if_neg (by omega)]
  | succ n ih =>
    intro pos h
    by_cases hp : pos < s.size
    · have hx := extract_list s pos
      have hz := extract_size s pos
      obtain ⟨x, hxe⟩ : ∃ x, s.extract pos s.size = x := ⟨_, rfl⟩
      rw [hxe] at hx hz
      have hne : x.data.toList ≠ [] := fun e => by have := congrArg List.length e; rw [size_length, hz, List.length_nil] at this; omega
      obtain ⟨p1, p2⟩ := clen_pos _ hne
      rw [size_length] at p2
      obtain ⟨r, hr⟩ := point_some x _ p1 p2
      obtain ⟨b, hb⟩ := ih (pos + clen x.data.toList) (by omega)
      have hx0 : 0 < x.size := by rw [hz]; omega
      have hcl : pos + clen x.data.toList ≤ s.size := by rw [hz] at p2; omega
      exact small_step hp hs hcl hxe (runeLen_ev x hx0) hr (Or.inr hb)
    · refine ⟨true, ev_succ fun k => ?_⟩
      simp only [spec_small.l0]
      rw [if_neg (by omega)]
def legB (c : Int) (pos : Nat) : Bool := decide (97 ≤ c ∧ c ≤ 122) || decide (65 ≤ c ∧ c ≤ 90) || decide (c = 95) || decide (c = 58) || (decide (48 ≤ c ∧ c ≤ 57) && decide (0 < pos))
theorem letter_val (c : Int) : spec_letter.f c = some (decide (97 ≤ c ∧ c ≤ 122) || decide (65 ≤ c ∧ c ≤ 90) || decide (c = 95)) := by
  unfold spec_letter.f
  by_cases h1 : c ≥ 97
  · rw [if_pos h1]
    by_cases h2 : c ≤ 122
    · rw [if_pos h2, decide_eq_true (⟨h1, h2⟩ : 97 ≤ c ∧ c ≤ 122)]
      rfl
    · rw [if_neg h2, if_pos (by omega), if_neg (by omega), decide_eq_false (show ¬ (97 ≤ c ∧ c ≤ 122) by omega), decide_eq_false (show ¬ (65 ≤ c ∧ c ≤ 90) by omega)]
      rfl
  · rw [if_neg h1, decide_eq_false (show ¬ (97 ≤ c ∧ c ≤ 122) by omega)]
    by_cases h3 : c ≥ 65
    · rw [if_pos h3]
      by_cases h4 : c ≤ 90
      · rw [if_pos h4, decide_eq_true (⟨h3, h4⟩ : 65 ≤ c ∧ c ≤ 90)]
        rfl
      · rw [if_neg h4, decide_eq_false (show ¬ (65 ≤ c ∧ c ≤ 90) by omega)]
        rfl
    · rw [if_neg h3, decide_eq_false (show ¬ (65 ≤ c ∧ c ≤ 90) by omega)]
      rfl
theorem digit_val (c : Int) : spec_digit.f c = some (decide (48 ≤ c ∧ c ≤ 57)) := by
  unfold spec_digit.f
  by_cases h : c ≥ 48
  · rw [if_pos h]
    by_cases h2 : c ≤ 57
    · rw [decide_eq_true h2, decide_eq_true (⟨h, h2⟩ : 48 ≤ c ∧ c ≤ 57)]
    · rw [decide_eq_false h2, decide_eq_false (show ¬ (48 ≤ c ∧ c ≤ 57) by omega)]
  · rw [if_neg h, decide_eq_false (show ¬ (48 ≤ c ∧ c ≤ 57) by omega)]
theorem legacy_step (s : ByteArray) (pos : Nat) (hp : pos < s.size) (hs : s.size ≤ 5000) (k : Nat) :
    spec_LegacyMetric.l0 (k + 1) s (pos : Int) = if legB (bt s (pos : Int)) pos = true then spec_LegacyMetric.l0 k s ((pos + 1 : Nat) : Int) else some false := by
  have hw : wrap64 ((pos : Int) + 1) = ((pos + 1 : Nat) : Int) := by rw [w64 _ (by omega) (by omega)]; omega
  simp only [spec_LegacyMetric.l0]
  rw [if_pos (by omega), if_pos (by omega), hw]
  generalize bt s (pos : Int) = c
  rw [letter_val, digit_val]
  simp only [Option.bind_some]
  unfold legB
  by_cases h1 : (decide (97 ≤ c ∧ c ≤ 122) || decide (65 ≤ c ∧ c ≤ 90) || decide (c = 95)) = true
  · rw [if_pos h1, h1]
    rfl
  · rw [if_neg h1]
    rw [Bool.not_eq_true] at h1
    rw [h1]
    by_cases h2 : c = 58
    · rw [if_pos h2, decide_eq_true h2]
      rfl
    · rw [if_neg h2, decide_eq_false h2]
      by_cases h3 : (pos : Int) = 0
      · rw [if_pos h3, decide_eq_false (show ¬ 0 < pos by omega), Bool.and_false]
        rfl
      · rw [if_neg h3, decide_eq_true (show 0 < pos by omega), Bool.and_true]
        rfl
theorem legacy_ev (s : ByteArray) (hs : s.size ≤ 5000) (n : Nat) : ∀ pos, s.size - pos ≤ n → ∃ b, Ev (fun k => spec_LegacyMetric.l0 k s (pos : Int)) b := by
  induction n with
  | zero =>
    intro pos h
    refine ⟨decide ((s.size : Int) > 0), ev_succ fun k => ?_⟩
    simp only [spec_LegacyMetric.l0]
    rw [if_neg (by omega)]
  | succ n ih =>
    intro pos h
    by_cases hp : pos < s.size
    · cases hb : legB (bt s (pos : Int)) pos with
      | true =>
        obtain ⟨b, hE⟩ := ih (pos + 1) (by omega)
        exact ⟨b, Ev.step (fun k => by rw [legacy_step s pos hp hs k, hb, if_pos rfl]) hE⟩
      | false => exact ⟨false, ev_succ fun k => by rw [legacy_step s pos hp hs k, hb, if_neg (by simp)]⟩
    · refine ⟨decide ((s.size : Int) > 0), ev_succ fun k => ?_⟩
      simp only [spec_LegacyMetric.l0]
      rw [if_neg (by omega)]
theorem decode_small (s : ByteArray) (pos : Nat) (h : (Utf8.decode s pos).1 < 128) : (Utf8.decode s pos).2 = 1 ∧ ((Utf8.decode s pos).1 : Int) = ((s.get! pos).toNat : Int) := by
  have hd := decode_at s pos
  rw [hd] at h ⊢
  unfold decodeN at h ⊢
  repeat' split at h
  all_goals first | (exfalso; simp only at h; omega) | skip
  all_goals first | (rw [if_pos (by assumption)]; exact ⟨rfl, rfl⟩) | skip
theorem leg_bt (r pos : Nat) (h : legR r pos = true) : legB (r : Int) pos = true ∧ r < 128 := by
  unfold legR at h
  unfold legB
  simp at h ⊢
  omega
theorem bt_get (s : ByteArray) (pos : Nat) (hp : pos < s.size) : bt s (pos : Int) = ((s.get! pos).toNat : Int) := by
  have hz : s.data.size = s.size := rfl
  have : s.get! pos = s[pos] := by
    show s.data[pos]! = s.data[pos]
    simp [hz, hp]
  rw [this]
  unfold bt
  simp [hp]
theorem legacy_yes (s : ByteArray) (hs : s.size ≤ 5000) (h0 : s.size ≠ 0) : ∀ fuel pos, s.size ≤ pos + fuel → legFrom s fuel pos = true → Ev (fun k => spec_LegacyMetric.l0 k s (pos : Int)) true
  | 0, pos, h, _ => by
    refine ev_succ fun k => ?_
    simp only [spec_LegacyMetric.l0]
    rw [if_neg (by omega), decide_eq_true (show (s.size : Int) > 0 by omega)]
  | fuel + 1, pos, h, hl => by
    by_cases hp : pos < s.size
    · rw [legFrom_step hp, Bool.and_eq_true] at hl
      obtain ⟨a1, a2⟩ := leg_bt _ _ hl.1
      obtain ⟨b1, b2⟩ := decode_small s pos a2
      have h2 := hl.2
      rw [b1] at h2
      rw [b2, ← bt_get s pos hp] at a1
      exact Ev.step (fun k => by rw [legacy_step s pos hp hs k, a1, if_pos rfl]) (legacy_yes s hs h0 fuel (pos + 1) (by omega) h2)
    · refine ev_succ fun k => ?_
      simp only [spec_LegacyMetric.l0]
      rw [if_neg (by omega), decide_eq_true (show (s.size : Int) > 0 by omega)]
theorem no_cut (s : ByteArray) (h : spec_Begins.f s ⟨#[85, 95, 95]⟩ = some false) : strings_CutPrefix.f s ⟨#[85, 95, 95]⟩ = some (s, false) := by
  have h3 : (⟨#[85, 95, 95]⟩ : ByteArray).size = 3 := rfl
  unfold spec_Begins.f at h
  unfold strings_CutPrefix.f stringslite_CutPrefix.f stringslite_HasPrefix.f
  rw [h3] at h ⊢
  by_cases hc : ((3 : Nat) : Int) ≤ (s.size : Int)
  · rw [if_pos hc, if_pos (by omega)] at h
    injection h with h
    rw [if_pos hc, if_pos (by omega), if_pos hc, h]
    rfl
  · rw [if_neg (by omega)]
    rfl
theorem begins_some (s : ByteArray) : ∃ b, spec_Begins.f s ⟨#[85, 95, 95]⟩ = some b := by
  unfold spec_Begins.f
  split
  · split
    · exact ⟨_, rfl⟩
    · rename_i h
      exact absurd (show (0 : Int) ≤ (((⟨#[85, 95, 95]⟩ : ByteArray).size : Nat) : Int) by omega) h
  · exact ⟨_, rfl⟩
theorem returns_ev (s : ByteArray) (hs : s.size ≤ 5000) (k : Int) : ∃ b, (∃ n, spec_Returns.f n s k = some b) ∧ (b = true → k = 0 ∨ (k = 3 ∧ s.size ≠ 0 ∧ validD s.data.toList = true ∧ (legFrom s s.size 0 = true → strings_CutPrefix.f s ⟨#[85, 95, 95]⟩ = some (s, false)))) := by
  by_cases k0 : k = 0
  · exact ⟨true, ⟨0, by unfold spec_Returns.f; rw [if_pos k0]⟩, fun _ => Or.inl k0⟩
  by_cases k3 : k = 3
  · by_cases he : s.toList = ([] : List UInt8)
    · exact ⟨false, ⟨0, by unfold spec_Returns.f; rw [if_neg k0, if_pos k3, if_pos he]⟩, fun h => by cases h⟩
    have h0 : s.size ≠ 0 := fun e => he (by rw [Lib.toList_data]; exact List.eq_nil_of_length_eq_zero (by rw [size_length]; exact e))
    obtain ⟨b1, hE1⟩ := small_ev s hs s.size 0 (by omega)
    obtain ⟨b2, hE2⟩ := legacy_ev s hs s.size 0 (by omega)
    obtain ⟨b3, e3⟩ := begins_some s
    have hE0 := specValid_ev s
    have hyes : legFrom s s.size 0 = true → b2 = true := fun h => ev_uniq hE2 (legacy_yes s hs h0 s.size 0 (by omega) h)
    have hf : Ev (fun n => spec_Returns.f n s k) (if validD s.data.toList = true then (if b1 = true then (if b2 = true then !b3 else true) else false) else false) := by
      refine Ev.congr (fun n => by unfold spec_Returns.f; rw [if_neg k0, if_pos k3, if_neg he]) (Ev.bind hE0 ?_)
      cases hv : validD s.data.toList with
      | false => exact Ev.now _
      | true =>
        refine Ev.bind hE1 ?_
        cases b1 with
        | false => exact Ev.now _
        | true =>
          refine Ev.bind hE2 ?_
          cases b2 with
          | false => exact Ev.now _
          | true =>
            rw [e3]
            exact Ev.now _
    refine ⟨_, hf.rounds, fun h => Or.inr ⟨k3, h0, ?_⟩⟩
    cases hv : validD s.data.toList with
    | false => rw [hv] at h; cases h
    | true =>
      refine ⟨rfl, fun hl => ?_⟩
      rw [hv, hyes hl] at h
      cases b1 with
      | false => cases h
      | true =>
        cases b3 with
        | true => cases h
        | false => exact no_cut s e3
  · exact ⟨false, ⟨0, by unfold spec_Returns.f; rw [if_neg k0, if_neg k3]⟩, fun h => by cases h⟩
end Go.Proofs.YtnjghpoeokfekaaDoor.Door
