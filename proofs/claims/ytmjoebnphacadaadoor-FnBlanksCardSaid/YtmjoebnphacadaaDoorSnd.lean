/- What a token's text is: valid, where the text is; the kinds of operators. -/
import Derived.Test.YtmjoebnphacadaaDoorTk
namespace Go.Proofs.YtmjoebnphacadaaDoor.Lex
open Go.RowKit Go.Lib Go.Proofs.YtmjoebnphacadaaDoor.Pure Go.Proofs.YtmjoebnphacadaaDoor.Q Go.Proofs.YtmjoebnphacadaaDoorW.PrintWords Go.Proofs.YtmjoebnphacadaaDoorW.PrintLast
set_option linter.unusedVariables false
set_option linter.unusedSimpArgs false
/-- Is a text UTF-8 from a place on? -/
def VD (s : ByteArray) (p : Nat) : Bool := Lib.validD (s.extract p s.size).data.toList
theorem ext_list (s : ByteArray) (p : Nat) : (s.extract p s.size).data.toList = s.data.toList.drop p := by
  rw [Lib.extract_data, List.take_of_length_le]
  rw [List.length_drop, Array.length_toList]
  exact Nat.le_refl _
theorem vd_end {s : ByteArray} {p : Nat} (h : s.size ≤ p) : VD s p = true := by
  unfold VD
  rw [ext_list, List.drop_eq_nil_of_le (by rw [Array.length_toList]; exact h)]
  rfl
theorem vd_step {s : ByteArray} {p : Nat} (hp : p < s.size) : VD s p = if rn s p = 65533 ∧ wdt s p = 1 then false else VD s (p + wdt s p) := by
  have hl : (s.extract p s.size).data.toList ≠ [] := by
    rw [ext_list]
    intro h
    have := congrArg List.length h
    rw [List.length_drop, Array.length_toList] at this
    have h2 : s.data.size = s.size := rfl
    simp only [List.length_nil] at this
    omega
  have hd : Lib.decodeL (s.extract p s.size).data.toList = Utf8.decode s p := by
    unfold Lib.decodeL
    rw [show (⟨(s.extract p s.size).data.toList.toArray⟩ : ByteArray) = s.extract p s.size from rfl, ext_decode (Nat.le_refl _) (by omega) (by have := adv_le s p hp; simpa using this)]
    rfl
  unfold VD
  rw [Lib.validD_step _ hl, hd]
  by_cases h : rn s p = 65533 ∧ wdt s p = 1
  · rw [if_pos h, if_pos h]
  · rw [if_neg h, if_neg h, ext_list, ext_list, List.drop_drop]
theorem Steps.weak {s : ByteArray} {P Q : Nat → Prop} {p c e ce : Nat} (h : Steps s P p c e ce) (hw : ∀ r, P r → Q r) : Steps s Q p c e ce := by
  induction h with
  | refl => exact .refl _ _
  | step h hP t ih => exact .step h (hw _ hP) ih
theorem vd_run {s : ByteArray} {P : Nat → Prop} {p c e ce : Nat} (h : Steps s P p c e ce) (hv : VD s p = true) : VD s e = true := by
  induction h with
  | refl => exact hv
  | @step p c e ce h hP t ih =>
    rw [vd_step h] at hv
    by_cases hx : rn s p = 65533 ∧ wdt s p = 1
    · rw [if_pos hx] at hv; exact nomatch hv
    · rw [if_neg hx] at hv; exact ih hv
theorem vd_piece {s : ByteArray} {P : Nat → Prop} {a e : Nat} (he : e ≤ s.size) {p c q ce : Nat} (h : Steps s P p c q ce) : q = e → a ≤ p → VD s p = true → VD (s.extract a e) (p - a) = true := by
  induction h with
  | refl p c =>
    intro hq ha hv
    subst hq
    exact vd_end (by rw [ext_size he]; exact Nat.le_refl _)
  | @step p c q ce h hP t ih =>
    intro hq ha hv
    subst hq
    have hle := t.le.1
    have hw := adv_pos s p
    have hd : Utf8.decode (s.extract a q) (p - a) = Utf8.decode s p := by
      have := ext_decode (s := s) (a := a) (e := q) (j := p - a) he (by omega) (by rw [show a + (p - a) = p by omega]; exact hle)
      rwa [show a + (p - a) = p by omega] at this
    rw [vd_step h] at hv
    rw [vd_step (by rw [ext_size he]; omega)]
    rw [show rn (s.extract a q) (p - a) = rn s p by rw [rn, hd], show wdt (s.extract a q) (p - a) = wdt s p by rw [wdt, hd]]
    by_cases hx : rn s p = 65533 ∧ wdt s p = 1
    · rw [if_pos hx] at hv; exact nomatch hv
    · rw [if_neg hx] at hv
      rw [if_neg hx]
      have := ih rfl (by omega) hv
      rwa [show p + wdt s p - a = p - a + wdt s p by omega] at this
theorem valid_vd (s : ByteArray) : VD s 0 = Lib.validD s.data.toList := by
  unfold VD
  rw [ext_list]
  rfl
/-- No sign of regular expressions. -/
theorem no_tilde {s : ByteArray} (h : hasC s 126 = false) {p : Nat} (hp : p < s.size) : rn s p ≠ 126 := by
  intro h2
  have hb : (s.get! p).toNat = 126 := by
    have := (decode_small s p (by show rn s p < 128; omega)).2
    rw [← this]
    exact h2
  have hg : s.get! p = s[p]'hp := by simp [ByteArray.get!, hp]; rfl
  unfold hasC at h
  rw [List.any_eq_false] at h
  have hm : (s[p]'hp) ∈ s.data.toList := by
    rw [Array.mem_toList_iff]
    exact Array.getElem_mem hp
  have := h _ hm
  rw [hg] at hb
  simp [hb] at this
theorem zz_one {b : UInt8} (hb : b.toNat < 128) {r : Int} (h : zzIdx ⟨#[b]⟩ r ≥ 0) : r = b.toNat := by
  unfold zzIdx at h
  split at h
  · omega
  · rw [show (⟨#[b]⟩ : ByteArray).size = 1 from rfl, idxR_step (by show 0 < 1; omega)] at h
    split at h
    · rename_i h2
      rw [← h2, Go.decode_ascii ⟨#[b]⟩ 0 (by show 0 < 1; omega) hb]
      rfl
    · simp [idxR] at h
theorem acc_tilde {s : ByteArray} (h : hasC s 126 = false) (p : Nat) : accB s tB p = false := by
  unfold accB
  by_cases hp : p < s.size
  · rw [decide_eq_true hp, Bool.true_and]
    refine decide_eq_false fun hz => ?_
    have := zz_one (b := 126) (by decide) hz
    exact no_tilde h hp (by have h2 : ((126 : UInt8).toNat : Int) = 126 := by decide
                            omega)
  · rw [decide_eq_false hp, Bool.false_and]
theorem scanE_kind {s : ByteArray} (h : hasC s 126 = false) : ∀ (f p c k a e ca ce : Nat), scanE s f p c = .tok k a e ca ce → k ≠ 6 ∧ k ≠ 7 := by
  intro f
  induction f with
  | zero => intro p c k a e ca ce h; exact nomatch h
  | succ f ih =>
    intro p c k a e ca ce hs
    unfold scanE at hs
    split at hs
    · split at hs
      · injection hs with e1; omega
      · split at hs
        · injection hs with e1; omega
        · split at hs
          · injection hs with e1; omega
          · split at hs
            · unfold opR at hs
              simp only [acc_tilde h] at hs
              split at hs
              · split at hs
                · injection hs with e1; omega
                · rw [if_neg (by simp)] at hs; exact nomatch hs
              · split at hs
                · rw [if_neg (by simp)] at hs
                  injection hs with e1; omega
                · exact nomatch hs
            · split at hs
              · unfold quoR at hs
                split at hs
                · injection hs with e1; omega
                · exact nomatch hs
              · split at hs
                · unfold unqR at hs
                  injection hs with e1; omega
                · split at hs
                  · exact ih _ _ _ _ _ _ _ hs
                  · exact nomatch hs
    · exact nomatch hs
/-- What holds of each token of a stream. -/
theorem strm_all {s : ByteArray} {Q : Tk → Prop} (hQ : ∀ p c k a e ca ce, p ≤ s.size → c ≤ p → Steps s AnyP 0 0 p c → sc s p c = .tok k a e ca ce → Q (k, s.extract a e)) :
    ∀ (f p c : Nat), p ≤ s.size → c ≤ p → Steps s AnyP 0 0 p c → ∀ t ∈ (strm s f p c).1, Q t := by
  intro f
  induction f with
  | zero => intro p c _ _ _ t ht; exact absurd ht (by simp [strm])
  | succ f ih =>
    intro p c hp hc hst t ht
    cases hs : sc s p c with
    | bad => rw [strm_bad hs] at ht; exact absurd ht (by simp)
    | eof u v => rw [strm_eof hs] at ht; exact absurd ht (by simp)
    | tok k a e ca ce =>
      rw [strm_tok hs] at ht
      have hl := sc_le hp hc hs
      have h2 := scanE_steps _ _ _ _ _ _ _ _ hs
      rcases List.mem_cons.1 ht with rfl | ht
      · exact hQ p c k a e ca ce hp hc hst hs
      · exact ih e ce hl.2.1 hl.2.2 (hst.trans ((h2.1.weak (fun _ _ => trivial)).trans h2.2)) t ht
theorem mkT_ok {x y z : Tk} {m : SMt} {V : ByteArray → Prop} (hx : V x.2) (hz : V z.2) (hv : ∀ k v o, k = 8 → V v → unqT k v = some o → V o) (h : mkT x y z = some m) : V m.f1 ∧ V m.f2 ∧ m.f0 = (y.1 : Int) - 4 ∧ 4 ≤ y.1 ∧ y.1 ≤ 7 := by
  have key : ∀ (t : Tk) (o : ByteArray), V t.2 → unqT t.1 t.2 = some o → V o := by
    intro t o ht ho
    by_cases hk : t.1 = 8
    · exact hv t.1 t.2 o hk ht ho
    · unfold unqT at ho
      rw [if_neg hk] at ho
      rw [← Option.some.inj ho]
      exact ht
  unfold mkT at h
  split at h
  · split at h
    · exact nomatch h
    · rename_i n hn
      split at h
      · rename_i hy
        split at h
        · split at h
          · exact nomatch h
          · rename_i v hv2
            obtain rfl := Option.some.inj h
            exact ⟨key x n hx hn, key z v hz hv2, rfl, by omega, by omega⟩
        · exact nomatch h
      · exact nomatch h
  · exact nomatch h
theorem unqT_size {k : Nat} {v o : ByteArray} (h : unqT k v = some o) : o.size ≤ 4 * v.size := by
  unfold unqT at h
  split at h
  · split at h
    · exact nomatch h
    · rename_i u hu
      split at h
      · rw [← Option.some.inj h]
        exact unqS_len hu
      · exact nomatch h
  · rw [← Option.some.inj h]
    omega
theorem mkT_size {x y z : Tk} {m : SMt} {n : Nat} (hx : x.2.size ≤ n) (hz : z.2.size ≤ n) (h : mkT x y z = some m) : m.f1.size ≤ 4 * n ∧ m.f2.size ≤ 4 * n := by
  unfold mkT at h
  split at h
  · split at h
    · exact nomatch h
    · rename_i u hu
      split at h
      · split at h
        · split at h
          · exact nomatch h
          · rename_i v hv
            obtain rfl := Option.some.inj h
            have := unqT_size hu
            have := unqT_size hv
            exact ⟨by show u.size ≤ _; omega, by show v.size ≤ _; omega⟩
        · exact nomatch h
      · exact nomatch h
  · exact nomatch h
/-- Each matcher that is read is made of three tokens of the stream. -/
theorem runT_mem {e : Bool} {f : Nat} : ∀ {q : PS} {has : Bool} {ts : List Tk} {l m : List SMt}, runT e f q has ts l = some m → ∀ x ∈ m, x ∈ l ∨ ∃ a ∈ ts, ∃ b ∈ ts, ∃ c ∈ ts, mkT a b c = some x := by
  induction f with
  | zero => intro q has ts l m h; exact nomatch h
  | succ f ih =>
    intro q has ts l m h x hx
    unfold runT at h
    have key : ∀ {q2 : PS} {has2 : Bool} {ts2 : List Tk} {l2 : List SMt}, stT q has l ts e = .next q2 has2 ts2 l2 → (∀ t ∈ ts2, t ∈ ts) ∧ ∀ x ∈ l2, x ∈ l ∨ ∃ a ∈ ts, ∃ b ∈ ts, ∃ c ∈ ts, mkT a b c = some x := by
      intro q2 has2 ts2 l2 hst
      cases q <;> unfold stT at hst <;> dsimp only at hst
      case mat =>
        split at hst
        · rename_i u v w r
          split at hst
          · exact nomatch hst
          · rename_i m hm
            cases hst
            refine ⟨fun t ht => by simp [ht], fun x hx => ?_⟩
            rcases List.mem_append.1 hx with hx | hx
            · exact .inl hx
            · obtain rfl := List.mem_singleton.1 hx
              exact .inr ⟨u, by simp, v, by simp, w, by simp, hm⟩
        · exact nomatch hst
      case opn =>
        split at hst
        · split at hst
          · cases hst; exact ⟨fun t ht => ht, fun x hx => .inl hx⟩
          · exact nomatch hst
        · unfold opnT2 at hst
          repeat' split at hst
          all_goals first | (simp at hst; done) | (cases hst; exact ⟨fun t ht => by first | exact ht | exact List.mem_cons_of_mem _ ht | (simp at ht; done) | (simp_all; done), fun x hx => .inl hx⟩)
      all_goals
        repeat' split at hst
        all_goals first | (simp at hst; done) | (cases hst; exact ⟨fun t ht => by first | exact ht | exact List.mem_cons_of_mem _ ht | (simp at ht; done) | (simp_all; done), fun x hx => .inl hx⟩)
    cases hst : stT q has l ts e with
    | fail => rw [hst] at h; exact nomatch h
    | next q2 has2 ts2 l2 =>
      rw [hst] at h
      obtain ⟨k1, k2⟩ := key hst
      rcases ih h x hx with h1 | ⟨a, ha, b, hb, c, hc, hm⟩
      · exact k2 x h1
      · exact .inr ⟨a, k1 a ha, b, k1 b hb, c, k1 c hc, hm⟩
    | done l2 =>
      rw [hst] at h
      obtain rfl := Option.some.inj h
      left
      cases q <;> unfold stT at hst <;> dsimp only at hst
      case eof =>
        split at hst
        · split at hst
          · cases hst; exact hx
          · exact nomatch hst
        · exact nomatch hst
      case mat =>
        repeat' split at hst
        all_goals (simp at hst; done)
      case opn =>
        split at hst
        · split at hst <;> (simp at hst; done)
        · unfold opnT2 at hst
          repeat' split at hst
          all_goals (simp at hst; done)
      all_goals
        repeat' split at hst
        all_goals (simp at hst; done)
/-- What a text's matchers say. -/
theorem parse_sound {s : ByteArray} (h : hasC s 126 = false) {l : List SMt} (hp : parseL s = some l) : ∀ m ∈ l, (m.f0 = 0 ∨ m.f0 = 1) ∧ m.f1.size ≤ 4 * s.size ∧ m.f2.size ≤ 4 * s.size ∧ (Lib.validD s.data.toList = true → Lib.validD m.f1.data.toList = true ∧ Lib.validD m.f2.data.toList = true) := by
  rw [parseL_eq] at hp
  have hA : ∀ t ∈ (S0 s 0 0).1, t.1 ≠ 6 ∧ t.1 ≠ 7 ∧ t.2.size ≤ s.size ∧ (Lib.validD s.data.toList = true → Lib.validD t.2.data.toList = true) := by
    refine strm_all (fun p c k a e ca ce hp hc hst hs => ?_) _ 0 0 (Nat.zero_le _) (Nat.le_refl _) (.refl _ _)
    have hk := scanE_kind h _ _ _ _ _ _ _ _ hs
    have hl := scanE_le _ _ _ _ _ _ _ _ hp hc hs
    have hst2 := scanE_steps _ _ _ _ _ _ _ _ hs
    refine ⟨hk.1, hk.2, by rw [ext_size (by omega)]; omega, fun hv => ?_⟩
    rw [← valid_vd] at hv
    have h1 := vd_run (hst.trans (hst2.1.weak (fun _ _ => trivial))) hv
    have h2 := vd_piece (s := s) (a := a) (e := e) (by omega) hst2.2 rfl (Nat.le_refl _) h1
    rw [Nat.sub_self, valid_vd] at h2
    exact h2
  intro m hm
  rcases runT_mem hp m hm with h1 | ⟨x, hx, y, hy, z, hz, hmk⟩
  · exact absurd h1 (by simp)
  · have ax := hA x hx
    have ay := hA y hy
    have az := hA z hz
    have hV : ∀ (V : ByteArray → Prop), V x.2 → V z.2 → (∀ k v o, k = 8 → V v → unqT k v = some o → V o) → _ := fun V a b c => mkT_ok (V := V) a b c hmk
    have h3 := hV (fun _ => True) trivial trivial (fun _ _ _ _ _ _ => trivial)
    refine ⟨by omega, ?_, ?_, fun hv => ?_⟩
    · exact (mkT_size ax.2.2.1 az.2.2.1 hmk).1
    · exact (mkT_size ax.2.2.1 az.2.2.1 hmk).2
    · have h4 := hV (fun v => Lib.validD v.data.toList = true) (ax.2.2.2 hv) (az.2.2.2 hv) (fun k v o hk _ ho => by
        unfold unqT at ho
        rw [if_pos hk] at ho
        split at ho
        · exact nomatch ho
        · split at ho
          · rename_i hval
            rw [← Option.some.inj ho]
            exact hval
          · exact nomatch ho)
      exact ⟨h4.1, h4.2.1⟩
end Go.Proofs.YtmjoebnphacadaaDoor.Lex
