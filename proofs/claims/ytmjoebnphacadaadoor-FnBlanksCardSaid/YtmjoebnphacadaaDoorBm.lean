/- A text with white space put between its tokens has the same tokens. -/
import Derived.Test.YtmjoebnphacadaaDoorBk
namespace Go.Proofs.YtmjoebnphacadaaDoor.Lex
open Go.RowKit Go.Lib Go.Proofs.YtmjoebnphacadaaDoor.Pure Go.Proofs.YtmjoebnphacadaaDoor.Q Go.Proofs.YtmjoebnphacadaaDoorW.PrintWords Go.Proofs.YtmjoebnphacadaaDoorW.PrintLast
set_option linter.unusedVariables false
set_option linter.unusedSimpArgs false
/-- A token's piece of the text, and the white space ahead of it. -/
theorem tok_piece {s : ByteArray} {p c k a e ca ce : Nat} (hp : p ≤ s.size) (hc : c ≤ p) (hs : sc s p c = .tok k a e ca ce) :
    ∃ W T : List RB, RL s p = W ++ (T ++ RL s e) ∧ Wh W ∧ RL (s.extract p a) 0 = W ∧ RL (s.extract a e) 0 = T ∧ T ≠ [] ∧ Cond k (RL s e) ∧ (∀ R, Cond k R → scanL (T ++ R) = .tok k T R) ∧ txt T = cut s a e ∧ (k ≠ 9 → 0 < (s.extract a e).size ∧ ((s.extract a e).get! ((s.extract a e).size - 1)).toNat < 128) := by
  have hl := scanE_le _ _ _ _ _ _ _ _ hp hc hs
  obtain ⟨h1, h2⟩ := scanE_steps _ _ _ _ _ _ _ _ hs
  obtain ⟨ha, hsp⟩ := scan_start _ _ _ _ _ _ _ _ hs
  obtain ⟨r1, r2⟩ := rl_piece (s := s) (a := p) (e := a) (by omega) h1 rfl (Nat.le_refl _)
  obtain ⟨r3, _⟩ := rl_piece (s := s) (a := a) (e := e) (by omega) h2 rfl (Nat.le_refl _)
  rw [Nat.sub_self] at r1 r2 r3
  have hL := scanE_list (s := s) (s.size + 1) p c hp (by omega)
  have hs' : scanE s (s.size + 1) p c = .tok k a e ca ce := hs
  rw [hs'] at hL
  have hw : Wh (RL (s.extract p a) 0) := r2
  rw [r1, scan_white hw] at hL
  cases hT : scanL (RL s a) with
  | eof => rw [hT] at hL; exact hL.elim
  | bad => rw [hT] at hL; exact hL.elim
  | tok k2 T2 rest =>
    rw [hT] at hL
    obtain ⟨rfl, rfl, ht, he, _⟩ := hL
    obtain ⟨w, k1, k2', k3, k4, k5⟩ := scan_app hT
    have hw0 : w = [] := by
      cases w with
      | nil => rfl
      | cons r w =>
        rw [RL_step ha] at k1
        have e0 : (rn s a, cut s a (a + wdt s a)) = r := (List.cons.inj k1).1
        have := k2' r (by simp)
        rw [← e0] at this
        rw [hsp] at this
        exact nomatch this
    subst hw0
    have eT : RL (s.extract a e) 0 = T2 := by
      rw [r3, List.nil_append] at k1
      exact List.append_cancel_right k1
    refine ⟨RL (s.extract p a) 0, T2, by rw [r1, r3, eT], hw, rfl, eT, k3, k4, k5, ht, fun hk => ?_⟩
    have hsz : 0 < (s.extract a e).size := by rw [ext_size he]; omega
    refine ⟨hsz, ?_⟩
    cases hx : T2.getLast? with
    | none => exact absurd (List.getLast?_eq_none_iff.1 hx) k3
    | some r => exact rl_last (s.extract a e).size 0 hsz (by omega) r (by rw [eT]; exact hx) (scan_last hT hk r hx)
/-- The text with white space put ahead of each token and behind the last one. -/
def fin (s : ByteArray) (G : Nat → ByteArray) : List S27 → Nat → Nat → ByteArray
  | [], i, p => G i ++ s.extract p s.size
  | t :: r, i, p => ((s.extract p t.f2.toNat ++ G i) ++ s.extract t.f2.toNat t.f3.toNat) ++ fin s G r (i + 1) t.f3.toNat
theorem nr_bad {r : RB} (h : nr r = false) : r.1 ≠ 65533 := by
  intro e
  unfold nr at h
  rw [e] at h
  exact absurd h (by decide +kernel)
theorem white_nr {r : RB} (h : Lib.isSpaceZ (r.1 : Int) = true) (k : Nat) : (k = 9 → nr r = false) ∧ (k = 4 → r.1 ≠ 126) := by
  obtain ⟨n1, n2, n3, n4, n5, n6, n7, n8⟩ := space_not h
  exact ⟨fun _ => by unfold nr; rw [n8]; rfl, fun _ => n7⟩
theorem cond_white {W : List RB} (hW : Wh W) (k : Nat) : Cond k W := fun r hr => white_nr (hW r (List.mem_of_mem_head? hr)) k
theorem ext_tail (s : ByteArray) (p : Nat) (hp : p ≤ s.size) : RL (s.extract p s.size) 0 = RL s p := by
  have hx : s.extract 0 p ++ s.extract p s.size = s := by
    refine ByteArray.ext (Array.toList_inj.1 ?_)
    rw [app_list, ext_list, Lib.extract_data, List.drop_zero, Nat.sub_zero, List.take_append_drop]
  have hz : (s.extract 0 p).size = p := by rw [ext_size hp]; omega
  have := RL_right (x := s.extract 0 p) (y := s.extract p s.size) (s.extract p s.size).size 0 (by omega)
  rw [hx, hz] at this
  exact this.symm
theorem cond_head {W T R R2 : List RB} {k : Nat} (hT : T ≠ []) (h : Cond k (W ++ (T ++ R))) (G : List RB) (hG : Wh G) : Cond k (W ++ (G ++ (T ++ R2))) := by
  cases W with
  | cons r W => exact h
  | nil =>
    cases G with
    | cons r G => exact fun x hx => by obtain rfl := Option.some.inj hx; exact white_nr (hG r (by simp)) k
    | nil =>
      cases T with
      | nil => exact absurd rfl hT
      | cons r T => exact h
theorem fin_strm {s : ByteArray} {G : Nat → ByteArray} (hG : ∀ i, Wh (RL (G i) 0)) : ∀ (f p c i : Nat) (ts : List S27), p ≤ s.size → c ≤ p → tokensR s f p c = (ts, true) →
    (∃ g, strmL g (RL (fin s G ts i p) 0) = (ts.map kt, true)) ∧ ∀ k, Cond k (RL s p) → Cond k (RL (fin s G ts i p) 0) := by
  intro f
  induction f with
  | zero => intro p c i ts _ _ h; exact nomatch h
  | succ f ih =>
    intro p c i ts hp hc h
    have hL := scanE_list (s := s) (s.size + 1) p c hp (by omega)
    cases hs : sc s p c with
    | bad => rw [tokensR_bad hs] at h; exact nomatch h
    | eof u v =>
      rw [tokensR_eof hs] at h
      have h1 : [] = ts := congrArg Prod.fst h
      subst h1
      have hs' : scanE s (s.size + 1) p c = .eof u v := hs
      rw [hs'] at hL
      have hw : Wh (RL s p) := by
        cases hT : scanL (RL s p) with
        | eof => exact scan_eof hT
        | bad => rw [hT] at hL; exact hL.elim
        | tok k T r => rw [hT] at hL; exact hL.elim
      have eR : RL (fin s G [] i p) 0 = RL (G i) 0 ++ RL s p := by
        show RL (G i ++ s.extract p s.size) 0 = _
        rw [white_app (hG i), ext_tail s p hp]
      have hW : Wh (RL (G i) 0 ++ RL s p) := fun r hr => by
        rcases List.mem_append.1 hr with hr | hr
        · exact hG i r hr
        · exact hw r hr
      rw [eR]
      refine ⟨⟨1, ?_⟩, fun k _ => cond_white hW k⟩
      have e : scanL (RL (G i) 0 ++ RL s p) = .eof := by
        have := scan_white (R := []) hW
        rw [List.append_nil] at this
        rw [this]
        rfl
      rw [strmL_eof e]
      rfl
    | tok k a e ca ce =>
      rw [tokensR_tok hs] at h
      have hl := scanE_le _ _ _ _ _ _ _ _ hp hc hs
      obtain ⟨tr, ht⟩ : ∃ tr, (tokensR s f e ce).1 = tr := ⟨_, rfl⟩
      have h1 := congrArg Prod.fst h
      have h2 : (tokensR s f e ce).2 = true := congrArg Prod.snd h
      dsimp only at h1
      rw [ht] at h1
      subst h1
      obtain ⟨⟨g, hg⟩, hcond⟩ := ih e ce (i + 1) tr (by omega) (by omega) (Prod.ext ht h2)
      obtain ⟨W, T, k1, k2, k3, k4, k5, k6, k7, k8, k9⟩ := tok_piece hp hc hs
      have hck := hcond k k6
      have eF : fin s G ((⟨(k : Int), s.extract a e, (a : Int), (e : Int), (ca : Int), (ce : Int)⟩ : S27) :: tr) i p = s.extract p a ++ (G i ++ (s.extract a e ++ fin s G tr (i + 1) e)) := by
        show ((s.extract p (a : Int).toNat ++ G i) ++ s.extract (a : Int).toNat (e : Int).toNat) ++ fin s G tr (i + 1) (e : Int).toNat = _
        rw [Int.toNat_natCast, Int.toNat_natCast, ByteArray.append_assoc, ByteArray.append_assoc]
      have eT : RL (s.extract a e ++ fin s G tr (i + 1) e) 0 = T ++ RL (fin s G tr (i + 1) e) 0 := by
        by_cases h9 : k = 9
        · rw [RL_join (fresh_head (fun r hr => nr_bad ((hck r hr).1 h9))), k4]
        · obtain ⟨z1, z2⟩ := k9 h9
          rw [asc_app_end z1 z2, k4]
      have eR : RL (fin s G ((⟨(k : Int), s.extract a e, (a : Int), (e : Int), (ca : Int), (ce : Int)⟩ : S27) :: tr) i p) 0 = W ++ (RL (G i) 0 ++ (T ++ RL (fin s G tr (i + 1) e) 0)) := by
        rw [eF, white_app (by rw [k3]; exact k2), k3, white_app (hG i), eT]
      rw [eR]
      refine ⟨⟨g + 1, ?_⟩, fun k0 hk0 => ?_⟩
      · have e1 : scanL (W ++ (RL (G i) 0 ++ (T ++ RL (fin s G tr (i + 1) e) 0))) = .tok k T (RL (fin s G tr (i + 1) e) 0) := by
          rw [scan_white k2, scan_white (hG i)]
          exact k7 _ hck
        rw [strmL_tok e1, hg, k8]
        rfl
      · rw [k1] at hk0
        exact cond_head k5 hk0 _ (hG i)
theorem strmL_more {f : Nat} : ∀ {L : List RB} {x : List Tk} (g : Nat), strmL f L = (x, true) → strmL (f + g) L = (x, true) := by
  induction f with
  | zero => intro L x g h; exact nomatch h
  | succ f ih =>
    intro L x g h
    rw [show f + 1 + g = f + g + 1 by omega]
    cases hs : scanL L with
    | eof => rw [strmL_eof hs] at h ⊢; exact h
    | bad => rw [strmL_bad hs] at h; exact nomatch h
    | tok k T rest =>
      rw [strmL_tok hs] at h ⊢
      have h2 : (strmL f rest).2 = true := congrArg Prod.snd h
      rw [ih g (Prod.ext rfl h2)]
      have h1 := congrArg Prod.fst h
      dsimp only at h1 ⊢
      rw [h1]
theorem s0_of {s : ByteArray} {g : Nat} {x : List Tk} (h : strmL g (RL s 0) = (x, true)) : S0 s 0 0 = (x, true) := by
  have h1 := strmL_more (s.size + 1) h
  rw [← strm_list _ _ 0 (Nat.zero_le _)] at h1
  unfold S0
  rw [← h1]
  exact strm_fed ⟨by omega, by omega, by omega⟩ ⟨by omega, by omega, by omega⟩
/-- What is read is the same. -/
theorem fin_same {s : ByteArray} {G : Nat → ByteArray} (hG : ∀ i, Wh (RL (G i) 0)) {ts : List S27} (h : tokensR s (s.size + 1) 0 0 = (ts, true)) : pmF (fin s G ts 0 0) = pmF s := by
  obtain ⟨⟨g, hg⟩, _⟩ := fin_strm hG (s.size + 1) 0 0 0 ts (Nat.zero_le _) (Nat.le_refl _) h
  have h1 := s0_of hg
  have h2 : S0 s 0 0 = (ts.map kt, true) := by
    have := tokens_strm (s := s) (f := s.size + 1) (p := 0) (c := 0)
    rw [h] at this
    exact this.symm
  unfold pmF
  rw [parseL_eq, parseL_eq, h1, h2]
end Go.Proofs.YtmjoebnphacadaaDoor.Lex
