/- The law FnBlanks over plain values. -/
import Derived.Test.YtmjoebnphacadaaDoorBm
import Derived.Test.YtmjoebnphacadaaDoorCm
import Derived.Test.YtmjoebnphacadaaDoorQx45
set_option linter.unusedVariables false
set_option linter.unusedSimpArgs false
namespace Go.Proofs.YtmjoebnphacadaaDoor.Pure
open Go.RowKit Go.Proofs.YtmjoebnphacadaaDoor.Q Go.Proofs.YtmjoebnphacadaaDoor.Lex Go.Proofs.YtmjoebnphacadaaDoorW.PrintWords Go.Proofs.YtmjoebnphacadaaDoorW.PrintLast
def gapsL : List ByteArray := [(⟨#[]⟩ : ByteArray), (⟨#[32]⟩ : ByteArray), (⟨#[9]⟩ : ByteArray), (⟨#[10]⟩ : ByteArray), (⟨#[32, 32]⟩ : ByteArray), (⟨#[32, 13, 10]⟩ : ByteArray), (⟨#[11, 12]⟩ : ByteArray), (⟨#[194, 133, 194, 160]⟩ : ByteArray), (⟨#[226, 128, 131]⟩ : ByteArray)]
theorem gap_ok : ∀ m, m < 9 → (gapsL.getD m ByteArray.empty).size ≤ 4 ∧ ((RL (gapsL.getD m ByteArray.empty) 0).all fun r => Lib.isSpaceZ (r.1 : Int)) = true := by decide +kernel
theorem gap_eq (n : Nat) (h : n < 256) : laws_gap.f (n : Int) = some (gapsL.getD (n % 9) ByteArray.empty) := by
  have e1 : wrap64 (n : Int) = (n : Int) := by unfold wrap64; omega
  have e2 : Int.tmod (n : Int) (9 : Int) = ((n % 9 : Nat) : Int) := by
    rw [Int.tmod_eq_emod_of_nonneg (by omega)]
    rfl
  have h9 : (gapsL.length : Int) = 9 := rfl
  have p1 : (0 ≤ ((n % 9 : Nat) : Int)) = True := eq_true (by omega)
  have p2 : (((n % 9 : Nat) : Int) < 9) = True := eq_true (by omega)
  have p3 : ((9 : Int) = 0) = False := eq_false (by decide)
  show (some gapsL).bind (fun y151 => (if (y151.length : Int) = 0 then (none) else (if 0 ≤ (Int.tmod (wrap64 (n : Int)) (y151.length : Int)) then (if (Int.tmod (wrap64 (n : Int)) (y151.length : Int)) < (y151.length : Int) then (some (rdOf ByteArray.empty y151 (Int.tmod (wrap64 (n : Int)) (y151.length : Int)))) else (none)) else (none)))) = _
  rw [Option.bind_some, h9, e1, e2]
  simp only [p1, p2, p3, if_true, if_false]
  show some (gapsL.getD ((n % 9 : Nat) : Int).toNat ByteArray.empty) = _
  rw [Int.toNat_natCast]
theorem gap_ev (v : Int) (h0 : 0 ≤ v) (h1 : v < 256) : ∃ g, laws_gap.f v = some g ∧ g.size ≤ 4 ∧ Wh (RL g 0) := by
  obtain ⟨n, rfl⟩ : ∃ n : Nat, v = n := ⟨v.toNat, by omega⟩
  obtain ⟨k1, k2⟩ := gap_ok (n % 9) (Nat.mod_lt _ (by omega))
  rw [List.all_eq_true] at k2
  exact ⟨_, gap_eq n (by omega), k1, fun r hr => k2 r hr⟩
/-- The gap at a place. -/
noncomputable def gapG (l : List Int) (i : Nat) : ByteArray := (laws_gap.f (rd l ((i % l.length : Nat) : Int))).getD ⟨#[]⟩
theorem tok_f {a : ByteArray} (h : a.size ≤ 1000000) : impl_Tokens.f a = some (tokensR a (a.size + 1) 0 0) := by
  unfold impl_Tokens.f
  rw [if_pos (by omega)]
theorem par_f {a : ByteArray} (h : a.size ≤ 1000000) : impl_ParseMatchers.f a = some (pmF a) := by
  unfold impl_ParseMatchers.f
  rw [if_pos h]
theorem rd27_nat (t : List S27) (i : Nat) (h : i < t.length) : rd_T27 t (i : Int) = t[i] := by
  show t.getD (i : Int).toNat _ = _
  rw [Int.toNat_natCast, List.getD_eq_getElem?_getD, List.getElem?_eq_getElem h]
  rfl
theorem pm_len {a : ByteArray} {m : List S35} {b : Bool} (ha : a.size ≤ 1000000) (h : pmF a = (m, b)) : m.length ≤ 2147483647 := by
  unfold pmF at h
  cases hp : parseL a with
  | none =>
    rw [hp] at h
    have e : [] = m := congrArg Prod.fst h
    rw [← e]
    simp
  | some l =>
    rw [hp] at h
    have := parseL_len hp
    have e : l.map ofMat = m := congrArg Prod.fst h
    rw [← e]
    simp only [List.length_map]
    omega
theorem nat_tmod (i n : Nat) : Int.tmod (i : Int) (n : Int) = ((i % n : Nat) : Int) := by
  rw [Int.tmod_eq_emod_of_nonneg (by omega)]
  rfl
theorem nat_emod (i n : Nat) : (i : Int) % (n : Int) = ((i % n : Nat) : Int) := rfl
section
variable {s : ByteArray} {l : List Int}
theorem gapG_ev (hl : ∀ y ∈ l, (Lit.int .u8 y).wf = true) (h0 : 0 < l.length) (i : Nat) : laws_gap.f (rd l ((i % l.length : Nat) : Int)) = some (gapG l i) ∧ (gapG l i).size ≤ 4 ∧ Wh (RL (gapG l i) 0) := by
  have hm : i % l.length < l.length := Nat.mod_lt _ h0
  have hv : rd l ((i % l.length : Nat) : Int) ∈ l := by
    have e : rd l ((i % l.length : Nat) : Int) = l[i % l.length] := by
      show l.getD ((i % l.length : Nat) : Int).toNat 0 = _
      rw [Int.toNat_natCast, List.getD_eq_getElem?_getD, List.getElem?_eq_getElem hm]
      rfl
    rw [e]
    exact List.getElem_mem hm
  have hb := wf_u8 (hl _ hv)
  obtain ⟨g, g1, g2, g3⟩ := gap_ev _ hb.1 (by omega)
  have e : gapG l i = g := by unfold gapG; rw [g1]; rfl
  rw [e]
  exact ⟨g1, g2, g3⟩
set_option maxHeartbeats 1600000 in
theorem blank_loop (hs : s.size ≤ 5000) (hl : ∀ y ∈ l, (Lit.int .u8 y).wf = true) (h0 : 0 < l.length) (hl2 : l.length ≤ 2147483647) (t : List S27) (ht : t.length ≤ 5001) :
    ∀ (f p c i : Nat) (O : ByteArray), p ≤ s.size → c ≤ p → tokensR s f p c = (t.drop i, true) → i ≤ t.length → O.size ≤ p + 4 * i → pmF (O ++ fin s (gapG l) (t.drop i) i p) = pmF s → Ev (fun k => laws_FnBlanks.l0 k s l t O (p : Int) t (t.length : Int) (i : Int)) true := by
  intro f
  induction f with
  | zero => intro p c i O _ _ h; exact nomatch congrArg Prod.snd h
  | succ f ih =>
    intro p c i O hp hc h hi hO hfin
    obtain ⟨q1, q2, q3⟩ := gapG_ev hl h0 i
    cases hsc : sc s p c with
    | bad => rw [tokensR_bad hsc] at h; exact nomatch congrArg Prod.snd h
    | eof u v =>
      rw [tokensR_eof hsc] at h
      have hd : [] = t.drop i := congrArg Prod.fst h
      have hlen : i = t.length := by
        have := congrArg List.length hd
        rw [List.length_drop] at this
        simp only [List.length_nil] at this
        omega
      subst hlen
      rw [← hd] at hfin
      obtain ⟨g, hg⟩ : ∃ g, gapG l t.length = g := ⟨_, rfl⟩
      have hfin2 : pmF (O ++ (g ++ s.extract p s.size)) = pmF s := by rw [← hg]; exact hfin
      rw [hg] at q1 q2
      have z1 : (s.extract p s.size).size = s.size - p := ext_size (Nat.le_refl _)
      have z2 : (O ++ (g ++ s.extract p s.size)).size ≤ 1000000 := by rw [app_size, app_size, z1]; omega
      obtain ⟨M, hM⟩ : ∃ M, pmF s = M := ⟨_, rfl⟩
      rw [hM] at hfin2
      refine Ev.step (f := fun k => (laws_eqMatchers.f k M.1 M.1).bind fun t177 => some t177) (fun k => ?_) (Ev.bind (eqm_self M.1 (pm_len (a := s) (b := M.2) (by omega) hM)) (Ev.now true))
      have c1 : ((t.length : Int) < (t.length : Int)) = False := eq_false (by omega)
      have c2 : ((l.length : Int) = 0) = False := eq_false (by omega)
      have c3 : (0 ≤ ((t.length % l.length : Nat) : Int)) = True := eq_true (by omega)
      have hm : t.length % l.length < l.length := Nat.mod_lt _ h0
      have c4 : (((t.length % l.length : Nat) : Int) < (l.length : Int)) = True := eq_true (by omega)
      have c5 : (0 ≤ (p : Int)) = True := eq_true (by omega)
      have c6 : ((p : Int) ≤ (s.size : Int)) = True := eq_true (by omega)
      have c7 : (g.size + (s.extract p s.size).size ≤ 9223372036854775807) = True := eq_true (by rw [z1]; omega)
      have c8 : (O.size + (g ++ s.extract p s.size).size ≤ 9223372036854775807) = True := eq_true (by rw [app_size, z1]; omega)
      simp only [laws_FnBlanks.l0, nat_emod, c1, c2, c3, c4, c5, c6, if_true, if_false, q1, Option.bind_some, Int.toNat_natCast, c7, c8]
      rw [par_f (by omega), par_f z2, hfin2, hM, Option.bind_some, Option.bind_some, if_pos (by simp)]
    | tok k a e ca ce =>
      rw [tokensR_tok hsc] at h
      have hle := scanE_le _ _ _ _ _ _ _ _ hp hc hsc
      obtain ⟨tr, htr⟩ : ∃ tr, (tokensR s f e ce).1 = tr := ⟨_, rfl⟩
      have h1 := congrArg Prod.fst h
      have h2 : (tokensR s f e ce).2 = true := congrArg Prod.snd h
      dsimp only at h1
      rw [htr] at h1
      have hlt : i < t.length := by
        have := congrArg List.length h1
        rw [List.length_drop, List.length_cons] at this
        omega
      have hd := List.drop_eq_getElem_cons hlt
      rw [hd] at h1
      obtain ⟨hx, hr⟩ := List.cons.inj h1
      have ex : rd_T27 t (i : Int) = (⟨(k : Int), s.extract a e, (a : Int), (e : Int), (ca : Int), (ce : Int)⟩ : S27) := by rw [rd27_nat t i hlt, ← hx]
      obtain ⟨g, hg⟩ : ∃ g, gapG l i = g := ⟨_, rfl⟩
      rw [hg] at q1 q2
      have z1 : (s.extract p a).size = a - p := ext_size (by omega)
      have z2 : (s.extract a e).size = e - a := ext_size (by omega)
      have hf2 : pmF ((O ++ ((s.extract p a ++ g) ++ s.extract a e)) ++ fin s (gapG l) (t.drop (i + 1)) (i + 1) e) = pmF s := by
        rw [← hfin, hd, ← hx]
        show _ = pmF (O ++ (((s.extract p (a : Int).toNat ++ gapG l i) ++ s.extract (a : Int).toNat (e : Int).toNat) ++ fin s (gapG l) (t.drop (i + 1)) (i + 1) (e : Int).toNat))
        rw [Int.toNat_natCast, Int.toNat_natCast, hg, ByteArray.append_assoc]
      have ih2 := ih e ce (i + 1) (O ++ ((s.extract p a ++ g) ++ s.extract a e)) (by omega) (by omega) (by rw [← hr, ← htr]; exact Prod.ext rfl h2) (by omega) (by rw [app_size, app_size, app_size, z1, z2]; omega) hf2
      refine Ev.step (f := fun k => laws_FnBlanks.l0 k s l t (O ++ ((s.extract p a ++ g) ++ s.extract a e)) (e : Int) t (t.length : Int) ((i + 1 : Nat) : Int)) (fun k => ?_) ih2
      have c1 : ((i : Int) < (t.length : Int)) = True := eq_true (by omega)
      have c2 : (0 ≤ (i : Int)) = True := eq_true (by omega)
      have c3 : ((a : Int) < (p : Int)) = False := eq_false (by omega)
      have c4 : ((e : Int) < (a : Int)) = False := eq_false (by omega)
      have c5 : ((e : Int) > (s.size : Int)) = False := eq_false (by omega)
      have c6 : (0 ≤ (p : Int)) = True := eq_true (by omega)
      have c7 : ((p : Int) ≤ (a : Int)) = True := eq_true (by omega)
      have c8 : ((a : Int) ≤ (s.size : Int)) = True := eq_true (by omega)
      have c9 : ((l.length : Int) = 0) = False := eq_false (by omega)
      have d1 : (0 ≤ ((i % l.length : Nat) : Int)) = True := eq_true (by omega)
      have hm : i % l.length < l.length := Nat.mod_lt _ h0
      have d2 : (((i % l.length : Nat) : Int) < (l.length : Int)) = True := eq_true (by omega)
      have d3 : ((s.extract p a).size + g.size ≤ 9223372036854775807) = True := eq_true (by rw [z1]; omega)
      have d4 : (0 ≤ (a : Int)) = True := eq_true (by omega)
      have d5 : ((a : Int) ≤ (e : Int)) = True := eq_true (by omega)
      have d6 : ((e : Int) ≤ (s.size : Int)) = True := eq_true (by omega)
      have d7 : ((s.extract p a ++ g).size + (s.extract a e).size ≤ 9223372036854775807) = True := eq_true (by rw [app_size, z1, z2]; omega)
      have d8 : (O.size + ((s.extract p a ++ g) ++ s.extract a e).size ≤ 9223372036854775807) = True := eq_true (by rw [app_size, app_size, z1, z2]; omega)
      have ew : wrap64 ((i : Int) + 1) = ((i + 1 : Nat) : Int) := by unfold wrap64; omega
      simp only [laws_FnBlanks.l0, nat_tmod, ex, c1, c2, c3, c4, c5, c6, c7, c8, c9, d1, d2, if_true, if_false, q1, Option.bind_some, Int.toNat_natCast, d3, d4, d5, d6, d7, d8, ew]
end
theorem FnBlanks : laws_FnBlanks.Pure := by
  intro a l ha hl
  refine Ev.rounds (g := fun k => laws_FnBlanks.f k a l) ?_
  unfold laws_FnBlanks.f
  have j0t : Ev (fun k => laws_FnBlanks.j0 k a l true) true := ev_succ (fun k => rfl)
  have j1t : Ev (fun k => laws_FnBlanks.j1 k a l true) true := ev_succ (fun k => rfl)
  by_cases c1 : (a.size : Int) > 2147483647
  · exact ev_ite_pos c1 j0t
  refine ev_ite_neg c1 ?_
  by_cases c2 : (l.length : Int) > 2147483647
  · rw [decide_eq_true c2]; exact j0t
  rw [decide_eq_false c2]
  refine Ev.step (f := fun k => (laws_one.f).bind fun t157 => (if t157 = true then (if (a.size : Int) > 5000 then (laws_FnBlanks.j1 k a l true) else ((laws_has.f k a 126).bind fun t158 => (if t158 = true then (laws_FnBlanks.j1 k a l true) else (laws_FnBlanks.j1 k a l ((l.length : Int) == 0))))) else (some false))) (fun k => rfl) ?_
  rw [one_ev]
  refine ev_bind_some (ev_ite_pos rfl ?_)
  by_cases c3 : (a.size : Int) > 5000
  · exact ev_ite_pos c3 j1t
  refine ev_ite_neg c3 (Ev.bind (has_ev a 126 (by omega)) ?_)
  cases hasC a 126 with
  | true => exact ev_ite_pos rfl j1t
  | false =>
    refine ev_ite_neg (by simp) ?_
    cases h0 : ((l.length : Int) == 0) with
    | true => exact j1t
    | false =>
      have hn : 0 < l.length := by
        have : ¬ (l.length : Int) = 0 := by simpa using h0
        omega
      obtain ⟨T, hT⟩ : ∃ T, tokensR a (a.size + 1) 0 0 = T := ⟨_, rfl⟩
      refine Ev.step (f := fun k => if T.2 = true then (laws_FnBlanks.l0 k a l T.1 (⟨#[]⟩ : ByteArray) 0 T.1 (T.1.length : Int) 0) else (some true)) (fun k => ?_) ?_
      · show ((impl_Tokens.f a).bind fun bt159 => (if bt159.2 = true then (laws_FnBlanks.l0 k a l bt159.1 (⟨#[]⟩ : ByteArray) 0 bt159.1 (bt159.1.length : Int) 0) else (some true))) = _
        rw [tok_f (by omega), Option.bind_some, hT]
      · by_cases h2 : T.2 = true
        · refine ev_ite_pos h2 ?_
          have hT2 : tokensR a (a.size + 1) 0 0 = (T.1, true) := by rw [hT]; exact Prod.ext rfl h2
          have tl : T.1.length ≤ 5001 := by
            have hS := tokens_strm (s := a) (f := a.size + 1) (p := 0) (c := 0)
            have hl : (strm a (a.size + 1) 0 0).1.length ≤ a.size - 0 := strm_len ⟨by omega, by omega, by omega⟩
            rw [← hS, hT2] at hl
            simp only [List.length_map] at hl
            omega
          exact blank_loop (by omega) hl.2 hn (by omega) T.1 tl (a.size + 1) 0 0 0 ⟨#[]⟩ (Nat.zero_le _) (Nat.le_refl _) hT2 (Nat.zero_le _) (Nat.le_refl _) (by
            rw [List.drop_zero, show (⟨#[]⟩ : ByteArray) ++ fin a (gapG l) T.1 0 0 = fin a (gapG l) T.1 0 0 from ByteArray.empty_append]
            exact fin_same (fun i => (gapG_ev hl.2 hn i).2.2) hT2)
        · exact ev_ite_neg h2 (Ev.now true)
end Go.Proofs.YtmjoebnphacadaaDoor.Pure
