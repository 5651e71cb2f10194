/- The old reader: one matcher, a list; what is printed is read back. -/
import Derived.Test.YtbcgcfdpblhddaaDoorCl3
namespace Go.Proofs.YtbcgcfdpblhddaaDoor.Cl
open Go.Lib
set_option linter.unusedVariables false
set_option linter.unusedSimpArgs false
/-- The third token's value. -/
def vlB (v : List UInt8) : Option (List UInt8) :=
  match v with
  | 34 :: r => if validD r = true then (cvB r false true).bind fun q => if q.2 = true then none else some q.1 else none
  | _ => if validD v = true then (cvB v false false).bind fun q => if q.2 = true then none else some q.1 else none
/-- One matcher: the number of its operator, its name, its value. -/
def cmB (l : List UInt8) : Option (Nat × List UInt8 × List UInt8) := (ptB l).bind fun p => (vlB p.2.2).map fun v => (p.2.1, p.1, v)
def mapAll {α β : Type} (f : α → Option β) : List α → Option (List β)
  | [] => some []
  | a :: r => (f a).bind fun b => (mapAll f r).map (b :: ·)
/-- A text without the braces at its ends. -/
def unb (l : List UInt8) : List UInt8 :=
  let t := match l with | 123 :: r => r | _ => l
  if t.getLast? = some 125 then t.dropLast else t
/-- The texts of a list's matchers: what is left of white space at the end is none. -/
def tkB (ts : List (List UInt8)) : List (List UInt8) := ts.dropLast ++ (match ts.getLast? with | none => [] | some x => if trimSpaceU x = [] then [] else [trimSpaceU x])
def csB (l : List UInt8) : Option (List (Nat × List UInt8 × List UInt8)) := mapAll cmB (tkB (spB (unb l) false false []))
/-- Escapes of a value, as it is printed. -/
def eb1 (c : UInt8) : List UInt8 := if c = 92 then [92, 92] else if c = 10 then [92, 110] else if c = 34 then [92, 34] else [c]
def ebB : List UInt8 → List UInt8
  | [] => []
  | c :: r => eb1 c ++ ebB r
theorem es_eb : ∀ v : List UInt8, esB (ebB v) = some v
  | [] => rfl
  | c :: r => by
    unfold ebB eb1
    by_cases h1 : c = 92
    · subst h1
      rw [if_pos rfl]
      show esB (92 :: 92 :: ebB r) = _
      rw [es_esc, es_eb r]; rfl
    · rw [if_neg h1]
      by_cases h2 : c = 10
      · subst h2
        rw [if_pos rfl]
        show esB (92 :: 110 :: ebB r) = _
        rw [es_esc, es_eb r]; rfl
      · rw [if_neg h2]
        by_cases h3 : c = 34
        · subst h3
          rw [if_pos rfl]
          show esB (92 :: 34 :: ebB r) = _
          rw [es_esc, es_eb r]; rfl
        · rw [if_neg h3]
          show esB (c :: ebB r) = _
          rw [esB_plain h3 h1, es_eb r]; rfl
theorem st_eb : ∀ v : List UInt8, stB (ebB v) false = false
  | [] => rfl
  | c :: r => by
    unfold ebB eb1
    by_cases h1 : c = 92
    · subst h1
      rw [if_pos rfl]
      show stB (92 :: 92 :: ebB r) false = _
      rw [st_esc, st_eb r]
    · rw [if_neg h1]
      by_cases h2 : c = 10
      · subst h2
        rw [if_pos rfl]
        show stB (92 :: 110 :: ebB r) false = _
        rw [st_esc, st_eb r]
      · rw [if_neg h2]
        by_cases h3 : c = 34
        · subst h3
          rw [if_pos rfl]
          show stB (92 :: 34 :: ebB r) false = _
          rw [st_esc, st_eb r]
        · rw [if_neg h3]
          show stB (c :: ebB r) false = _
          rw [stB, if_neg h1, st_eb r]
theorem sp_esc (d : UInt8) (o tok : List UInt8) : spB (92 :: d :: o) true false tok = spB o true (if d = 44 then true else false) (tok ++ [92, d]) := by
  by_cases h1 : d = 44
  · subst h1; simp [spB]
  · by_cases h2 : d = 34
    · subst h2; simp [spB]
    · by_cases h3 : d = 92
      · subst h3; simp [spB]
      · simp [spB, h1, h2, h3]
theorem sp_eb (o : List UInt8) : ∀ (v tok : List UInt8), spB (ebB v ++ o) true false tok = spB o true false (tok ++ ebB v)
  | [], tok => by simp [ebB]
  | c :: r, tok => by
    unfold ebB eb1
    by_cases h1 : c = 92
    · subst h1
      rw [if_pos rfl]
      show spB (92 :: 92 :: (ebB r ++ o)) true false tok = _
      rw [sp_esc, if_neg (by decide), sp_eb o r, List.append_assoc]
    · rw [if_neg h1]
      by_cases h2 : c = 10
      · subst h2
        rw [if_pos rfl]
        show spB (92 :: 110 :: (ebB r ++ o)) true false tok = _
        rw [sp_esc, if_neg (by decide), sp_eb o r, List.append_assoc]
      · rw [if_neg h2]
        by_cases h3 : c = 34
        · subst h3
          rw [if_pos rfl]
          show spB (92 :: 34 :: (ebB r ++ o)) true false tok = _
          rw [sp_esc, if_neg (by decide), sp_eb o r, List.append_assoc]
        · rw [if_neg h3]
          show spB (c :: (ebB r ++ o)) true false tok = _
          by_cases h4 : c = 44
          · rw [spB, if_pos h4, if_pos rfl, sp_eb o r, List.append_assoc]
          · rw [spB, if_neg h4, if_neg h3, if_neg h1, sp_eb o r, List.append_assoc]
theorem sp_word (o : List UInt8) : ∀ (n tok : List UInt8), (∀ x ∈ n, x ≠ 44 ∧ x ≠ 34 ∧ x ≠ 92) → spB (n ++ o) false false tok = spB o false false (tok ++ n)
  | [], tok, _ => by simp
  | c :: r, tok, h => by
    obtain ⟨h1, h2, h3⟩ := h c (by simp)
    rw [List.cons_append, spB, if_neg h1, if_neg h2, if_neg h3, sp_word o r _ (fun x hx => h x (by simp [hx])), List.append_assoc]
    rfl
/-- A matcher's text; 0: '=', else '!='. -/
def opL (t : Nat) : List UInt8 := if t = 0 then [61] else [33, 61]
def prB (t : Nat) (n v : List UInt8) : List UInt8 := n ++ (opL t ++ (34 :: (ebB v ++ [34])))
def Old (n : List UInt8) : Prop := n ≠ [] ∧ nmB true true n = n
theorem nmc_ne {c : UInt8} {f : Bool} (h : nmc f true c = true) : c ≠ 44 ∧ c ≠ 34 ∧ c ≠ 92 ∧ c ≠ 123 ∧ blk c = false := by
  refine ⟨?_, ?_, ?_, ?_, ?_⟩
  · rintro rfl; cases f <;> exact absurd h (by decide)
  · rintro rfl; cases f <;> exact absurd h (by decide)
  · rintro rfl; cases f <;> exact absurd h (by decide)
  · rintro rfl; cases f <;> exact absurd h (by decide)
  · cases hb : blk c with
    | false => rfl
    | true => rw [blk_name hb] at h; cases h
theorem nm_all : ∀ (f : Bool) (n : List UInt8), nmB true f n = n → ∀ x ∈ n, nmc false true x = true
  | _, [], _, x, hx => nomatch hx
  | f, c :: r, h, x, hx => by
    unfold nmB at h
    by_cases hc : nmc f true c = true
    · rw [if_pos hc] at h
      have hr : nmB true false r = r := (List.cons.inj h).2
      rcases List.mem_cons.1 hx with rfl | hx
      · unfold nmc at hc ⊢
        cases f with
        | false => exact hc
        | true => simp only [Bool.not_true, Bool.false_and, Bool.or_false, Bool.or_eq_true] at hc ⊢; exact .inl hc
      · exact nm_all false r hr x hx
    · rw [if_neg hc] at h; cases h
theorem Old.ne {n : List UInt8} (h : Old n) : ∀ x ∈ n, x ≠ 44 ∧ x ≠ 34 ∧ x ≠ 92 ∧ x ≠ 123 ∧ blk x = false := fun x hx => nmc_ne (nm_all true n h.2 x hx)
theorem nm_stop {c : UInt8} (hc : nmc false true c = false) (hc2 : nmc true true c = false) (o : List UInt8) : ∀ (f : Bool) (n : List UInt8), nmB true f n = n → nmB true f (n ++ c :: o) = n
  | f, [], _ => by
    show (if nmc f true c = true then _ else []) = []
    cases f
    · rw [hc, if_neg (by simp)]
    · rw [hc2, if_neg (by simp)]
  | f, d :: r, h => by
    unfold nmB at h
    by_cases hd : nmc f true d = true
    · rw [if_pos hd] at h
      have hr : nmB true false r = r := (List.cons.inj h).2
      show (if nmc f true d = true then d :: nmB true false (r ++ c :: o) else []) = _
      rw [if_pos hd, nm_stop hc hc2 o false r hr]
    · rw [if_neg hd] at h; cases h
theorem lt_nb {c : UInt8} (r : List UInt8) (h : blk c = false) : lt (c :: r) = c :: r := by
  unfold lt
  rw [List.dropWhile_cons_of_neg (by rw [h]; simp)]
theorem rt_nb {c : UInt8} (r : List UInt8) (h : blk c = false) : rt (r ++ [c]) = r ++ [c] := by rw [rt_snoc, h, if_neg (by simp)]
theorem pt_body {t : Nat} (ht : t < 2) {n : List UInt8} (hn : Old n) (b : List UInt8) : ptB (n ++ (opL t ++ (34 :: (b ++ [34])))) = some (n, t, 34 :: (b ++ [34])) := by
  obtain ⟨c, r, rfl⟩ := List.exists_cons_of_ne_nil hn.1
  have hb := (hn.ne c (by simp)).2.2.2.2
  unfold ptB
  rw [List.cons_append, lt_nb _ hb]
  dsimp only
  have hnm : nmB true true (c :: (r ++ (opL t ++ (34 :: (b ++ [34]))))) = c :: r := by
    rw [← List.cons_append]
    unfold opL
    split
    · exact nm_stop (by decide) (by decide) _ true _ hn.2
    · exact nm_stop (by decide) (by decide) _ true _ hn.2
  rw [hnm, if_neg (by simp), ← List.cons_append, List.drop_left' rfl]
  have htr : tr (34 :: (b ++ [34])) = 34 :: (b ++ [34]) := by
    unfold tr
    rw [lt_nb _ (by decide), ← List.cons_append, rt_nb _ (by decide)]
  unfold opL
  by_cases h0 : t = 0
  · subst h0
    rw [if_pos rfl]
    show (opB (lt (61 :: 34 :: (b ++ [34])))).map _ = _
    rw [lt_nb _ (by decide)]
    simp [opB, htr]
  · have h1 : t = 1 := by omega
    subst h1
    rw [if_neg (by decide)]
    show (opB (lt (33 :: 61 :: 34 :: (b ++ [34])))).map _ = _
    rw [lt_nb _ (by decide)]
    simp [opB, htr]
theorem pt_print {t : Nat} (ht : t < 2) {n : List UInt8} (hn : Old n) (v : List UInt8) : ptB (prB t n v) = some (n, t, 34 :: (ebB v ++ [34])) := pt_body ht hn (ebB v)
theorem valid_ascii {c : UInt8} (h : c.toNat < 128) (r : List UInt8) : validD (c :: r) = validD r := by
  have hd : decodeL (c :: r) = (c.toNat, 1) := by rw [decodeL_N]; exact decodeN_ascii _ _ _ _ _ h
  rw [validD_step _ (by simp), hd, if_neg (by intro e; have := e.1; dsimp only at this; omega)]
  rfl
theorem eb_app : ∀ (a b : List UInt8), ebB (a ++ b) = ebB a ++ ebB b
  | [], b => rfl
  | c :: a, b => by rw [List.cons_append, ebB, eb_app a b, ebB, List.append_assoc]
theorem eb_high : ∀ (w : List UInt8), (∀ x ∈ w, 128 ≤ x.toNat) → ebB w = w
  | [], _ => rfl
  | c :: w, h => by
    have hc := h c (by simp)
    have h1 : c ≠ 92 := fun e => by rw [e] at hc; exact absurd hc (by decide)
    have h2 : c ≠ 10 := fun e => by rw [e] at hc; exact absurd hc (by decide)
    have h3 : c ≠ 34 := fun e => by rw [e] at hc; exact absurd hc (by decide)
    rw [ebB, eb1, if_neg h1, if_neg h2, if_neg h3, eb_high w (fun x hx => h x (by simp [hx]))]
    rfl
end Go.Proofs.YtbcgcfdpblhddaaDoor.Cl
