/- The old reader over lists of bytes: what it answers, held against the reference's words. -/
namespace Go.Proofs.YtbcgcfdpblhddaaDoor.Cl
set_option linter.unusedVariables false
set_option linter.unusedSimpArgs false
/-- The third token, as the old reader reads it: what it stands for, and whether a quote at its end is still missing. -/
def cvB : List UInt8 → Bool → Bool → Option (List UInt8 × Bool)
  | [], _, ex => some ([], ex)
  | c :: r, true, ex => (cvB r false ex).map fun q => ((if c = 110 then [10] else if c = 34 ∨ c = 92 then [c] else [92, c]) ++ q.1, q.2)
  | c :: r, false, ex => if c = 92 then (if r = [] then some ([92], ex) else cvB r true ex) else if c = 34 then (if ex = false ∨ r ≠ [] then none else some ([], false)) else (cvB r false ex).map fun q => (c :: q.1, q.2)
/-- What the reference says of it, without the quotes around it. -/
def esB : List UInt8 → Option (List UInt8)
  | [] => some []
  | [c] => if c = 34 then none else some [c]
  | c :: d :: r => if c = 34 then none else if c = 92 then (if d = 110 then (esB r).map (10 :: ·) else if d = 34 ∨ d = 92 then (esB r).map (d :: ·) else (esB (d :: r)).map (92 :: ·)) else (esB (d :: r)).map (c :: ·)
/-- Whether what follows is escaped. -/
def stB : List UInt8 → Bool → Bool
  | [], e => e
  | c :: r, e => if c = 92 then stB r (!e) else stB r false
theorem esB_plain {c : UInt8} {r : List UInt8} (h1 : c ≠ 34) (h2 : c ≠ 92) : esB (c :: r) = (esB r).map (c :: ·) := by
  cases r with
  | nil => simp [esB, h1]
  | cons d r => rw [esB, if_neg h1, if_neg h2]
/-- What an escape stands for. -/
def escO (d : UInt8) : List UInt8 := if d = 110 then [10] else if d = 34 ∨ d = 92 then [d] else [92, d]
theorem cv_esc (d : UInt8) (r : List UInt8) (ex : Bool) : cvB (92 :: d :: r) false ex = (cvB r false ex).map fun q => (escO d ++ q.1, q.2) := by simp [cvB, escO]
theorem cv_plain {c : UInt8} (r : List UInt8) (ex : Bool) (h1 : c ≠ 34) (h2 : c ≠ 92) : cvB (c :: r) false ex = (cvB r false ex).map fun q => (c :: q.1, q.2) := by simp [cvB, h1, h2]
theorem es_esc (d : UInt8) (r : List UInt8) : esB (92 :: d :: r) = (esB r).map (escO d ++ ·) := by
  by_cases h3 : d = 110
  · subst h3; simp [esB, escO]
  · by_cases h4 : d = 34 ∨ d = 92
    · simp [esB, escO, h3, h4]
    · have h5 : d ≠ 34 := fun e => h4 (.inl e)
      have h6 : d ≠ 92 := fun e => h4 (.inr e)
      have := esB_plain (r := r) h5 h6
      simp [esB, escO, h3, h4, this, Function.comp_def]
theorem es_quote (r : List UInt8) : esB (34 :: r) = none := by cases r <;> simp [esB]
theorem cv_open : ∀ (n : Nat) (l : List UInt8), l.length ≤ n → cvB l false false = (esB l).map (·, false) := by
  intro n
  induction n with
  | zero =>
    intro l h
    obtain rfl := List.eq_nil_of_length_eq_zero (show l.length = 0 by omega)
    rfl
  | succ n ih =>
    intro l h
    match l, h with
    | [], _ => rfl
    | c :: r, h =>
      simp only [List.length_cons] at h
      by_cases h1 : c = 34
      · subst h1; rw [es_quote]; rfl
      · by_cases h2 : c = 92
        · subst h2
          cases r with
          | nil => rfl
          | cons d r =>
            simp only [List.length_cons] at h
            rw [cv_esc, es_esc, ih r (by omega)]
            simp [Function.comp_def]
        · rw [cv_plain r _ h1 h2, esB_plain h1 h2, ih r (by omega)]
          simp [Function.comp_def]
theorem st_esc (d : UInt8) (r : List UInt8) : stB (92 :: d :: r) false = stB r false := by
  by_cases h : d = 92 <;> simp [stB, h]
theorem cv_quoted : ∀ (n : Nat) (l : List UInt8), l.length ≤ n → stB l false = false → cvB (l ++ [34]) false true = (esB l).map (·, false) := by
  intro n
  induction n with
  | zero =>
    intro l h _
    obtain rfl := List.eq_nil_of_length_eq_zero (show l.length = 0 by omega)
    rfl
  | succ n ih =>
    intro l h hs
    match l, h, hs with
    | [], _, _ => rfl
    | c :: r, h, hs =>
      simp only [List.length_cons] at h
      by_cases h1 : c = 34
      · subst h1; rw [es_quote]; simp [cvB]
      · by_cases h2 : c = 92
        · subst h2
          cases r with
          | nil => exact absurd hs (by decide)
          | cons d r =>
            simp only [List.length_cons] at h
            rw [st_esc] at hs
            show cvB (92 :: d :: (r ++ [34])) false true = _
            rw [cv_esc, es_esc, ih r (by omega) hs]
            simp [Function.comp_def]
        · have hs2 : stB r false = false := by
            rw [stB, if_neg h2] at hs; exact hs
          show cvB (c :: (r ++ [34])) false true = _
          rw [cv_plain _ _ h1 h2, esB_plain h1 h2, ih r (by omega) hs2]
          simp [Function.comp_def]
/-- A text is cut at its commas outside of quotes. -/
def spB : List UInt8 → Bool → Bool → List UInt8 → List (List UInt8)
  | [], _, _, tok => [tok]
  | c :: r, q, e, tok => if c = 44 then (if q = true then spB r q e (tok ++ [c]) else tok :: spB r q e []) else if c = 34 then spB r (if e = true then q else !q) false (tok ++ [c]) else if c = 92 then spB r q (!e) (tok ++ [c]) else spB r q false (tok ++ [c])
/-- .. as the reference cuts it; none: an escaped comma. -/
def paB : List UInt8 → Bool → Bool → List UInt8 → Option (List (List UInt8))
  | [], _, _, tok => some [tok]
  | c :: r, q, e, tok => if c = 44 then (if e = true then none else if q = true then paB r q false (tok ++ [c]) else (paB r q false []).map (tok :: ·)) else if c = 34 then paB r (if e = true then q else !q) false (tok ++ [c]) else if c = 92 then paB r q (!e) (tok ++ [c]) else paB r q false (tok ++ [c])
theorem pa_sp : ∀ (l : List UInt8) (q e : Bool) (tok : List UInt8) (ts : List (List UInt8)), paB l q e tok = some ts → spB l q e tok = ts
  | [], q, e, tok, ts, h => Option.some.inj h
  | c :: r, q, e, tok, ts, h => by
    unfold paB at h
    unfold spB
    by_cases h1 : c = 44
    · rw [if_pos h1] at h ⊢
      cases e with
      | true => exact nomatch h
      | false =>
        rw [if_neg (by simp)] at h
        by_cases hq : q = true
        · rw [if_pos hq] at h ⊢; exact pa_sp r _ _ _ _ h
        · rw [if_neg hq] at h ⊢
          obtain ⟨x, hx, rfl⟩ := Option.map_eq_some_iff.1 h
          rw [pa_sp r _ _ _ _ hx]
    · rw [if_neg h1] at h ⊢
      by_cases h2 : c = 34
      · rw [if_pos h2] at h ⊢; exact pa_sp r _ _ _ _ h
      · rw [if_neg h2] at h ⊢
        by_cases h3 : c = 92
        · rw [if_pos h3] at h ⊢; exact pa_sp r _ _ _ _ h
        · rw [if_neg h3] at h ⊢; exact pa_sp r _ _ _ _ h
/-- White space of both readers. -/
def blk (c : UInt8) : Bool := decide (c = 32 ∨ c = 9 ∨ c = 10 ∨ c = 12 ∨ c = 13)
def nmc (first colon : Bool) (c : UInt8) : Bool := decide (97 ≤ c.toNat ∧ c.toNat ≤ 122 ∨ 65 ≤ c.toNat ∧ c.toNat ≤ 90 ∨ c = 95) || (colon && decide (c = 58)) || (!first && decide (48 ≤ c.toNat ∧ c.toNat ≤ 57))
def nmB (colon : Bool) : Bool → List UInt8 → List UInt8
  | _, [] => []
  | f, c :: r => if nmc f colon c = true then c :: nmB colon false r else []
def rt (l : List UInt8) : List UInt8 := (l.reverse.dropWhile blk).reverse
def lt (l : List UInt8) : List UInt8 := l.dropWhile blk
def tr (l : List UInt8) : List UInt8 := rt (lt l)
/-- The operator: its number, and what follows. -/
def opB : List UInt8 → Option (Nat × List UInt8)
  | c :: d :: r => if c = 61 ∧ d = 126 then some (2, r) else if c = 33 ∧ d = 61 then some (1, r) else if c = 33 ∧ d = 126 then some (3, r) else if c = 61 then some (0, d :: r) else none
  | [c] => if c = 61 then some (0, []) else none
  | [] => none
/-- The parts of a matcher: name, operator, third token. -/
def ptB (l : List UInt8) : Option (List UInt8 × Nat × List UInt8) :=
  let t := lt l
  let n := nmB true true t
  if n = [] then none else (opB (lt (t.drop n.length))).map fun q => (n, q.1, tr q.2)
theorem rt_snoc (l : List UInt8) (c : UInt8) : rt (l ++ [c]) = if blk c = true then rt l else l ++ [c] := by
  unfold rt
  rw [List.reverse_append, List.reverse_singleton, List.singleton_append, List.dropWhile_cons]
  split <;> simp
theorem rt_blank {b : List UInt8} (l : List UInt8) (h : ∀ x ∈ b, blk x = true) : rt (l ++ b) = rt l := by
  unfold rt
  rw [List.reverse_append, List.dropWhile_append_of_pos (by simpa using h)]
theorem rt_split (l : List UInt8) : ∃ b, (∀ x ∈ b, blk x = true) ∧ l = rt l ++ b := by
  refine ⟨(l.reverse.takeWhile blk).reverse, fun x hx => ?_, ?_⟩
  · exact (List.all_eq_true.1 (List.all_takeWhile (p := blk) (l := l.reverse))) x (List.mem_reverse.1 hx)
  · unfold rt
    rw [← List.reverse_append, List.takeWhile_append_dropWhile, List.reverse_reverse]
theorem rt_suffix {t u : List UInt8} (h : rt t = t) (hu : u <:+ t) : rt u = u := by
  obtain ⟨p, rfl⟩ := hu
  rcases List.eq_nil_or_concat u with rfl | ⟨v, c, rfl⟩
  · rfl
  · simp only [List.concat_eq_append] at h ⊢
    rw [← List.append_assoc, rt_snoc] at h
    rw [rt_snoc]
    by_cases hb : blk c = true
    · rw [if_pos hb] at h
      obtain ⟨b, _, e⟩ := rt_split (p ++ v)
      have h1 := congrArg List.length h
      have h2 := congrArg List.length e
      simp only [List.length_append, List.length_singleton] at h1 h2
      omega
    · rw [if_neg hb]
theorem rt_rt (l : List UInt8) : rt (rt l) = rt l := by
  obtain ⟨b, hb, e⟩ := rt_split l
  have h := rt_blank (rt l) hb
  rw [← e] at h
  exact h.symm
theorem lt_suffix (l : List UInt8) : lt l <:+ l := List.dropWhile_suffix _
theorem lt_lt (l : List UInt8) : lt (lt l) = lt l := by
  unfold lt
  induction l with
  | nil => rfl
  | cons c r ih =>
    by_cases h : blk c = true
    · rw [List.dropWhile_cons_of_pos h, ih]
    · rw [List.dropWhile_cons_of_neg h, List.dropWhile_cons_of_neg h]
theorem lt_app {b : List UInt8} (l : List UInt8) (h : ∀ x ∈ b, blk x = true) : lt (l ++ b) = if lt l = [] then [] else lt l ++ b := by
  unfold lt
  induction l with
  | nil =>
    rw [List.nil_append, List.dropWhile_nil, if_pos rfl]
    induction b with
    | nil => rfl
    | cons c r ih => rw [List.dropWhile_cons_of_pos (h c (by simp)), ih (fun x hx => h x (by simp [hx]))]
  | cons c r ih =>
    by_cases hc : blk c = true
    · rw [List.cons_append, List.dropWhile_cons_of_pos hc, List.dropWhile_cons_of_pos hc, ih]
    · rw [List.cons_append, List.dropWhile_cons_of_neg hc, List.dropWhile_cons_of_neg hc, if_neg (by simp)]
      rfl
theorem tr_blank {b : List UInt8} (l : List UInt8) (h : ∀ x ∈ b, blk x = true) : tr (l ++ b) = tr l := by
  unfold tr
  rw [lt_app l h]
  split
  · rename_i e; rw [e]
  · exact rt_blank _ h
theorem blk_name {c : UInt8} {f o : Bool} (h : blk c = true) : nmc f o c = false := by
  have h2 := of_decide_eq_true h
  unfold nmc
  rcases h2 with rfl | rfl | rfl | rfl | rfl <;> cases f <;> cases o <;> decide
theorem nm_blank {b : List UInt8} (o : Bool) (h : ∀ x ∈ b, blk x = true) : ∀ (f : Bool) (a : List UInt8), nmB o f (a ++ b) = nmB o f a
  | f, [] => by
    cases b with
    | nil => rfl
    | cons c r =>
      show (if nmc f o c = true then _ else []) = []
      rw [blk_name (h c (by simp)), if_neg (by simp)]
  | f, c :: r => by
    show (if nmc f o c = true then c :: nmB o false (r ++ b) else []) = if nmc f o c = true then c :: nmB o false r else []
    rw [nm_blank o h false r]
theorem nm_le (o : Bool) : ∀ (f : Bool) (a : List UInt8), (nmB o f a).length ≤ a.length
  | _, [] => Nat.le_refl _
  | f, c :: r => by
    show (if nmc f o c = true then c :: nmB o false r else []).length ≤ _
    split
    · simp only [List.length_cons]; have := nm_le o false r; omega
    · simp
theorem op_blank {b : List UInt8} (y : List UInt8) (hy : y ≠ []) (h : ∀ x ∈ b, blk x = true) : opB (y ++ b) = (opB y).map fun q => (q.1, q.2 ++ b) := by
  match y, hy with
  | [c], _ =>
    cases b with
    | nil => cases hq : opB [c] <;> simp [hq]
    | cons d r =>
      have hd := of_decide_eq_true (h d (by simp))
      have e1 : d ≠ 126 := by rcases hd with rfl | rfl | rfl | rfl | rfl <;> decide
      have e2 : d ≠ 61 := by rcases hd with rfl | rfl | rfl | rfl | rfl <;> decide
      by_cases hc : c = 61 <;> simp [opB, e1, e2, hc]
  | c :: d :: r, _ =>
    show opB (c :: d :: (r ++ b)) = _
    by_cases h1 : c = 61 ∧ d = 126
    · simp [opB, h1]
    · by_cases h2 : c = 33 ∧ d = 61
      · simp [opB, h2]
      · by_cases h3 : c = 33 ∧ d = 126
        · simp [opB, h3]
        · by_cases h4 : c = 61
          · simp [opB, h4]
            split <;> simp
          · simp [opB, h1, h2, h3, h4]
theorem pt_blank {b : List UInt8} (l : List UInt8) (h : ∀ x ∈ b, blk x = true) : ptB (l ++ b) = ptB l := by
  unfold ptB
  rw [lt_app l h]
  by_cases e : lt l = []
  · rw [if_pos e, e]
  · rw [if_neg e]
    dsimp only
    rw [nm_blank true h true (lt l)]
    have hle := nm_le true true (lt l)
    by_cases e2 : nmB true true (lt l) = []
    · rw [if_pos e2, if_pos e2]
    · rw [if_neg e2, if_neg e2, List.drop_append_of_le_length hle, lt_app _ h]
      by_cases e3 : lt ((lt l).drop (nmB true true (lt l)).length) = []
      · rw [if_pos e3, e3]
      · rw [if_neg e3, op_blank _ e3 h, Option.map_map]
        congr 1
        funext q
        show (_, _, tr (q.2 ++ b)) = _
        rw [tr_blank _ h]
theorem pt_tr (l : List UInt8) : ptB (tr l) = ptB l := by
  have h1 : ptB (lt l) = ptB l := by unfold ptB; rw [lt_lt]
  obtain ⟨b, hb, e⟩ := rt_split (lt l)
  have h2 := pt_blank (rt (lt l)) hb
  rw [← e, h1] at h2
  exact h2.symm
theorem lt_rt_id {l : List UInt8} (h : lt l = l) : lt (rt l) = rt l := by
  obtain ⟨b, hb, e⟩ := rt_split l
  cases hr : rt l with
  | nil => rfl
  | cons c r =>
    rw [hr] at e
    have hc : blk c ≠ true := fun hc => by
      rw [e] at h
      unfold lt at h
      rw [List.cons_append, List.dropWhile_cons_of_pos hc] at h
      have := (List.dropWhile_suffix (l := r ++ b) blk).length_le
      rw [h] at this
      simp at this
      omega
    unfold lt
    rw [List.dropWhile_cons_of_neg hc]
theorem tr_facts (l : List UInt8) : lt (tr l) = tr l ∧ rt (tr l) = tr l := ⟨lt_rt_id (lt_lt l), rt_rt _⟩
theorem tr_tr (l : List UInt8) : tr (tr l) = tr l := by
  obtain ⟨h1, h2⟩ := tr_facts l
  show rt (lt (tr l)) = _
  rw [h1, h2]
/-- Of a text without white space at its end: what is left of it has none there. -/
theorem tr_drop {t : List UInt8} (h : rt t = t) (n : Nat) : tr (t.drop n) = lt (t.drop n) := rt_suffix h ((lt_suffix _).trans (List.drop_suffix n t))
/-- The parts, as the reference takes them. -/
theorem pt_spec (l : List UInt8) : ptB l = let t := tr l; let n := nmB true true t; if n = [] then none else (opB (tr (t.drop n.length))).map fun q => (n, q.1, tr q.2) := by
  rw [← pt_tr l]
  obtain ⟨h1, h2⟩ := tr_facts l
  unfold ptB
  dsimp only
  rw [h1, tr_drop h2]
end Go.Proofs.YtbcgcfdpblhddaaDoor.Cl
