/- Sets of numbers (maps to struct{}) in memory as rising lists: what a store, a look-up, a range make of them. -/
import Derived.Test.YtcneoonhdfblaaaMaps
import Derived.Maps.OwnSet
import Derived.Maps.Views
import Derived.Maps.RangeWalk
set_option linter.unusedVariables false
set_option linter.unusedSimpArgs false
namespace Go.Proofs.Ytcneoonhdfblaaa.MapsS
open Go.RowKit Go.Maps Go.WideShapes Go.WideMaps Go.Proofs.YtcneoonhdfblaaaW.PrintWords Go.Proofs.Ytcneoonhdfblaaa.Pure
def keyI (k : Int) : Lit := .int .u64 k
def entI (k : Int) : Lit × DataW Unit := (keyI k, .agg [])
def toI (m : List Int) : DataW Unit := .map (m.map entI)
def RiseI (m : List Int) : Prop := m.Pairwise (· < ·)
def insI (k : Int) : List Int → List Int
  | [] => [k]
  | p :: r => if k = p then p :: r else if k < p then k :: p :: r else p :: insI k r
def inI (k : Int) (m : List Int) : Bool := m.any fun x => decide (k = x)
theorem inI_iff {s : Int} {ks : List Int} : inI s ks = true ↔ s ∈ ks := by
  unfold inI
  rw [List.any_eq_true]
  exact ⟨fun ⟨k, hk, e⟩ => by rw [of_decide_eq_true e]; exact hk, fun h => ⟨s, h, decide_eq_true rfl⟩⟩
theorem keyI_before (a b : Int) : (keyI a).before (keyI b) = decide (a < b) := rfl
theorem keyI_same (a b : Int) : (keyI a).sameKey (keyI b) = decide (a = b) := by
  show decide (IntKind.u64 = IntKind.u64 ∧ a = b) = _
  simp
theorem mem_insI {k q : Int} : ∀ {m : List Int}, q ∈ insI k m ↔ q = k ∨ q ∈ m
  | [] => by simp [insI]
  | p :: r => by
    have ih := mem_insI (k := k) (q := q) (m := r)
    unfold insI
    split
    · rename_i e
      subst e
      simp
    · split
      · simp
      · rw [List.mem_cons, ih, List.mem_cons]
        constructor
        · rintro (h | h | h)
          · exact .inr (.inl h)
          · exact .inl h
          · exact .inr (.inr h)
        · rintro (h | h | h)
          · exact .inr (.inl h)
          · exact .inl h
          · exact .inr (.inr h)
theorem rise_insI {k : Int} : ∀ {m : List Int}, RiseI m → RiseI (insI k m)
  | [], _ => List.pairwise_singleton _ _
  | p :: r, h => by
    obtain ⟨h1, h2⟩ := List.pairwise_cons.1 h
    unfold insI
    split
    · exact h
    · rename_i e
      split
      · rename_i hl
        refine List.pairwise_cons.2 ⟨fun q hq => ?_, h⟩
        rcases List.mem_cons.1 hq with rfl | hq
        · exact hl
        · exact Int.lt_trans hl (h1 q hq)
      · rename_i hl
        refine List.pairwise_cons.2 ⟨fun q hq => ?_, rise_insI h2⟩
        rcases mem_insI.1 hq with rfl | hq
        · omega
        · exact h1 q hq
theorem put_insI {k : Int} : ∀ {m : List Int}, RiseI m → (toI m).put (keyI k) (.agg []) = toI (insI k m) := by
  have key : ∀ {m : List Int}, RiseI m → DataW.insert (entI k) ((m.map entI).filter fun p => !p.1.sameKey (keyI k)) = (insI k m).map entI := by
    intro m
    induction m with
    | nil => intro _; rfl
    | cons p r ih =>
      intro h
      obtain ⟨h1, h2⟩ := List.pairwise_cons.1 h
      have far : ∀ (hk : ∀ q ∈ r, k < q), (r.map entI).filter (fun p => !p.1.sameKey (keyI k)) = r.map entI ∧ DataW.insert (entI k) (r.map entI) = entI k :: r.map entI := by
        intro hk
        constructor
        · rw [List.filter_eq_self]
          intro x hx
          obtain ⟨q, hq, rfl⟩ := List.mem_map.1 hx
          show (!(keyI q).sameKey (keyI k)) = true
          rw [keyI_same]
          have := hk q hq
          rw [decide_eq_false (by omega)]
          rfl
        · cases r with
          | nil => rfl
          | cons y s =>
            show (if (keyI k).before (keyI y) = true then _ else _) = _
            rw [if_pos (by rw [keyI_before]; exact decide_eq_true (hk y List.mem_cons_self))]
            rfl
      unfold insI
      by_cases e : k = p
      · rw [if_pos e]
        have hk : ∀ q ∈ r, k < q := fun q hq => by rw [e]; exact h1 q hq
        have hs : (!(entI p).1.sameKey (keyI k)) = false := by
          show (!(keyI p).sameKey (keyI k)) = false
          rw [keyI_same, e]
          simp
        rw [List.map_cons, List.filter_cons, hs, if_neg (by simp), (far hk).1, (far hk).2, e]
      · rw [if_neg e]
        have hs : (!(entI p).1.sameKey (keyI k)) = true := by
          show (!(keyI p).sameKey (keyI k)) = true
          rw [keyI_same, decide_eq_false (Ne.symm e)]
          rfl
        rw [List.map_cons, List.filter_cons, hs, if_pos rfl]
        by_cases hl : k < p
        · rw [if_pos hl]
          have hk : ∀ q ∈ r, k < q := fun q hq => Int.lt_trans hl (h1 q hq)
          rw [(far hk).1]
          show (if (keyI k).before (keyI p) = true then _ else _) = _
          rw [if_pos (by rw [keyI_before]; exact decide_eq_true hl)]
          rfl
        · rw [if_neg hl]
          show (if (keyI k).before (keyI p) = true then _ else _) = _
          rw [if_neg (by rw [keyI_before]; simpa using hl), ih h2]
          rfl
  intro m h
  show DataW.map _ = DataW.map _
  rw [← key h]
  rfl
theorem has_toI (k : Int) : ∀ m : List Int, Go.Maps.has (toI m) (keyI k) = inI k m
  | [] => rfl
  | p :: r => by
    have ih := has_toI k r
    show ((keyI p).sameKey (keyI k) || Go.Maps.has (toI r) (keyI k)) = _
    rw [ih, keyI_same]
    show _ = (decide (k = p) || inI k r)
    congr 1
    exact decide_eq_decide.2 eq_comm
theorem size_toI (m : List Int) : Go.Maps.size (toI m) = m.length := by simp [toI, Go.Maps.size]
theorem riseI_nodup {m : List Int} (h : RiseI m) : m.Nodup := h.imp (fun h e => by omega)
theorem riseI_perm {a b : List Int} (h1 : RiseI a) (h2 : RiseI b) (hp : a.Perm b) : a = b :=
  List.Perm.eq_of_pairwise (fun x y _ _ h h' => by exact absurd h (by have := h'; omega)) h1 h2 hp
theorem riseI_ext {a b : List Int} (h1 : RiseI a) (h2 : RiseI b) (h : ∀ x, x ∈ a ↔ x ∈ b) : a = b :=
  riseI_perm h1 h2 ((List.perm_ext_iff_of_nodup (riseI_nodup h1) (riseI_nodup h2)).2 h)
def OkI (x : Int) : Prop := (Lit.int .u64 x).wf = true
section
variable {P : Program} {t k e : TypeId} {w w' : World} {b n : Nat} {m : List Int}
/-- Block b is a set of at most n numbers, and these are m. -/
def IsIS (P : Program) (k : TypeId) (w : World) (b n : Nat) (m : List Int) : Prop :=
  w.ownsMap P k (unitElem (H := Unit)) b n (toI m) ∧ RiseI m ∧ ∀ x ∈ m, OkI x
theorem IsIS.made (w : World) (P : Program) (k : TypeId) : IsIS P k (w.alloc (.map #[] 0)) w.heap.size 0 [] := ⟨World.ownsMap_made w P k _, List.Pairwise.nil, fun p hp => by simp at hp⟩
theorem IsIS.lt (h : IsIS P k w b n m) : b < w.heap.size := h.1.lt
theorem IsIS.kept (h : IsIS P k w b n m) {row : Option Nat} (hg : w.grownBy w' row) (hne : some b ≠ row) : IsIS P k w' b n m := ⟨h.1.kept hg hne, h.2⟩
theorem IsIS.below (h : IsIS P k w b n m) (hb : Below w.heap.size w w') : IsIS P k w' b n m := h.kept (grown_of_below hb none) (by simp)
theorem IsIS.alloc (h : IsIS P k w b n m) (o : Obj) : IsIS P k (w.alloc o) b n m := ⟨h.1.alloc o, h.2⟩
theorem IsIS.mono (h : IsIS P k w b n m) {j : Nat} (hj : n ≤ j) : IsIS P k w b j m := ⟨h.1.mono hj, h.2⟩
theorem IsIS.len_le (h : IsIS P k w b n m) : m.length ≤ n := by have := h.1.size_le; rwa [size_toI] at this
theorem IsIS.store (ht : P.underlying t = some (.map k e)) (hk : P.underlying k = some (.int .u64)) (h : IsIS P k w b n m) (hn : n < maxLen) {key : Int} (h1 : OkI key) :
    ∃ w', (Instr.mapUpdate t (.map (some b)) (.int .u64 key) (.agg #[])).run P w = .ok () w' ∧ IsIS P k w' b (n + 1) (insI key m) ∧ w.grownBy w' (some b) := by
  obtain ⟨w', hr, ho, hg⟩ := h.1.update (int_keyed hk) ht hn (key := .int .u64 key) (keyOf_int_mk hk h1) (unitElem_mk (H := Unit))
  refine ⟨w', hr, ⟨?_, rise_insI h.2.1, fun p hp => ?_⟩, hg⟩
  · rw [← put_insI h.2.1]
    exact ho
  · rcases mem_insI.1 hp with rfl | hp
    · exact h1
    · exact h.2.2 p hp
theorem wpList_store_is {ops : Array Oper} {rest : List Oper} {o : Oper} {a : Act} {Q : Exit → Act → World → Prop}
    (hg : o.guard = none) (mo x v : Operand) (hop : o.op = Op.mapUpdate t mo x v) (ht : P.underlying t = some (.map k e)) (hk : P.underlying k = some (.int .u64))
    (hm : a.eval mo = .map (some b)) (h : IsIS P k w b n m) (hn : n < maxLen) {key : Int} (hx : a.eval x = .int .u64 key) (hv : a.eval v = .agg #[]) (h1 : OkI key)
    (hK : ∀ w', IsIS P k w' b (n + 1) (insI key m) → w.grownBy w' (some b) → wpList P ops Q rest (a.put o.dst undef) w') : wpList P ops Q (o :: rest) a w := by
  refine wpList_plain hg fun K' hK' => ?_
  obtain ⟨w', hrun, r1, r2⟩ := h.store ht hk hn h1
  unfold Oper.wp
  simp [execOp, hop, hm, hx, hv, hrun, Result.andThen]
  exact hK' _ _ (hK w' r1 r2)
theorem IsIS.look_ok_run (ht : P.underlying t = some (.map k e)) (hk : P.underlying k = some (.int .u64)) (hz : (zeroValue e).run P w = .ok (.agg #[]) w) (h : IsIS P k w b n m) {key : Int} (h1 : OkI key) :
    (Instr.lookup t (.map (some b)) (.int .u64 key) true).run P w = .ok (.tuple #[.agg #[], .bool (inI key m)]) w := by
  obtain ⟨v, ps, hr, hv⟩ := h.1.look_ok (int_keyed hk) ht hz (unitElem_mk (H := Unit)) (key := .int .u64 key) (keyOf_int_mk hk h1)
  obtain ⟨rfl, _⟩ := unitElem_inv hv
  rw [hr, show (Lit.int .u64 key) = keyI key from rfl, has_toI]
theorem IsIS.len_run (ht : P.underlying t = some (.map k e)) (h : IsIS P k w b n m) (ty : TypeId) : (Builtin.len_ #[t] ty #[.map (some b)]).run P w = .ok (.int .i64 m.length) w := by
  rw [h.1.len ht ty, size_toI]
/-- A range over the set is under way: block r is the iterator; what has come, in its order, is 'seen'. -/
def RIS (P : Program) (k : TypeId) (w : World) (b r n : Nat) (m seen : List Int) : Prop :=
  ∃ left cnt, w.ranges P k (unitElem (H := Unit)) b r n (toI m) left cnt ∧ (∀ p ∈ m, left (keyI p) = true ↔ p ∉ seen) ∧ (∀ p ∈ seen, p ∈ m) ∧ seen.Nodup ∧ RiseI m ∧ (∀ p ∈ m, OkI p)
theorem RIS.isIS {r : Nat} {seen : List Int} (h : RIS P k w b r n m seen) : IsIS P k w b n m := by
  obtain ⟨left, cnt, h1, _, _, _, h2⟩ := h
  exact ⟨h1.owns, h2⟩
theorem RIS.kept {r : Nat} {seen : List Int} (h : RIS P k w b r n m seen) {row : Option Nat} (hg : w.grownBy w' row) (hb : some b ≠ row) (hr : some r ≠ row) : RIS P k w' b r n m seen := by
  obtain ⟨left, cnt, h1, h2⟩ := h
  exact ⟨left, cnt, h1.kept hg hb hr, h2⟩
theorem wpList_range_is {ops : Array Oper} {rest : List Oper} {o : Oper} {a : Act} {Q : Exit → Act → World → Prop} (hg : o.guard = none) (mo : Operand) (hop : o.op = Op.range t mo) (ht : P.underlying t = some (.map k e)) (hk : P.underlying k = some (.int .u64))
    (hm : a.eval mo = .map (some b)) (h : IsIS P k w b n m)
    (hK : ∀ w' r, r = w.heap.size → RIS P k w' b r n m [] → w.grownBy w' none → w'.heap.size = w.heap.size + 1 → wpList P ops Q rest (a.put o.dst (.pointer (some ⟨r, 0, none⟩))) w') : wpList P ops Q (o :: rest) a w := by
  refine wpList_range_own w hg mo t hop k e (int_keyed hk) ht _ b n (toI m) hm h.1 (fun w' h1 h2 h3 => ?_)
  refine hK w' _ rfl ⟨_, _, h1, fun p hp => ?_, fun p hp => by simp at hp, List.nodup_nil, h.2⟩ h2 h3
  rw [has_toI, inI_iff]
  exact ⟨fun _ hq => by simp at hq, fun _ => hp⟩
theorem wpList_next_is {ops : Array Oper} {rest : List Oper} {o : Oper} {a : Act} {Q : Exit → Act → World → Prop} (hg : o.guard = none) (it : Operand) (hop : o.op = Op.next it false) (hk : P.underlying k = some (.int .u64))
    {r : Nat} {seen : List Int} (hit : a.eval it = .pointer (some ⟨r, 0, none⟩)) (h : RIS P k w b r n m seen)
    (hDone : seen.Perm m → wpList P ops Q rest (a.put o.dst (.tuple #[.bool false])) w)
    (hMore : ∀ (x : Int) (w' : World), x ∈ m → x ∉ seen → RIS P k w' b r n m (seen ++ [x]) → w'.rangeLeft b r < w.rangeLeft b r → w.grownBy w' (some r) → w'.heap.size = w.heap.size →
      (Instr.entry (.pointer (some ⟨r, 0, none⟩))).run P w' = .ok (.tuple #[.int .u64 x, .agg #[]]) w' → wpList P ops Q rest (a.put o.dst (.tuple #[.bool true, .int .u64 x, .agg #[]])) w') : wpList P ops Q (o :: rest) a w := by
  obtain ⟨left, cnt, hr, hl, hs, hn, hm1, hm2⟩ := h
  refine wpList_next_ranges w hg it hop k (int_keyed hk) _ (Value.int .u64) (fun _ : Unit => Value.agg #[]) (fun key kl hkey => ?_) (fun v y hv => ?_) b r n (toI m) left cnt hit hr (fun h0 hall => ?_) (fun x c kl y w' cnt' hkey hlk hv hat hrg hlt hgr hsz hen => ?_)
  · obtain ⟨s, rfl, _⟩ := Maps.keyOf_int_inv hk hkey
    exact ⟨s, rfl⟩
  · obtain ⟨rfl, _⟩ := unitElem_inv hv
    exact ⟨(), rfl⟩
  · refine hDone ((List.perm_ext_iff_of_nodup hn (riseI_nodup hm1)).2 fun p => ⟨hs p, fun hp => ?_⟩)
    refine Classical.not_not.1 fun hq => ?_
    have h1 := (hl p hp).2 hq
    rw [hall] at h1
    cases h1
  · have hkl : kl = keyI x := by
      obtain ⟨s, es, e2, _⟩ := Maps.keyOf_int_inv hk hkey
      cases es
      exact e2
    subst hkl
    obtain ⟨_, hy⟩ := unitElem_inv hv
    have hmem : x ∈ m := by
      refine inI_iff.1 ?_
      rw [← has_toI]
      refine Classical.byContradiction fun hc => ?_
      have h1 := hat (.lit (.bool true))
      rw [hy] at h1
      have h2 : (toI m).atKey (keyI x) (.lit (.bool true)) = .lit (.bool true) := by
        unfold toI DataW.atKey
        have : (m.map entI).find? (fun p => p.1.sameKey (keyI x)) = none := by
          rw [List.find?_eq_none]
          intro q hq hq2
          refine hc ?_
          unfold toI Go.Maps.has
          exact List.any_eq_true.2 ⟨q, hq, hq2⟩
        simp only [this]
      rw [h2] at h1
      cases h1
    have hnot : x ∉ seen := (hl _ hmem).1 hlk
    refine hMore x w' hmem hnot ⟨_, _, hrg, fun p hp => ?_, fun p hp => ?_, ?_, hm1, hm2⟩ (by rw [hrg.left_eq, hr.left_eq]; exact hlt) hgr hsz hen
    · have h1 := hl p hp
      show (left (keyI p) && !(keyI p).sameKey (keyI x)) = true ↔ _
      rw [keyI_same, Bool.and_eq_true, h1, List.mem_append, List.mem_singleton]
      by_cases e1 : p = x
      · subst e1
        simp
      · simp [e1]
    · rcases List.mem_append.1 hp with hp | hp
      · exact hs p hp
      · rw [List.mem_singleton.1 hp]
        exact hmem
    · exact List.nodup_append.2 ⟨hn, List.nodup_cons.2 ⟨by simp, List.nodup_nil⟩, fun a ha b hb e1 => hnot (by rw [← List.mem_singleton.1 hb, ← e1]; exact ha)⟩
end
end Go.Proofs.Ytcneoonhdfblaaa.MapsS
