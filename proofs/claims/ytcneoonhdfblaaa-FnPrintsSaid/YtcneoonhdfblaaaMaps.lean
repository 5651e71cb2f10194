/- Maps from texts to texts as sorted lists: what a store, a look-up, a range make of them. -/
import Derived.Maps.StringElems
import Derived.Maps.Ext
import Derived.Lib.Strings
import Derived.Test.YtcneoonhdfblaaaLib
set_option linter.unusedVariables false
set_option linter.unusedSimpArgs false
namespace Go.Proofs.Ytcneoonhdfblaaa.MapsS
open Go.RowKit Go.Maps Go.WideShapes Go.WideMaps Go.Proofs.YtcneoonhdfblaaaW.PrintWords Go.Proofs.Ytcneoonhdfblaaa.Pure

/-- A map as the list of its entries, by rising keys. -/
abbrev SM := List (ByteArray × ByteArray)
def keyL (k : ByteArray) : Lit := .string k.data.toList
def ent (p : ByteArray × ByteArray) : Lit × DataW Unit := (keyL p.1, .lit (.string p.2.data.toList))
def toD (m : SM) : DataW Unit := .map (m.map ent)
def Rises (m : SM) : Prop := m.Pairwise (fun p q => Op.bytesLess p.1.toList q.1.toList = true)
def ins (k v : ByteArray) : SM → SM
  | [] => [(k, v)]
  | p :: r => if k = p.1 then (k, v) :: r else if Op.bytesLess k.toList p.1.toList = true then (k, v) :: p :: r else p :: ins k v r
def look (k : ByteArray) : SM → Option ByteArray
  | [] => none
  | p :: r => if k = p.1 then some p.2 else look k r

theorem look_cons (k : ByteArray) (p : ByteArray × ByteArray) (r : SM) : look k (p :: r) = if k = p.1 then some p.2 else look k r := rfl
theorem ba_ext {a b : ByteArray} (h : a.data.toList = b.data.toList) : a = b := ByteArray.ext (Array.toList_inj.1 h)
theorem ba_ext' {a b : ByteArray} (h : a.toList = b.toList) : a = b := ba_ext (by rw [← Lib.toList_data, ← Lib.toList_data]; exact h)
theorem before_less : ∀ (a b : List UInt8), bytesBefore a b = Op.bytesLess a b
  | [], [] => rfl
  | [], _ :: _ => rfl
  | _ :: _, [] => rfl
  | x :: r, y :: s => by simp only [bytesBefore, Op.bytesLess, before_less r s]
theorem key_before (a b : ByteArray) : (keyL a).before (keyL b) = Op.bytesLess a.toList b.toList := by
  show bytesBefore _ _ = _
  rw [before_less, Lib.toList_data, Lib.toList_data]
theorem key_same (a b : ByteArray) : (keyL a).sameKey (keyL b) = decide (a = b) := by
  show (a.data.toList == b.data.toList) = _
  by_cases h : a = b
  · rw [h, decide_eq_true rfl]
    exact beq_self_eq_true _
  · rw [decide_eq_false h]
    exact beq_eq_false_iff_ne.2 (fun e => h (ba_ext e))
theorem keyL_inj {a b : ByteArray} (h : keyL a = keyL b) : a = b := by
  unfold keyL at h
  injection h with h
  exact ba_ext h
theorem less_ne {a b : ByteArray} (h : Op.bytesLess a.toList b.toList = true) : a ≠ b := by
  rintro rfl
  rw [less_irrefl] at h
  cases h

theorem mem_ins {k v : ByteArray} {q : ByteArray × ByteArray} : ∀ {m : SM}, q ∈ ins k v m → q = (k, v) ∨ q ∈ m
  | [], h => by simp [ins] at h; exact .inl h
  | p :: r, h => by
    unfold ins at h
    split at h
    · rcases List.mem_cons.1 h with h | h
      · exact .inl h
      · exact .inr (List.mem_cons_of_mem _ h)
    · split at h
      · rcases List.mem_cons.1 h with h | h
        · exact .inl h
        · exact .inr h
      · rcases List.mem_cons.1 h with h | h
        · exact .inr (by rw [h]; exact List.mem_cons_self)
        · rcases mem_ins h with h | h
          · exact .inl h
          · exact .inr (List.mem_cons_of_mem _ h)
theorem rises_ins {k v : ByteArray} : ∀ {m : SM}, Rises m → Rises (ins k v m)
  | [], _ => List.pairwise_singleton _ _
  | p :: r, h => by
    obtain ⟨h1, h2⟩ := List.pairwise_cons.1 h
    unfold ins
    split
    · rename_i e
      exact List.pairwise_cons.2 ⟨fun q hq => by rw [e]; exact h1 q hq, h2⟩
    · rename_i e
      split
      · rename_i hl
        refine List.pairwise_cons.2 ⟨fun q hq => ?_, h⟩
        rcases List.mem_cons.1 hq with rfl | hq
        · exact hl
        · exact less_trans hl (h1 q hq)
      · rename_i hl
        refine List.pairwise_cons.2 ⟨fun q hq => ?_, rises_ins h2⟩
        rcases mem_ins hq with rfl | hq
        · exact less_total (by simpa using hl) (fun e' => e (ba_ext' e'))
        · exact h1 q hq
theorem put_ins {k v : ByteArray} : ∀ {m : SM}, Rises m → (toD m).put (keyL k) (.lit (.string v.data.toList)) = toD (ins k v m) := by
  have key : ∀ {m : SM}, Rises m → DataW.insert (ent (k, v)) ((m.map ent).filter fun p => !p.1.sameKey (keyL k)) = (ins k v m).map ent := by
    intro m
    induction m with
    | nil => intro _; rfl
    | cons p r ih =>
      intro h
      obtain ⟨h1, h2⟩ := List.pairwise_cons.1 h
      have far : ∀ (hk : ∀ q ∈ r, Op.bytesLess k.toList q.1.toList = true), (r.map ent).filter (fun p => !p.1.sameKey (keyL k)) = r.map ent ∧ DataW.insert (ent (k, v)) (r.map ent) = ent (k, v) :: r.map ent := by
        intro hk
        constructor
        · rw [List.filter_eq_self]
          intro x hx
          obtain ⟨q, hq, rfl⟩ := List.mem_map.1 hx
          show (!(keyL q.1).sameKey (keyL k)) = true
          rw [key_same]
          have := less_ne (hk q hq)
          simp [Ne.symm this]
        · cases r with
          | nil => rfl
          | cons y s =>
            show (if (keyL k).before (keyL y.1) = true then _ else _) = _
            rw [if_pos (by rw [key_before]; exact hk y List.mem_cons_self)]
            rfl
      unfold ins
      by_cases e : k = p.1
      · rw [if_pos e]
        have hk : ∀ q ∈ r, Op.bytesLess k.toList q.1.toList = true := fun q hq => by rw [e]; exact h1 q hq
        have hs : (!(ent p).1.sameKey (keyL k)) = false := by
          show (!(keyL p.1).sameKey (keyL k)) = false
          rw [key_same, e]
          simp
        rw [List.map_cons, List.filter_cons, hs, if_neg (by simp), (far hk).1, (far hk).2]
        rfl
      · rw [if_neg e]
        have hs : (!(ent p).1.sameKey (keyL k)) = true := by
          show (!(keyL p.1).sameKey (keyL k)) = true
          rw [key_same]
          simp [Ne.symm e]
        rw [List.map_cons, List.filter_cons, hs, if_pos rfl]
        by_cases hl : Op.bytesLess k.toList p.1.toList = true
        · rw [if_pos hl]
          have hk : ∀ q ∈ r, Op.bytesLess k.toList q.1.toList = true := fun q hq => less_trans hl (h1 q hq)
          rw [(far hk).1]
          show (if (keyL k).before (keyL p.1) = true then _ else _) = _
          rw [if_pos (by rw [key_before]; exact hl)]
          rfl
        · rw [if_neg hl]
          show (if (keyL k).before (keyL p.1) = true then _ else _) = _
          rw [if_neg (by rw [key_before]; exact hl), ih h2]
          rfl
  intro m h
  show DataW.map _ = DataW.map _
  rw [← key h]
  rfl
theorem look_mem {k v : ByteArray} : ∀ {m : SM}, Rises m → (look k m = some v ↔ (k, v) ∈ m)
  | [], _ => by simp [look]
  | p :: r, h => by
    obtain ⟨h1, h2⟩ := List.pairwise_cons.1 h
    unfold look
    by_cases e : k = p.1
    · rw [if_pos e]
      constructor
      · intro hv
        have : p = (k, v) := Prod.ext e.symm (Option.some.inj hv)
        rw [this]
        exact List.mem_cons_self
      · intro hv
        rcases List.mem_cons.1 hv with hv | hv
        · rw [← hv]
        · exact absurd e.symm (less_ne (h1 _ hv))
    · rw [if_neg e, look_mem h2]
      constructor
      · exact fun hv => List.mem_cons_of_mem _ hv
      · intro hv
        rcases List.mem_cons.1 hv with hv | hv
        · exact absurd (by rw [← hv]) e
        · exact hv
theorem has_toD (k : ByteArray) : ∀ m : SM, Go.Maps.has (toD m) (keyL k) = (look k m).isSome
  | [] => rfl
  | p :: r => by
    have ih := has_toD k r
    show ((keyL p.1).sameKey (keyL k) || Go.Maps.has (toD r) (keyL k)) = _
    rw [ih, key_same]
    rw [look_cons]
    by_cases e : k = p.1
    · simp [e]
    · rw [if_neg e]
      simp [Ne.symm e]
theorem at_toD (k : ByteArray) (z : DataW Unit) : ∀ m : SM, (toD m).atKey (keyL k) z = (match look k m with | some v => .lit (.string v.data.toList) | none => z)
  | [] => rfl
  | p :: r => by
    have ih := at_toD k z r
    have hc : (toD (p :: r)).atKey (keyL k) z = if (keyL p.1).sameKey (keyL k) = true then .lit (.string p.2.data.toList) else (toD r).atKey (keyL k) z := by
      unfold toD DataW.atKey
      simp only [List.map_cons, List.find?_cons]
      cases hs : (keyL p.1).sameKey (keyL k)
      · rw [show (ent p).1.sameKey (keyL k) = false from hs]
        rfl
      · rw [show (ent p).1.sameKey (keyL k) = true from hs]
        rfl
    rw [hc, key_same, ih]
    rw [look_cons]
    by_cases e : k = p.1
    · rw [if_pos (by simp [e]), if_pos e]
    · rw [if_neg (by simp [Ne.symm e]), if_neg e]
theorem size_toD (m : SM) : Go.Maps.size (toD m) = m.length := by simp [toD, Go.Maps.size]

theorem rises_nodup : ∀ {m : SM}, Rises m → m.Nodup
  | [], _ => List.nodup_nil
  | p :: r, h => by
    obtain ⟨h1, h2⟩ := List.pairwise_cons.1 h
    exact List.nodup_cons.2 ⟨fun hp => less_ne (h1 p hp) rfl, rises_nodup h2⟩
theorem perm_of_sub {α : Type} : ∀ {l1 l2 : List α}, l1.Nodup → (∀ p ∈ l1, p ∈ l2) → l2.length ≤ l1.length → l1.Perm l2
  | [], l2, _, _, h => by
    have : l2 = [] := List.length_eq_zero_iff.1 (by simpa using h)
    rw [this]
  | a :: r, l2, hn, hs, hl => by
    obtain ⟨h1, h2⟩ := List.nodup_cons.1 hn
    obtain ⟨s, t, rfl⟩ := List.append_of_mem (hs a List.mem_cons_self)
    have ih := perm_of_sub (l2 := s ++ t) h2 (fun p hp => by
      have := hs p (List.mem_cons_of_mem _ hp)
      rcases List.mem_append.1 this with h | h
      · exact List.mem_append_left _ h
      · rcases List.mem_cons.1 h with rfl | h
        · exact absurd hp h1
        · exact List.mem_append_right _ h) (by simp at hl ⊢; omega)
    exact (ih.cons a).trans List.perm_middle.symm
theorem sm_perm_eq {m1 m2 : SM} (h1 : Rises m1) (h2 : Rises m2) (hp : m1.Perm m2) : m1 = m2 := by
  refine List.Perm.eq_of_pairwise (fun a b ha hb hab hba => ?_) h1 h2 hp
  have := less_asymm hab
  rw [hba] at this
  cases this
theorem sm_eq {m1 m2 : SM} (h1 : Rises m1) (h2 : Rises m2) (hl : m1.length = m2.length) (h : ∀ p ∈ m1, look p.1 m2 = some p.2) : m1 = m2 :=
  sm_perm_eq h1 h2 (perm_of_sub (rises_nodup h1) (fun p hp => (look_mem h2).1 (h p hp)) (by omega))

/-! ### a map in memory -/
section
variable {P : Program} {t k e : TypeId} {w w' : World} {b n : Nat} {m : SM}
/-- Block b is a map of at most n entries, and these are m. -/
def IsSM (P : Program) (k e : TypeId) (w : World) (b n : Nat) (m : SM) : Prop :=
  w.ownsMap P k (plainElem (H := Unit) P e) b n (toD m) ∧ Rises m ∧ ∀ p ∈ m, p.1.size ≤ maxLen ∧ p.2.size ≤ maxLen
theorem IsSM.made (w : World) (P : Program) (k e : TypeId) : IsSM P k e (w.alloc (.map #[] 0)) w.heap.size 0 [] := ⟨World.ownsMap_made w P k _, List.Pairwise.nil, fun p hp => by simp at hp⟩
theorem IsSM.lt (h : IsSM P k e w b n m) : b < w.heap.size := h.1.lt
theorem IsSM.kept (h : IsSM P k e w b n m) {row : Option Nat} (hg : w.grownBy w' row) (hne : some b ≠ row) : IsSM P k e w' b n m := ⟨h.1.kept hg hne, h.2⟩
theorem IsSM.below (h : IsSM P k e w b n m) (hb : Below w.heap.size w w') : IsSM P k e w' b n m := h.kept (grown_of_below hb none) (by simp)
theorem IsSM.alloc (h : IsSM P k e w b n m) (o : Obj) : IsSM P k e (w.alloc o) b n m := ⟨h.1.alloc o, h.2⟩
theorem IsSM.drewN (h : IsSM P k e w b n m) (j : Nat) : IsSM P k e (w.drewN j) b n m := h.kept (row := none) ⟨rfl, rfl, rfl, Nat.le_refl _, fun _ _ _ => rfl⟩ (by simp)
theorem IsSM.mono (h : IsSM P k e w b n m) {j : Nat} (hj : n ≤ j) : IsSM P k e w b j m := ⟨h.1.mono hj, h.2⟩
theorem IsSM.len_le (h : IsSM P k e w b n m) : m.length ≤ n := by have := h.1.size_le; rwa [size_toD] at this
theorem plain_str (he : P.underlying e = some .string) {s : ByteArray} (hs : s.size ≤ maxLen) : plainElem (H := Unit) P e (.string s) = some (.lit (.string s.data.toList), []) := plainElem_string he hs
theorem IsSM.store (ht : P.underlying t = some (.map k e)) (hk : P.underlying k = some .string) (he : P.underlying e = some .string) (h : IsSM P k e w b n m) (hn : n < maxLen) {key val : ByteArray} (h1 : key.size ≤ maxLen) (h2 : val.size ≤ maxLen) :
    ∃ w', (Instr.mapUpdate t (.map (some b)) (.string key) (.string val)).run P w = .ok () w' ∧ IsSM P k e w' b (n + 1) (ins key val m) ∧ w.grownBy w' (some b) := by
  obtain ⟨w', hr, ho, hg⟩ := h.1.update (string_keyed hk) ht hn (key := .string key) (keyOf_string_mk hk h1) (plain_str he h2)
  refine ⟨w', hr, ⟨?_, rises_ins h.2.1, fun p hp => ?_⟩, hg⟩
  · rw [← put_ins h.2.1]
    exact ho
  · rcases mem_ins hp with rfl | hp
    · exact ⟨h1, h2⟩
    · exact h.2.2 p hp
theorem wpList_store_sm {ops : Array Oper} {rest : List Oper} {o : Oper} {a : Act} {Q : Exit → Act → World → Prop}
    (hg : o.guard = none) (mo x v : Operand) (hop : o.op = Op.mapUpdate t mo x v) (ht : P.underlying t = some (.map k e)) (hk : P.underlying k = some .string) (he : P.underlying e = some .string)
    (hm : a.eval mo = .map (some b)) (h : IsSM P k e w b n m) (hn : n < maxLen) {key val : ByteArray} (hx : a.eval x = .string key) (hv : a.eval v = .string val) (h1 : key.size ≤ maxLen) (h2 : val.size ≤ maxLen)
    (hK : ∀ w', IsSM P k e w' b (n + 1) (ins key val m) → w.grownBy w' (some b) → wpList P ops Q rest (a.put o.dst undef) w') : wpList P ops Q (o :: rest) a w := by
  refine wpList_plain hg fun K' hK' => ?_
  obtain ⟨w', hrun, r1, r2⟩ := h.store ht hk he hn h1 h2
  unfold Oper.wp
  simp [execOp, hop, hm, hx, hv, hrun, Result.andThen]
  exact hK' _ _ (hK w' r1 r2)
theorem IsSM.look_run (ht : P.underlying t = some (.map k e)) (hk : P.underlying k = some .string) (he : P.underlying e = some .string) (hz : (zeroValue e).run P w = .ok (.string ⟨#[]⟩) w) (h : IsSM P k e w b n m) {key : ByteArray} (h1 : key.size ≤ maxLen) :
    (Instr.lookup t (.map (some b)) (.string key) false).run P w = .ok (.string ((look key m).getD ⟨#[]⟩)) w := by
  obtain ⟨v, ps, hr, hv⟩ := h.1.lookup (string_keyed hk) ht hz (plain_str he (show (⟨#[]⟩ : ByteArray).size ≤ maxLen from Nat.zero_le _)) (key := .string key) (keyOf_string_mk hk h1)
  obtain ⟨s, rfl, hs, _⟩ := plainElem_string_inv he hv
  rw [hr]
  have := (Prod.mk.inj hs).1
  have e1 := at_toD key (.lit (.string (⟨#[]⟩ : ByteArray).data.toList)) m
  unfold keyL at e1
  rw [e1] at this
  cases hl : look key m with
  | none =>
    rw [hl] at this
    injection this with this
    injection this with this
    rw [ba_ext this.symm]
    rfl
  | some x =>
    rw [hl] at this
    injection this with this
    injection this with this
    rw [ba_ext this.symm]
    rfl
theorem IsSM.look_ok_run (ht : P.underlying t = some (.map k e)) (hk : P.underlying k = some .string) (he : P.underlying e = some .string) (hz : (zeroValue e).run P w = .ok (.string ⟨#[]⟩) w) (h : IsSM P k e w b n m) {key : ByteArray} (h1 : key.size ≤ maxLen) :
    (Instr.lookup t (.map (some b)) (.string key) true).run P w = .ok (.tuple #[.string ((look key m).getD ⟨#[]⟩), .bool (look key m).isSome]) w := by
  obtain ⟨v, ps, hr, hv⟩ := h.1.look_ok (string_keyed hk) ht hz (plain_str he (show (⟨#[]⟩ : ByteArray).size ≤ maxLen from Nat.zero_le _)) (key := .string key) (keyOf_string_mk hk h1)
  obtain ⟨s, rfl, hs, _⟩ := plainElem_string_inv he hv
  rw [hr]
  have := (Prod.mk.inj hs).1
  have e1 := at_toD key (.lit (.string (⟨#[]⟩ : ByteArray).data.toList)) m
  have e2 := has_toD key m
  unfold keyL at e1 e2
  rw [e1] at this
  rw [e2]
  cases hl : look key m with
  | none =>
    rw [hl] at this
    injection this with this
    injection this with this
    rw [ba_ext this.symm]
    rfl
  | some x =>
    rw [hl] at this
    injection this with this
    injection this with this
    rw [ba_ext this.symm]
    rfl
theorem IsSM.len_run (ht : P.underlying t = some (.map k e)) (h : IsSM P k e w b n m) (ty : TypeId) : (Builtin.len_ #[t] ty #[.map (some b)]).run P w = .ok (.int .i64 m.length) w := by
  rw [h.1.len ht ty, size_toD]

/-- A range over the map is under way: block r is the iterator; what has come, in its order, is 'seen'. -/
def RSM (P : Program) (k e : TypeId) (w : World) (b r n : Nat) (m seen : SM) : Prop :=
  ∃ left cnt, w.ranges P k (plainElem (H := Unit) P e) b r n (toD m) left cnt ∧ (∀ p ∈ m, left (keyL p.1) = true ↔ p ∉ seen) ∧ (∀ p ∈ seen, p ∈ m) ∧ seen.Nodup ∧ Rises m ∧ (∀ p ∈ m, p.1.size ≤ maxLen ∧ p.2.size ≤ maxLen)
theorem RSM.isSM {r : Nat} {seen : SM} (h : RSM P k e w b r n m seen) : IsSM P k e w b n m := by
  obtain ⟨left, cnt, h1, _, _, _, h2⟩ := h
  exact ⟨h1.owns, h2⟩
theorem RSM.kept {r : Nat} {seen : SM} (h : RSM P k e w b r n m seen) {row : Option Nat} (hg : w.grownBy w' row) (hb : some b ≠ row) (hr : some r ≠ row) : RSM P k e w' b r n m seen := by
  obtain ⟨left, cnt, h1, h2⟩ := h
  exact ⟨left, cnt, h1.kept hg hb hr, h2⟩
theorem RSM.drawn {r : Nat} {seen : SM} (h : RSM P k e w b r n m seen) (hd : Drawn0 w w') : RSM P k e w' b r n m seen := by
  obtain ⟨j, rfl⟩ := hd
  exact h.kept (row := none) ⟨rfl, rfl, rfl, Nat.le_refl _, fun _ _ _ => rfl⟩ (by simp) (by simp)
theorem RSM.below {r : Nat} {seen : SM} (h : RSM P k e w b r n m seen) (hb : Below w.heap.size w w') : RSM P k e w' b r n m seen := h.kept (grown_of_below hb none) (by simp) (by simp)
theorem rises_key {x y : ByteArray × ByteArray} (h : Rises m) (hx : x ∈ m) (hy : y ∈ m) (e1 : x.1 = y.1) : x = y := by
  have h1 := (look_mem h (k := x.1) (v := x.2)).2 hx
  have h2 := (look_mem h (k := y.1) (v := y.2)).2 hy
  rw [e1, h2] at h1
  exact Prod.ext e1 (Option.some.inj h1).symm
theorem wpList_range_sm {ops : Array Oper} {rest : List Oper} {o : Oper} {a : Act} {Q : Exit → Act → World → Prop} (hg : o.guard = none) (mo : Operand) (hop : o.op = Op.range t mo) (ht : P.underlying t = some (.map k e)) (hk : P.underlying k = some .string)
    (hm : a.eval mo = .map (some b)) (h : IsSM P k e w b n m)
    (hK : ∀ w' r, r = w.heap.size → RSM P k e w' b r n m [] → w.grownBy w' none → w'.heap.size = w.heap.size + 1 → wpList P ops Q rest (a.put o.dst (.pointer (some ⟨r, 0, none⟩))) w') : wpList P ops Q (o :: rest) a w := by
  refine wpList_range_own w hg mo t hop k e (string_keyed hk) ht _ b n (toD m) hm h.1 (fun w' h1 h2 h3 => ?_)
  refine hK w' _ rfl ⟨_, _, h1, fun p hp => ?_, fun p hp => by simp at hp, List.nodup_nil, h.2⟩ h2 h3
  rw [has_toD, (look_mem h.2.1 (k := p.1) (v := p.2)).2 hp]
  exact ⟨fun _ hq => by simp at hq, fun _ => rfl⟩
theorem wpList_next_sm {ops : Array Oper} {rest : List Oper} {o : Oper} {a : Act} {Q : Exit → Act → World → Prop} (hg : o.guard = none) (it : Operand) (hop : o.op = Op.next it false) (hk : P.underlying k = some .string) (he : P.underlying e = some .string)
    {r : Nat} {seen : SM} (hit : a.eval it = .pointer (some ⟨r, 0, none⟩)) (h : RSM P k e w b r n m seen)
    (hDone : seen.Perm m → wpList P ops Q rest (a.put o.dst (.tuple #[.bool false])) w)
    (hMore : ∀ (x c : ByteArray) (w' : World), (x, c) ∈ m → (x, c) ∉ seen → RSM P k e w' b r n m (seen ++ [(x, c)]) → w'.rangeLeft b r < w.rangeLeft b r → w.grownBy w' (some r) → w'.heap.size = w.heap.size →
      (Instr.entry (.pointer (some ⟨r, 0, none⟩))).run P w' = .ok (.tuple #[.string x, .string c]) w' → wpList P ops Q rest (a.put o.dst (.tuple #[.bool true, .string x, .string c])) w') : wpList P ops Q (o :: rest) a w := by
  obtain ⟨left, cnt, hr, hl, hs, hn, hm1, hm2⟩ := h
  refine wpList_next_ranges w hg it hop k (string_keyed hk) _ Value.string Value.string (fun key kl hkey => ?_) (fun v y hv => ?_) b r n (toD m) left cnt hit hr (fun h0 hall => ?_) (fun x c kl y w' cnt' hkey hlk hv hat hrg hlt hgr hsz hen => ?_)
  · obtain ⟨s, rfl, _⟩ := string_of_keyOf hk hkey
    exact ⟨s, rfl⟩
  · obtain ⟨s, rfl, _⟩ := plainElem_string_inv he hv
    exact ⟨s, rfl⟩
  · refine hDone ((List.perm_ext_iff_of_nodup hn (rises_nodup hm1)).2 fun p => ⟨hs p, fun hp => ?_⟩)
    refine Classical.not_not.1 fun hq => ?_
    have h1 := (hl p hp).2 hq
    rw [hall] at h1
    cases h1
  · have hkl : kl = keyL x := by
      obtain ⟨s, es, e2, _⟩ := string_of_keyOf hk hkey
      cases es
      exact e2
    subst hkl
    obtain ⟨s, es, hy, _⟩ := plainElem_string_inv he hv
    cases es
    have hmem : (x, c) ∈ m := by
      refine (look_mem hm1).1 ?_
      have h1 := hat (.lit (.bool true))
      rw [at_toD, hy] at h1
      cases hk' : look x m with
      | none => rw [hk'] at h1; cases h1
      | some v =>
        rw [hk'] at h1
        injection h1 with h1
        injection h1 with h1
        rw [ba_ext h1]
    have hnot : (x, c) ∉ seen := by
      exact (hl _ hmem).1 hlk
    refine hMore x c w' hmem hnot ⟨_, _, hrg, fun p hp => ?_, fun p hp => ?_, ?_, hm1, hm2⟩ (by rw [hrg.left_eq, hr.left_eq]; exact hlt) hgr hsz hen
    · have h1 := hl p hp
      show (left (keyL p.1) && !(keyL p.1).sameKey (keyL x)) = true ↔ _
      rw [key_same, Bool.and_eq_true, h1, List.mem_append, List.mem_singleton]
      by_cases e1 : p.1 = x
      · have : p = (x, c) := rises_key hm1 hp hmem e1
        subst this
        simp
      · have : p ≠ (x, c) := fun e2 => e1 (by rw [e2])
        simp [e1, this]
    · rcases List.mem_append.1 hp with hp | hp
      · exact hs p hp
      · rw [List.mem_singleton.1 hp]
        exact hmem
    · exact List.nodup_append.2 ⟨hn, List.nodup_cons.2 ⟨by simp, List.nodup_nil⟩, fun a ha b hb e1 => hnot (by rw [← List.mem_singleton.1 hb, ← e1]; exact ha)⟩
end
end Go.Proofs.Ytcneoonhdfblaaa.MapsS
