/- A text's characters, one behind the other: how many, what is cut of them, and what the cut reads as. -/
import Derived.Test.YtnjghpoeokfekaaDoorClen
import Derived.Lib.TrimUEq
import Derived.Lib.MapLaws
import Derived.Lib.SmallJoins
import Derived.Laws.Cover4
import Derived.Laws.IdiomStrings
import Derived.Stop.FmtQuoteTie
set_option linter.unusedVariables false
set_option linter.unusedSimpArgs false
namespace Go.Proofs.YtnjghpoeokfekaaDoor.Pure
open Go.RowKit Go.Lib
theorem clen_decode (l : List UInt8) (hne : l ≠ []) : (decodeL l).2 = clen l := by
  have hl : 0 < l.length := List.length_pos_iff.2 hne
  rw [decodeL_N]
  unfold clen
  by_cases h0 : (l.getD 0 0).toNat < 128
  · rw [if_pos h0, decodeN_ascii _ _ _ _ _ h0]
  · rw [if_neg h0]
    rcases check_decode l.length (l.getD 0 0).toNat (l.getD 1 0).toNat (l.getD 2 0).toNat (l.getD 3 0).toNat hl (by omega) (l.getD 0 0).toNat_lt (l.getD 1 0).toNat_lt (l.getD 2 0).toNat_lt (l.getD 3 0).toNat_lt with ⟨hc, hd⟩ | ⟨k, hk, hc, hd⟩
    · rw [hc, hd]; rfl
    · rw [hc, hd]; rfl
theorem check_more {n n' b1 b2 b3 c1 c2 c3 sz lo hi k : Nat} (h : checkN n b1 b2 b3 sz lo hi = some k) (hn : k ≤ n') (h1 : 1 < k → c1 = b1) (h2 : 2 < k → c2 = b2) (h3 : 3 < k → c3 = b3) : checkN n' c1 c2 c3 sz lo hi = some k := by
  unfold checkN at h ⊢
  by_cases e2 : sz = 2
  · rw [if_pos e2] at h ⊢
    split at h
    · cases h
    · injection h with h; subst h
      rw [if_neg (by rw [h1 (by omega)]; omega)]
  rw [if_neg e2] at h ⊢
  by_cases e3 : sz = 3
  · rw [if_pos e3] at h ⊢
    split at h
    · cases h
    · injection h with h; subst h
      rw [if_neg (by rw [h1 (by omega), h2 (by omega)]; omega)]
  rw [if_neg e3] at h ⊢
  by_cases e4 : sz = 4
  · rw [if_pos e4] at h ⊢
    split at h
    · cases h
    · injection h with h; subst h
      rw [if_neg (by rw [h1 (by omega), h2 (by omega), h3 (by omega)]; omega)]
  · rw [if_neg e4] at h; cases h
/-- A first character stays one, whatever stands behind it. -/
theorem clen_more (l x : List UInt8) (hne : l ≠ []) (hg : (l.getD 0 0).toNat < 128 ∨ 2 ≤ clen l) :
    clen (l.take (clen l) ++ x) = clen l ∧ validD (l.take (clen l) ++ x) = validD x ∧ l.take (clen l) ++ x ≠ [] := by
  obtain ⟨p1, p2⟩ := clen_pos l hne
  have hlen : (l.take (clen l)).length = clen l := by rw [List.length_take]; omega
  have hy : l.take (clen l) ++ x ≠ [] := fun e => by have := congrArg List.length e; rw [List.length_append, hlen] at this; simp at this; omega
  have hget : ∀ i, i < clen l → (l.take (clen l) ++ x).getD i 0 = l.getD i 0 := fun i hi => by
    rw [List.getD_eq_getElem?_getD, List.getElem?_append_left (by omega), List.getElem?_take_of_lt hi, List.getD_eq_getElem?_getD]
  have hd : (l.take (clen l) ++ x).drop (clen l) = x := List.drop_left' hlen
  refine ⟨?_, ?_, hy⟩
  · by_cases h0 : (l.getD 0 0).toNat < 128
    · have h1 : clen l = 1 := by unfold clen; rw [if_pos h0]
      have hz : ((l.take (clen l) ++ x).getD 0 0).toNat < 128 := by rw [hget 0 (by omega)]; exact h0
      rw [h1]
      unfold clen at hz ⊢
      rw [if_pos]
      rw [h1] at hget
      rw [hget 0 (by omega)]; exact h0
    · have hk : checkN l.length (l.getD 1 0).toNat (l.getD 2 0).toNat (l.getD 3 0).toNat (firstT (l.getD 0 0).toNat % 8) (accLo (firstT (l.getD 0 0).toNat / 16)) (accHi (firstT (l.getD 0 0).toNat / 16)) = some (clen l) := by
        cases hc : checkN l.length (l.getD 1 0).toNat (l.getD 2 0).toNat (l.getD 3 0).toNat (firstT (l.getD 0 0).toNat % 8) (accLo (firstT (l.getD 0 0).toNat / 16)) (accHi (firstT (l.getD 0 0).toNat / 16)) with
        | none =>
          have : clen l = 1 := by unfold clen; rw [if_neg h0, hc]; rfl
          omega
        | some k =>
          have : clen l = k := by unfold clen; rw [if_neg h0, hc]; rfl
          rw [this]
      generalize clen l = k at *
      unfold clen
      rw [hget 0 (by omega), if_neg h0, check_more (n' := (l.take k ++ x).length) hk (by rw [List.length_append, hlen]; omega) (fun h => by rw [hget 1 h]) (fun h => by rw [hget 2 h]) (fun h => by rw [hget 3 h])]
      rfl
  · by_cases h0 : (l.getD 0 0).toNat < 128
    · have h1 : clen l = 1 := by unfold clen; rw [if_pos h0]
      cases l with
      | nil => exact absurd rfl hne
      | cons b t =>
        rw [h1]
        exact validD_cons b x h0
    · have hk : checkN l.length (l.getD 1 0).toNat (l.getD 2 0).toNat (l.getD 3 0).toNat (firstT (l.getD 0 0).toNat % 8) (accLo (firstT (l.getD 0 0).toNat / 16)) (accHi (firstT (l.getD 0 0).toNat / 16)) = some (clen l) := by
        cases hc : checkN l.length (l.getD 1 0).toNat (l.getD 2 0).toNat (l.getD 3 0).toNat (firstT (l.getD 0 0).toNat % 8) (accLo (firstT (l.getD 0 0).toNat / 16)) (accHi (firstT (l.getD 0 0).toNat / 16)) with
        | none =>
          have : clen l = 1 := by unfold clen; rw [if_neg h0, hc]; rfl
          omega
        | some k =>
          have : clen l = k := by unfold clen; rw [if_neg h0, hc]; rfl
          rw [this]
      generalize clen l = k at *
      rw [validD_lead _ hy (by rw [hget 0 (by omega)]; omega), hget 0 (by omega), check_more (n' := (l.take k ++ x).length) hk (by rw [List.length_append, hlen]; omega) (fun h => by rw [hget 1 h]) (fun h => by rw [hget 2 h]) (fun h => by rw [hget 3 h])]
      show validD ((l.take k ++ x).drop k) = validD x
      rw [hd]
theorem valid_good (l : List UInt8) (hne : l ≠ []) (hv : validD l = true) : ((l.getD 0 0).toNat < 128 ∨ 2 ≤ clen l) ∧ validD (l.drop (clen l)) = true := by
  rcases clen_cases l hne with ⟨a, b, c⟩ | ⟨a, b, c⟩ | ⟨a, b, b', c⟩
  · exact ⟨.inl a, by rw [b, ← c]; exact hv⟩
  · rw [hv] at c; cases c
  · exact ⟨.inr b, by rw [← c]; exact hv⟩
/-- How many characters. -/
def cnt : Nat → List UInt8 → Nat
  | 0, _ => 0
  | f + 1, l => if l = [] then 0 else 1 + cnt f (l.drop (clen l))
def count (l : List UInt8) : Nat := cnt l.length l
theorem cnt_nil : ∀ n, cnt n [] = 0
  | 0 => rfl
  | _ + 1 => rfl
theorem cnt_fuel : ∀ (n m : Nat) (l : List UInt8), l.length ≤ n → l.length ≤ m → cnt n l = cnt m l
  | 0, m, l, hn, _ => by
    have : l = [] := List.eq_nil_of_length_eq_zero (by omega)
    subst this
    rw [cnt_nil, cnt_nil]
  | n + 1, 0, l, _, hm => by
    have : l = [] := List.eq_nil_of_length_eq_zero (by omega)
    subst this
    rw [cnt_nil, cnt_nil]
  | n + 1, m + 1, l, hn, hm => by
    unfold cnt
    by_cases hne : l = []
    · rw [if_pos hne, if_pos hne]
    · have := clen_pos l hne
      rw [if_neg hne, if_neg hne, cnt_fuel n m _ (by rw [List.length_drop]; omega) (by rw [List.length_drop]; omega)]
theorem count_nil : count [] = 0 := rfl
theorem count_step (l : List UInt8) (hne : l ≠ []) : count l = 1 + count (l.drop (clen l)) := by
  have hl : 0 < l.length := List.length_pos_iff.2 hne
  have := clen_pos l hne
  obtain ⟨n, hn⟩ : ∃ n, l.length = n + 1 := ⟨l.length - 1, by omega⟩
  unfold count
  rw [hn]
  show (if l = [] then 0 else 1 + cnt n (l.drop (clen l))) = _
  rw [if_neg hne, cnt_fuel n (l.drop (clen l)).length _ (by rw [List.length_drop]; omega) (Nat.le_refl _)]
theorem count_le : ∀ (n : Nat) (l : List UInt8), l.length ≤ n → count l ≤ l.length
  | n, l, hn => by
    by_cases hne : l = []
    · rw [hne]; exact Nat.le_refl _
    · have h1 := clen_pos l hne
      cases n with
      | zero => omega
      | succ n =>
        have := count_le n (l.drop (clen l)) (by rw [List.length_drop]; omega)
        rw [count_step l hne]
        rw [List.length_drop] at this
        omega
/-- The first m characters. -/
def cutL : Nat → List UInt8 → List UInt8
  | 0, _ => []
  | m + 1, l => if l = [] then [] else l.take (clen l) ++ cutL m (l.drop (clen l))
theorem cut_facts : ∀ (m : Nat) (l x : List UInt8), validD l = true → count (cutL m l ++ x) = min m (count l) + count x ∧ validD (cutL m l ++ x) = validD x
  | 0, l, x, _ => by simp [cutL]
  | m + 1, l, x, hv => by
    unfold cutL
    by_cases hne : l = []
    · rw [if_pos hne, hne]
      simp [count_nil]
    · rw [if_neg hne, List.append_assoc]
      obtain ⟨hg, hv'⟩ := valid_good l hne hv
      obtain ⟨i1, i2⟩ := cut_facts m (l.drop (clen l)) x hv'
      obtain ⟨p1, p2⟩ := clen_pos l hne
      obtain ⟨a, b, c⟩ := clen_more l (cutL m (l.drop (clen l)) ++ x) hne hg
      refine ⟨?_, by rw [b, i2]⟩
      rw [count_step _ c, a, List.drop_left' (by rw [List.length_take]; omega), i1, count_step l hne]
      omega
theorem cut_count (m : Nat) (l : List UInt8) (hv : validD l = true) : count (cutL m l) = min m (count l) := by
  have := (cut_facts m l [] hv).1
  rw [List.append_nil, count_nil, Nat.add_zero] at this
  exact this
theorem cut_valid (m : Nat) (l : List UInt8) (hv : validD l = true) : validD (cutL m l) = true := by
  have := (cut_facts m l [] hv).2
  rw [List.append_nil] at this
  exact this
/-- The code points. -/
def rns : Nat → List UInt8 → List Int
  | 0, _ => []
  | f + 1, l => if l = [] then [] else ((decodeL l).1 : Int) :: rns f (l.drop (clen l))
theorem rns_length : ∀ (f : Nat) (l : List UInt8), (rns f l).length = cnt f l
  | 0, _ => rfl
  | f + 1, l => by
    unfold rns cnt
    by_cases hne : l = []
    · rw [if_pos hne, if_pos hne]; rfl
    · rw [if_neg hne, if_neg hne, List.length_cons, rns_length f]
      omega
theorem runesFrom_rns (s : ByteArray) : ∀ (b i : Nat) (acc : Array Value), (Conv.runesFrom s b i acc).toList = acc.toList ++ (rns b (s.data.toList.drop i)).map (Value.int .i32)
  | 0, i, acc => by simp [Conv.runesFrom, rns]
  | b + 1, i, acc => by
    unfold Conv.runesFrom rns
    by_cases hi : i < s.size
    · have hne : s.data.toList.drop i ≠ [] := fun e => by have := congrArg List.length e; rw [List.length_drop, size_length] at this; simp at this; omega
      rw [if_pos hi, if_neg hne]
      simp only
      rw [runesFrom_rns s b, ← decodeL_drop, clen_decode _ hne, List.drop_drop]
      simp
    · have he : s.data.toList.drop i = [] := List.drop_of_length_le (by rw [size_length]; omega)
      rw [if_neg hi, if_pos he]
      simp
theorem bytes_back (l : List UInt8) : (l.map fun x => (x.toNat : Int)).map (fun x => x.toNat.toUInt8) = l := by
  rw [List.map_map]
  have h : ((fun x : Int => x.toNat.toUInt8) ∘ fun x : UInt8 => (x.toNat : Int)) = id := by
    funext x
    simp
  rw [h, List.map_id]
theorem encode_list (r : Nat) : (Utf8.encode (r : Int)).data.toList = encodeRune (r : Int) := by
  have h := Go.Extern.FmtText.encode_eq r
  generalize (Utf8.encode (r : Int)).data.toList = l at h ⊢
  unfold encodeRune
  rw [← h]
  exact (bytes_back l).symm
theorem runesBytes_cons (n : Int) (ns : List Int) : (runesBytes (n :: ns)).data.toList = (Utf8.encode n).data.toList ++ (runesBytes ns).data.toList := by
  have h : ∀ (ns : List Int) (a : ByteArray), (ns.foldl (fun r n => r ++ Utf8.encode n) a).data.toList = a.data.toList ++ (ns.foldl (fun r n => r ++ Utf8.encode n) ByteArray.empty).data.toList := by
    intro ns
    induction ns with
    | nil => intro a; simp
    | cons n ns ih =>
      intro a
      rw [List.foldl_cons, List.foldl_cons, ih, ih (ByteArray.empty ++ Utf8.encode n)]
      simp
  unfold runesBytes
  rw [List.foldl_cons, h]
  simp
theorem cut_bytes : ∀ (m f : Nat) (l : List UInt8), l.length ≤ f → validD l = true → (runesBytes ((rns f l).take m)).data.toList = cutL m l
  | 0, f, l, _, _ => by rw [List.take_zero]; rfl
  | m + 1, 0, l, h, _ => by
    have : l = [] := List.eq_nil_of_length_eq_zero (by omega)
    subst this
    rfl
  | m + 1, f + 1, l, h, hv => by
    unfold rns cutL
    by_cases hne : l = []
    · rw [if_pos hne, if_pos hne]; rfl
    · obtain ⟨hg, hv'⟩ := valid_good l hne hv
      obtain ⟨p1, p2⟩ := clen_pos l hne
      have hb : ¬ ((decodeL l).1 = 65533 ∧ (decodeL l).2 = 1) := fun e => by
        rw [validD_step l hne, if_pos e] at hv
        cases hv
      rw [if_neg hne, if_neg hne, List.take_succ_cons, runesBytes_cons, cut_bytes m f _ (by rw [List.length_drop]; omega) hv', encode_list, encode_decode l hne hb, clen_decode l hne]
end Go.Proofs.YtnjghpoeokfekaaDoor.Pure
