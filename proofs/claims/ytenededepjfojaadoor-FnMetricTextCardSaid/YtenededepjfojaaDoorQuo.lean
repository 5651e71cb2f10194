/- Texts of printing ASCII and line feeds: what strconv.Quote makes of them. Plain Lean. -/
import Derived.Lib.QuoteLoop
import Derived.Laws.RangeString
import Derived.Test.YtenededepjfojaaDoorQb
import Derived.Lib.LazyBuf
set_option linter.unusedVariables false
set_option linter.unusedSimpArgs false
namespace Go.Proofs.YtenededepjfojaaDoor.Pure
open Go.RowKit Go.Lib Go.Proofs.YtenededepjfojaaDoor.Door
def qe (c : UInt8) : List UInt8 := if c = 34 ∨ c = 92 then [92, c] else if c = 10 then [92, 110] else [c]
def asc (c : UInt8) : Bool := decide (c = 10) || (decide (32 ≤ c.toNat) && decide (c.toNat ≤ 126))
def escL : List UInt8 → List UInt8
  | [] => []
  | c :: r => qe c ++ escL r
def quoL (l : List UInt8) : List UInt8 := 34 :: (escL l ++ [34])
theorem escL_append : ∀ (a b : List UInt8), escL (a ++ b) = escL a ++ escL b
  | [], _ => rfl
  | c :: r, b => by rw [List.cons_append, escL, escL, escL_append r b, List.append_assoc]
theorem qe_len (c : UInt8) : (qe c).length ≤ 2 := by
  unfold qe
  split
  · exact Nat.le_refl _
  split
  · exact Nat.le_refl _
  · exact Nat.le_succ _
theorem escL_len : ∀ l, (escL l).length ≤ 2 * l.length
  | [] => Nat.le_refl _
  | c :: r => by
    have := qe_len c
    have := escL_len r
    rw [escL, List.length_append, List.length_cons]
    omega
def asInts (l : List UInt8) : List Int := l.map fun b => (b.toNat : Int)
theorem asInts_append (a b : List UInt8) : asInts (a ++ b) = asInts a ++ asInts b := List.map_append
theorem asc_lt {c : UInt8} (h : asc c = true) : c.toNat < 128 := by
  unfold asc at h
  simp only [Bool.or_eq_true, Bool.and_eq_true, decide_eq_true_eq] at h
  rcases h with h | h
  · subst h; decide
  · omega
theorem byteN {c : UInt8} {n : Nat} (hn : n < 256) : (c.toNat : Int) = (n : Int) ↔ c = UInt8.ofNat n := by
  constructor
  · intro h
    apply UInt8.toNat_inj.1
    rw [UInt8.toNat_ofNat', Nat.mod_eq_of_lt hn]
    omega
  · intro h
    rw [h, UInt8.toNat_ofNat', Nat.mod_eq_of_lt hn]
theorem esc_one (T : PrintTabs) {c : UInt8} (h : asc c = true) : escRune T (c.toNat : Int) = asInts (qe c) := by
  have h128 := asc_lt h
  unfold escRune qe
  by_cases c0 : c = 34 ∨ c = 92
  · rw [if_pos c0, if_pos (by rcases c0 with rfl | rfl <;> decide)]
    rcases c0 with rfl | rfl <;> rfl
  have n34 : ¬ (c.toNat : Int) = 34 := fun e => c0 (.inl ((byteN (n := 34) (by decide)).1 e))
  have n92 : ¬ (c.toNat : Int) = 92 := fun e => c0 (.inr ((byteN (n := 92) (by decide)).1 e))
  rw [if_neg c0, if_neg (by omega)]
  by_cases c1 : c = 10
  · subst c1
    have e : isPrintR T ((10 : UInt8).toNat : Int) = false := rfl
    rw [e]
    rfl
  · rw [if_neg c1]
    unfold asc at h
    simp only [Bool.or_eq_true, Bool.and_eq_true, decide_eq_true_eq, c1, false_or] at h
    have e : isPrintR T (c.toNat : Int) = true := by
      unfold isPrintR isPrintLatin
      rw [if_pos (by omega)]
      simp only [Bool.or_eq_true, Bool.and_eq_true, decide_eq_true_eq]
      omega
    rw [if_pos e]
    unfold encodeRuneZ
    rw [if_pos (by omega)]
    rfl
theorem ba_cons (c : UInt8) (r : List UInt8) : ((⟨(c :: r).toArray⟩ : ByteArray).extract 1 (⟨(c :: r).toArray⟩ : ByteArray).size) = ⟨r.toArray⟩ := by
  apply ByteArray.ext
  apply Array.toList_inj.1
  simp [ByteArray.data_extract, ByteArray.size]
theorem quote_from (T : PrintTabs) : ∀ (l : List UInt8) (f : Nat), l.length ≤ f → l.all asc = true → quoteFrom T f ⟨l.toArray⟩ = asInts (escL l)
  | [], f, _, _ => by rw [quoteFrom_end _ _ _ (by show ¬ 0 < 0; omega)]; rfl
  | c :: r, f, hf, h => by
    rw [List.all_cons, Bool.and_eq_true] at h
    have hs : 0 < (⟨(c :: r).toArray⟩ : ByteArray).size := by show 0 < (c :: r).length; simp
    have hd : Utf8.decode (⟨(c :: r).toArray⟩ : ByteArray) 0 = (c.toNat, 1) := decode_ascii _ 0 hs (asc_lt h.1)
    rw [quoteFrom_step T f _ hs (by show (c :: r).length ≤ f; exact hf), hd]
    simp only
    rw [ba_cons, quote_from T r (f - 1) (by simp at hf; omega) h.2, escL, asInts_append]
    congr 1
    rw [quoteStep_good T _ (by rw [hd]; rintro ⟨_, h2⟩; have := asc_lt h.1; simp at h2; omega), hd]
    exact esc_one T h.1
theorem quoteB_asc (s : ByteArray) (h : s.data.toList.all asc = true) : quoteB s = ⟨(quoL s.data.toList).toArray⟩ := by
  have e : s = ⟨s.data.toList.toArray⟩ := by cases s; simp
  unfold quoteB quoteZ
  have hq := quote_from goPrintTabs s.data.toList s.size (Nat.le_refl _) h
  rw [← e] at hq
  rw [hq]
  have e2 : (34 : Int) :: (asInts (escL s.data.toList) ++ [34]) = (quoL s.data.toList).map fun b => (b.toNat : Int) := by simp [quoL, asInts]
  rw [e2]
  exact Go.Lib.Lz.strOfNums_map (quoL s.data.toList)
end Go.Proofs.YtenededepjfojaaDoor.Pure
