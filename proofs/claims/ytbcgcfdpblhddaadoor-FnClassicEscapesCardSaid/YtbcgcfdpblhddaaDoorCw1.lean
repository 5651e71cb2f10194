/- labels.zzMatcherParts: what it answers. -/
import Derived.Test.YtbcgcfdpblhddaaDoorCl4
import Derived.Test.YtbcgcfdpblhddaaDoorLib
import Derived.Test.YtbcgcfdpblhddaaDoorQx4
import Derived.Test.YtbcgcfdpblhddaaDoorQx2
import Derived.Test.YtbcgcfdpblhddaaDoorQx3
namespace Go.Proofs.YtbcgcfdpblhddaaDoor.Cl
open Go.RowKit Go.Lib Go.Proofs.YtbcgcfdpblhddaaDoor.Pure Go.Proofs.YtbcgcfdpblhddaaDoor.Q Go.Proofs.YtbcgcfdpblhddaaDoorW.PrintWords Go.Proofs.YtbcgcfdpblhddaaDoorW.PrintLast
set_option linter.unusedVariables false
set_option linter.unusedSimpArgs false
theorem lsz (x : ByteArray) : x.data.toList.length = x.size := Array.length_toList
theorem blank_all : ∀ n : Nat, n < 256 → labels_zzBlank.f (n : Int) = some (blk (UInt8.ofNat n)) := by decide +kernel
theorem nmb_all : ∀ n : Nat, n < 256 → labels_zzNameByte.f (n : Int) true = some (nmc true true (UInt8.ofNat n)) ∧ labels_zzNameByte.f (n : Int) false = some (nmc false true (UInt8.ofNat n)) := by decide +kernel
theorem bt_c {s : ByteArray} {i : Nat} {c : UInt8} {r : List UInt8} (h : s.data.toList.drop i = c :: r) : i < s.size ∧ bt s (i : Int) = (c.toNat : Int) ∧ s.data.toList.drop (i + 1) = r := by
  have hl : i < s.data.toList.length := by
    have := congrArg List.length h
    rw [List.length_drop, List.length_cons] at this
    omega
  have hi : i < s.size := by rw [lsz] at hl; exact hl
  refine ⟨hi, ?_, ?_⟩
  · have h1 := List.drop_eq_getElem_cons hl
    rw [h] at h1
    rw [(List.cons.inj h1).1]
    unfold bt
    rw [Int.toNat_natCast, dif_pos hi]
    rfl
  · rw [← List.drop_drop, h]; rfl
theorem blank_c (c : UInt8) : labels_zzBlank.f (c.toNat : Int) = some (blk c) := by
  have := blank_all c.toNat (UInt8.toNat_lt c)
  rwa [UInt8.ofNat_toNat] at this
theorem nmb_c (c : UInt8) (f : Bool) : labels_zzNameByte.f (c.toNat : Int) f = some (nmc f true c) := by
  have := nmb_all c.toNat (UInt8.toNat_lt c)
  rw [UInt8.ofNat_toNat] at this
  cases f
  · exact this.2
  · exact this.1
theorem w1 {i : Nat} (h : i ≤ 3000000000) : wrap64 ((i : Int) + 1) = ((i + 1 : Nat) : Int) := by unfold wrap64; omega
theorem w2 {i : Nat} (h : i ≤ 3000000000) : wrap64 ((i : Int) + 2) = ((i + 2 : Nat) : Int) := by unfold wrap64; omega
theorem drop_len (s : ByteArray) (i : Nat) : (s.data.toList.drop i).length = s.size - i := by rw [List.length_drop, lsz]
theorem w_add {i j : Nat} (h : i + j ≤ 3000000000) : wrap64 ((i : Int) + (j : Int)) = ((i + j : Nat) : Int) := by unfold wrap64; omega
theorem opB_one (c : UInt8) : opB [c] = if c = 61 then some (0, []) else none := rfl
theorem opB_two (c d : UInt8) (r : List UInt8) : opB (c :: d :: r) = if c = 61 ∧ d = 126 then some (2, r) else if c = 33 ∧ d = 61 then some (1, r) else if c = 33 ∧ d = 126 then some (3, r) else if c = 61 then some (0, d :: r) else none := rfl
theorem opN_pos (t : Nat) : 0 < (if t = 0 then 1 else 2) := by split <;> omega
theorem nm_pre : ∀ (o f : Bool) (t : List UInt8), nmB o f t <+: t
  | _, _, [] => List.nil_prefix
  | o, f, c :: r => by
    unfold nmB
    split
    · obtain ⟨z, hz⟩ := nm_pre o false r
      exact ⟨z, by rw [List.cons_append, hz]⟩
    · exact List.nil_prefix
/-- Where the white space ends that begins at a place. -/
def ltp (s : ByteArray) (i : Nat) : Nat := s.size - (lt (s.data.toList.drop i)).length
theorem ltp_le (s : ByteArray) {i : Nat} (h : i ≤ s.size) : i ≤ ltp s i ∧ ltp s i ≤ s.size ∧ s.data.toList.drop (ltp s i) = lt (s.data.toList.drop i) := by
  obtain ⟨p, hp⟩ := lt_suffix (s.data.toList.drop i)
  have hl := congrArg List.length hp
  rw [List.length_append, drop_len] at hl
  unfold ltp
  refine ⟨by omega, by omega, ?_⟩
  have e : s.size - (lt (s.data.toList.drop i)).length = i + p.length := by omega
  have hd : (p ++ lt (s.data.toList.drop i)).drop p.length = lt (s.data.toList.drop i) := List.drop_left' rfl
  rw [hp] at hd
  rw [e, ← List.drop_drop, hd]
theorem ltp_end {s : ByteArray} {i : Nat} (h : s.data.toList.drop i = []) (hi : i ≤ s.size) : ltp s i = i := by
  have := congrArg List.length h
  rw [drop_len] at this
  unfold ltp
  rw [h]
  simp only [List.length_nil] at this
  show s.size - 0 = i
  omega
theorem ltp_blank {s : ByteArray} {i : Nat} {c : UInt8} {r : List UInt8} (h : s.data.toList.drop i = c :: r) (hb : blk c = true) : ltp s i = ltp s (i + 1) := by
  unfold ltp
  rw [(bt_c h).2.2, h]
  congr 2
  unfold lt
  rw [List.dropWhile_cons_of_pos hb]
theorem ltp_stop {s : ByteArray} {i : Nat} {c : UInt8} {r : List UInt8} (h : s.data.toList.drop i = c :: r) (hb : blk c = false) : ltp s i = i := by
  have hl := drop_len s i
  have := (bt_c h).1
  unfold ltp
  rw [h, lt_nb r hb]
  rw [h] at hl
  rw [hl]
  omega
section
variable {s : ByteArray} (hs : s.size ≤ 2147483647)
include hs
theorem p0_ev {R : List ByteArray} : ∀ (d i : Nat), i + d = s.size → Ev (fun k => labels_zzMatcherParts.j1 k s (ltp s i : Nat)) R → Ev (fun k => labels_zzMatcherParts.l0 k s (i : Int)) R := by
  intro d
  induction d with
  | zero =>
    intro i hi g
    rw [ltp_end (List.drop_of_length_le (by rw [lsz]; omega)) (by omega)] at g
    refine Ev.step (fun k => ?_) g
    simp only [labels_zzMatcherParts.l0]
    rw [if_neg (by omega)]
  | succ d ih =>
    intro i hi g
    obtain ⟨c, r, h⟩ := List.exists_cons_of_ne_nil (show s.data.toList.drop i ≠ [] from fun e => by have := congrArg List.length e; rw [drop_len] at this; simp at this; omega)
    obtain ⟨h1, h2, h3⟩ := bt_c h
    cases hb : blk c with
    | true =>
      rw [ltp_blank h hb] at g
      refine Ev.step (fun k => ?_) (ih (i + 1) (by omega) g)
      simp only [labels_zzMatcherParts.l0]
      rw [if_pos (by omega), if_pos (by omega), h2, blank_c, hb, Option.bind_some, if_pos rfl, w1 (by omega)]
    | false =>
      rw [ltp_stop h hb] at g
      refine Ev.step (fun k => ?_) g
      simp only [labels_zzMatcherParts.l0]
      rw [if_pos (by omega), if_pos (by omega), h2, blank_c, hb, Option.bind_some, if_neg (by simp)]
theorem p2_ev {x3 x4 : Int} {R : List ByteArray} : ∀ (d i : Nat), i + d = s.size → Ev (fun k => labels_zzMatcherParts.j5 k s x3 x4 (ltp s i : Nat)) R → Ev (fun k => labels_zzMatcherParts.l2 k s x3 x4 (i : Int)) R := by
  intro d
  induction d with
  | zero =>
    intro i hi g
    rw [ltp_end (List.drop_of_length_le (by rw [lsz]; omega)) (by omega)] at g
    refine Ev.step (fun k => ?_) g
    simp only [labels_zzMatcherParts.l2]
    rw [if_neg (by omega)]
  | succ d ih =>
    intro i hi g
    obtain ⟨c, r, h⟩ := List.exists_cons_of_ne_nil (show s.data.toList.drop i ≠ [] from fun e => by have := congrArg List.length e; rw [drop_len] at this; simp at this; omega)
    obtain ⟨h1, h2, h3⟩ := bt_c h
    cases hb : blk c with
    | true =>
      rw [ltp_blank h hb] at g
      refine Ev.step (fun k => ?_) (ih (i + 1) (by omega) g)
      simp only [labels_zzMatcherParts.l2]
      rw [if_pos (by omega), if_pos (by omega), h2, blank_c, hb, Option.bind_some, if_pos rfl, w1 (by omega)]
    | false =>
      rw [ltp_stop h hb] at g
      refine Ev.step (fun k => ?_) g
      simp only [labels_zzMatcherParts.l2]
      rw [if_pos (by omega), if_pos (by omega), h2, blank_c, hb, Option.bind_some, if_neg (by simp)]
theorem p3_ev {x3 x4 x5 x6 : Int} {R : List ByteArray} : ∀ (d i : Nat), i + d = s.size → Ev (fun k => labels_zzMatcherParts.j9 k s x3 x4 x5 x6 (ltp s i : Nat) (s.size : Int)) R → Ev (fun k => labels_zzMatcherParts.l3 k s x3 x4 x5 x6 (i : Int) (s.size : Int)) R := by
  intro d
  induction d with
  | zero =>
    intro i hi g
    rw [ltp_end (List.drop_of_length_le (by rw [lsz]; omega)) (by omega)] at g
    refine Ev.step (fun k => ?_) g
    simp only [labels_zzMatcherParts.l3]
    rw [if_neg (by omega)]
  | succ d ih =>
    intro i hi g
    obtain ⟨c, r, h⟩ := List.exists_cons_of_ne_nil (show s.data.toList.drop i ≠ [] from fun e => by have := congrArg List.length e; rw [drop_len] at this; simp at this; omega)
    obtain ⟨h1, h2, h3⟩ := bt_c h
    cases hb : blk c with
    | true =>
      rw [ltp_blank h hb] at g
      refine Ev.step (fun k => ?_) (ih (i + 1) (by omega) g)
      simp only [labels_zzMatcherParts.l3]
      rw [if_pos (by omega), if_pos (by omega), if_pos (by omega), h2, blank_c, hb, Option.bind_some, if_pos rfl, w1 (by omega)]
    | false =>
      rw [ltp_stop h hb] at g
      refine Ev.step (fun k => ?_) g
      simp only [labels_zzMatcherParts.l3]
      rw [if_pos (by omega), if_pos (by omega), if_pos (by omega), h2, blank_c, hb, Option.bind_some, if_neg (by simp)]
theorem p1_ev {x3 : Nat} {R : List ByteArray} : ∀ (d i : Nat), i + d = s.size → x3 ≤ i → Ev (fun k => labels_zzMatcherParts.j3 k s (x3 : Int) ((i + (nmB true (decide (i = x3)) (s.data.toList.drop i)).length : Nat) : Int)) R → Ev (fun k => labels_zzMatcherParts.l1 k s (x3 : Int) (i : Int)) R := by
  intro d
  induction d with
  | zero =>
    intro i hi h3 g
    rw [List.drop_of_length_le (by rw [lsz]; omega)] at g
    refine Ev.step (fun k => ?_) g
    simp only [labels_zzMatcherParts.l1]
    rw [if_neg (by omega)]
    rfl
  | succ d ih =>
    intro i hi hx g
    obtain ⟨c, r, h⟩ := List.exists_cons_of_ne_nil (show s.data.toList.drop i ≠ [] from fun e => by have := congrArg List.length e; rw [drop_len] at this; simp at this; omega)
    obtain ⟨h1, h2, h3⟩ := bt_c h
    have hf : (((i : Nat) : Int) == ((x3 : Nat) : Int)) = decide (i = x3) := by
      rw [Bool.eq_iff_iff, beq_iff_eq, decide_eq_true_eq]
      omega
    cases hb : nmc (decide (i = x3)) true c with
    | true =>
      rw [h, nmB, if_pos hb, List.length_cons] at g
      have hd : decide (i + 1 = x3) = false := decide_eq_false (by omega)
      refine Ev.step (fun k => ?_) (ih (i + 1) (by omega) (by omega) (by rw [hd, h3, show i + 1 + (nmB true false r).length = i + ((nmB true false r).length + 1) by omega]; exact g))
      simp only [labels_zzMatcherParts.l1]
      rw [if_pos (by omega), if_pos (by omega), h2, hf, nmb_c, hb, Option.bind_some, if_pos rfl, w1 (by omega)]
    | false =>
      rw [h, nmB, if_neg (by rw [hb]; simp)] at g
      refine Ev.step (fun k => ?_) g
      simp only [labels_zzMatcherParts.l1]
      rw [if_pos (by omega), if_pos (by omega), h2, hf, nmb_c, hb, Option.bind_some, if_neg (by simp)]
      rfl
/-- Where the text ends, white space at its end left out, from a place on. -/
def rtp (s : ByteArray) (i : Nat) : Nat := i + (rt (s.data.toList.drop i)).length
def oneOf (s : ByteArray) (x3 x4 x5 x6 x7 x8 : Nat) : List ByteArray := [s, s.extract x3 x4, s.extract x5 (x5 + x6), s.extract x7 x8]
theorem p4_ev {x3 x4 x5 x6 x7 : Nat} (h1 : x3 ≤ x4) (h2 : x4 ≤ s.size) (h3 : x5 + x6 ≤ s.size) : ∀ (d i : Nat), x7 + d = i → i ≤ s.size → rtp s x7 ≤ i → (∀ c ∈ s.data.toList.drop i, blk c = true) →
    Ev (fun k => labels_zzMatcherParts.l4 k s (x3 : Int) (x4 : Int) (x5 : Int) (x6 : Int) (x7 : Int) (i : Int)) (oneOf s x3 x4 x5 x6 x7 (rtp s x7)) := by
  have hW := w_add (i := x5) (j := x6) (by omega)
  have last : ∀ (i : Nat), x7 ≤ i → i ≤ s.size → i = rtp s x7 → (if (0 : Int) ≤ (x3 : Int) then (if (x3 : Int) ≤ (x4 : Int) then (if (x4 : Int) ≤ (s.size : Int) then (if (0 : Int) ≤ (x5 : Int) then (if (x5 : Int) ≤ (wrap64 ((x5 : Int) + (x6 : Int))) then (if (wrap64 ((x5 : Int) + (x6 : Int))) ≤ (s.size : Int) then (if (0 : Int) ≤ (x7 : Int) then (if (x7 : Int) ≤ (i : Int) then (if (i : Int) ≤ (s.size : Int) then (some (([s, s.extract ((x3 : Int) : Int).toNat ((x4 : Int) : Int).toNat, s.extract ((x5 : Int) : Int).toNat ((wrap64 ((x5 : Int) + (x6 : Int))) : Int).toNat, s.extract ((x7 : Int) : Int).toNat ((i : Int) : Int).toNat] : List ByteArray))) else (none)) else (none)) else (none)) else (none)) else (none)) else (none)) else (none)) else (none)) else (none)) = some (oneOf s x3 x4 x5 x6 x7 (rtp s x7)) := by
    intro i hi1 hi2 he
    rw [hW, if_pos (by omega), if_pos (by omega), if_pos (by omega), if_pos (by omega), if_pos (by omega), if_pos (by omega), if_pos (by omega), if_pos (by omega), if_pos (by omega), ← he]
    simp only [Int.toNat_natCast]
    rfl
  intro d
  induction d with
  | zero =>
    intro i hi hsz hr hb
    have he : i = rtp s x7 := by unfold rtp at hr ⊢; omega
    refine ev_succ (fun k => ?_)
    simp only [labels_zzMatcherParts.l4]
    rw [if_neg (by omega)]
    exact last i (by omega) hsz he
  | succ d ih =>
    intro i hi hsz hr hb
    obtain ⟨m, rfl⟩ : ∃ m, i = m + 1 := ⟨i - 1, by omega⟩
    obtain ⟨c, r, h⟩ := List.exists_cons_of_ne_nil (show s.data.toList.drop m ≠ [] from fun e => by have := congrArg List.length e; rw [drop_len] at this; simp at this; omega)
    obtain ⟨g1, g2, g3⟩ := bt_c h
    have hw : wrap64 (((m + 1 : Nat) : Int) - 1) = (m : Int) := by unfold wrap64; omega
    have hsplit : s.data.toList.drop x7 = (s.data.toList.drop x7).take (m - x7) ++ (c :: r) := by
      rw [← h]
      conv => lhs; rw [← List.take_append_drop (m - x7) (s.data.toList.drop x7)]
      rw [List.drop_drop, show x7 + (m - x7) = m by omega]
    have hlen : ((s.data.toList.drop x7).take (m - x7)).length = m - x7 := by rw [List.length_take, drop_len]; omega
    have hrb : ∀ x ∈ r, blk x = true := fun x hx => hb x (by rw [g3]; exact hx)
    cases hc : blk c with
    | true =>
      have hall : ∀ x ∈ c :: r, blk x = true := fun x hx => by
        rcases List.mem_cons.1 hx with rfl | hx
        · exact hc
        · exact hrb x hx
      have hle : rtp s x7 ≤ m := by
        unfold rtp
        rw [hsplit, rt_blank _ hall]
        obtain ⟨b, _, e⟩ := rt_split ((s.data.toList.drop x7).take (m - x7))
        have := congrArg List.length e
        rw [List.length_append, hlen] at this
        omega
      refine Ev.step (fun k => ?_) (ih m (by omega) (by omega) hle (by rw [h]; exact hall))
      simp only [labels_zzMatcherParts.l4]
      rw [if_pos (by omega), hw, if_pos (by omega), if_pos (by omega), g2, blank_c, hc, Option.bind_some, if_pos rfl]
    | false =>
      have he : m + 1 = rtp s x7 := by
        unfold rtp
        rw [hsplit, show (s.data.toList.drop x7).take (m - x7) ++ (c :: r) = ((s.data.toList.drop x7).take (m - x7) ++ [c]) ++ r by simp, rt_blank _ hrb, rt_nb _ hc, List.length_append, hlen]
        simp only [List.length_singleton]
        omega
      refine ev_succ (fun k => ?_)
      simp only [labels_zzMatcherParts.l4]
      rw [if_pos (by omega), hw, if_pos (by omega), if_pos (by omega), g2, blank_c, hc, Option.bind_some, if_neg (by simp)]
      exact last (m + 1) (by omega) hsz he
theorem p9_ev {x3 x4 x5 x6 x7 : Nat} (h1 : x3 ≤ x4) (h2 : x4 ≤ s.size) (h3 : x5 + x6 ≤ s.size) (h7 : x7 ≤ s.size) :
    Ev (fun k => labels_zzMatcherParts.j9 k s (x3 : Int) (x4 : Int) (x5 : Int) (x6 : Int) (x7 : Int) (s.size : Int)) (oneOf s x3 x4 x5 x6 x7 (rtp s x7)) := by
  refine Ev.step (f := fun k => labels_zzMatcherParts.l4 k s (x3 : Int) (x4 : Int) (x5 : Int) (x6 : Int) (x7 : Int) (s.size : Int)) (fun k => rfl) (p4_ev hs h1 h2 h3 (s.size - x7) s.size (by omega) (Nat.le_refl _) ?_ ?_)
  · unfold rtp
    obtain ⟨b, _, e⟩ := rt_split (s.data.toList.drop x7)
    have := congrArg List.length e
    rw [List.length_append, drop_len] at this
    omega
  · rw [List.drop_of_length_le (by rw [lsz]; omega)]
    intro c hc
    exact nomatch hc
theorem p7_ev {x3 x4 x5 x6 : Nat} (h1 : x3 ≤ x4) (h2 : x4 ≤ s.size) (h3 : x5 + x6 ≤ s.size) :
    Ev (fun k => labels_zzMatcherParts.j7 k s (x3 : Int) (x4 : Int) (x5 : Int) (x6 : Int)) (oneOf s x3 x4 x5 x6 (ltp s (x5 + x6)) (rtp s (ltp s (x5 + x6)))) := by
  obtain ⟨l1, l2, l3⟩ := ltp_le s h3
  refine Ev.step (f := fun k => labels_zzMatcherParts.l3 k s (x3 : Int) (x4 : Int) (x5 : Int) (x6 : Int) ((x5 + x6 : Nat) : Int) (s.size : Int)) (fun k => ?_) (p3_ev hs (s.size - (x5 + x6)) (x5 + x6) (by omega) (p9_ev hs h1 h2 h3 l2))
  simp only [labels_zzMatcherParts.j7]
  rw [w_add (by omega)]
def opN (t : Nat) : Nat := if t = 0 then 1 else 2
theorem p5_ev {x3 x4 x5 : Nat} (h1 : x3 < x4) (h2 : x4 ≤ s.size) (h5 : x5 ≤ s.size) :
    Ev (fun k => labels_zzMatcherParts.j5 k s (x3 : Int) (x4 : Int) (x5 : Int)) (match opB (s.data.toList.drop x5) with
      | none => []
      | some q => oneOf s x3 x4 x5 (opN q.1) (ltp s (x5 + opN q.1)) (rtp s (ltp s (x5 + opN q.1)))) := by
  have j6t : x5 + 2 ≤ s.size → Ev (fun k => labels_zzMatcherParts.j6 k s (x3 : Int) (x4 : Int) (x5 : Int) true) (oneOf s x3 x4 x5 2 (ltp s (x5 + 2)) (rtp s (ltp s (x5 + 2)))) := by
    intro h
    refine Ev.step (f := fun k => labels_zzMatcherParts.j7 k s (x3 : Int) (x4 : Int) (x5 : Int) ((2 : Nat) : Int)) (fun k => ?_) (p7_ev hs (by omega) h2 (x6 := 2) h)
    simp only [labels_zzMatcherParts.j6]
    rw [if_pos trivial]
    rfl
  have j6f : ∀ {c : UInt8} {r : List UInt8}, s.data.toList.drop x5 = c :: r → Ev (fun k => labels_zzMatcherParts.j6 k s (x3 : Int) (x4 : Int) (x5 : Int) false) (if c = 61 then oneOf s x3 x4 x5 1 (ltp s (x5 + 1)) (rtp s (ltp s (x5 + 1))) else []) := by
    intro c r h
    obtain ⟨g1, g2, g3⟩ := bt_c h
    by_cases hc : c = 61
    · rw [if_pos hc]
      refine Ev.step (f := fun k => labels_zzMatcherParts.j7 k s (x3 : Int) (x4 : Int) (x5 : Int) ((1 : Nat) : Int)) (fun k => ?_) (p7_ev hs (by omega) h2 (x6 := 1) (by omega))
      simp only [labels_zzMatcherParts.j6]
      rw [if_neg (by simp), if_pos (by omega), if_pos (by omega), g2, if_pos (by rw [hc]; rfl)]
      rfl
    · rw [if_neg hc]
      refine ev_succ (fun k => ?_)
      simp only [labels_zzMatcherParts.j6]
      rw [if_neg (by simp), if_pos (by omega), if_pos (by omega), g2, if_neg (fun e => hc ((u8_eq c 61 (by omega)).2 (by omega)))]
  have hne : ¬ ((x4 : Int) = (x3 : Int)) := by omega
  cases hd : s.data.toList.drop x5 with
  | nil =>
    have hl := congrArg List.length hd
    rw [drop_len] at hl
    simp only [List.length_nil] at hl
    have j6e : Ev (fun k => labels_zzMatcherParts.j6 k s (x3 : Int) (x4 : Int) (x5 : Int) false) ([] : List ByteArray) := by
      refine ev_succ (fun k => ?_)
      simp only [labels_zzMatcherParts.j6]
      rw [if_neg (by simp), if_neg (by omega)]
    refine Ev.step (f := fun k => labels_zzMatcherParts.j6 k s (x3 : Int) (x4 : Int) (x5 : Int) false) (fun k => ?_) j6e
    simp only [labels_zzMatcherParts.j5]
    rw [if_neg hne, w1 (by omega), if_neg (by omega)]
  | cons c r =>
    have hf := j6f hd
    obtain ⟨g1, g2, g3⟩ := bt_c hd
    cases r with
    | nil =>
      have hl := congrArg List.length hd
      rw [drop_len] at hl
      simp only [List.length_cons, List.length_nil] at hl
      have e : (match opB [c] with | none => [] | some q => oneOf s x3 x4 x5 (opN q.1) (ltp s (x5 + opN q.1)) (rtp s (ltp s (x5 + opN q.1)))) = (if c = 61 then oneOf s x3 x4 x5 1 (ltp s (x5 + 1)) (rtp s (ltp s (x5 + 1))) else []) := by
        rw [opB_one]
        by_cases hc : c = 61
        · rw [if_pos hc, if_pos hc]; rfl
        · rw [if_neg hc, if_neg hc]
      rw [e]
      refine Ev.step (f := fun k => labels_zzMatcherParts.j6 k s (x3 : Int) (x4 : Int) (x5 : Int) false) (fun k => ?_) hf
      simp only [labels_zzMatcherParts.j5]
      rw [if_neg hne, w1 (by omega), if_neg (by omega)]
    | cons d t =>
      have hl := congrArg List.length hd
      rw [drop_len] at hl
      simp only [List.length_cons] at hl
      have hsl : (s.extract x5 (x5 + 2)).toList = [c, d] := by
        rw [Lib.toList_data, ByteArray.data_extract, Array.toList_extract, List.extract_eq_take_drop, Nat.add_sub_cancel_left, hd]
        rfl
      have pre : ∀ k, labels_zzMatcherParts.j5 (k + 1) s (x3 : Int) (x4 : Int) (x5 : Int) = if ([c, d] : List UInt8) = [61, 126] then labels_zzMatcherParts.j6 k s (x3 : Int) (x4 : Int) (x5 : Int) true else if ([c, d] : List UInt8) = [33, 61] then labels_zzMatcherParts.j6 k s (x3 : Int) (x4 : Int) (x5 : Int) true else labels_zzMatcherParts.j6 k s (x3 : Int) (x4 : Int) (x5 : Int) (([c, d] : List UInt8) == [33, 126]) := by
        intro k
        simp only [labels_zzMatcherParts.j5]
        rw [if_neg hne, w1 (by omega), w2 (by omega), if_pos (by omega), if_pos (by omega), if_pos (by omega), if_pos (by omega), Int.toNat_natCast, Int.toNat_natCast, hsl]
      by_cases k1 : c = 61 ∧ d = 126
      · have e : opB (c :: d :: t) = some (2, t) := by simp [opB, k1]
        rw [e]
        refine Ev.step (fun k => ?_) (j6t (by omega))
        rw [pre, if_pos (by rw [k1.1, k1.2])]
      · by_cases k2 : c = 33 ∧ d = 61
        · have e : opB (c :: d :: t) = some (1, t) := by simp [opB, k2]
          rw [e]
          refine Ev.step (fun k => ?_) (j6t (by omega))
          rw [pre, if_neg (by rw [k2.1, k2.2]; decide), if_pos (by rw [k2.1, k2.2])]
        · by_cases k3 : c = 33 ∧ d = 126
          · have e : opB (c :: d :: t) = some (3, t) := by simp [opB, k3]
            rw [e]
            refine Ev.step (fun k => ?_) (j6t (by omega))
            rw [pre, if_neg (by rw [k3.1, k3.2]; decide), if_neg (by rw [k3.1, k3.2]; decide), k3.1, k3.2]
            rfl
          · have e : (match opB (c :: d :: t) with | none => [] | some q => oneOf s x3 x4 x5 (opN q.1) (ltp s (x5 + opN q.1)) (rtp s (ltp s (x5 + opN q.1)))) = (if c = 61 then oneOf s x3 x4 x5 1 (ltp s (x5 + 1)) (rtp s (ltp s (x5 + 1))) else []) := by
              rw [opB_two, if_neg k1, if_neg k2, if_neg k3]
              by_cases hc : c = 61
              · rw [if_pos hc, if_pos hc]; rfl
              · rw [if_neg hc, if_neg hc]
            rw [e]
            refine Ev.step (fun k => ?_) hf
            have hb : (([c, d] : List UInt8) == [33, 126]) = false := by
              rw [beq_eq_false_iff_ne]
              intro h
              exact k3 ⟨by simpa using congrArg List.head? h, by simpa using (List.cons.inj (List.cons.inj h).2).1⟩
            rw [pre, if_neg (by intro h; exact k1 ⟨(List.cons.inj h).1, (List.cons.inj (List.cons.inj h).2).1⟩), if_neg (by intro h; exact k2 ⟨(List.cons.inj h).1, (List.cons.inj (List.cons.inj h).2).1⟩), hb]
end
/-- The operator's text. -/
def oxL (t : Nat) : List UInt8 := if t = 0 then [61] else if t = 1 then [33, 61] else if t = 2 then [61, 126] else [33, 126]
def ba (l : List UInt8) : ByteArray := ⟨l.toArray⟩
theorem ba_list (l : List UInt8) : (ba l).data.toList = l := rfl
theorem ba_of (s : ByteArray) : ba s.data.toList = s := rfl
theorem ext_ba (s : ByteArray) (i j : Nat) : s.extract i j = ba ((s.data.toList.drop i).take (j - i)) := by
  apply ByteArray.ext
  apply Array.toList_inj.1
  rw [ByteArray.data_extract, Array.toList_extract, List.extract_eq_take_drop]
  rfl
/-- What zzMatcherParts answers. -/
def ptL (s : ByteArray) : List ByteArray := match ptB s.data.toList with | none => [] | some p => [s, ba p.1, ba (oxL p.2.1), ba p.2.2]
theorem op_facts {l : List UInt8} {q : Nat × List UInt8} (h : opB l = some q) : q.1 < 4 ∧ l = oxL q.1 ++ q.2 := by
  match l, h with
  | [c], h =>
    rw [opB_one] at h
    by_cases hc : c = 61
    · rw [if_pos hc] at h; rw [← Option.some.inj h, hc]; exact ⟨by decide, rfl⟩
    · rw [if_neg hc] at h; cases h
  | c :: d :: r, h =>
    rw [opB_two] at h
    by_cases k1 : c = 61 ∧ d = 126
    · rw [if_pos k1] at h; rw [← Option.some.inj h, k1.1, k1.2]; exact ⟨by show 2 < 4; omega, rfl⟩
    · rw [if_neg k1] at h
      by_cases k2 : c = 33 ∧ d = 61
      · rw [if_pos k2] at h; rw [← Option.some.inj h, k2.1, k2.2]; exact ⟨by show 1 < 4; omega, rfl⟩
      · rw [if_neg k2] at h
        by_cases k3 : c = 33 ∧ d = 126
        · rw [if_pos k3] at h; rw [← Option.some.inj h, k3.1, k3.2]; exact ⟨by show 3 < 4; omega, rfl⟩
        · rw [if_neg k3] at h
          by_cases hc : c = 61
          · rw [if_pos hc] at h; rw [← Option.some.inj h, hc]; exact ⟨by show 0 < 4; omega, rfl⟩
          · rw [if_neg hc] at h; cases h
theorem parts_ev {s : ByteArray} (hs : s.size ≤ 2147483647) : Ev (fun k => labels_zzMatcherParts.f k s) (ptL s) := by
  obtain ⟨i0, hi0⟩ : ∃ i, ltp s 0 = i := ⟨_, rfl⟩
  obtain ⟨a1, a2, a3⟩ := ltp_le s (Nat.zero_le s.size)
  rw [hi0] at a2 a3
  rw [List.drop_zero] at a3
  obtain ⟨n, hn⟩ : ∃ n, (nmB true true (s.data.toList.drop i0)).length = n := ⟨_, rfl⟩
  have hnl : i0 + n ≤ s.size := by
    have := nm_le true true (s.data.toList.drop i0)
    rw [drop_len, hn] at this
    omega
  have step1 : ∀ {R}, Ev (fun k => labels_zzMatcherParts.j3 k s (i0 : Int) ((i0 + n : Nat) : Int)) R → Ev (fun k => labels_zzMatcherParts.f k s) R := by
    intro R g
    have g1 := p1_ev hs (x3 := i0) (R := R) (s.size - i0) i0 (by omega) (Nat.le_refl _) (by rw [decide_eq_true (show i0 = i0 from rfl), hn]; exact g)
    have g2 : Ev (fun k => labels_zzMatcherParts.j1 k s (i0 : Int)) R := Ev.step (fun k => rfl) g1
    exact p0_ev hs s.size 0 (by omega) (by rw [hi0]; exact g2)
  unfold ptL ptB
  dsimp only
  rw [← a3]
  by_cases h0 : nmB true true (s.data.toList.drop i0) = []
  · rw [if_pos h0]
    have hn0 : n = 0 := by rw [← hn, h0]; rfl
    subst hn0
    refine step1 (Ev.step (f := fun k => labels_zzMatcherParts.l2 k s (i0 : Int) ((i0 + 0 : Nat) : Int) ((i0 + 0 : Nat) : Int)) (fun k => rfl) (p2_ev hs (s.size - i0) i0 (by omega) (ev_succ (fun k => ?_))))
    simp only [labels_zzMatcherParts.j5]
    rw [if_pos (by omega)]
  · rw [if_neg h0, hn]
    have hpos : 0 < n := by rw [← hn]; exact List.length_pos_iff.2 h0
    obtain ⟨b1, b2, b3⟩ := ltp_le s hnl
    rw [List.drop_drop, ← b3]
    have g := p5_ev hs (x3 := i0) (x4 := i0 + n) (x5 := ltp s (i0 + n)) (by omega) hnl b2
    have done := step1 (Ev.step (f := fun k => labels_zzMatcherParts.l2 k s (i0 : Int) ((i0 + n : Nat) : Int) ((i0 + n : Nat) : Int)) (fun k => rfl) (p2_ev hs (s.size - (i0 + n)) (i0 + n) (by omega) g))
    cases hq : opB (s.data.toList.drop (ltp s (i0 + n))) with
    | none => rw [hq] at done; exact done
    | some q =>
      rw [hq] at done
      suffices hh : [s, ba (nmB true true (s.data.toList.drop i0)), ba (oxL q.1), ba (tr q.2)] = oneOf s i0 (i0 + n) (ltp s (i0 + n)) (opN q.1) (ltp s (ltp s (i0 + n) + opN q.1)) (rtp s (ltp s (ltp s (i0 + n) + opN q.1))) by
        show Ev _ [s, ba (nmB true true (s.data.toList.drop i0)), ba (oxL q.1), ba (tr q.2)]
        rw [hh]
        exact done
      obtain ⟨q1, q2⟩ := op_facts hq
      have hox : (oxL q.1).length = opN q.1 := by unfold oxL opN; split <;> (try split) <;> (try split) <;> rfl
      have hl5 : ltp s (i0 + n) + opN q.1 ≤ s.size := by
        have := congrArg List.length q2
        rw [drop_len, List.length_append, hox] at this
        have := (opN_pos q.1)
        omega
      obtain ⟨c1, c2, c3⟩ := ltp_le s hl5
      have hdr : s.data.toList.drop (ltp s (i0 + n) + opN q.1) = q.2 := by
        rw [← List.drop_drop, q2, ← hox]
        exact List.drop_left' rfl
      unfold oneOf
      rw [ext_ba s i0, ext_ba s (ltp s (i0 + n)), ext_ba s (ltp s (ltp s (i0 + n) + opN q.1))]
      have e1 : (s.data.toList.drop i0).take (i0 + n - i0) = nmB true true (s.data.toList.drop i0) := by
        obtain ⟨z, hz⟩ := nm_pre true true (s.data.toList.drop i0)
        rw [Nat.add_sub_cancel_left, ← hn]
        conv => lhs; arg 2; rw [← hz]
        exact List.take_left' rfl
      have e2 : (s.data.toList.drop (ltp s (i0 + n))).take (ltp s (i0 + n) + opN q.1 - ltp s (i0 + n)) = oxL q.1 := by
        rw [Nat.add_sub_cancel_left, q2, ← hox]
        exact List.take_left' rfl
      have e3 : (s.data.toList.drop (ltp s (ltp s (i0 + n) + opN q.1))).take (rtp s (ltp s (ltp s (i0 + n) + opN q.1)) - ltp s (ltp s (i0 + n) + opN q.1)) = tr q.2 := by
        unfold rtp
        rw [Nat.add_sub_cancel_left, c3, hdr]
        unfold tr
        obtain ⟨b, _, e⟩ := rt_split (lt q.2)
        conv => lhs; arg 2; rw [e]
        exact List.take_left' rfl
      rw [e1, e2, e3]
end Go.Proofs.YtbcgcfdpblhddaaDoor.Cl
