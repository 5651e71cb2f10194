-- printed by this project's own program wip/tools/mkprint.py (the kit's print.py with hand-proved contracts put in)
import Derived.Test.YthjameohenmeiaaQx0
import Derived.Test.YthjameohenmeiaaQx2
namespace Go.Proofs.Ythjameohenmeiaa.Q
open Go.RowKit Go.Proofs.YthjameohenmeiaaW.PrintWords Go.Proofs.YthjameohenmeiaaW.PrintLast Go.Proofs.YthjameohenmeiaaW.PrintMore
attribute [local go_sem] max2_int min2_int max_two min_two max_three min_three max_four min_four   -- for this text's walks alone
set_option linter.unusedVariables false
set_option linter.unusedSimpArgs false

/-! ### sort_Sort: function 24 -/
-- contracts that were proved by hand
def zMat : S96 := z96
theorem kMat_at {w : World} {A : Option Addr} {n : Nat} {l : List S96} (h : Kd.C kMat w A n l) (i : Int) (h0 : 0 ≤ i) (h1 : i < n) :
    ∃ ad g, A = some ad ∧ w.cell? (ad.add i.toNat) = some (.pointer (some ⟨g, 0, none⟩)) ∧ w.cell? ⟨g, 0, none⟩ = some (.int .i64 (l.getD i.toNat zMat).f0) ∧ w.cell? ⟨g, 1, none⟩ = some (.string (l.getD i.toNat zMat).f1) ∧ w.cell? ⟨g, 2, none⟩ = some (.string (l.getD i.toNat zMat).f2) := by
  obtain ⟨ad, c, e, _, hK, hc0⟩ := Kd.C_get h zMat i h0 h1
  obtain ⟨g, rfl, hb⟩ := kMat_open hK
  refine ⟨ad, g, e, ?_, (blk_cell hb 0).trans rfl, (blk_cell hb 1).trans rfl, (blk_cell hb 2).trans rfl⟩
  have := hc0 0 _ rfl
  simpa [kMat, Box.box] using this
def lessM (a b : S96) : Bool :=
  if Op.bytesLess a.f1.toList b.f1.toList = true then true else if (a.f1.toList == b.f1.toList) = true then
  (if Op.bytesLess a.f2.toList b.f2.toList = true then true else if (a.f2.toList == b.f2.toList) = true then decide (a.f0 < b.f0) else false) else false
set_option maxHeartbeats 1600000 in
set_option maxRecDepth 100000 in
theorem labels_Matchers_Less.calls (A0 : Option Addr) (c0 : Nat) (l : List S96) (i j : Int) (w : World) (hr : Kd.C kMat w A0 l.length l) (hi0 : 0 ≤ i) (hi1 : i < l.length) (hj0 : 0 ≤ j) (hj1 : j < l.length) (hc : l.length ≤ c0) :
    Calls Try.prog 78 #[.slice A0 l.length c0, .int .i64 i, .int .i64 j] w fun e w' => e = .returned (.bool (lessM (l.getD i.toNat zMat) (l.getD j.toNat zMat))) ∧ Drawn0 w w' := by
  obtain ⟨ad, g, rfl, ha, ha0, ha1, ha2⟩ := kMat_at hr i hi0 hi1
  obtain ⟨ad', g', e, hb, hb0, hb1, hb2⟩ := kMat_at hr j hj0 hj1
  obtain rfl := Option.some.inj e
  clear e hr
  generalize l.getD i.toNat zMat = x at *
  generalize l.getD j.toNat zMat = y at *
  obtain ⟨x0, x1, x2⟩ := x
  obtain ⟨y0, y1, y2⟩ := y
  simp only at ha0 ha1 ha2 hb0 hb1 hb2
  have hi1' : (i : Int) < (l.length : Int) := hi1
  cases L1 : Op.bytesLess x1.toList y1.toList with
  | true =>
    have hf : lessM ⟨x0, x1, x2⟩ ⟨y0, y1, y2⟩ = true := by simp [lessM, L1]
    rw [hf]
    clear hf
    go_enter Try.func78, Try.ntmps78
    go_wp2
    go_quiet (fail)
    go_wp2
    go_quiet (fail)
    go_wp2
    go_ret
    exact ⟨rfl, by repeat (first | exact Drawn0.refl _ | apply Drawn0.step)⟩
  | false =>
  cases E1 : (x1.toList == y1.toList) with
  | false =>
    have hf : lessM ⟨x0, x1, x2⟩ ⟨y0, y1, y2⟩ = false := by simp [lessM, L1, E1]
    rw [hf]
    clear hf
    go_enter Try.func78, Try.ntmps78
    go_wp2
    go_quiet (fail)
    go_wp2
    go_ret
    exact ⟨rfl, by repeat (first | exact Drawn0.refl _ | apply Drawn0.step)⟩
  | true =>
  cases L2 : Op.bytesLess x2.toList y2.toList with
  | true =>
    have hf : lessM ⟨x0, x1, x2⟩ ⟨y0, y1, y2⟩ = true := by simp [lessM, L1, E1, L2]
    rw [hf]
    clear hf
    go_enter Try.func78, Try.ntmps78
    go_wp2
    go_quiet (fail)
    go_wp2
    go_quiet (fail)
    go_wp2
    go_quiet (fail)
    go_wp2
    go_quiet (fail)
    go_wp2
    go_ret
    exact ⟨rfl, by repeat (first | exact Drawn0.refl _ | apply Drawn0.step)⟩
  | false =>
  cases E2 : (x2.toList == y2.toList) with
  | false =>
    have hf : lessM ⟨x0, x1, x2⟩ ⟨y0, y1, y2⟩ = false := by simp [lessM, L1, E1, L2, E2]
    rw [hf]
    clear hf
    go_enter Try.func78, Try.ntmps78
    go_wp2
    go_quiet (fail)
    go_wp2
    go_quiet (fail)
    go_wp2
    go_quiet (fail)
    go_wp2
    go_ret
    exact ⟨rfl, by repeat (first | exact Drawn0.refl _ | apply Drawn0.step)⟩
  | true =>
    have hf : lessM ⟨x0, x1, x2⟩ ⟨y0, y1, y2⟩ = decide (x0 < y0) := by simp [lessM, L1, E1, L2, E2]
    rw [hf]
    clear hf
    go_enter Try.func78, Try.ntmps78
    go_wp2
    go_quiet (fail)
    go_wp2
    go_quiet (fail)
    go_wp2
    go_quiet (fail)
    go_wp2
    go_quiet (fail)
    go_wp2
    go_quiet (fail)
    go_wp2
    go_ret
    exact ⟨rfl, by repeat (first | exact Drawn0.refl _ | apply Drawn0.step)⟩
section matchers
open Go.Sort
abbrev MatI := S96
/-- A matcher that lies in a block of w, not in the row blk. -/
def PM (w : World) (blk : Nat) : Type := { p : Nat × MatI // w.heap[p.1]? = some (.cells #[.int .i64 p.2.f0, .string p.2.f1, .string p.2.f2] 96 (0, 0)) ∧ p.1 ≠ blk }
def PM.val {w : World} {blk : Nat} (p : PM w blk) : MatI := p.1.2
def PM.enc {w : World} {blk : Nat} (p : PM w blk) : Value := .pointer (some ⟨p.1.1, 0, none⟩)
def PM.lt {w : World} {blk : Nat} (p q : PM w blk) : Bool := lessM p.val q.val
theorem lessM_swo : SWO lessM where
  irrefl x := by
    unfold lessM
    rw [Pure.less_irrefl, if_neg (by simp), if_pos (by simp), Pure.less_irrefl, if_neg (by simp), if_pos (by simp)]
    simp
  trans x y z h g := by
    unfold lessM at h g ⊢
    by_cases a : Op.bytesLess x.f1.toList y.f1.toList = true <;> by_cases b : Op.bytesLess y.f1.toList z.f1.toList = true
    · rw [if_pos (Pure.less_trans a b)]
    · rw [if_neg b] at g
      by_cases e : (y.f1.toList == z.f1.toList) = true
      · rw [if_pos (by rw [← eq_of_beq e]; exact a)]
      · rw [if_neg e] at g; cases g
    · rw [if_neg a] at h
      by_cases e : (x.f1.toList == y.f1.toList) = true
      · rw [if_pos (by rw [eq_of_beq e]; exact b)]
      · rw [if_neg e] at h; cases h
    · rw [if_neg a] at h
      rw [if_neg b] at g
      by_cases e : (x.f1.toList == y.f1.toList) = true
      · by_cases e' : (y.f1.toList == z.f1.toList) = true
        · rw [if_pos e] at h
          rw [if_pos e'] at g
          have e1 := eq_of_beq e
          have e2 := eq_of_beq e'
          rw [if_neg (by rw [e1]; exact b), if_pos (by rw [e1, e2]; exact beq_self_eq_true _)]
          by_cases c : Op.bytesLess x.f2.toList y.f2.toList = true <;> by_cases d : Op.bytesLess y.f2.toList z.f2.toList = true
          · rw [if_pos (Pure.less_trans c d)]
          · rw [if_neg d] at g
            by_cases k : (y.f2.toList == z.f2.toList) = true
            · rw [if_pos (by rw [← eq_of_beq k]; exact c)]
            · rw [if_neg k] at g; cases g
          · rw [if_neg c] at h
            by_cases k : (x.f2.toList == y.f2.toList) = true
            · rw [if_pos (by rw [eq_of_beq k]; exact d)]
            · rw [if_neg k] at h; cases h
          · rw [if_neg c] at h
            rw [if_neg d] at g
            by_cases k : (x.f2.toList == y.f2.toList) = true
            · by_cases k' : (y.f2.toList == z.f2.toList) = true
              · rw [if_pos k] at h
                rw [if_pos k'] at g
                have k1 := eq_of_beq k
                have k2 := eq_of_beq k'
                rw [if_neg (by rw [k1]; exact d), if_pos (by rw [k1, k2]; exact beq_self_eq_true _)]
                have h1 := of_decide_eq_true h
                have h2 := of_decide_eq_true g
                exact decide_eq_true (by omega)
              · rw [if_neg k'] at g; cases g
            · rw [if_neg k] at h; cases h
        · rw [if_neg e'] at g; cases g
      · rw [if_neg e] at h; cases h
  ntrans x y z h g := by
    have tot : ∀ a b : List UInt8, Op.bytesLess a b = true ∨ a = b ∨ Op.bytesLess b a = true := fun a b => by
      by_cases h : Op.bytesLess a b = true
      · exact .inl h
      · by_cases e : a = b
        · exact .inr (.inl e)
        · exact .inr (.inr (Pure.less_total (by simpa using h) e))
    have ge : ∀ {a b : MatI}, lessM a b = false → Op.bytesLess b.f1.toList a.f1.toList = true ∨ (a.f1.toList = b.f1.toList ∧ (Op.bytesLess b.f2.toList a.f2.toList = true ∨ (a.f2.toList = b.f2.toList ∧ b.f0 ≤ a.f0))) := fun {a b} h => by
      unfold lessM at h
      rcases tot a.f1.toList b.f1.toList with c | c | c
      · rw [if_pos c] at h; cases h
      · refine .inr ⟨c, ?_⟩
        rw [if_neg (by rw [c, Pure.less_irrefl]; simp), if_pos (by rw [c]; exact beq_self_eq_true _)] at h
        rcases tot a.f2.toList b.f2.toList with d | d | d
        · rw [if_pos d] at h; cases h
        · rw [if_neg (by rw [d, Pure.less_irrefl]; simp), if_pos (by rw [d]; exact beq_self_eq_true _)] at h
          have := of_decide_eq_false h
          exact .inr ⟨d, by omega⟩
        · exact .inl d
      · exact .inl c
    have lt : ∀ {a b : MatI}, (Op.bytesLess b.f1.toList a.f1.toList = true ∨ (a.f1.toList = b.f1.toList ∧ (Op.bytesLess b.f2.toList a.f2.toList = true ∨ (a.f2.toList = b.f2.toList ∧ b.f0 ≤ a.f0)))) → lessM a b = false := fun {a b} h => by
      unfold lessM
      rcases h with h | ⟨h, k⟩
      · have n1 := Pure.less_asymm h
        have n2 : a.f1.toList ≠ b.f1.toList := fun e => by rw [e, Pure.less_irrefl] at h; cases h
        rw [n1, if_neg (by simp), if_neg (by simpa using n2)]
      · rw [if_neg (by rw [h, Pure.less_irrefl]; simp), if_pos (by rw [h]; exact beq_self_eq_true _)]
        rcases k with k | ⟨k, m⟩
        · have n1 := Pure.less_asymm k
          have n2 : a.f2.toList ≠ b.f2.toList := fun e => by rw [e, Pure.less_irrefl] at k; cases k
          rw [n1, if_neg (by simp), if_neg (by simpa using n2)]
        · rw [if_neg (by rw [k, Pure.less_irrefl]; simp), if_pos (by rw [k]; exact beq_self_eq_true _)]
          exact decide_eq_false (by omega)
    refine lt ?_
    rcases ge h with a | ⟨a, a'⟩ <;> rcases ge g with b | ⟨b, b'⟩
    · exact .inl (Pure.less_trans b a)
    · exact .inl (by rw [← b]; exact a)
    · exact .inl (by rw [a]; exact b)
    · refine .inr ⟨a.trans b, ?_⟩
      rcases a' with c | ⟨c, c'⟩ <;> rcases b' with d | ⟨d, d'⟩
      · exact .inl (Pure.less_trans d c)
      · exact .inl (by rw [← d]; exact c)
      · exact .inl (by rw [c]; exact d)
      · exact .inr ⟨c.trans d, by omega⟩
theorem PM.swo {w : World} {blk : Nat} : SWO (PM.lt (w := w) (blk := blk)) := ⟨fun x => lessM_swo.irrefl _, fun _ _ _ h g => lessM_swo.trans _ _ _ h g, fun _ _ _ h g => lessM_swo.ntrans _ _ _ h g⟩
/-- The row's matchers, each with its block. -/
theorem pm_list {w : World} {base blk : Nat} {ok' : Nat → Prop} (hne : ∀ k, ok' k → k ≠ blk) : ∀ {xs : List MatI} {inner : List Value}, Reps (kMat.M w base ok') 1 xs inner → ∃ d : List (PM w blk), d.map PM.val = xs ∧ inner = d.map PM.enc ∧ ∀ p ∈ d, ok' p.1.1 ∧ base ≤ p.1.1
  | [], inner, h => ⟨[], rfl, List.length_eq_zero_iff.1 (by simpa using h.1), fun p hp => by cases hp⟩
  | x :: xs, [], h => by have := h.1; simp at this
  | x :: xs, c :: inner, h => by
    obtain ⟨d, h1, h2, h3⟩ := pm_list hne (xs := xs) (inner := inner) ⟨by have := h.1; simp at this ⊢; omega, fun j p hj => by
      have := h.2 (j + 1) p hj
      simpa [Nat.mul_one] using this⟩
    have h0 := h.2 0 x rfl
    obtain ⟨g, cs', e, ho, hb, hg, hk⟩ := (show kMat.M w base ok' x [c] by simpa using h0)
    have e' := k96_openM hk
    have hg' : w.heap[g]? = some (.cells #[.int .i64 x.f0, .string x.f1, .string x.f2] 96 (0, 0)) := by
      rw [hg]
      congr 2
      exact Array.toList_inj.1 e'
    refine ⟨⟨(g, x), hg', hne g ho⟩ :: d, ?_, ?_, fun p hp => ?_⟩
    · show x :: d.map PM.val = _
      rw [h1]
    · show c :: inner = .pointer (some ⟨g, 0, none⟩) :: d.map PM.enc
      rw [← h2]
      have : c = .pointer (some ⟨g, 0, none⟩) := by simpa using e
      rw [this]
    · rcases List.mem_cons.1 hp with rfl | hp
      · exact ⟨ho, hb⟩
      · exact h3 p hp
theorem heap_rest {α : Type} [Inhabited α] {enc : α → Value} {w : World} {g off n : Nat} {os : Array Obj} (d : Array α) {k : Nat} (hk : k < w.heap.size) (hne : k ≠ g) : (grow (putRow enc (Sort.ahead w n) g off d) os).heap[k]? = w.heap[k]? := by
  rw [heap_grow_old _ _ (by simpa using hk)]
  simp [putRow, mapBlock, Sort.ahead, Array.getElem?_modify, Ne.symm hne]
theorem heap_row {α : Type} [Inhabited α] {enc : α → Value} {w : World} {g off n : Nat} {os : Array Obj} {cur : Array Value} {e : TypeId} {fr : Nat × Nat} (d : Array α) (hb : w.heap[g]? = some (.cells cur e fr)) :
    (grow (putRow enc (Sort.ahead w n) g off d) os).heap[g]? = some (.cells (putCells enc off d cur) e fr) := by
  have hg : g < w.heap.size := (Array.getElem?_eq_some_iff.1 hb).1
  rw [heap_grow_old _ _ (by simpa using hg)]
  simp [putRow, mapBlock, Sort.ahead, Array.getElem?_modify, hb, onCells]
theorem grown_row {α : Type} [Inhabited α] {enc : α → Value} {w : World} {g off n : Nat} {os : Array Obj} (d : Array α) : w.grownBy (grow (putRow enc (Sort.ahead w n) g off d) os) (some g) :=
  ⟨rfl, rfl, rfl, by simp, fun k hk hne => heap_rest d hk (fun e => hne (by rw [e]))⟩
theorem take_row {α : Type} [Inhabited α] {enc : α → Value} (cur : Array Value) (ts : List α) (h : ts.length ≤ cur.size) : (putCells enc 0 ts.toArray cur).toList.take ts.length = ts.map enc := by
  apply List.ext_getElem?
  intro j
  by_cases hj : j < ts.length
  · rw [List.getElem?_take_of_lt hj, Array.getElem?_toList]
    simp [putCells, hj, show j < cur.size by omega]
  · rw [List.getElem?_take_eq_none (by omega), List.getElem?_eq_none (by simp; omega)]
theorem holds_row {α : Type} [Inhabited α] {enc : α → Value} {w : World} {g : Nat} {cur : Array Value} {e : TypeId} {ss : List α} (hb : w.heap[g]? = some (.cells cur e (0, 0))) (ht : cur.toList.take ss.length = ss.map enc) : Holds enc w g 0 ss.toArray := by
  intro j hj
  have hj' : j < ss.length := by simpa using hj
  refine ⟨?_, by simp [World.frozen?, hb]⟩
  have h1 : (cur.toList.take ss.length)[j]? = (ss.map enc)[j]? := by rw [ht]
  rw [List.getElem?_take_of_lt hj'] at h1
  simp only [World.cell?, hb, Nat.zero_add]
  simp only [Option.isSome_none, Bool.false_eq_true, if_false]
  rw [← Array.getElem?_toList, h1]
  simp [hj']
theorem Mats.len_reached (p : Option Addr) (n c : Nat) : Reaches Try.prog 46 (.slice p n c) "Len" 77 := ⟨fun _ => by kernel_rfl, enters_of Try.func77 (by kernel_rfl) rfl⟩
theorem Mats.less_reached (p : Option Addr) (n c : Nat) : Reaches Try.prog 46 (.slice p n c) "Less" 78 := ⟨fun _ => by kernel_rfl, enters_of Try.func78 (by kernel_rfl) rfl⟩
theorem Mats.swap_reached (p : Option Addr) (n c : Nat) : Reaches Try.prog 46 (.slice p n c) "Swap" 80 := ⟨fun _ => by kernel_rfl, enters_of Try.func80 (by kernel_rfl) rfl⟩
theorem Mats.Len (p : Option Addr) (n c : Nat) (W : World) : LenM Try.prog 77 (.slice p n c) n W := by
  unfold LenM
  go_enter Try.func77, Try.ntmps77
  go_wp2
  go_ret
  exact ⟨rfl, 0, rfl⟩
set_option maxHeartbeats 2000000 in
theorem Mats.Swap (blk off c size : Nat) (W : World) (x y i j : Nat) (hi : i < size) (hj : j < size) (_hsz : size < 4611686018427387904)
    (ci : W.cell? ⟨blk, off + i, none⟩ = some (.pointer (some ⟨x, 0, none⟩))) (cj : W.cell? ⟨blk, off + j, none⟩ = some (.pointer (some ⟨y, 0, none⟩))) (fi : W.frozen? ⟨blk, off + i, none⟩ = false) (fj : W.frozen? ⟨blk, off + j, none⟩ = false) :
    Calls Try.prog 80 #[.slice (some ⟨blk, off, none⟩) size c, .int .i64 i, .int .i64 j] W fun e w' => e = .returned (.tuple #[]) ∧ ∃ q, w' = ((W.setCell ⟨blk, off + i, none⟩ (.pointer (some ⟨y, 0, none⟩))).setCell ⟨blk, off + j, none⟩ (.pointer (some ⟨x, 0, none⟩))).drewN q := by
  obtain ⟨v', hy'⟩ := cell?_setCell_some (w := W) (p := ⟨blk, off + i, none⟩) (x := .pointer (some ⟨y, 0, none⟩)) (q := ⟨blk, off + j, none⟩) cj
  go_enter Try.func80, Try.ntmps80
  go_wp2
  go_region
  all_goals (try go_wp2)
  all_goals go_end0
  all_goals exact ⟨rfl, 1, rfl⟩
/-- Matchers that lie one by one, in a row. -/
theorem pm_reads {w W : World} {g n : Nat} [Inhabited (PM w g)] {dk : Array (PM w g)} (hs : dk.size = n) (hn : n < 4611686018427387904) (hH : Holds PM.enc W g 0 dk) (hh : ∀ p : PM w g, W.heap[p.1.1]? = w.heap[p.1.1]?) : Kd.C kMat W (some ⟨g, 0, none⟩) (dk.toList.map PM.val).length (dk.toList.map PM.val) := by
  refine ⟨rfl, by rw [List.length_map, Array.length_toList]; omega, fun _ => ⟨⟨g, 0, none⟩, rfl, fun j p hj => ?_⟩⟩
  rw [List.getElem?_map] at hj
  obtain ⟨q, hq, rfl⟩ := Option.map_eq_some_iff.1 hj
  obtain ⟨hjl, hq'⟩ := List.getElem?_eq_some_iff.1 hq
  have hjs : j < dk.size := by simpa using hjl
  refine ⟨[q.enc], rfl, kMat.K_of_M (kMat_new (base := 0) (Nat.zero_le _) (by rw [hh q]; exact q.2.1) (fun _ => True) trivial), fun i u hu => ?_⟩
  cases i with
  | zero =>
    obtain rfl : q.enc = u := by simpa using hu
    have h := (hH j hjs).1
    have e : dk[j]! = q := by
      rw [getElem!_pos dk j hjs]
      simpa using hq'
    rw [e, Nat.zero_add] at h
    show W.cell? ((⟨g, 0, none⟩ : Addr).add (j * 1 + 0)) = _
    rw [Nat.mul_one, Nat.add_zero, add_plain]
    exact h
  | succ i => simp at hu
theorem Mats.LessM {w : World} {g : Nat} [Inhabited (PM w g)] (c : Nat) (d : Array (PM w g)) (hH : Holds PM.enc w g 0 d) (hblk : g < w.heap.size) (hsz : d.size < 4611686018427387904) (hc : d.size ≤ c) :
    LessM Try.prog 78 (.slice (some ⟨g, 0, none⟩) d.size c) (PM.enc (w := w) (blk := g)) PM.lt g 0 d.size w := by
  intro m os dk hs i j hi hj
  have hW := holds_sortWorld (PM.enc (w := w) (blk := g)) w g 0 m d dk os hblk hH hs
  have hh : ∀ p : PM w g, (sortWorld (PM.enc (w := w) (blk := g)) w g 0 m dk os).heap[p.1.1]? = w.heap[p.1.1]? := fun p => heap_rest dk (Array.getElem?_eq_some_iff.1 p.2.1).1 p.2.2
  have hC := pm_reads hs hsz hW hh
  have hl : (dk.toList.map PM.val).length = d.size := by rw [List.length_map, Array.length_toList, hs]
  have h := labels_Matchers_Less.calls (some ⟨g, 0, none⟩) c (dk.toList.map PM.val) (i : Int) (j : Int) _ hC (by omega) (by omega) (by omega) (by omega) (by omega)
  rw [hl] at h
  have ev : ∀ t : Nat, t < d.size → (dk.toList.map PM.val).getD (t : Int).toNat zMat = (dk[t]!).val := fun t ht => by
    have ht' : t < dk.size := by omega
    rw [Int.toNat_natCast, List.getD_eq_getElem?_getD, List.getElem?_map, getElem!_pos dk t ht']
    simp [ht']
  rw [ev i hi, ev j hj] at h
  refine h.mono ?_
  rintro e w1 ⟨rfl, hD⟩
  obtain ⟨q, rfl⟩ := hD.out
  exact ⟨rfl, q, rfl⟩
theorem Mats.SwapM {w : World} {g : Nat} [Inhabited (PM w g)] (c size : Nat) (hsz : size < 4611686018427387904) : SwapM Try.prog 80 (.slice (some ⟨g, 0, none⟩) size c) (PM.enc (w := w) (blk := g)) g 0 size := fun W dk hH hs i j hi hj =>
  Mats.Swap g 0 c size W (dk[i]!).1.1 (dk[j]!).1.1 i j hi hj hsz (hH i (by omega)).1 (hH j (by omega)).1 (hH i (by omega)).2 (hH j (by omega)).2
set_option maxRecDepth 100000 in
/-- Matchers of the call's own, sorted in their place. -/
theorem sort_Sort.matchers (v : Value) (xs : List MatI) (w : World) (base : Nat) (h : kMat.R 63 w base (fun _ => True) v xs) (hl : xs.length < 4611686018427387904) :
    Calls Try.prog 24 #[.iface 46 v] w fun e w' => e = .returned (.tuple #[]) ∧ ∃ ys, ys.Perm xs ∧ ys.Pairwise (fun x y => lessM y x = false) ∧ kMat.R 63 w' base (fun _ => True) v ys ∧ w.grownBy w' v.ownBlock := by
  have small : ∀ p c, v = .slice p xs.length c → xs.length ≤ 1 → Calls Try.prog 24 #[.iface 46 v] w fun e w' => e = .returned (.tuple #[]) ∧ ∃ ys, ys.Perm xs ∧ ys.Pairwise (fun x y => lessM y x = false) ∧ kMat.R 63 w' base (fun _ => True) v ys ∧ w.grownBy w' v.ownBlock := by
    rintro p c rfl hn
    refine (Try.sort_Sort_tiny (α := Nat) 46 _ _ (Mats.len_reached p xs.length c) xs.length hn w (Mats.Len _ _ _ _)).mono ?_
    rintro e w1 ⟨rfl, q, rfl⟩
    refine ⟨rfl, xs, List.Perm.refl _, ?_, Kd.R_drewN h q, ⟨rfl, rfl, rfl, Nat.le_refl _, fun _ _ _ => rfl⟩⟩
    match xs, hn with
    | [], _ => exact List.Pairwise.nil
    | [x], _ => exact List.pairwise_singleton _ _
    | _ :: _ :: _, h => simp at h
  obtain ⟨h0, inner, ho, hr⟩ := h
  rcases ho.2 with ⟨rfl, hn⟩ | ⟨g, cap, cur, rfl, hbase, hb, h1, h2, h3, h4⟩
  · exact small none 0 (by rw [hn]) (by omega)
  · by_cases hn : xs.length ≤ 1
    · exact small _ _ rfl hn
    obtain ⟨d, hd1, hd2, hd3⟩ := pm_list (blk := g) (fun k hk e => hk.2 (by rw [e]; rfl)) hr
    have hdl : d.length = xs.length := by rw [← hd1, List.length_map]
    have hdne : d ≠ [] := by intro e; rw [e] at hdl; simp at hdl; omega
    obtain ⟨p0, r0, rfl⟩ : ∃ p r, d = p :: r := by cases d with | nil => exact absurd rfl hdne | cons p r => exact ⟨p, r, rfl⟩
    letI : Inhabited (PM w g) := ⟨p0⟩
    obtain ⟨d, hd⟩ : ∃ d, p0 :: r0 = d := ⟨_, rfl⟩
    rw [hd] at hd1 hd2 hd3 hdl
    have h4' : cur.toList.take d.length = d.map PM.enc := by
      rw [← hd2, hdl]
      simpa [kMat, Box.box] using h4
    have hH := holds_row hb h4'
    have hblk := (Array.getElem?_eq_some_iff.1 hb).1
    have hsz : d.toArray.size = xs.length := by simpa using hdl
    have hz : d.toArray.size < 4611686018427387904 := by rw [hsz]; exact hl
    have C := Try.sort_Sort_sorted 46 (.slice (some ⟨g, 0, none⟩) d.toArray.size cap) _ _ _ (Mats.len_reached _ _ _) (Mats.less_reached _ _ _) (Mats.swap_reached _ _ _) PM.enc PM.lt PM.swo g 0 d.toArray (by rw [hsz]; omega) hz w (Mats.Len _ _ _ _) (Mats.LessM cap d.toArray hH hblk hz (by rw [hsz]; exact h1)) (Mats.SwapM cap _ hz) hH hblk
    rw [hsz] at C
    refine C.mono ?_
    rintro e w1 ⟨rfl, d', n, os, hP, hS, rfl⟩
    have hsz' : d'.size = xs.length := hP.1.trans hsz
    have hperm : d'.toList.Perm d := by
      have h := hP.2.2
      rw [← hsz, Array.extract_size] at h
      have e1 : d'.extract 0 d.toArray.size = d' := by rw [← hP.1]; exact Array.extract_size
      rw [e1] at h
      simpa using h
    have hgb := grown_row (w := w) (g := g) (off := 0) (n := n) (os := os) (enc := PM.enc (w := w) (blk := g)) d'
    refine ⟨rfl, d'.toList.map PM.val, by rw [← hd1]; exact hperm.map _, ?_, ⟨fun _ _ => trivial, d'.toList.map PM.enc, ?_, ?_⟩, hgb⟩
    · rw [List.pairwise_map]
      refine List.pairwise_iff_getElem.2 fun i j hi hj hij => ?_
      have h := hS i j (Nat.zero_le _) hij (by rw [← hsz']; simpa using hj)
      rw [getElem!_pos d' i (by simpa using hi), getElem!_pos d' j (by simpa using hj)] at h
      simpa [PM.lt] using h
    · have hL : (d'.toList.map PM.val).length = xs.length := by rw [List.length_map, Array.length_toList, hsz']
      rw [hL]
      refine ⟨by rw [List.length_map, Array.length_toList, hsz']; exact (Nat.mul_one _).symm, .inr ⟨g, cap, _, rfl, hbase, heap_row d' hb, h1, h2, by simpa [putCells] using h3, ?_⟩⟩
      have h := take_row (enc := PM.enc (w := w) (blk := g)) cur d'.toList (by rw [Array.length_toList, hsz', h3]; show _ ≤ cap * 1; omega)
      rw [Array.length_toList, hsz'] at h
      show _ = _
      rw [show xs.length * kMat.sz = xs.length from Nat.mul_one _]
      exact h
    · refine ⟨by rw [List.length_map, List.length_map]; exact (Nat.mul_one _).symm, fun j p hj => ?_⟩
      rw [List.getElem?_map] at hj
      obtain ⟨q, hq, rfl⟩ := Option.map_eq_some_iff.1 hj
      obtain ⟨hjl, hq'⟩ := List.getElem?_eq_some_iff.1 hq
      have hm := hd3 q (hperm.mem_iff.1 (List.mem_of_getElem? hq))
      have e0 : ((d'.toList.map PM.enc).drop (j * kMat.sz)).take kMat.sz = [q.enc] := by
        show ((d'.toList.map PM.enc).drop (j * 1)).take 1 = _
        rw [Nat.mul_one, List.drop_eq_getElem_cons (by rw [List.length_map]; exact hjl), List.getElem_map, hq']
        rfl
      rw [e0]
      exact kMat_new hm.2 (by rw [hgb.block _ (Array.getElem?_eq_some_iff.1 q.2.1).1 (fun e => q.2.2 (Option.some.inj e))]; exact q.2.1) _ hm.1
theorem lessM_anti {x y : MatI} (h : lessM x y = false) (g : lessM y x = false) : x = y := by
  have key : ∀ {a b : MatI}, lessM a b = false → Op.bytesLess a.f1.toList b.f1.toList = false ∧ (a.f1.toList = b.f1.toList → Op.bytesLess a.f2.toList b.f2.toList = false ∧ (a.f2.toList = b.f2.toList → ¬ a.f0 < b.f0)) := fun {a b} h => by
    unfold lessM at h
    by_cases c : Op.bytesLess a.f1.toList b.f1.toList = true
    · rw [if_pos c] at h; cases h
    · refine ⟨by simpa using c, fun e => ?_⟩
      rw [if_neg c, if_pos (by rw [e]; exact beq_self_eq_true _)] at h
      by_cases d : Op.bytesLess a.f2.toList b.f2.toList = true
      · rw [if_pos d] at h; cases h
      · refine ⟨by simpa using d, fun e2 => ?_⟩
        rw [if_neg d, if_pos (by rw [e2]; exact beq_self_eq_true _)] at h
        exact of_decide_eq_false h
  obtain ⟨h1, h2⟩ := key h
  obtain ⟨g1, g2⟩ := key g
  have e1 : x.f1.toList = y.f1.toList := Decidable.byContradiction fun n => by
    have := Pure.less_total h1 n
    rw [g1] at this
    cases this
  obtain ⟨h3, h4⟩ := h2 e1
  obtain ⟨g3, g4⟩ := g2 e1.symm
  have e2 : x.f2.toList = y.f2.toList := Decidable.byContradiction fun n => by
    have := Pure.less_total h3 n
    rw [g3] at this
    cases this
  have e0 : x.f0 = y.f0 := by have := h4 e2; have := g4 e2.symm; omega
  obtain ⟨x0, x1, x2⟩ := x
  obtain ⟨y0, y1, y2⟩ := y
  simp only at e0 e1 e2
  have c1 : x1 = y1 := ByteArray.ext (Array.toList_inj.1 (by rw [← Lib.toList_data, ← Lib.toList_data]; exact e1))
  have c2 : x2 = y2 := ByteArray.ext (Array.toList_inj.1 (by rw [← Lib.toList_data, ← Lib.toList_data]; exact e2))
  rw [e0, c1, c2]
/-- Matchers, in their order. -/
def sortM (l : List MatI) : List MatI := l.mergeSort fun x y => !lessM y x
theorem sortM_perm (l : List MatI) : (sortM l).Perm l := List.mergeSort_perm l _
theorem sortM_sorted (l : List MatI) : (sortM l).Pairwise fun x y => lessM y x = false := by
  have h := List.pairwise_mergeSort (le := fun x y : MatI => !lessM y x) (fun a b c h1 h2 => by
    have := lessM_swo.ntrans c b a (by simpa using h2) (by simpa using h1)
    simp [this]) (fun a b => by
    cases h : lessM b a with
    | false => simp
    | true =>
      cases g : lessM a b with
      | false => simp
      | true =>
        have := lessM_swo.trans b a b h g
        rw [lessM_swo.irrefl] at this
        cases this) l
  exact List.Pairwise.imp (fun {a b} h => by simpa using h) h
theorem sortM_unique {ys xs : List MatI} (hp : ys.Perm xs) (hs : ys.Pairwise fun x y => lessM y x = false) : ys = sortM xs :=
  List.Perm.eq_of_pairwise (le := fun x y => lessM y x = false) (fun a b _ _ h1 h2 => lessM_anti h2 h1) hs (sortM_sorted xs) (hp.trans (sortM_perm xs).symm)
end matchers


/-! ### impl_outer: function 33 -/
-- contracts that were proved by hand
def ofMat (x : S96) : S32 := ⟨x.f0, x.f1, x.f2⟩
set_option maxHeartbeats 3200000 in
set_option maxRecDepth 100000 in
theorem impl_outer.calls (g : Nat) (a : Int) (b c : ByteArray) (w : World) (h : w.heap[g]? = some (.cells #[.int .i64 a, .string b, .string c] 96 (0, 0))) :
    Calls Try.prog 33 #[.pointer (some ⟨g, 0, none⟩)] w fun e w' => e = .returned (.agg #[.int .i64 a, .string b, .string c]) ∧ Below w.heap.size w w' := by
  have hl := blk_lt h
  have c0 : w.cell? ⟨g, 0, none⟩ = some (.int .i64 a) := (blk_cell h 0).trans rfl
  have c1 : w.cell? ⟨g, 1, none⟩ = some (.string b) := (blk_cell h 1).trans rfl
  have c2 : w.cell? ⟨g, 2, none⟩ = some (.string c) := (blk_cell h 2).trans rfl
  clear h
  have hne : g ≠ w.heap.size := by omega
  go_enter Try.func33, Try.ntmps33
  go_wp2
  go_region_held3 (fun w' => w'.cell? ⟨g, 0, none⟩ = some (.int .i64 a) ∧ w'.cell? ⟨g, 1, none⟩ = some (.string b) ∧ w'.cell? ⟨g, 2, none⟩ = some (.string c)) (go_keep) (fail)
  all_goals (try go_wp2)
  refine bodyPost_ret (v := .agg #[.int .i64 a, .string b, .string c]) ?_ rfl ?_
  · simp [results]
    go_simp
  · exact ⟨rfl, by repeat (first | exact below_alloc (Below.refl _ _) _ | apply below_drew1 | apply pw_below_drewN)⟩


/-! ### impl_outers: function 25 -/
-- contracts that were proved by hand
theorem infoIM : (Try.prog.info? 32).map (fun i => (i.zero, i.size, i.bytes)) = some (some (.agg #[.int .i64 0, .string ⟨#[]⟩, .string ⟨#[]⟩]), 3, 40) := by kernel_rfl
set_option maxHeartbeats 3200000 in
set_option maxRecDepth 100000 in
theorem impl_outers.calls (A0 : Option Addr) (c0 : Nat) (l0 : List S96) (w : World) (hr0 : Kd.C kMat w A0 l0.length l0) (hl : l0.length ≤ 1000000000) :
    Calls Try.prog 25 #[.slice A0 l0.length c0] w fun e w' => ∃ v, e = .returned v ∧ Kd.R k32 32 w' w.heap.size (fun _ => True) v (l0.map ofMat) ∧ Below w.heap.size w w' := by
  have R0 := Aside0.mk hr0
  clear hr0
  go_enter Try.func25, Try.ntmps25
  go_wp2
  go_loopw [3, 8] (fun v3 v8 wr => ∃ j : Nat, j ≤ l0.length ∧ v8 = .int .i64 j ∧ Aside0 (Kd.R k32 32 wr w.heap.size (fun _ => True) v3 ((l0.take j).map ofMat)) ∧ Aside0 (Below w.heap.size w wr)) (fun _ v8 _ => l0.length - (intOf v8).toNat)
  case atStart => exact ⟨0, Nat.zero_le _, rfl, ⟨Kd.R_nil _ _ _ _ _⟩, ⟨Below.refl _ _⟩⟩
  case round =>
    obtain ⟨j, hj, rfl, HO, HB⟩ := hrel
    by_cases hlt : j < l0.length
    · obtain ⟨ad, c, e0, _, hK, hc0⟩ := Kd.C_get (Kd.C_below R0.out HB.out) zMat (j : Int) (by omega) (by omega)
      obtain ⟨g, rfl, hb⟩ := kMat_open hK
      cases e0
      have er : l0.getD (j : Int).toNat zMat = l0[j] := by rw [Int.toNat_natCast, List.getD_eq_getElem?_getD, List.getElem?_eq_getElem hlt]; rfl
      rw [er] at hb
      have hx : wr.cell? (ad.add j) = some (.pointer (some ⟨g, 0, none⟩)) := by
        have := hc0 0 _ rfl
        simpa [kMat, Box.box] using this
      have HT := Aside0.mk (show (l0.take (j + 1)).map ofMat = (l0.take j).map ofMat ++ [(⟨l0[j].f0, l0[j].f1, l0[j].f2⟩ : S32)] by rw [List.take_succ_eq_append_getElem hlt, List.map_append]; rfl)
      clear er hc0 hK
      generalize l0[j] = x at *
      obtain ⟨x0, x1, x2⟩ := x
      simp only at hb HT
      have HP := Aside0.mk hb
      clear hb
      go_wp2_with fail
      refine (impl_outer.calls g x0 x1 x2 wr HP.out).mono ?_
      rintro e w3 ⟨rfl, hB3⟩
      have HO3 := Aside0.mk (Kd.R_below HO.out hB3)
      have HB3 := Aside0.mk (below_step HB.out hB3)
      clear hB3 HO HB HP
      have HS3 := Aside0.mk (below_size HB3.out)
      go_wp2_with ((with_reducible refine gate_builtin (b := .append) (xs := #[.tmp 12, .tmp 15]) rfl ?_); at_builtin; refine Kd.R_append k32 (w0 := w) w.heap.size rfl (.tmp 12) (.tmp 15) 28 32 (.agg #[.int .i64 0, .string ⟨#[]⟩, .string ⟨#[]⟩]) 40 rfl Try.underlying28 infoIM rfl (by decide) (by omega) u3 ((l0.take j).map ofMat) (⟨x0, x1, x2⟩ : S32) [.int .i64 x0, .string x1, .string x2] (fun _ => True) (fun _ => False) rfl (by first | (go_simp; done) | (go_simp; rfl)) (k32_mkM _ _ _ (⟨x0, x1, x2⟩ : S32)) (fun _ hk => hk.elim) (fun _ _ => trivial) HO3.out HB3.out HS3.out (by rw [List.length_map, List.length_take]; omega) ?_; intro v2 w4 hO4 hB4 hg4 hat4; rw [← HT.out] at hO4; have HO4 := Aside0.mk hO4; have HB4 := Aside0.mk hB4; clear hO4 hB4 hg4 hat4 HO3 HB3 HT HS3)
      go_roundw
      case rel => exact ⟨j + 1, by omega, by go_num, HO4, HB4⟩
      case measure => simp [intOf]; omega
    · have hj2 : j = l0.length := by omega
      subst hj2
      have hO := HO.out
      rw [List.take_of_length_le (Nat.le_refl _)] at hO
      have HO2 := Aside0.mk hO
      clear hO HO
      go_wp2
      go_ret
      exact ⟨_, rfl, HO2.out, HB.out⟩


/-! ### impl_Sorted: function 11 -/
-- a contract that was proved by hand
def impl_Sorted.f (l0 : List S32) : Option (List S32) := if l0.length ≤ 1000000000 then some ((sortM (l0.map toMat)).map ofMat) else none
set_option maxHeartbeats 1600000 in
set_option maxRecDepth 100000 in
theorem impl_Sorted.calls (A0 : Option Addr) (c0 : Nat) (l0 : List S32) (r : List S32) (w : World) (hr0 : Kd.C k32 w A0 l0.length l0) (hc0 : l0.length ≤ c0) (h : impl_Sorted.f l0 = some r) :
    Calls Try.prog 11 #[.slice A0 l0.length c0] w fun e w' => ∃ v0_ : Value, e = .returned (v0_) ∧ Kd.R k32 32 w' w.heap.size (fun _ => True) v0_ r ∧ Below w.heap.size w w' := by
  unfold impl_Sorted.f at h
  split at h
  · rename_i hl
    have hq := Option.some.inj h
    have C0 := Aside0.mk (impl_inners.calls A0 c0 l0 w hr0 hc0 (by omega))
    obtain ⟨L, hL⟩ : ∃ L, l0.map toMat = L := ⟨_, rfl⟩
    have hLl : L.length = l0.length := by rw [← hL, List.length_map]
    rw [hL] at hq C0
    obtain ⟨SL, hSL⟩ : ∃ SL, sortM L = SL := ⟨_, rfl⟩
    rw [hSL] at hq
    have hSl : SL.length ≤ 1000000000 := by rw [← hSL, (sortM_perm L).length_eq]; omega
    have HQ := Aside0.mk hq
    have HSL := Aside0.mk hSL
    have HLL := Aside0.mk (show L.length < 4611686018427387904 by omega)
    have HSl := Aside0.mk hSl
    clear h hq hL hSL hSl hLl hl hr0 hc0
    go_enter Try.func11, Try.ntmps11
    go_wp2_with fail
    refine C0.out.mono ?_
    rintro e w1 ⟨v, rfl, hO, hB⟩
    have HB := Aside0.mk hB
    have HS := Aside0.mk (sort_Sort.matchers v L w1 w.heap.size hO HLL.out)
    have HK := Aside0.mk (show ∀ k, v.ownBlock = some k → w.heap.size ≤ k from fun k hk => by obtain ⟨_, inner, ho, _⟩ := hO; exact own_base ho k hk)
    clear hO hB C0
    go_wp2_with fail
    refine HS.out.mono ?_
    rintro e w2 ⟨rfl, ys, hp, hs, hO, hg⟩
    rw [sortM_unique hp hs, HSL.out] at hO
    have HB2 := Aside0.mk (pw_below_grown HB.out v.ownBlock (below_size HB.out) hg HK.out)
    obtain ⟨A, c, rfl, hlc, hC⟩ := Kd.R_reads hO
    have HC := Aside0.mk hC
    clear hp hs hO hg HS HK HB hC hlc
    go_wp2_with fail
    refine (impl_outers.calls A c SL w2 HC.out HSl.out).mono ?_
    rintro e w3 ⟨v, rfl, hO, hB⟩
    rw [HQ.out] at hO
    have HO := Aside0.mk (Kd.R_lower hO (below_size HB2.out))
    have HB3 := Aside0.mk (below_step HB2.out hB)
    clear hO hB HB2 HC
    go_wp2
    go_ret
    exact ⟨_, rfl, HO.out, HB3.out⟩
  · cases h


end Go.Proofs.Ythjameohenmeiaa.Q
