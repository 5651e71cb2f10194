-- printed by this project's own program wip/tools/mkprint.py (the kit's print.py with hand-proved contracts put in)
import Derived.Test.YtbffhefeepmpcaaQx0
import Derived.Test.YtbffhefeepmpcaaQx17
namespace Go.Proofs.Ytbffhefeepmpcaa.Q
open Go.RowKit Go.Proofs.YtbffhefeepmpcaaW.PrintWords Go.Proofs.YtbffhefeepmpcaaW.PrintLast Go.Proofs.YtbffhefeepmpcaaW.PrintMore
attribute [local go_sem] max2_int min2_int max_two min_two max_three min_three max_four min_four   -- for this text's walks alone
set_option linter.unusedVariables false
set_option linter.unusedSimpArgs false

/-! ### time_Time_Add: function 72 -/
-- contracts that were proved by hand
/-- The time so many nanoseconds behind the zero time, as the library holds it. -/
def tmV (n : Nat) : Value := .agg #[.int .u64 ((n % 1000000000 : Nat) : Int), .int .i64 ((n / 1000000000 : Nat) : Int), .pointer none]
theorem orZero (a : Nat) (h : a < 1073741824) : Go.bits .or .u64 (Go.bits .andNot .u64 0 1073741823) (a : Int) = (a : Int) := by
  have e0 : Go.bits .andNot .u64 0 1073741823 = ((0 : Nat) : Int) := by decide +kernel
  rw [e0]
  have := u64_or_nat 0 a (by decide) (by omega)
  rw [this, Nat.zero_or]
theorem wrap_u64n (a : Nat) (h : a < 1073741824) : IntKind.u64.wrap (a : Int) = (a : Int) := by
  simp [IntKind.wrap, IntKind.bits, IntKind.signed]
  omega
set_option maxHeartbeats 3200000 in
set_option maxRecDepth 100000 in
theorem time_Add.walk (N : Int) (a d : Nat) (w : World) (q1 : wrap64 (Int.tdiv N 1000000000) = (d : Int)) (q2 : wrap32 (Int.tmod N 1000000000) = (a : Int)) (q3 : wrap32 (a : Int) = (a : Int)) (t1 : decide (1000000000 ≤ (a : Int)) = false) (t2 : decide ((a : Int) < 0) = false)
    (q4 : Go.bits .or .u64 (Go.bits .andNot .u64 0 1073741823) (a : Int) = (a : Int)) (q5 : IntKind.u64.wrap (a : Int) = (a : Int)) (q6 : Go.bits .and .u64 (a : Int) 9223372036854775808 = 0) (la : a < 1073741824) (ld : d < 9223372036854775808) :
    Calls Try.prog 72 #[.agg #[.int .u64 0, .int .i64 0, .pointer none], .int .i64 N] w fun e w' => e = .returned (.agg #[.int .u64 a, .int .i64 d, .pointer none]) ∧ Below w.heap.size w w' := by
  have LA := Aside0.mk la
  have LD := Aside0.mk ld
  clear la ld
  go_enter Try.func72, Try.ntmps72
  go_wp2_with fail
  refine (time_nsec0.calls w.heap.size _ ?_).mono ?_
  · simp
  rintro e w1 ⟨rfl, hD⟩
  have hB : Below w.heap.size w w1 := below_step (below_alloc (below_alloc (Below.refl _ _) _) _) hD.below
  have hb0 : w1.heap[w.heap.size]? = some (.cells #[.int .u64 0, .int .i64 0, .pointer none] 94 (0, 0)) := (hD.below.block _ (by simp; omega)).trans (blk_alloc (Box.new_at rfl _) _)
  have hb1 : w1.heap[w.heap.size + 1]? = some (.cells #[.int .u64 0, .int .i64 0, .pointer none] 94 (0, 0)) := (hD.below.block _ (by simp)).trans (Box.new_at (by simp) _)
  have HB := Aside0.mk hB
  have H0 := Aside0.mk hb0
  have H1 := Aside0.mk hb1
  have h0 : w1.cell? ⟨w.heap.size, 0, none⟩ = some (.int .u64 0) := (blk_cell hb0 0).trans rfl
  have hf := blk_frozen hb0 0
  clear hD hB hb0 hb1
  go_wp2_with fail
  refine (time_addSec.calls w.heap.size a d LA.out LD.out _ (blk_set H0.out 0 _)).mono ?_
  rintro e w2 ⟨rfl, hb2, hg⟩
  have hb3 := blk_grown (blk_far (p := ⟨w.heap.size, 0, none⟩) H1.out (by simp) (.int .u64 a)) hg (by simp)
  have HB2 := Aside0.mk (pw_below_grown (below_set HB.out (Nat.le_refl _)) (some w.heap.size) (below_size (below_set HB.out (Nat.le_refl _))) hg (fun k hk => by injection hk with hk; omega))
  have H2 := Aside0.mk hb2
  have H3 := Aside0.mk hb3
  have h20 : w2.cell? ⟨w.heap.size, 0, none⟩ = some (.int .u64 a) := (blk_cell hb2 0).trans rfl
  have h21 : w2.cell? ⟨w.heap.size, 1, none⟩ = some (.int .i64 d) := (blk_cell hb2 1).trans rfl
  have h22 : w2.cell? ⟨w.heap.size, 2, none⟩ = some (.pointer none) := (blk_cell hb2 2).trans rfl
  have h30 : w2.cell? ⟨w.heap.size + 1, 0, none⟩ = some (.int .u64 0) := (blk_cell hb3 0).trans rfl
  have h31 : w2.cell? ⟨w.heap.size + 1, 1, none⟩ = some (.int .i64 0) := (blk_cell hb3 1).trans rfl
  have h32 : w2.cell? ⟨w.heap.size + 1, 2, none⟩ = some (.pointer none) := (blk_cell hb3 2).trans rfl
  have hf0 := blk_frozen hb3 0
  have hf1 := blk_frozen hb3 1
  have hf2 := blk_frozen hb3 2
  clear hb2 hb3 hg h0 hf H0 H1 HB
  go_wp2
  have hw := blk_set (blk_set (blk_set H3.out 0 (.int .u64 a)) 1 (.int .i64 d)) 2 (.pointer none)
  have g0 := (blk_cell hw 0).trans (show _ = some (Value.int .u64 a) from rfl)
  have g1 := (blk_cell hw 1).trans (show _ = some (Value.int .i64 d) from rfl)
  have g2 := (blk_cell hw 2).trans (show _ = some (Value.pointer none) from rfl)
  have HB3 := Aside0.mk (below_set (g := w.heap.size + 1) (j := 2) (v := .pointer none) (below_set (g := w.heap.size + 1) (j := 1) (v := .int .i64 d) (below_set (g := w.heap.size + 1) (j := 0) (v := .int .u64 a) HB2.out (Nat.le_succ _)) (Nat.le_succ _)) (Nat.le_succ _))
  clear HB2 H2 H3 h20 h21 h22 h30 h31 h32 hf0 hf1 hf2 hw
  (try simp only [Exit.inBlock, Exit.then])
  refine bodyPost_ret (v := .agg #[.int .u64 a, .int .i64 d, .pointer none]) ?_ rfl ?_
  · simp [results]
    revert g0 g1 g2
    generalize (((w2.setCell ⟨w.heap.size + 1, 0, none⟩ (Value.int .u64 a)).setCell ⟨w.heap.size + 1, 1, none⟩ (Value.int .i64 d)).setCell ⟨w.heap.size + 1, 2, none⟩ (Value.pointer none)) = W
    intro g0 g1 g2
    go_simp
  · exact ⟨rfl, HB3.out⟩
theorem time_Add.calls (n : Nat) (hn : n < 9223372036854775808) (w : World) :
    Calls Try.prog 72 #[.agg #[.int .u64 0, .int .i64 0, .pointer none], .int .i64 n] w fun e w' => e = .returned (tmV n) ∧ Below w.heap.size w w' := by
  have q1 : Int.tdiv (n : Int) 1000000000 = ((n / 1000000000 : Nat) : Int) := by rw [Int.tdiv_eq_ediv_of_nonneg (by omega)]; rfl
  have q2 : Int.tmod (n : Int) 1000000000 = ((n % 1000000000 : Nat) : Int) := by rw [Int.tmod_eq_emod_of_nonneg (by omega)]; rfl
  unfold tmV
  obtain ⟨a, ha⟩ : ∃ a, n % 1000000000 = a := ⟨_, rfl⟩
  obtain ⟨d, hd⟩ : ∃ d, n / 1000000000 = d := ⟨_, rfl⟩
  have la : a < 1000000000 := by omega
  have ld : d < 9223372036854775808 := by omega
  rw [ha] at q2
  rw [hd] at q1
  rw [ha, hd]
  exact time_Add.walk (n : Int) a d w (by rw [q1]; simp only [wrap64]; omega) (by rw [q2]; simp only [wrap32]; omega) (by simp only [wrap32]; omega) (decide_eq_false (by omega)) (decide_eq_false (by omega)) (orZero a (by omega)) (wrap_u64n a (by omega)) (noMono a (by omega)) (by omega) ld


/-! ### model_ZzMoment: function 62 -/
-- contracts that were proved by hand
set_option maxHeartbeats 1600000 in
set_option maxRecDepth 100000 in
theorem model_ZzMoment.walk (N a d : Int) (w : World) (C : ∀ w, Calls Try.prog 72 #[.agg #[.int .u64 0, .int .i64 0, .pointer none], .int .i64 N] w fun e w' => e = .returned (.agg #[.int .u64 a, .int .i64 d, .pointer none]) ∧ Below w.heap.size w w') :
    Calls Try.prog 62 #[.int .i64 N] w fun e w' => e = .returned (.agg #[.int .u64 a, .int .i64 d, .pointer none]) ∧ Below w.heap.size w w' := by
  have C0 := Aside0.mk C
  clear C
  go_enter Try.func62, Try.ntmps62
  go_wp2_with fail
  refine (C0.out _).mono ?_
  rintro e w1 ⟨rfl, hB⟩
  have hb := (hB.block w.heap.size (by simp)).trans (Box.new_at rfl _)
  have HB := Aside0.mk (below_step (below_alloc (Below.refl _ _) _) hB)
  have H0 := Aside0.mk hb
  have h0 := (blk_cell hb 0).trans (show _ = some (Value.int .u64 0) from rfl)
  have h1 := (blk_cell hb 1).trans (show _ = some (Value.int .i64 0) from rfl)
  have h2 := (blk_cell hb 2).trans (show _ = some (Value.pointer none) from rfl)
  have f0 := blk_frozen hb 0
  have f1 := blk_frozen hb 1
  have f2 := blk_frozen hb 2
  clear hB hb
  go_wp2
  have hw := blk_set (blk_set (blk_set H0.out 0 (.int .u64 a)) 1 (.int .i64 d)) 2 (.pointer none)
  have g0 := (blk_cell hw 0).trans (show _ = some (Value.int .u64 a) from rfl)
  have g1 := (blk_cell hw 1).trans (show _ = some (Value.int .i64 d) from rfl)
  have g2 := (blk_cell hw 2).trans (show _ = some (Value.pointer none) from rfl)
  have HB3 := Aside0.mk (below_set (g := w.heap.size) (j := 2) (v := .pointer none) (below_set (g := w.heap.size) (j := 1) (v := .int .i64 d) (below_set (g := w.heap.size) (j := 0) (v := .int .u64 a) HB.out (Nat.le_refl _)) (Nat.le_refl _)) (Nat.le_refl _))
  clear HB H0 h0 h1 h2 f0 f1 f2 hw
  (try simp only [Exit.inBlock, Exit.then])
  refine bodyPost_ret (v := .agg #[.int .u64 a, .int .i64 d, .pointer none]) ?_ rfl ?_
  · simp [results]
    revert g0 g1 g2
    generalize (((w1.setCell ⟨w.heap.size, 0, none⟩ (Value.int .u64 a)).setCell ⟨w.heap.size, 1, none⟩ (Value.int .i64 d)).setCell ⟨w.heap.size, 2, none⟩ (Value.pointer none)) = W
    intro g0 g1 g2
    go_simp
  · exact ⟨rfl, HB3.out⟩
theorem model_ZzMoment.calls (n : Nat) (hn : n < 9223372036854775808) (w : World) : Calls Try.prog 62 #[.int .i64 n] w fun e w' => e = .returned (tmV n) ∧ Below w.heap.size w w' := model_ZzMoment.walk _ _ _ w (fun w => time_Add.calls n hn w)


/-! ### time_Time_IsZero: function 73 -/
-- contracts that were proved by hand
set_option maxHeartbeats 1600000 in
set_option maxRecDepth 100000 in
theorem time_IsZero.walk (a d : Int) (w : World) :
    Calls Try.prog 73 #[.agg #[.int .u64 a, .int .i64 d, .pointer none]] w fun e w' => e = .returned (.bool (decide (a = 0) && decide (d = 0))) ∧ Below w.heap.size w w' := by
  by_cases ha : a = 0
  · subst ha
    obtain ⟨q, hq⟩ : ∃ q, decide (d = 0) = q := ⟨_, rfl⟩
    have hr : (decide ((0 : Int) = 0) && q) = q := by simp
    rw [hq, hr]
    clear hr
    have hq2 : (d == 0) = q := by rw [← hq]; rfl
    go_enter Try.func73, Try.ntmps73
    go_wp2
    go_ret
    exact ⟨by simp [hq, hq2], below_alloc (Below.refl _ _) _⟩
  · have hr : (decide (a = 0) && decide (d = 0)) = false := by simp [ha]
    have hq2 : (a == 0) = false := by simp [ha]
    rw [hr]
    go_enter Try.func73, Try.ntmps73
    go_wp2
    go_ret
    exact ⟨rfl, below_alloc (Below.refl _ _) _⟩
theorem time_IsZero.calls (n : Nat) (w : World) : Calls Try.prog 73 #[tmV n] w fun e w' => e = .returned (.bool (decide (n = 0))) ∧ Below w.heap.size w w' := by
  have h := time_IsZero.walk ((n % 1000000000 : Nat) : Int) ((n / 1000000000 : Nat) : Int) w
  have e : (decide (((n % 1000000000 : Nat) : Int) = 0) && decide (((n / 1000000000 : Nat) : Int) = 0)) = decide (n = 0) := by
    rw [← Bool.decide_and]
    exact decide_eq_decide.2 (by omega)
  rw [e] at h
  exact h


/-! ### time_Time_After: function 74 -/
-- contracts that were proved by hand
set_option maxHeartbeats 3200000 in
set_option maxRecDepth 100000 in
theorem time_After.walk (a b : Nat) (d c : Int) (w : World) (la : a < 1073741824) (lb : b < 1073741824) (q : Go.bits .and .u64 (Go.bits .and .u64 (a : Int) (b : Int)) 9223372036854775808 = 0) :
    Calls Try.prog 74 #[.agg #[.int .u64 a, .int .i64 d, .pointer none], .agg #[.int .u64 b, .int .i64 c, .pointer none]] w fun e w' => e = .returned (.bool (decide (c < d) || (decide (d = c) && decide ((b : Int) < a)))) ∧ Below w.heap.size w w' := by
  have LA := Aside0.mk la
  have LB := Aside0.mk lb
  obtain ⟨r, hr⟩ : ∃ r, (decide (c < d) || (decide (d = c) && decide ((b : Int) < a))) = r := ⟨_, rfl⟩
  rw [hr]
  have HR := Aside0.mk hr
  clear la lb hr
  go_enter Try.func74, Try.ntmps74
  go_wp2_with fail
  have hbA : ((w.alloc (Obj.cells #[.int .u64 a, .int .i64 d, .pointer none] 94)).alloc (Obj.cells #[.int .u64 b, .int .i64 c, .pointer none] 94)).heap[w.heap.size]? = some (.cells #[.int .u64 a, .int .i64 d, .pointer none] 94 (0, 0)) := blk_alloc (Box.new_at rfl _) _
  have hbB : ((w.alloc (Obj.cells #[.int .u64 a, .int .i64 d, .pointer none] 94)).alloc (Obj.cells #[.int .u64 b, .int .i64 c, .pointer none] 94)).heap[w.heap.size + 1]? = some (.cells #[.int .u64 b, .int .i64 c, .pointer none] 94 (0, 0)) := Box.new_at (by simp) _
  have HB0 := Aside0.mk (below_alloc (below_alloc (Below.refl w.heap.size w) (Obj.cells #[.int .u64 a, .int .i64 d, .pointer none] 94)) (Obj.cells #[.int .u64 b, .int .i64 c, .pointer none] 94))
  refine (time_sec.calls w.heap.size a d LA.out _ ((blk_cell hbA 0).trans rfl) ((blk_cell hbA 1).trans rfl)).mono ?_
  rintro e w1 ⟨rfl, hD⟩
  have hA1 := (hD.below.block _ (blk_lt hbA)).trans hbA
  have hB1 := (hD.below.block _ (blk_lt hbB)).trans hbB
  have HA1 := Aside0.mk hA1
  have HB1 := Aside0.mk hB1
  have HW1 := Aside0.mk (below_step HB0.out hD.below)
  clear hbA hbB HB0 hD hA1 hB1
  go_wp2_with fail
  refine (time_sec.calls (w.heap.size + 1) b c LB.out _ ((blk_cell HB1.out 0).trans rfl) ((blk_cell HB1.out 1).trans rfl)).mono ?_
  rintro e w2 ⟨rfl, hD⟩
  have HA2 := Aside0.mk ((hD.below.block _ (blk_lt HA1.out)).trans HA1.out)
  have HB2 := Aside0.mk ((hD.below.block _ (blk_lt HB1.out)).trans HB1.out)
  have HW2 := Aside0.mk (below_step HW1.out hD.below)
  clear hD HA1 HB1 HW1
  by_cases h1 : c < d
  · have t1 : decide (c < d) = true := decide_eq_true h1
    obtain rfl : true = r := by rw [← HR.out, t1]; rfl
    go_wp2
    go_ret
    exact ⟨by simp [t1], HW2.out⟩
  · have t1 : decide (c < d) = false := decide_eq_false h1
    by_cases h2 : d = c
    · subst h2
      have t2 : (d == d) = true := by simp
      obtain ⟨s, hs⟩ : ∃ s, decide ((b : Int) < a) = s := ⟨_, rfl⟩
      obtain rfl : s = r := by rw [← HR.out, t1, hs]; simp
      clear h1 HR
      go_wp2_with fail
      refine (time_nsec.calls w.heap.size a LA.out _ ((blk_cell HA2.out 0).trans rfl)).mono ?_
      rintro e w3 ⟨rfl, hD⟩
      have HB3 := Aside0.mk ((hD.below.block _ (blk_lt HB2.out)).trans HB2.out)
      have HW3 := Aside0.mk (below_step HW2.out hD.below)
      clear hD HA2 HB2 HW2
      go_wp2_with fail
      refine (time_nsec.calls (w.heap.size + 1) b LB.out _ ((blk_cell HB3.out 0).trans rfl)).mono ?_
      rintro e w4 ⟨rfl, hD⟩
      have HW4 := Aside0.mk (below_step HW3.out hD.below)
      clear hD HB3 HW3
      go_wp2
      go_ret
      have hs2 : decide (b < a) = s := by rw [← hs]; exact decide_eq_decide.2 (by omega)
      exact ⟨by first | rfl | (simp [hs2]; done) | (simp [hs]; done), HW4.out⟩
    · have t2 : (d == c) = false := by simp [h2]
      have t3 : decide (d = c) = false := decide_eq_false h2
      obtain rfl : false = r := by rw [← HR.out, t1, t3]; simp
      go_wp2
      go_ret
      exact ⟨by first | rfl | simp [t1, t2], HW2.out⟩
theorem time_After.calls (n m : Nat) (w : World) : Calls Try.prog 74 #[tmV n, tmV m] w fun e w' => e = .returned (.bool (decide (m < n))) ∧ Below w.heap.size w w' := by
  have q : Go.bits .and .u64 (Go.bits .and .u64 ((n % 1000000000 : Nat) : Int) ((m % 1000000000 : Nat) : Int)) 9223372036854775808 = 0 := by
    rw [u64_and_nat _ _ (by omega) (by omega)]
    refine noMono _ ?_
    have := Nat.and_le_left (n := n % 1000000000) (m := m % 1000000000)
    omega
  have h := time_After.walk (n % 1000000000) (m % 1000000000) ((n / 1000000000 : Nat) : Int) ((m / 1000000000 : Nat) : Int) w (by omega) (by omega) q
  have e : (decide (((m / 1000000000 : Nat) : Int) < ((n / 1000000000 : Nat) : Int)) || (decide (((n / 1000000000 : Nat) : Int) = ((m / 1000000000 : Nat) : Int)) && decide (((m % 1000000000 : Nat) : Int) < ((n % 1000000000 : Nat) : Int)))) = decide (m < n) := by
    rw [← Bool.decide_and, ← Bool.decide_or]
    exact decide_eq_decide.2 (by omega)
  rw [e] at h
  exact h


/-! ### model_Alert_ResolvedAt: function 63 -/
-- contracts that were proved by hand
/-- An alert of which nothing but its end is told. -/
def alCells (a d : Int) : Array Value := #[.map none, .map none, .int .u64 0, .int .i64 0, .pointer none, .int .u64 a, .int .i64 d, .pointer none, .string ⟨#[]⟩]
set_option maxHeartbeats 3200000 in
set_option maxRecDepth 100000 in
theorem model_Alert_ResolvedAt.walk (g : Nat) (a d b c : Int) (z f : Bool) (w : World) (hg : w.heap[g]? = some (.cells (alCells a d) 97 (0, 0)))
    (C1 : ∀ w, Calls Try.prog 73 #[.agg #[.int .u64 a, .int .i64 d, .pointer none]] w fun e w' => e = .returned (.bool z) ∧ Below w.heap.size w w')
    (C2 : ∀ w, Calls Try.prog 74 #[.agg #[.int .u64 a, .int .i64 d, .pointer none], .agg #[.int .u64 b, .int .i64 c, .pointer none]] w fun e w' => e = .returned (.bool f) ∧ Below w.heap.size w w') :
    Calls Try.prog 63 #[.pointer (some ⟨g, 0, none⟩), .agg #[.int .u64 b, .int .i64 c, .pointer none]] w fun e w' => e = .returned (.bool (!z && !f)) ∧ Below w.heap.size w w' := by
  have D1 := Aside0.mk C1
  have D2 := Aside0.mk C2
  have HG := Aside0.mk hg
  have h5 := (blk_cell (blk_alloc hg (Obj.cells #[.int .u64 b, .int .i64 c, .pointer none] 94)) 5).trans (show _ = some (Value.int .u64 a) from rfl)
  have h6 := (blk_cell (blk_alloc hg (Obj.cells #[.int .u64 b, .int .i64 c, .pointer none] 94)) 6).trans (show _ = some (Value.int .i64 d) from rfl)
  have h7 := (blk_cell (blk_alloc hg (Obj.cells #[.int .u64 b, .int .i64 c, .pointer none] 94)) 7).trans (show _ = some (Value.pointer none) from rfl)
  clear C1 C2 hg
  go_enter Try.func63, Try.ntmps63
  go_wp2_with fail
  refine (D1.out _).mono ?_
  rintro e w1 ⟨rfl, hB⟩
  have hg1 := (hB.block _ (blk_lt (blk_alloc HG.out (Obj.cells #[.int .u64 b, .int .i64 c, .pointer none] 94)))).trans (blk_alloc HG.out _)
  have hn1 : w1.heap[w.heap.size]? = some (.cells #[.int .u64 b, .int .i64 c, .pointer none] 94 (0, 0)) := (hB.block _ (by simp)).trans (Box.new_at rfl _)
  have k5 := (blk_cell hg1 5).trans (show _ = some (Value.int .u64 a) from rfl)
  have k6 := (blk_cell hg1 6).trans (show _ = some (Value.int .i64 d) from rfl)
  have k7 := (blk_cell hg1 7).trans (show _ = some (Value.pointer none) from rfl)
  have n0 := (blk_cell hn1 0).trans (show _ = some (Value.int .u64 b) from rfl)
  have n1 := (blk_cell hn1 1).trans (show _ = some (Value.int .i64 c) from rfl)
  have n2 := (blk_cell hn1 2).trans (show _ = some (Value.pointer none) from rfl)
  have HB := Aside0.mk (below_step (below_alloc (Below.refl _ _) _) hB)
  clear h5 h6 h7 hB hg1 hn1 HG D1
  cases z with
  | true =>
    go_wp2
    go_ret
    exact ⟨rfl, HB.out⟩
  | false =>
    go_wp2
    go_region_with (first | (go_at_call 74; refine (D2.out _).mono ?_; rintro e w3 ⟨rfl, hB3⟩; have HB3 := Aside0.mk (below_step (by repeat (first | exact HB.out | apply below_drew1 | apply pw_below_drewN)) hB3); clear hB3) | go_in)
    all_goals (go_wp2; go_ret; exact ⟨by first | rfl | (simp; done), HB3.out⟩)
theorem model_Alert_ResolvedAt.calls (g n m : Nat) (w : World) (hg : w.heap[g]? = some (.cells (alCells ((n % 1000000000 : Nat) : Int) ((n / 1000000000 : Nat) : Int)) 97 (0, 0))) :
    Calls Try.prog 63 #[.pointer (some ⟨g, 0, none⟩), tmV m] w fun e w' => e = .returned (.bool (decide (n ≠ 0 ∧ n ≤ m))) ∧ Below w.heap.size w w' := by
  have h := model_Alert_ResolvedAt.walk g _ _ ((m % 1000000000 : Nat) : Int) ((m / 1000000000 : Nat) : Int) (decide (n = 0)) (decide (m < n)) w hg (fun w => time_IsZero.calls n w) (fun w => time_After.calls n m w)
  have e : (!decide (n = 0) && !decide (m < n)) = decide (n ≠ 0 ∧ n ≤ m) := by
    rw [← decide_not, ← decide_not, ← Bool.decide_and]
    exact decide_eq_decide.2 (by omega)
  rw [e] at h
  exact h


/-! ### impl_Resolved: function 38 -/
-- a contract that was proved by hand
def impl_Resolved.f (a0 a1 : Int) : Option Bool := if 0 ≤ a0 ∧ a0 < 9223372036854775808 ∧ 0 ≤ a1 ∧ a1 < 9223372036854775808 then some (decide (a0 ≠ 0 ∧ a0 ≤ a1)) else none
set_option maxHeartbeats 3200000 in
set_option maxRecDepth 100000 in
theorem impl_Resolved.walk (N M a d b c : Int) (r : Bool) (w : World) (C1 : ∀ w, Calls Try.prog 62 #[.int .i64 N] w fun e w' => e = .returned (.agg #[.int .u64 a, .int .i64 d, .pointer none]) ∧ Below w.heap.size w w')
    (C2 : ∀ w, Calls Try.prog 62 #[.int .i64 M] w fun e w' => e = .returned (.agg #[.int .u64 b, .int .i64 c, .pointer none]) ∧ Below w.heap.size w w')
    (C3 : ∀ g w, w.heap[g]? = some (.cells (alCells a d) 97 (0, 0)) → Calls Try.prog 63 #[.pointer (some ⟨g, 0, none⟩), .agg #[.int .u64 b, .int .i64 c, .pointer none]] w fun e w' => e = .returned (.bool r) ∧ Below w.heap.size w w') :
    Calls Try.prog 38 #[.int .i64 N, .int .i64 M] w fun e w' => e = .returned (.bool r) ∧ Below w.heap.size w w' := by
  have D1 := Aside0.mk C1
  have D2 := Aside0.mk C2
  have D3 := Aside0.mk C3
  clear C1 C2 C3
  go_enter Try.func38, Try.ntmps38
  go_wp2_with fail
  refine (D1.out _).mono ?_
  rintro e w1 ⟨rfl, hB⟩
  have HB := Aside0.mk hB
  clear hB
  go_wp2_with fail
  refine (D2.out _).mono ?_
  rintro e w2 ⟨rfl, hB2⟩
  have hg2 : w2.heap[w1.heap.size]? = some (.cells (alCells a d) 97 (0, 0)) := (hB2.block _ (by simp)).trans (Box.new_at rfl _)
  have HB2 := Aside0.mk (below_step (below_alloc HB.out _) hB2)
  have HG := Aside0.mk hg2
  clear hB2 hg2 HB
  go_wp2_with fail
  refine (D3.out _ _ HG.out).mono ?_
  rintro e w3 ⟨rfl, hB3⟩
  have HB3 := Aside0.mk (below_step HB2.out hB3)
  clear hB3
  go_wp2
  go_ret
  exact ⟨rfl, HB3.out⟩
theorem impl_Resolved.calls (a0 a1 : Int) (r : Bool) (w : World) (h : impl_Resolved.f a0 a1 = some r) : Calls Try.prog 38 #[.int .i64 a0, .int .i64 a1] w fun e w' => e = .returned (.bool r) ∧ Below w.heap.size w w' := by
  unfold impl_Resolved.f at h
  split at h
  · rename_i hl
    obtain ⟨h1, h2, h3, h4⟩ := hl
    obtain rfl := Option.some.inj h
    obtain ⟨n, rfl⟩ : ∃ n : Nat, a0 = n := ⟨a0.toNat, by omega⟩
    obtain ⟨m, rfl⟩ : ∃ m : Nat, a1 = m := ⟨a1.toNat, by omega⟩
    have e : decide (((n : Int) ≠ 0) ∧ ((n : Int) ≤ (m : Int))) = decide (n ≠ 0 ∧ n ≤ m) := decide_eq_decide.2 (by omega)
    rw [e]
    exact impl_Resolved.walk _ _ _ _ _ _ _ w (fun w => model_ZzMoment.calls n (by omega) w) (fun w => model_ZzMoment.calls m (by omega) w) (fun g w hg => model_Alert_ResolvedAt.calls g n m w hg)
  · cases h


/-! ### model_Alerts_HasFiringAt: function 64 -/
-- contracts that were proved by hand
def alN (n : Nat) : Array Value := alCells ((n % 1000000000 : Nat) : Int) ((n / 1000000000 : Nat) : Int)
def kAl : Kd Nat := Box.box 97 (Kd.iso (Kd.raw 9) (fun n => (alN n).toList))
theorem alN_one (n : Nat) : ∀ u ∈ (alN n).toList, u.oneCell' = true := by
  intro u hu
  simp only [alN, alCells, List.mem_cons, List.not_mem_nil, or_false] at hu
  rcases hu with rfl | rfl | rfl | rfl | rfl | rfl | rfl | rfl | rfl <;> rfl
theorem kAl_new {w : World} {base g n : Nat} (hb : base ≤ g) (h : w.heap[g]? = some (.cells (alN n) 97 (0, 0))) (ok : Nat → Prop) (ho : ok g) :
    kAl.M w base ok n [.pointer (some ⟨g, 0, none⟩)] := ⟨g, _, rfl, ho, hb, h, rfl, rfl, alN_one n⟩
theorem kAl_at {w : World} {A : Option Addr} {n : Nat} {l : List Nat} (h : Kd.C kAl w A n l) (i : Int) (h0 : 0 ≤ i) (h1 : i < n) :
    ∃ ad g, A = some ad ∧ w.cell? (ad.add i.toNat) = some (.pointer (some ⟨g, 0, none⟩)) ∧ w.heap[g]? = some (.cells (alN (l.getD i.toNat 0)) 97 (0, 0)) := by
  obtain ⟨ad, cs, e, _, hK, hc0⟩ := Kd.C_get h 0 i h0 h1
  obtain ⟨g, cs', rfl, hg, hB, _⟩ := hK
  have hb : cs' = alN (l.getD i.toNat 0) := Array.toList_inj.1 hB
  subst hb
  refine ⟨ad, g, e, ?_, hg⟩
  have := hc0 0 _ rfl
  simpa [kAl, Box.box] using this
set_option maxHeartbeats 3200000 in
set_option maxRecDepth 100000 in
theorem model_Alerts_HasFiringAt.walk (A0 : Option Addr) (c0 : Nat) (l : List Nat) (b c : Int) (res : Nat → Bool) (w : World) (hr : Kd.C kAl w A0 l.length l) (hl : l.length ≤ maxLen)
    (C1 : ∀ g n w, w.heap[g]? = some (.cells (alN n) 97 (0, 0)) → Calls Try.prog 63 #[.pointer (some ⟨g, 0, none⟩), .agg #[.int .u64 b, .int .i64 c, .pointer none]] w fun e w' => e = .returned (.bool (res n)) ∧ Below w.heap.size w w') :
    Calls Try.prog 64 #[.slice A0 l.length c0, .agg #[.int .u64 b, .int .i64 c, .pointer none]] w fun e w' => e = .returned (.bool (l.any fun n => !res n)) ∧ Below w.heap.size w w' := by
  obtain ⟨q, hq⟩ : ∃ q, (l.any fun n => !res n) = q := ⟨_, rfl⟩
  rw [hq]
  have HQ := Aside0.mk hq
  have HR := Aside0.mk hr
  have D1 := Aside0.mk C1
  unfold maxLen at hl
  clear hq hr C1
  go_enter Try.func64, Try.ntmps64
  go_wp2
  have HN0 := Aside0.mk (show (w.alloc (Obj.cells #[.int .u64 b, .int .i64 c, .pointer none] 94)).heap[w.heap.size]? = some (.cells #[.int .u64 b, .int .i64 c, .pointer none] 94 (0, 0)) from Box.new_at rfl _)
  go_loopw [9] (fun v9 wr => ∃ j : Nat, j ≤ l.length ∧ v9 = .int .i64 j ∧ Aside0 (((l.drop j).any fun n => !res n) = q) ∧ Aside0 (wr.heap[w.heap.size]? = some (.cells #[.int .u64 b, .int .i64 c, .pointer none] 94 (0, 0))) ∧ Aside0 (Below w.heap.size w wr)) (fun v9 _ => l.length - (intOf v9).toNat)
  case atStart => exact ⟨0, Nat.zero_le _, rfl, HQ, HN0, ⟨below_alloc (Below.refl _ _) _⟩⟩
  case round =>
    clear HQ HN0
    obtain ⟨j, hj, rfl, HQ, HN, HB⟩ := hrel
    have n0 := (blk_cell HN.out 0).trans (show _ = some (Value.int .u64 b) from rfl)
    have n1 := (blk_cell HN.out 1).trans (show _ = some (Value.int .i64 c) from rfl)
    have n2 := (blk_cell HN.out 2).trans (show _ = some (Value.pointer none) from rfl)
    by_cases hlt : j < l.length
    · obtain ⟨ad, g, e0, hx, hg⟩ := kAl_at (Kd.C_below HR.out HB.out) (j : Int) (by omega) (by omega)
      cases e0
      simp only [Int.toNat_natCast] at hx hg
      have hd : l.drop j = l.getD j 0 :: l.drop (j + 1) := by rw [List.drop_eq_getElem_cons hlt, List.getD_eq_getElem?_getD, List.getElem?_eq_getElem hlt]; rfl
      have hq := HQ.out
      clear HQ
      rw [hd] at hq
      generalize l.getD j 0 = x at *
      have HG := Aside0.mk hg
      have hq' : (!res x || (l.drop (j + 1)).any fun n => !res n) = q := hq
      clear hd hq hg
      obtain ⟨s, hs⟩ : ∃ s, res x = s := ⟨_, rfl⟩
      have C := Aside0.mk (D1.out g x wr HG.out)
      rw [hs] at C hq'
      clear hs
      go_wp2_with fail
      refine (C.out).mono ?_
      rintro e w2 ⟨rfl, hB⟩
      have HB2 := Aside0.mk (below_step HB.out hB)
      have HN2 := Aside0.mk ((hB.block _ (blk_lt HN.out)).trans HN.out)
      clear hB HB HN hx n0 n1 n2 C HG
      cases s with
      | true =>
        rw [Bool.not_true, Bool.false_or] at hq'
        have HQ2 := Aside0.mk hq'
        clear hq'
        go_wp2
        go_roundw
        case rel => exact ⟨j + 1, by omega, by go_num, HQ2, HN2, HB2⟩
        case measure => simp [intOf]; omega
      | false =>
        rw [Bool.not_false, Bool.true_or] at hq'
        subst hq'
        go_wp2
        go_ret
        exact ⟨rfl, HB2.out⟩
    · have hj2 : j = l.length := by omega
      subst hj2
      have hq := HQ.out
      rw [List.drop_of_length_le (Nat.le_refl _)] at hq
      obtain rfl : false = q := hq
      go_wp2
      go_ret
      exact ⟨rfl, HB.out⟩


/-! ### impl_AlertsFiring: function 39 -/
-- a contract that was proved by hand
def in63 (a : Int) : Bool := decide (0 ≤ a) && decide (a < 9223372036854775808)
def impl_AlertsFiring.f (l0 : List Int) (a1 : Int) : Option Bool := if (l0.all in63 = true ∧ l0.length ≤ 17592186044416 ∧ l0.length ≤ maxLen) ∧ in63 a1 = true then some (l0.any fun e => !decide (e ≠ 0 ∧ e ≤ a1)) else none
theorem infoPA : (Try.prog.info? 101).map (fun i => (i.zero, i.size, i.bytes)) = some (some (.pointer none), 1, 8) := by kernel_rfl
set_option maxHeartbeats 3200000 in
set_option maxRecDepth 100000 in
theorem impl_AlertsFiring.walk (A0 : Option Addr) (c0 : Nat) (l0 : List Int) (M b c : Int) (res : Nat → Bool) (w : World) (hr0 : Kd.C (Kd.int .i64) w A0 l0.length l0) (hl : l0.length ≤ 17592186044416) (hl2 : l0.length ≤ maxLen)
    (CZ : ∀ e ∈ l0, ∀ w, Calls Try.prog 62 #[.int .i64 e] w fun x w' => x = .returned (tmV e.toNat) ∧ Below w.heap.size w w')
    (C2 : ∀ w, Calls Try.prog 62 #[.int .i64 M] w fun e w' => e = .returned (.agg #[.int .u64 b, .int .i64 c, .pointer none]) ∧ Below w.heap.size w w')
    (C1 : ∀ g n w, w.heap[g]? = some (.cells (alN n) 97 (0, 0)) → Calls Try.prog 63 #[.pointer (some ⟨g, 0, none⟩), .agg #[.int .u64 b, .int .i64 c, .pointer none]] w fun e w' => e = .returned (.bool (res n)) ∧ Below w.heap.size w w') :
    Calls Try.prog 39 #[.slice A0 l0.length c0, .int .i64 M] w fun e w' => e = .returned (.bool ((l0.map Int.toNat).any fun n => !res n)) ∧ Below w.heap.size w w' := by
  obtain ⟨q, hq⟩ : ∃ q, ((l0.map Int.toNat).any fun n => !res n) = q := ⟨_, rfl⟩
  rw [hq]
  have HQ := Aside0.mk hq
  clear hq
  have R0 := Aside0.mk hr0
  have DZ := Aside0.mk CZ
  have D2 := Aside0.mk C2
  have D1 := Aside0.mk C1
  have HL := Aside0.mk (show (l0.map Int.toNat).length ≤ maxLen by rw [List.length_map]; exact hl2)
  clear hr0 CZ C2 C1 hl2
  go_enter Try.func39, Try.ntmps39
  go_wp2
  go_loopw [5, 10] (fun v5 v10 wr => ∃ j : Nat, j ≤ l0.length ∧ v10 = .int .i64 j ∧ Aside0 (kAl.R 101 wr w.heap.size (fun _ => True) v5 ((l0.take j).map Int.toNat)) ∧ Aside0 (Below w.heap.size w wr)) (fun _ v10 _ => l0.length - (intOf v10).toNat)
  case atStart => exact ⟨0, Nat.zero_le _, rfl, ⟨Kd.R_nil _ _ _ _ _⟩, ⟨Below.refl _ _⟩⟩
  case round =>
    obtain ⟨j, hj, rfl, HO, HB⟩ := hrel
    by_cases hlt : j < l0.length
    · obtain ⟨ad, e0, hx⟩ := Kd.at_int (Kd.C_below R0.out HB.out) (j : Int) (by omega) (by omega)
      cases e0
      simp only [Int.toNat_natCast] at hx
      have er : rd l0 (j : Int) = l0.getD j 0 := rfl
      rw [er] at hx
      have hT : (l0.take (j + 1)).map Int.toNat = (l0.take j).map Int.toNat ++ [(l0.getD j 0).toNat] := by rw [Box.take_more l0 0 j hlt, List.map_append]; rfl
      have CI := Aside0.mk (DZ.out (l0.getD j 0) (by rw [List.getD_eq_getElem?_getD, List.getElem?_eq_getElem hlt]; exact List.getElem_mem hlt))
      have HT := Aside0.mk hT
      clear hT er
      generalize (l0.getD j 0) = x at *
      obtain ⟨n, hn⟩ : ∃ n, x.toNat = n := ⟨_, rfl⟩
      rw [hn] at CI HT
      clear hn
      unfold tmV at CI
      obtain ⟨a', ha⟩ : ∃ a', ((n % 1000000000 : Nat) : Int) = a' := ⟨_, rfl⟩
      obtain ⟨d', hd⟩ : ∃ d', ((n / 1000000000 : Nat) : Int) = d' := ⟨_, rfl⟩
      have HN := Aside0.mk (show alN n = alCells a' d' by unfold alN; rw [ha, hd])
      rw [ha, hd] at CI
      clear ha hd
      go_wp2_with fail
      refine (CI.out _).mono ?_
      rintro e w1 ⟨rfl, hb1⟩
      have HS0 := Aside0.mk (show w.heap.size ≤ wr.heap.size from below_size HB.out)
      have HLT := Aside0.mk (show ∀ k, u5.ownBlock = some k → k < wr.heap.size from fun k hk => by obtain ⟨_, inner, ho, _⟩ := HO.out; exact own_lt ho k hk)
      have HO1 := Aside0.mk (Kd.R_below HO.out hb1)
      have HB1 := Aside0.mk (below_step HB.out hb1)
      have HZ := Aside0.mk (show wr.heap.size ≤ w1.heap.size from below_size hb1)
      clear HO HB hb1 hx CI
      have hW : (w1.alloc (Obj.cells (alCells a' d') 97)).heap[w1.heap.size]? = some (.cells (alN n) 97 (0, 0)) := by rw [HN.out]; exact Box.new_at rfl _
      have AP := Aside0.mk (show kAl.M (w1.alloc (Obj.cells (alCells a' d') 97)) w.heap.size (fun k => wr.heap.size ≤ k) n [.pointer (some ⟨w1.heap.size, 0, none⟩)] from kAl_new (Nat.le_trans HS0.out HZ.out) hW _ HZ.out)
      have AK := Aside0.mk (show ∀ k, wr.heap.size ≤ k → True ∧ some k ≠ u5.ownBlock from fun k hk => ⟨trivial, fun e => by have := HLT.out _ e.symm; omega⟩)
      have AO := Aside0.mk (Kd.R_alloc HO1.out (Obj.cells (alCells a' d') 97))
      have AB := Aside0.mk (below_alloc HB1.out (Obj.cells (alCells a' d') 97))
      have AL := Aside0.mk (show (((l0.take j).map Int.toNat).length + 1) * 8 ≤ 140737488355328 by rw [List.length_map, List.length_take]; omega)
      clear hW HO1 HB1 HZ HS0 HLT HN
      unfold alCells at AP AO AB
      go_wp2_with ((with_reducible refine gate_builtin (b := .append) (xs := #[.tmp 14, .tmp 19]) rfl ?_); at_builtin; refine Kd.R_append kAl (w0 := w) w.heap.size rfl (.tmp 14) (.tmp 19) 100 101 (.pointer none) 8 rfl Try.underlying100 infoPA rfl (by decide) (by omega) u5 ((l0.take j).map Int.toNat) n [.pointer (some ⟨w1.heap.size, 0, none⟩)] (fun _ => True) (fun k => wr.heap.size ≤ k) rfl (by first | (go_simp; done) | (go_simp; rfl)) AP.out AK.out (fun _ _ => trivial) AO.out AB.out (below_size AB.out) AL.out ?_; intro v2 w2 hO2 hB2 hg2 hat2; rw [← HT.out] at hO2; have HO2 := Aside0.mk hO2; have HB2 := Aside0.mk hB2; clear hO2 hB2 hg2 hat2 AO AB AP AK HT)
      go_roundw
      case rel => exact ⟨j + 1, by omega, by go_num, HO2, HB2⟩
      case measure => simp [intOf]; omega
    · have hj2 : j = l0.length := by omega
      subst hj2
      have hO := HO.out
      rw [List.take_of_length_le (Nat.le_refl _)] at hO
      have HO1 := Aside0.mk hO
      clear hO HO
      generalize l0.map Int.toNat = l at *
      go_wp2_with fail
      refine (D2.out wr).mono ?_
      rintro e w2 ⟨rfl, hB'⟩
      have hO2 := Kd.R_below HO1.out hB'
      obtain ⟨A, c', rfl, hlc, hC⟩ := Kd.R_reads hO2
      have HC := Aside0.mk hC
      have HB2 := Aside0.mk (below_step HB.out hB')
      clear hB' hO2 hC HO1 HB
      go_wp2_with fail
      have HE := model_Alerts_HasFiringAt.walk A c' l b c res w2 HC.out HL.out D1.out
      rw [HQ.out] at HE
      refine HE.mono ?_
      clear HE
      rintro e w3 ⟨rfl, hD⟩
      have HB3 := Aside0.mk (below_step HB2.out hD)
      clear hD
      go_wp2
      go_ret
      exact ⟨rfl, HB3.out⟩
theorem any_toNat (M : Int) (hM : 0 ≤ M) : ∀ {l : List Int}, l.all in63 = true → ((l.map Int.toNat).any fun n => !decide (n ≠ 0 ∧ n ≤ M.toNat)) = (l.any fun e => !decide (e ≠ 0 ∧ e ≤ M))
  | [], _ => rfl
  | x :: r, h => by
    rw [List.all_cons, Bool.and_eq_true] at h
    have hx := h.1
    simp only [in63, Bool.and_eq_true, decide_eq_true_eq] at hx
    rw [List.map_cons, List.any_cons, List.any_cons, any_toNat M hM h.2, show decide (x.toNat ≠ 0 ∧ x.toNat ≤ M.toNat) = decide (x ≠ 0 ∧ x ≤ M) from decide_eq_decide.2 (by omega)]
theorem impl_AlertsFiring.calls (A0 : Option Addr) (c0 : Nat) (l0 : List Int) (a1 : Int) (r : Bool) (w : World) (hr0 : Kd.C (Kd.int .i64) w A0 l0.length l0) (hc0 : l0.length ≤ c0) (h : impl_AlertsFiring.f l0 a1 = some r) :
    Calls Try.prog 39 #[.slice A0 l0.length c0, .int .i64 a1] w fun e w' => e = .returned (.bool r) ∧ Below w.heap.size w w' := by
  unfold impl_AlertsFiring.f at h
  split at h
  · rename_i hh
    obtain ⟨⟨h1, h2, h3⟩, h4⟩ := hh
    obtain rfl := Option.some.inj h
    have h5 := h4
    simp only [in63, Bool.and_eq_true, decide_eq_true_eq] at h5
    rw [← any_toNat a1 h5.1 h1]
    refine impl_AlertsFiring.walk A0 c0 l0 a1 _ _ (fun n => decide (n ≠ 0 ∧ n ≤ a1.toNat)) w hr0 h2 h3 (fun e he w => ?_) (fun w => ?_) (fun g n w hg => model_Alert_ResolvedAt.calls g n a1.toNat w hg)
    · have hx := List.all_eq_true.1 h1 e he
      simp only [in63, Bool.and_eq_true, decide_eq_true_eq] at hx
      have := model_ZzMoment.calls e.toNat (by omega) w
      rwa [Int.toNat_of_nonneg hx.1] at this
    · have := model_ZzMoment.calls a1.toNat (by omega) w
      rwa [Int.toNat_of_nonneg h5.1] at this
  · cases h


end Go.Proofs.Ytbffhefeepmpcaa.Q
