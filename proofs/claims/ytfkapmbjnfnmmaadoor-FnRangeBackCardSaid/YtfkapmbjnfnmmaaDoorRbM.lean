/- Ranges of days, months and years read from the text of two numbers. -/
import Derived.Test.YtfkapmbjnfnmmaaDoorRb
import Derived.Test.YtfkapmbjnfnmmaaDoorMapK
namespace Go.Proofs.YtfkapmbjnfnmmaaDoor.Door
open Go.RowKit Go.Lib Go.Proofs.YtfkapmbjnfnmmaaDoor.Q Go.Proofs.YtfkapmbjnfnmmaaDoor.Pure Go.Proofs.YtfkapmbjnfnmmaaDoorW.PrintWords Go.Proofs.YtfkapmbjnfnmmaaDoorW.PrintLast
set_option linter.unusedVariables false
set_option linter.unusedSimpArgs false
theorem ta_str (B : Nat) (W : World) : (Instr.typeAssert (.iface 58 (.pointer (some ⟨B, 0, none⟩))) 20 58 false).run Tryd.prog W = .ok (.pointer (some ⟨B, 0, none⟩)) W := by kernel_rfl
set_option maxHeartbeats 1600000 in
set_option maxRecDepth 100000 in
theorem given_fn (s y : ByteArray) (B By base : Nat) (w : World) (h : w.heap[B]? = some (.cells #[.string s] 9 (0, 0))) (hy : w.heap[By]? = some (.cells #[.string y] 9 (0, 0))) (hb : base ≤ By) (hbs : base ≤ w.heap.size) :
    Calls Tryd.prog 33 #[.iface 58 (.pointer (some ⟨By, 0, none⟩)), .pointer (some ⟨B, 0, none⟩)] w fun e w' =>
      e = .returned .nilIface ∧ w'.heap[By]? = some (.cells #[.string s] 9 (0, 0)) ∧ Below base w w' ∧ w.heap.size ≤ w'.heap.size := by
  have c1 : w.cell? ⟨B, 0, none⟩ = some (.string s) := by unfold World.cell?; rw [h]; rfl
  have HY := Aside0.mk hy
  go_enter Tryd.func33, Tryd.ntmps33
  have y1 : w.cell? ⟨By, 0, none⟩ = some (.string y) := by unfold World.cell?; rw [hy]; rfl
  have f1 : w.frozen? ⟨By, 0, none⟩ = false := by unfold World.frozen?; rw [hy]; rfl
  clear h hy
  have hta := ta_str By
  go_wp2
  go_region
  all_goals
    go_wp2
    go_ret
    have g1 := Lib.heap_setCell_same (i := 0) HY.out (.string s)
    exact ⟨rfl, g1, (below_drew1 (Below.refl base w)).setCell hb _, by simp⟩
theorem alloc_new' (w : World) (o : Obj) (n : Nat) (h : n = w.heap.size) : (w.alloc o).heap[n]? = some o := by subst h; exact heap_alloc_new w o
theorem given_made (s : ByteArray) (w : World) : Calls Tryd.prog 20 #[.string s] w fun e w' => e = .returned (.func (.func 33) #[] #[.pointer (some ⟨w.heap.size, 0, none⟩)]) ∧ w' = w.alloc (.cells #[.string s] 9) := by
  have hmf : ∀ (fn : Fn) (first cap : Array Value) (w : World), (Instr.makeFunc fn first cap).run Tryd.prog w = .ok (.func fn first cap) w := fun _ _ _ _ => rfl
  go_enter Tryd.func20, Tryd.ntmps20
  go_wp2
  go_ret
  exact ⟨rfl, rfl⟩
set_option maxHeartbeats 3200000 in
set_option maxRecDepth 100000 in
theorem unmarshal_years (b e : Int) (Bs Bt base : Nat) (w : World) (hb0 : 1 ≤ b) (hbe : b ≤ e) (he9 : e ≤ 60000) (hr : RecvInc 67 56 Bt b e) (h1 : w.heap[Bs]? = some (.cells #[.string (Nums.rngB b e)] 9 (0, 0)))
    (ht : w.heap[Bt]? = some (.cells #[.int .i64 0, .int .i64 0] 56 (0, 0))) (hbt : base ≤ Bt) (hbs : base ≤ w.heap.size) :
    Calls Tryd.prog 29 #[.pointer (some ⟨Bt, 0, none⟩), .func (.func 33) #[] #[.pointer (some ⟨Bs, 0, none⟩)]] w fun x w' =>
      x = .returned .nilIface ∧ w'.heap[Bt]? = some (.cells #[.int .i64 b, .int .i64 e] 56 (0, 0)) ∧ Below base w w' := by
  have hk1 : -100000 < b := by omega
  have hk2 : b < 100000 := by omega
  have hk3 : -100000 < e := by omega
  have hk4 : e < 100000 := by omega
  have HBE := Aside0.mk hbe
  clear hbe hb0 he9
  have C := Aside0.mk (fun W hW hz => string_Inc _ 56 b e Bt base W hr hk1 hk2 hk3 hk4 hW hbt hz)
  clear hr
  generalize Nums.rngB b e = R at *
  have hbt2 := (Array.getElem?_eq_some_iff.1 ht).1
  have hb11 := (Array.getElem?_eq_some_iff.1 h1).1
  have H1 := Aside0.mk (show (w.alloc (.cells #[.string ⟨#[]⟩] 9)).heap[Bs]? = _ from (Below.heap_alloc w _ _ hb11).trans h1)
  have HT := Aside0.mk ht
  clear h1 ht
  go_enter Tryd.func29, Tryd.ntmps29
  go_wp2_with fail
  refine (given_fn R ⟨#[]⟩ Bs w.heap.size w.heap.size _ H1.out (heap_alloc_new w _) (Nat.le_refl _) (by simp)).mono ?_
  rintro x w1 ⟨rfl, hy, hb1, hz1⟩
  have hb1' : Below w.heap.size w w1 := ((Below.refl _ w).alloc (Nat.le_refl _) _).trans hb1
  have c0 : w1.cell? ⟨w.heap.size, 0, none⟩ = some (.string R) := by unfold World.cell?; rw [hy]; rfl
  have HB := Aside0.mk hb1'
  have HT1 := Aside0.mk ((hb1'.block Bt hbt2).trans HT.out)
  have HZ := Aside0.mk (show base ≤ w1.heap.size by have := below_size hb1'; omega)
  clear hy hb1 hb1' hz1 H1 HT
  go_wp2_with fail
  refine (C.out w1 HT1.out HZ.out).mono ?_
  rintro x w2 ⟨rfl, hh, hb2⟩
  have HH := Aside0.mk hh
  have HB2 := Aside0.mk ((HB.out.mono hbs).trans hb2)
  obtain ⟨d0, d1, f0, f1⟩ := cells_two hh
  clear hh hb2 c0
  have g1 : decide (b > e) = false := decide_eq_false (by have := HBE.out; omega)
  have k1 : e ≥ b := HBE.out
  go_wp2_with fail
  go_quiet (fail)
  go_wp2
  go_ret
  exact ⟨rfl, HH.out, by repeat (first | exact HB2.out | apply pw_below_drewN | apply below_drew1)⟩
set_option maxHeartbeats 3200000 in
set_option maxRecDepth 100000 in
theorem unmarshal_months (b e : Int) (Bs Bt base : Nat) (w : World) (hb0 : 1 ≤ b) (hbe : b ≤ e) (he9 : e ≤ 12) (hr : RecvMon 57 39 Bt b e) (h1 : w.heap[Bs]? = some (.cells #[.string (Nums.rngB b e)] 9 (0, 0)))
    (ht : w.heap[Bt]? = some (.cells #[.int .i64 0, .int .i64 0] 39 (0, 0))) (hbt : base ≤ Bt) (hbs : base ≤ w.heap.size) :
    Calls Tryd.prog 19 #[.pointer (some ⟨Bt, 0, none⟩), .func (.func 33) #[] #[.pointer (some ⟨Bs, 0, none⟩)]] w fun x w' =>
      x = .returned .nilIface ∧ w'.heap[Bt]? = some (.cells #[.int .i64 b, .int .i64 e] 39 (0, 0)) ∧ Below base w w' := by
  have hk1 : -100000 < b := by omega
  have hk2 : b < 100000 := by omega
  have hk3 : -100000 < e := by omega
  have hk4 : e < 100000 := by omega
  have HBE := Aside0.mk hbe
  clear hbe hb0 he9
  have C := Aside0.mk (fun W hW hz => string_Mon _ 39 b e Bt base W hr hk1 hk2 hk3 hk4 hW hbt hz)
  clear hr
  generalize Nums.rngB b e = R at *
  have hbt2 := (Array.getElem?_eq_some_iff.1 ht).1
  have hb11 := (Array.getElem?_eq_some_iff.1 h1).1
  have H1 := Aside0.mk (show (w.alloc (.cells #[.string ⟨#[]⟩] 9)).heap[Bs]? = _ from (Below.heap_alloc w _ _ hb11).trans h1)
  have HT := Aside0.mk ht
  clear h1 ht
  go_enter Tryd.func19, Tryd.ntmps19
  go_wp2_with fail
  refine (given_fn R ⟨#[]⟩ Bs w.heap.size w.heap.size _ H1.out (heap_alloc_new w _) (Nat.le_refl _) (by simp)).mono ?_
  rintro x w1 ⟨rfl, hy, hb1, hz1⟩
  have hb1' : Below w.heap.size w w1 := ((Below.refl _ w).alloc (Nat.le_refl _) _).trans hb1
  have c0 : w1.cell? ⟨w.heap.size, 0, none⟩ = some (.string R) := by unfold World.cell?; rw [hy]; rfl
  have HB := Aside0.mk hb1'
  have HT1 := Aside0.mk ((hb1'.block Bt hbt2).trans HT.out)
  have HZ := Aside0.mk (show base ≤ w1.heap.size by have := below_size hb1'; omega)
  clear hy hb1 hb1' hz1 H1 HT
  go_wp2_with fail
  refine (C.out w1 HT1.out HZ.out).mono ?_
  rintro x w2 ⟨rfl, hh, hb2⟩
  have HH := Aside0.mk hh
  have HB2 := Aside0.mk ((HB.out.mono hbs).trans hb2)
  obtain ⟨d0, d1, f0, f1⟩ := cells_two hh
  clear hh hb2 c0
  have g1 : decide (b > e) = false := decide_eq_false (by have := HBE.out; omega)
  have k1 : e ≥ b := HBE.out
  go_wp2_with fail
  go_quiet (fail)
  go_wp2
  go_ret
  exact ⟨rfl, HH.out, by repeat (first | exact HB2.out | apply pw_below_drewN | apply below_drew1)⟩
set_option maxHeartbeats 3200000 in
set_option maxRecDepth 100000 in
theorem unmarshal_days (b e : Int) (Bs Bt base : Nat) (w : World) (hs : (1 ≤ b ∧ e ≤ 31) ∨ (-31 ≤ b ∧ e ≤ -1)) (hbe : b ≤ e) (hr : RecvInc 66 55 Bt b e) (h1 : w.heap[Bs]? = some (.cells #[.string (Nums.rngB b e)] 9 (0, 0)))
    (ht : w.heap[Bt]? = some (.cells #[.int .i64 0, .int .i64 0] 55 (0, 0))) (hbt : base ≤ Bt) (hbs : base ≤ w.heap.size) :
    Calls Tryd.prog 28 #[.pointer (some ⟨Bt, 0, none⟩), .func (.func 33) #[] #[.pointer (some ⟨Bs, 0, none⟩)]] w fun x w' =>
      x = .returned .nilIface ∧ w'.heap[Bt]? = some (.cells #[.int .i64 b, .int .i64 e] 55 (0, 0)) ∧ Below base w w' := by
  have hk1 : -100000 < b := by omega
  have hk2 : b < 100000 := by omega
  have hk3 : -100000 < e := by omega
  have hk4 : e < 100000 := by omega
  have HBE := Aside0.mk hbe
  have HS := Aside0.mk hs
  clear hbe hs
  have C := Aside0.mk (fun W hW hz => string_Inc _ 55 b e Bt base W hr hk1 hk2 hk3 hk4 hW hbt hz)
  clear hr
  generalize Nums.rngB b e = R at *
  have hbt2 := (Array.getElem?_eq_some_iff.1 ht).1
  have hb11 := (Array.getElem?_eq_some_iff.1 h1).1
  have H1 := Aside0.mk (show (w.alloc (.cells #[.string ⟨#[]⟩] 9)).heap[Bs]? = _ from (Below.heap_alloc w _ _ hb11).trans h1)
  have HT := Aside0.mk ht
  clear h1 ht
  go_enter Tryd.func28, Tryd.ntmps28
  go_wp2_with fail
  refine (given_fn R ⟨#[]⟩ Bs w.heap.size w.heap.size _ H1.out (heap_alloc_new w _) (Nat.le_refl _) (by simp)).mono ?_
  rintro x w1 ⟨rfl, hy, hb1, hz1⟩
  have hb1' : Below w.heap.size w w1 := ((Below.refl _ w).alloc (Nat.le_refl _) _).trans hb1
  have c0 : w1.cell? ⟨w.heap.size, 0, none⟩ = some (.string R) := by unfold World.cell?; rw [hy]; rfl
  have HB := Aside0.mk hb1'
  have HT1 := Aside0.mk ((hb1'.block Bt hbt2).trans HT.out)
  have HZ := Aside0.mk (show base ≤ w1.heap.size by have := below_size hb1'; omega)
  clear hy hb1 hb1' hz1 H1 HT
  go_wp2_with fail
  refine (C.out w1 HT1.out HZ.out).mono ?_
  rintro x w2 ⟨rfl, hh, hb2⟩
  have HH := Aside0.mk hh
  have HB2 := Aside0.mk ((HB.out.mono hbs).trans hb2)
  obtain ⟨d0, d1, f0, f1⟩ := cells_two hh
  clear hh hb2 c0
  have z1 : (b == 0) = false := by have := HS.out; have := HBE.out; simp; omega
  have z2 : (e == 0) = false := by have := HS.out; have := HBE.out; simp; omega
  have g1 : decide (b < -31) = false := decide_eq_false (by have := HS.out; have := HBE.out; omega)
  have g2 : decide (e < -31) = false := decide_eq_false (by have := HS.out; have := HBE.out; omega)
  have g3 : decide (b > 31) = false := decide_eq_false (by have := HS.out; have := HBE.out; omega)
  have g4 : decide (e > 31) = false := decide_eq_false (by have := HS.out; have := HBE.out; omega)
  have i1 : -31 ≤ b := by have := HS.out; have := HBE.out; omega
  have i2 : -31 ≤ e := by have := HS.out; have := HBE.out; omega
  have i3 : b ≤ 31 := by have := HS.out; have := HBE.out; omega
  have i4 : e ≤ 31 := by have := HS.out; have := HBE.out; omega
  have i5 : ¬ b = 0 := by have := HS.out; have := HBE.out; omega
  have i6 : ¬ e = 0 := by have := HS.out; have := HBE.out; omega
  by_cases hn : b < 0
  · have hn2 : e < 0 := by have := HS.out; have := HBE.out; omega
    have p1 : decide (b < 0) = true := decide_eq_true hn
    have p2 : decide (e > 0) = false := decide_eq_false (by omega)
    have p3 : decide (e < 0) = true := decide_eq_true hn2
    have p4 : decide (28 + b > 28 + e) = false := decide_eq_false (by have := HBE.out; omega)
    have p5 : b ≤ e := HBE.out
    have w1' : wrap64 (28 + b) = 28 + b := by unfold wrap64; omega
    have w2' : wrap64 (28 + e) = 28 + e := by unfold wrap64; omega
    go_wp2_with fail
    go_ret
    exact ⟨rfl, HH.out, HB2.out⟩
  · have hn2 : ¬ e < 0 := by have := HS.out; have := HBE.out; omega
    have p1 : decide (b < 0) = false := decide_eq_false hn
    have p3 : decide (e < 0) = false := decide_eq_false hn2
    have p4 : decide (b > e) = false := decide_eq_false (by have := HBE.out; omega)
    have p5 : b ≤ e := HBE.out
    go_wp2_with fail
    go_ret
    exact ⟨rfl, HH.out, HB2.out⟩
set_option maxHeartbeats 3200000 in
set_option maxRecDepth 100000 in
theorem days_read (b e : Int) (w : World) (hs : (1 ≤ b ∧ e ≤ 31) ∨ (-31 ≤ b ∧ e ≤ -1)) (hbe : b ≤ e) :
    Calls Tryd.prog 16 #[.string (Nums.rngB b e)] w fun x w' => x = .returned (.tuple #[.int .i64 b, .int .i64 e, .bool true]) ∧ Below w.heap.size w w' := by
  have G := Aside0.mk (given_made (Nums.rngB b e))
  have U := Aside0.mk (fun Bs Bt base w h1 ht hbt hbs => unmarshal_days b e Bs Bt base w hs hbe (recv_days Bt b e (by omega) (by omega) (by omega) (by omega)) h1 ht hbt hbs)
  generalize Nums.rngB b e = R at *
  clear hs hbe
  go_enter Tryd.func16, Tryd.ntmps16
  go_wp2_with fail
  refine (G.out _).mono ?_
  rintro x w1 ⟨rfl, hw1⟩
  have k1 : w1.heap[w.heap.size]? = some (.cells #[.int .i64 0, .int .i64 0] 55 (0, 0)) := by rw [hw1, Below.heap_alloc _ _ _ (by simp)]; exact alloc_new' _ _ _ rfl
  have k2 : w1.heap[w.heap.size + 1]? = some (.cells #[.string R] 9 (0, 0)) := by rw [hw1]; exact alloc_new' _ _ _ (by simp)
  have kb : Below w.heap.size w w1 := by rw [hw1]; exact ((Below.refl _ w).alloc (Nat.le_refl _) _).alloc (by simp) _
  have HB1 := Aside0.mk kb
  have KZ := Aside0.mk (below_size kb)
  have UU := Aside0.mk (U.out (w.heap.size + 1) w.heap.size w.heap.size w1 k2 k1 (Nat.le_refl _) (below_size kb))
  clear hw1 k1 k2 kb
  go_wp2_with fail
  refine UU.out.mono ?_
  rintro x w2 ⟨rfl, hh, hb2⟩
  have HB2 := Aside0.mk (HB1.out.trans hb2)
  obtain ⟨d0, d1, f0, f1⟩ := cells_two hh
  clear hh hb2
  go_wp2_with fail
  go_quiet (fail)
  go_wp2
  go_ret3
  exact ⟨rfl, by repeat (first | exact HB2.out | apply pw_below_drewN | apply below_drew1)⟩
set_option maxHeartbeats 3200000 in
set_option maxRecDepth 100000 in
theorem years_read (b e : Int) (w : World) (hb0 : 1 ≤ b) (hbe : b ≤ e) (he9 : e ≤ 60000) :
    Calls Tryd.prog 17 #[.string (Nums.rngB b e)] w fun x w' => x = .returned (.tuple #[.int .i64 b, .int .i64 e, .bool true]) ∧ Below w.heap.size w w' := by
  have G := Aside0.mk (given_made (Nums.rngB b e))
  have U := Aside0.mk (fun Bs Bt base w h1 ht hbt hbs => unmarshal_years b e Bs Bt base w hb0 hbe he9 (recv_years Bt b e (by omega) (by omega) (by omega) (by omega)) h1 ht hbt hbs)
  generalize Nums.rngB b e = R at *
  clear hb0 hbe he9
  go_enter Tryd.func17, Tryd.ntmps17
  go_wp2_with fail
  refine (G.out _).mono ?_
  rintro x w1 ⟨rfl, hw1⟩
  have k1 : w1.heap[w.heap.size]? = some (.cells #[.int .i64 0, .int .i64 0] 56 (0, 0)) := by rw [hw1, Below.heap_alloc _ _ _ (by simp)]; exact alloc_new' _ _ _ rfl
  have k2 : w1.heap[w.heap.size + 1]? = some (.cells #[.string R] 9 (0, 0)) := by rw [hw1]; exact alloc_new' _ _ _ (by simp)
  have kb : Below w.heap.size w w1 := by rw [hw1]; exact ((Below.refl _ w).alloc (Nat.le_refl _) _).alloc (by simp) _
  have HB1 := Aside0.mk kb
  have KZ := Aside0.mk (below_size kb)
  have UU := Aside0.mk (U.out (w.heap.size + 1) w.heap.size w.heap.size w1 k2 k1 (Nat.le_refl _) (below_size kb))
  clear hw1 k1 k2 kb
  go_wp2_with fail
  refine UU.out.mono ?_
  rintro x w2 ⟨rfl, hh, hb2⟩
  have HB2 := Aside0.mk (HB1.out.trans hb2)
  obtain ⟨d0, d1, f0, f1⟩ := cells_two hh
  clear hh hb2
  go_wp2_with fail
  go_quiet (fail)
  go_wp2
  go_ret3
  exact ⟨rfl, by repeat (first | exact HB2.out | apply pw_below_drewN | apply below_drew1)⟩
def monEnts : Array MapEntry := #[{ key := .string ⟨#[106, 97, 110, 117, 97, 114, 121]⟩, val := .int .i64 1, born := 0 }, { key := .string ⟨#[102, 101, 98, 114, 117, 97, 114, 121]⟩, val := .int .i64 2, born := 1 }, { key := .string ⟨#[109, 97, 114, 99, 104]⟩, val := .int .i64 3, born := 2 }, { key := .string ⟨#[97, 112, 114, 105, 108]⟩, val := .int .i64 4, born := 3 }, { key := .string ⟨#[109, 97, 121]⟩, val := .int .i64 5, born := 4 }, { key := .string ⟨#[106, 117, 110, 101]⟩, val := .int .i64 6, born := 5 }, { key := .string ⟨#[106, 117, 108, 121]⟩, val := .int .i64 7, born := 6 }, { key := .string ⟨#[97, 117, 103, 117, 115, 116]⟩, val := .int .i64 8, born := 7 }, { key := .string ⟨#[115, 101, 112, 116, 101, 109, 98, 101, 114]⟩, val := .int .i64 9, born := 8 }, { key := .string ⟨#[111, 99, 116, 111, 98, 101, 114]⟩, val := .int .i64 10, born := 9 }, { key := .string ⟨#[110, 111, 118, 101, 109, 98, 101, 114]⟩, val := .int .i64 11, born := 10 }, { key := .string ⟨#[100, 101, 99, 101, 109, 98, 101, 114]⟩, val := .int .i64 12, born := 11 }]
theorem num_name {n : Int} {s : ByteArray} {c : UInt8} {r : List UInt8} (hs : s.data.toList = c :: r) (hc : 97 ≤ c.toNat) : Nums.numB n ≠ s := by
  intro e
  have h : Go.Lib.itoa n = c :: r := by
    rw [← hs, ← e]
    rfl
  have hm := Nums.itoa_mem (n := n) (x := c) (by rw [h]; exact List.mem_cons_self)
  omega
theorem mon_find (n : Int) : Instr.findNow .string (.string (Nums.numB n)) monEnts.toList 0 = some none := by
  unfold monEnts
  have key : ∀ s : ByteArray, Nums.numB n ≠ s → Instr.sameNow .string (.string (Nums.numB n)) (.string s) = some false := fun s h => by
    show some (Nums.numB n == s) = some false
    have hd : ((Nums.numB n).data == s.data) = false := beq_eq_false_iff_ne.2 (fun e => h (ByteArray.ext e))
    exact congrArg some hd
  simp only [Instr.findNow, key ⟨#[106, 97, 110, 117, 97, 114, 121]⟩ (num_name rfl (by decide)), key ⟨#[102, 101, 98, 114, 117, 97, 114, 121]⟩ (num_name rfl (by decide)), key ⟨#[109, 97, 114, 99, 104]⟩ (num_name rfl (by decide)), key ⟨#[97, 112, 114, 105, 108]⟩ (num_name rfl (by decide)), key ⟨#[109, 97, 121]⟩ (num_name rfl (by decide)), key ⟨#[106, 117, 110, 101]⟩ (num_name rfl (by decide)), key ⟨#[106, 117, 108, 121]⟩ (num_name rfl (by decide)), key ⟨#[97, 117, 103, 117, 115, 116]⟩ (num_name rfl (by decide)), key ⟨#[115, 101, 112, 116, 101, 109, 98, 101, 114]⟩ (num_name rfl (by decide)), key ⟨#[111, 99, 116, 111, 98, 101, 114]⟩ (num_name rfl (by decide)), key ⟨#[110, 111, 118, 101, 109, 98, 101, 114]⟩ (num_name rfl (by decide)), key ⟨#[100, 101, 99, 101, 109, 98, 101, 114]⟩ (num_name rfl (by decide))]
set_option maxRecDepth 100000 in
theorem mon_map (w : World) : Calls Tryd.prog 98 #[] w fun e w' => e = .returned (.map (some w.heap.size)) ∧ w' = w.alloc (.map monEnts 12) := by
  have P1 := Aside0.mk (fun W r hr es c (n : ByteArray) v hn => @MapK.run_putK Tryd.prog _ _ _ Tryd.underlying144 _ Tryd.underlying9 W r hr es c (.string n) trivial v hn)
  go_enter Tryd.func98, Tryd.ntmps98
  go_wp2_with (first | (rw [run_makeMap]; skip) | (rw [P1.out _ _ (by simp) _ _ _ _ rfl]; skip))
  go_ret
  exact ⟨rfl, rfl⟩
theorem mon_look (n : Int) (W : World) (r : Nat) (hr : r = W.heap.size) : (Instr.lookup 144 (.map (some r)) (.string (Nums.numB n)) true).run Tryd.prog (W.alloc (.map monEnts 12)) = .ok (.tuple #[.int .i64 0, .bool false]) (W.alloc (.map monEnts 12)) := by
  have hf := mon_find n
  generalize monEnts = es at *
  generalize Nums.numB n = D at *
  exact MapK.run_missK (P := Tryd.prog) Tryd.underlying144 Tryd.underlying9 W r hr es 12 (.string D) trivial (.int .i64 0) (fun w => by kernel_rfl) hf
set_option maxRecDepth 100000 in
theorem mon_member (n : Int) (h1 : -100000 < n) (h2 : n < 100000) (p : Value) (w : World) :
    Calls Tryd.prog 95 #[p, .string (Nums.numB n)] w fun x w' => x = .returned (.tuple #[.int .i64 n, .nilIface]) ∧ Below w.heap.size w w' := by
  have C := Aside0.mk (Tryd.strconv_Atoi (Nums.numB n) n (by have := Nums.num_size h1 h2; omega) (Nums.atoi_itoa n))
  have hl := mon_look n
  have hcm := mon_map
  generalize Nums.numB n = D at *
  generalize monEnts = es at *
  have CM := Aside0.mk (show ∀ w : World, Calls Tryd.prog 98 #[] w fun e w' => e = .returned (.map (some w.heap.size)) ∧ w' = w.alloc (.map es 12) from hcm)
  clear h1 h2 hcm
  go_enter Tryd.func95, Tryd.ntmps95
  go_wp2_with fail
  refine (CM.out _).mono ?_
  rintro x w1 ⟨rfl, rfl⟩
  go_wp2_with fail
  refine (C.out _).mono ?_
  rintro x w2 ⟨rfl, t, rfl⟩
  have HB := Aside0.mk (below_step (below_alloc (Below.refl w.heap.size w) (.map es 12)) (Lib.bytesWorld_below _ 5 t))
  clear hl
  go_wp2
  go_ret2
  exact ⟨rfl, HB.out⟩
theorem recv_months (B : Nat) (b e : Int) (h1 : -100000 < b) (h2 : b < 100000) (h3 : -100000 < e) (h4 : e < 100000) : RecvMon 57 39 B b e where
  m1 := fun w => by kernel_rfl
  m2 := fun w => by kernel_rfl
  m3 := fun w => by kernel_rfl
  m4 := fun w => by kernel_rfl
  mb := fun p W => mon_member b h1 h2 p W
  me := fun p W => mon_member e h3 h4 p W
set_option maxHeartbeats 3200000 in
set_option maxRecDepth 100000 in
theorem months_read (b e : Int) (w : World) (hb0 : 1 ≤ b) (hbe : b ≤ e) (he9 : e ≤ 12) :
    Calls Tryd.prog 9 #[.string (Nums.rngB b e)] w fun x w' => x = .returned (.tuple #[.int .i64 b, .int .i64 e, .bool true]) ∧ Below w.heap.size w w' := by
  have G := Aside0.mk (given_made (Nums.rngB b e))
  have U := Aside0.mk (fun Bs Bt base w h1 ht hbt hbs => unmarshal_months b e Bs Bt base w hb0 hbe he9 (recv_months Bt b e (by omega) (by omega) (by omega) (by omega)) h1 ht hbt hbs)
  generalize Nums.rngB b e = R at *
  clear hb0 hbe he9
  go_enter Tryd.func9, Tryd.ntmps9
  go_wp2_with fail
  refine (G.out _).mono ?_
  rintro x w1 ⟨rfl, hw1⟩
  have k1 : w1.heap[w.heap.size]? = some (.cells #[.int .i64 0, .int .i64 0] 39 (0, 0)) := by rw [hw1, Below.heap_alloc _ _ _ (by simp)]; exact alloc_new' _ _ _ rfl
  have k2 : w1.heap[w.heap.size + 1]? = some (.cells #[.string R] 9 (0, 0)) := by rw [hw1]; exact alloc_new' _ _ _ (by simp)
  have kb : Below w.heap.size w w1 := by rw [hw1]; exact ((Below.refl _ w).alloc (Nat.le_refl _) _).alloc (by simp) _
  have HB1 := Aside0.mk kb
  have KZ := Aside0.mk (below_size kb)
  have UU := Aside0.mk (U.out (w.heap.size + 1) w.heap.size w.heap.size w1 k2 k1 (Nat.le_refl _) (below_size kb))
  clear hw1 k1 k2 kb
  go_wp2_with fail
  refine UU.out.mono ?_
  rintro x w2 ⟨rfl, hh, hb2⟩
  have HB2 := Aside0.mk (HB1.out.trans hb2)
  obtain ⟨d0, d1, f0, f1⟩ := cells_two hh
  clear hh hb2
  go_wp2_with fail
  go_quiet (fail)
  go_wp2
  go_ret3
  exact ⟨rfl, by repeat (first | exact HB2.out | apply pw_below_drewN | apply below_drew1)⟩
end Go.Proofs.YtfkapmbjnfnmmaaDoor.Door
