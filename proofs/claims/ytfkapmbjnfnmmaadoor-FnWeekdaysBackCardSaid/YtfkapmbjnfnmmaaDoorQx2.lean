-- printed by this project's own program wip/tools/mkprint.py (the kit's print.py with hand-proved contracts put in)
import Derived.Test.YtfkapmbjnfnmmaaDoorQx0
import Derived.Test.YtfkapmbjnfnmmaaDoorQx1
namespace Go.Proofs.YtfkapmbjnfnmmaaDoor.Q
open Go.RowKit Go.Proofs.YtfkapmbjnfnmmaaDoorW.PrintWords Go.Proofs.YtfkapmbjnfnmmaaDoorW.PrintLast Go.Proofs.YtfkapmbjnfnmmaaDoorW.PrintMore
attribute [local go_sem] max2_int min2_int max_two min_two max_three min_three max_four min_four   -- for this text's walks alone
set_option linter.unusedVariables false
set_option linter.unusedSimpArgs false

/-! ### impl_Weekdays: function 12 -/
-- a contract that was proved by hand
set_option maxRecDepth 100000 in
theorem day_member (n : Nat) (p : Value) (w : World) (h : n ≤ 6) :
    Calls Tryd.prog 111 #[p, .string (Days.dayB n)] w fun e w' => e = .returned (.tuple #[.int .i64 (n : Int), .nilIface]) ∧ Below w.heap.size w w' := by
  have hl := MapK.day_look h
  generalize Days.dayB n = D at *
  have C := Aside0.mk MapK.days_map
  clear h
  go_enter Tryd.func111, Tryd.ntmps111
  go_wp2_with fail
  refine (C.out _).mono ?_
  rintro e w1 ⟨rfl, rfl⟩
  go_wp2
  go_ret2
  exact ⟨rfl, below_alloc (Below.refl _ _) _⟩
theorem cells_two {w : World} {B : Nat} {a b : Value} {t : TypeId} (h : w.heap[B]? = some (.cells #[a, b] t (0, 0))) : w.cell? ⟨B, 0, none⟩ = some a ∧ w.cell? ⟨B, 1, none⟩ = some b ∧ w.frozen? ⟨B, 0, none⟩ = false ∧ w.frozen? ⟨B, 1, none⟩ = false := by
  unfold World.cell? World.frozen?
  rw [h]
  exact ⟨rfl, rfl, rfl, rfl⟩
theorem set_begin (B base : Nat) (a b : Value) (t : TypeId) (n : Int) (w : World) (h : w.heap[B]? = some (.cells #[a, b] t (0, 0))) (hb : base ≤ B) :
    Calls Tryd.prog 96 #[.pointer (some ⟨B, 0, none⟩), .int .i64 n] w fun e w' => e = .returned (.tuple #[]) ∧ w'.heap[B]? = some (.cells #[.int .i64 n, b] t (0, 0)) ∧ Below base w w' ∧ w'.heap.size = w.heap.size := by
  have H := Aside0.mk h
  obtain ⟨c0, c1, f0, f1⟩ := cells_two h
  clear h
  go_enter Tryd.func96, Tryd.ntmps96
  go_wp2
  go_end0
  have g1 := Lib.heap_setCell_same (i := 0) H.out (.int .i64 n)
  exact ⟨rfl, g1, (Below.refl base w).setCell hb _, by simp⟩
theorem set_end (B base : Nat) (a b : Value) (t : TypeId) (n : Int) (w : World) (h : w.heap[B]? = some (.cells #[a, b] t (0, 0))) (hb : base ≤ B) :
    Calls Tryd.prog 97 #[.pointer (some ⟨B, 0, none⟩), .int .i64 n] w fun e w' => e = .returned (.tuple #[]) ∧ w'.heap[B]? = some (.cells #[a, .int .i64 n] t (0, 0)) ∧ Below base w w' ∧ w'.heap.size = w.heap.size := by
  have H := Aside0.mk h
  obtain ⟨c0, c1, f0, f1⟩ := cells_two h
  clear h
  go_enter Tryd.func97, Tryd.ntmps97
  go_wp2
  go_end0
  have g1 := Lib.heap_setCell_same (i := 1) H.out (.int .i64 n)
  exact ⟨rfl, g1, (Below.refl base w).setCell hb _, by simp⟩
theorem low_range : ∀ b e : Fin 7, Go.Lib.toLowerA (Days.rangeT b.val e.val) = Days.rangeT b.val e.val := by decide +kernel
theorem asc_range : ∀ b e : Fin 7, ascC (Days.rangeT b.val e.val) = true := by decide +kernel
theorem has_range : ∀ b e : Fin 7, timeinterval_zzContainsRune.f (Days.rangeB b.val e.val) 58 = some (decide (b.val ≠ e.val)) := by decide +kernel
theorem split_range : ∀ b e : Fin 7, b.val ≠ e.val → timeinterval_zzSplit.f 40 (Days.rangeB b.val e.val) ⟨#[58]⟩ = some [Days.dayB b.val, Days.dayB e.val] := by decide +kernel
theorem m_member (B : Nat) (w : World) : (method 259 63 (.pointer (some ⟨B, 0, none⟩)) "pub-clamour/pub/alertmanager/timeinterval.memberFromString").run Tryd.prog w = .ok (111, .pointer (some ⟨B, 0, none⟩)) w := by kernel_rfl
theorem m_begin (B : Nat) (w : World) : (method 259 63 (.pointer (some ⟨B, 0, none⟩)) "pub-clamour/pub/alertmanager/timeinterval.setBegin").run Tryd.prog w = .ok (96, .pointer (some ⟨B, 0, none⟩)) w := by kernel_rfl
theorem m_end (B : Nat) (w : World) : (method 259 63 (.pointer (some ⟨B, 0, none⟩)) "pub-clamour/pub/alertmanager/timeinterval.setEnd").run Tryd.prog w = .ok (97, .pointer (some ⟨B, 0, none⟩)) w := by kernel_rfl
theorem n_member (B : Nat) (w : World) : (nilAhead 259 63 (.pointer (some ⟨B, 0, none⟩)) "pub-clamour/pub/alertmanager/timeinterval.memberFromString").run Tryd.prog w = .ok (some false) w := by kernel_rfl
set_option maxHeartbeats 1600000 in
set_option maxRecDepth 100000 in
theorem string_one (b B base : Nat) (w : World) (hb : b ≤ 6) (hB : w.heap[B]? = some (.cells #[.int .i64 0, .int .i64 0] 50 (0, 0))) (hbase : base ≤ B) (hbs : base ≤ w.heap.size) :
    Calls Tryd.prog 31 #[.string (Days.rangeB b b), .iface 63 (.pointer (some ⟨B, 0, none⟩))] w fun x w' => x = .returned .nilIface ∧ w'.heap[B]? = some (.cells #[.int .i64 (b : Int), .int .i64 (b : Int)] 50 (0, 0)) ∧ Below base w w' := by
  have hlow : Go.Lib.toLowerA (Days.rangeB b b).data.toList = (Days.rangeB b b).data.toList := low_range ⟨b, by omega⟩ ⟨b, by omega⟩
  have hasc : ∀ (j : Nat) (x : UInt8), (Days.rangeB b b).data.toList[j]? = some x → x.toNat < 128 := fun j x hx => of_decide_eq_true (List.all_eq_true.1 (asc_range ⟨b, by omega⟩ ⟨b, by omega⟩) x (List.mem_of_getElem? hx))
  have hsz : (Days.rangeB b b).size ≤ 140737488355328 := by have := MapK.day_size b; unfold Days.rangeB Days.rangeT; rw [if_pos rfl]; exact Nat.le_trans this (by omega)
  have L := Aside0.mk (fun W => Tryd.strings_ToLower_ascii (Days.rangeB b b) W hsz hasc)
  rw [hlow] at L
  have H := Aside0.mk (has_range ⟨b, by omega⟩ ⟨b, by omega⟩)
  simp only [ne_eq, not_true_eq_false, decide_false] at H
  have ed : Days.rangeB b b = Days.dayB b := by unfold Days.rangeB Days.rangeT; rw [if_pos rfl]; rfl
  have MB := Aside0.mk (fun p W => day_member b p W hb)
  rw [ed] at L H ⊢
  have e0 : (⟨(Days.dayB b).data.toList.toArray⟩ : ByteArray) = Days.dayB b := rfl
  rw [e0] at L
  generalize Days.dayB b = D at *
  have HB := Aside0.mk hB
  clear hlow hasc hsz ed e0 hB hb
  have hm1 := m_member B
  have hm2 := m_begin B
  have hm3 := m_end B
  have HBL := Aside0.mk (Array.getElem?_eq_some_iff.1 HB.out).1
  go_enter Tryd.func31, Tryd.ntmps31
  go_wp2_with fail
  refine (L.out _).mono ?_
  rintro x w1 ⟨rfl, hb1⟩
  have HB1 := Aside0.mk hb1
  clear hb1
  go_wp2_with fail
  refine (timeinterval_zzContainsRune.calls D 58 false _ H.out).mono ?_
  rintro x w2 ⟨rfl, hb2⟩
  have HB2 := Aside0.mk (below_step HB1.out hb2)
  clear hb2
  go_wp2_with fail
  refine (MB.out _ _).mono ?_
  rintro x w3 ⟨rfl, hb3⟩
  have HB3 := Aside0.mk (below_step HB2.out hb3)
  have HH3 := Aside0.mk ((HB3.out.block B HBL.out).trans HB.out)
  clear hb3
  go_wp2_with fail
  refine (set_begin B base _ _ _ (b : Int) w3 HH3.out hbase).mono ?_
  rintro x w4 ⟨rfl, hh4, hb4, hs4⟩
  have HH4 := Aside0.mk hh4
  have HB4 := Aside0.mk ((HB3.out.mono hbs).trans hb4)
  clear hh4 hb4 hs4
  go_wp2_with fail
  refine (set_end B base _ _ _ (b : Int) w4 HH4.out hbase).mono ?_
  rintro x w5 ⟨rfl, hh5, hb5, hs5⟩
  have HH5 := Aside0.mk hh5
  have HB5 := Aside0.mk (HB4.out.trans hb5)
  clear hh5 hb5 hs5
  go_wp2
  go_ret
  exact ⟨rfl, HH5.out, HB5.out⟩
theorem at_str {w : World} {g n i : Nat} {xs : List ByteArray} (h : Kd.C Kd.string w (some ⟨g, 0, none⟩) n xs) (hi : i < n) : w.cell? ⟨g, i, none⟩ = some (.string (xs.getD i ByteArray.empty)) := by
  obtain ⟨ad, e1, h1⟩ := Kd.at_string h (i : Int) (by omega) (by omega)
  injection e1 with e1
  subst e1
  have : (⟨g, 0, none⟩ : Addr).add ((i : Int)).toNat = ⟨g, i, none⟩ := by unfold Addr.add; split <;> simp_all
  rw [this] at h1
  exact h1
set_option maxHeartbeats 3200000 in
set_option maxRecDepth 100000 in
theorem string_two (b e B base : Nat) (w : World) (hb : b ≤ 6) (he : e ≤ 6) (hne : b ≠ e) (hB : w.heap[B]? = some (.cells #[.int .i64 0, .int .i64 0] 50 (0, 0))) (hbase : base ≤ B) (hbs : base ≤ w.heap.size) :
    Calls Tryd.prog 31 #[.string (Days.rangeB b e), .iface 63 (.pointer (some ⟨B, 0, none⟩))] w fun x w' => x = .returned .nilIface ∧ w'.heap[B]? = some (.cells #[.int .i64 (b : Int), .int .i64 (e : Int)] 50 (0, 0)) ∧ Below base w w' := by
  have hlow : Go.Lib.toLowerA (Days.rangeB b e).data.toList = (Days.rangeB b e).data.toList := low_range ⟨b, by omega⟩ ⟨e, by omega⟩
  have hasc : ∀ (j : Nat) (x : UInt8), (Days.rangeB b e).data.toList[j]? = some x → x.toNat < 128 := fun j x hx => of_decide_eq_true (List.all_eq_true.1 (asc_range ⟨b, by omega⟩ ⟨e, by omega⟩) x (List.mem_of_getElem? hx))
  have hsz : (Days.rangeB b e).size ≤ 140737488355328 := by
    have h1 := MapK.day_size b
    have h2 := MapK.day_size e
    have h3 : (Days.rangeB b e).size = (Days.dayB b).size + (Days.dayB e).size + 1 := by
      unfold Days.rangeB Days.rangeT Days.dayB
      rw [if_neg hne]
      show (List.toArray _).size = (List.toArray _).size + (List.toArray _).size + 1
      simp
      omega
    omega
  have L := Aside0.mk (fun W => Tryd.strings_ToLower_ascii (Days.rangeB b e) W hsz hasc)
  rw [hlow] at L
  have H := Aside0.mk (has_range ⟨b, by omega⟩ ⟨e, by omega⟩)
  simp only [ne_eq, hne, not_false_eq_true, decide_true] at H
  have SP := Aside0.mk (split_range ⟨b, by omega⟩ ⟨e, by omega⟩ hne)
  simp only at SP
  have MB := Aside0.mk (fun p W => day_member b p W hb)
  have ME := Aside0.mk (fun p W => day_member e p W he)
  have e0 : (⟨(Days.rangeB b e).data.toList.toArray⟩ : ByteArray) = Days.rangeB b e := rfl
  rw [e0] at L
  generalize Days.rangeB b e = R at *
  generalize Days.dayB b = D at *
  generalize Days.dayB e = E at *
  have HB := Aside0.mk hB
  have HBL := Aside0.mk (Array.getElem?_eq_some_iff.1 hB).1
  clear hlow hasc hsz e0 hB hb he hne
  have hm1 := m_member B
  have hm2 := m_begin B
  have hm3 := m_end B
  have hm4 := n_member B
  have hmf : ∀ (fn : Fn) (first cap : Array Value) (w : World), (Instr.makeFunc fn first cap).run Tryd.prog w = .ok (.func fn first cap) w := fun _ _ _ _ => rfl
  go_enter Tryd.func31, Tryd.ntmps31
  go_wp2_with fail
  refine (L.out _).mono ?_
  rintro x w1 ⟨rfl, hb1⟩
  have HB1 := Aside0.mk hb1
  clear hb1
  go_wp2_with fail
  refine (timeinterval_zzContainsRune.calls R 58 true _ H.out).mono ?_
  rintro x w2 ⟨rfl, hb2⟩
  have HB2 := Aside0.mk (below_step HB1.out hb2)
  clear hb2
  go_wp2_with fail
  refine (timeinterval_zzSplit.calls 40 _ _ _ _ SP.out).mono ?_
  rintro x w3 ⟨v, rfl, hR, hb3⟩
  obtain ⟨g, cap, rfl, _, _, _⟩ := Kd.R_form hR (by simp)
  obtain ⟨_, hcap, hC⟩ := Kd.R_reads' hR
  have HB3 := Aside0.mk (below_step HB2.out hb3)
  have c0 := at_str hC (i := 0) (by simp)
  have c1 := at_str hC (i := 1) (by simp)
  simp only [List.getD, List.getElem?_cons_zero, List.getElem?_cons_succ, Option.getD_some] at c0 c1
  have HG := Aside0.mk (World.block_lt_of_cell? w3 _ c1)
  clear hR hb3 hC
  go_wp2_with fail
  go_region_with (go_at_call 111; refine (MB.out _ _).mono ?_; rintro x w4 ⟨rfl, hb4⟩; have c1' : w4.cell? ⟨g, 1, none⟩ = some (.string E) := (hb4.cell (by exact HG.out)).trans c1; have HB4 := Aside0.mk (below_step (by repeat (first | exact HB3.out | apply below_drew1)) hb4); clear hb4)
  all_goals (try go_wp2_with fail)
  all_goals clear c0 c1
  all_goals
    go_region_with (go_at_call 111; refine (ME.out _ _).mono ?_; rintro x w5 ⟨rfl, hb5⟩; have HB5 := Aside0.mk (below_step (by repeat (first | exact HB4.out | apply below_drew1)) hb5); clear hb5)
  all_goals (try go_wp2_with fail)
  all_goals
    have HH5 := Aside0.mk ((HB5.out.block B HBL.out).trans HB.out)
    refine (set_begin B base _ _ _ (b : Int) w5 HH5.out hbase).mono ?_
    rintro x w6 ⟨rfl, hh6, hb6, hs6⟩
    have HH6 := Aside0.mk hh6
    have HB6 := Aside0.mk ((HB5.out.mono hbs).trans hb6)
    clear hh6 hb6 hs6
    go_wp2_with fail
    refine (set_end B base _ _ _ (e : Int) w6 HH6.out hbase).mono ?_
    rintro x w7 ⟨rfl, hh7, hb7, hs7⟩
    have HH7 := Aside0.mk hh7
    have HB7 := Aside0.mk (HB6.out.trans hb7)
    clear hh7 hb7 hs7
    go_wp2
    go_ret
    exact ⟨rfl, HH7.out, HB7.out⟩
theorem ta_str (B : Nat) (W : World) : (Instr.typeAssert (.iface 58 (.pointer (some ⟨B, 0, none⟩))) 20 58 false).run Tryd.prog W = .ok (.pointer (some ⟨B, 0, none⟩)) W := by kernel_rfl
set_option maxHeartbeats 1600000 in
set_option maxRecDepth 100000 in
theorem given_fn (s y : ByteArray) (B By base : Nat) (w : World) (h : w.heap[B]? = some (.cells #[.string s] 9 (0, 0))) (hy : w.heap[By]? = some (.cells #[.string y] 9 (0, 0))) (hb : base ≤ By) (hbs : base ≤ w.heap.size) :
    Calls Tryd.prog 33 #[.iface 58 (.pointer (some ⟨By, 0, none⟩)), .pointer (some ⟨B, 0, none⟩)] w fun e w' =>
      e = .returned .nilIface ∧ w'.heap[By]? = some (.cells #[.string s] 9 (0, 0)) ∧ Below base w w' ∧ w.heap.size ≤ w'.heap.size := by
  have c1 : w.cell? ⟨B, 0, none⟩ = some (.string s) := by unfold World.cell?; rw [h]; rfl
  have HY := Aside0.mk hy
  go_enter Tryd.func33, Tryd.ntmps33
  have y1 : w.cell? ⟨By, 0, none⟩ = some (.string y) := by unfold World.cell?; rw [hy]; rfl
  have f1 : w.frozen? ⟨By, 0, none⟩ = false := by unfold World.frozen?; rw [hy]; rfl
  clear h hy
  have hta := ta_str By
  go_wp2
  go_region
  all_goals
    go_wp2
    go_ret
    have g1 := Lib.heap_setCell_same (i := 0) HY.out (.string s)
    exact ⟨rfl, g1, (below_drew1 (Below.refl base w)).setCell hb _, by simp⟩
set_option maxHeartbeats 3200000 in
set_option maxRecDepth 100000 in
theorem unmarshal (b e Bs Bt base : Nat) (w : World) (hbe : b ≤ e) (he : e ≤ 6) (h1 : w.heap[Bs]? = some (.cells #[.string (Days.rangeB b e)] 9 (0, 0)))
    (ht : w.heap[Bt]? = some (.cells #[.int .i64 0, .int .i64 0] 50 (0, 0))) (hbt : base ≤ Bt) (hbs : base ≤ w.heap.size) :
    Calls Tryd.prog 24 #[.pointer (some ⟨Bt, 0, none⟩), .func (.func 33) #[] #[.pointer (some ⟨Bs, 0, none⟩)]] w fun x w' =>
      x = .returned .nilIface ∧ w'.heap[Bt]? = some (.cells #[.int .i64 (b : Int), .int .i64 (e : Int)] 50 (0, 0)) ∧ Below base w w' := by
  have C := Aside0.mk (show ∀ W, W.heap[Bt]? = some (.cells #[.int .i64 0, .int .i64 0] 50 (0, 0)) → base ≤ W.heap.size →
      Calls Tryd.prog 31 #[.string (Days.rangeB b e), .iface 63 (.pointer (some ⟨Bt, 0, none⟩))] W fun x w' => x = .returned .nilIface ∧ w'.heap[Bt]? = some (.cells #[.int .i64 (b : Int), .int .i64 (e : Int)] 50 (0, 0)) ∧ Below base W w' from fun W hW hz => by
    by_cases h : b = e
    · subst h
      exact string_one b Bt base W he hW hbt hz
    · exact string_two b e Bt base W (by omega) he h hW hbt hz)
  generalize Days.rangeB b e = R at *
  have hbt2 := (Array.getElem?_eq_some_iff.1 ht).1
  have hb11 := (Array.getElem?_eq_some_iff.1 h1).1
  have H1 := Aside0.mk (show (w.alloc (.cells #[.string ⟨#[]⟩] 9)).heap[Bs]? = _ from (Below.heap_alloc w _ _ hb11).trans h1)
  have HT := Aside0.mk ht
  have HBE := Aside0.mk hbe
  have HE6 := Aside0.mk he
  clear h1 ht hbe he
  go_enter Tryd.func24, Tryd.ntmps24
  go_wp2_with fail
  refine (given_fn R ⟨#[]⟩ Bs w.heap.size w.heap.size _ H1.out (heap_alloc_new w _) (Nat.le_refl _) (by simp)).mono ?_
  rintro x w1 ⟨rfl, hy, hb1, hz1⟩
  have hb1' : Below w.heap.size w w1 := ((Below.refl _ w).alloc (Nat.le_refl _) _).trans hb1
  have c0 : w1.cell? ⟨w.heap.size, 0, none⟩ = some (.string R) := by unfold World.cell?; rw [hy]; rfl
  have HB := Aside0.mk hb1'
  have HT1 := Aside0.mk ((hb1'.block Bt hbt2).trans HT.out)
  have HZ := Aside0.mk (show base ≤ w1.heap.size by have := below_size hb1'; omega)
  clear hy hb1 hb1' hz1 H1 HT
  go_wp2_with fail
  refine (C.out w1 HT1.out HZ.out).mono ?_
  rintro x w2 ⟨rfl, hh, hb2⟩
  have HH := Aside0.mk hh
  have HB2 := Aside0.mk ((HB.out.mono hbs).trans hb2)
  obtain ⟨d0, d1, f0, f1⟩ := cells_two hh
  clear hh hb2 c0
  have g1 : decide ((b : Int) > (e : Int)) = false := decide_eq_false (by have := HBE.out; omega)
  have g2 : decide ((b : Int) < 0) = false := decide_eq_false (by omega)
  have g3 : decide ((e : Int) < 0) = false := decide_eq_false (by omega)
  have g4 : decide ((b : Int) > 6) = false := decide_eq_false (by have := HBE.out; have := HE6.out; omega)
  have g5 : decide ((e : Int) > 6) = false := decide_eq_false (by have := HE6.out; omega)
  have k1 : (e : Int) ≥ (b : Int) := by have := HBE.out; omega
  have k2 : (e : Int) ≤ 6 := by have := HE6.out; omega
  have k3 : (b : Int) ≤ 6 := by omega
  go_wp2_with fail
  go_quiet (fail)
  go_wp2
  go_ret
  exact ⟨rfl, HH.out, by repeat (first | exact HB2.out | apply pw_below_drewN | apply below_drew1)⟩
theorem alloc_new' (w : World) (o : Obj) (n : Nat) (h : n = w.heap.size) : (w.alloc o).heap[n]? = some o := by subst h; exact heap_alloc_new w o
theorem given_made (s : ByteArray) (w : World) : Calls Tryd.prog 20 #[.string s] w fun e w' => e = .returned (.func (.func 33) #[] #[.pointer (some ⟨w.heap.size, 0, none⟩)]) ∧ w' = w.alloc (.cells #[.string s] 9) := by
  have hmf : ∀ (fn : Fn) (first cap : Array Value) (w : World), (Instr.makeFunc fn first cap).run Tryd.prog w = .ok (.func fn first cap) w := fun _ _ _ _ => rfl
  go_enter Tryd.func20, Tryd.ntmps20
  go_wp2
  go_ret
  exact ⟨rfl, rfl⟩
def impl_Weekdays.f (a0 : ByteArray) : Option (Int × Int × Bool) := (Days.daysR a0.data.toList).map fun (p : Nat × Nat) => ((p.1 : Int), (p.2 : Int), true)
set_option maxHeartbeats 3200000 in
set_option maxRecDepth 100000 in
theorem impl_Weekdays.calls (a0 : ByteArray) (r1 r2 : Int) (r3 : Bool) (w : World) (h : impl_Weekdays.f a0 = some (r1, r2, r3)) :
    Calls Tryd.prog 12 #[.string a0] w fun e w' => e = .returned (.tuple #[.int .i64 r1, .int .i64 r2, .bool r3]) ∧ Below w.heap.size w w' := by
  unfold impl_Weekdays.f at h
  obtain ⟨⟨b, e⟩, hp, h⟩ := Option.map_eq_some_iff.1 h
  injection h with e1 h
  injection h with e2 e3
  subst e1 e2 e3
  obtain ⟨hbe, he, hl⟩ := Days.daysR_some hp
  have es : a0 = Days.rangeB b e := by
    apply ByteArray.ext
    apply Array.ext'
    exact hl
  subst es
  clear hp hl
  have G := Aside0.mk (given_made (Days.rangeB b e))
  have U := Aside0.mk (fun Bs Bt base w h1 ht hbt hbs => unmarshal b e Bs Bt base w hbe he h1 ht hbt hbs)
  generalize Days.rangeB b e = R at *
  clear hbe he
  go_enter Tryd.func12, Tryd.ntmps12
  go_wp2_with fail
  refine (G.out _).mono ?_
  rintro x w1 ⟨rfl, hw1⟩
  have k1 : w1.heap[w.heap.size]? = some (.cells #[.int .i64 0, .int .i64 0] 50 (0, 0)) := by rw [hw1, Below.heap_alloc _ _ _ (by simp)]; exact alloc_new' _ _ _ rfl
  have k2 : w1.heap[w.heap.size + 1]? = some (.cells #[.string R] 9 (0, 0)) := by rw [hw1]; exact alloc_new' _ _ _ (by simp)
  have kb : Below w.heap.size w w1 := by rw [hw1]; exact ((Below.refl _ w).alloc (Nat.le_refl _) _).alloc (by simp) _
  have HB1 := Aside0.mk kb
  have KZ := Aside0.mk (below_size kb)
  have UU := Aside0.mk (U.out (w.heap.size + 1) w.heap.size w.heap.size w1 k2 k1 (Nat.le_refl _) (below_size kb))
  clear hw1 k1 k2 kb
  go_wp2_with fail
  refine UU.out.mono ?_
  rintro x w2 ⟨rfl, hh, hb2⟩
  have HB2 := Aside0.mk (HB1.out.trans hb2)
  obtain ⟨d0, d1, f0, f1⟩ := cells_two hh
  clear hh hb2
  go_wp2_with fail
  go_quiet (fail)
  go_wp2
  go_ret3
  exact ⟨rfl, by repeat (first | exact HB2.out | apply pw_below_drewN | apply below_drew1)⟩


-- NOT PRINTED: function 39 (timeinterval_daysOfWeekInv)

-- NOT PRINTED: function 26 (timeinterval_WeekdayRange_MarshalText)

/-! ### impl_WeekdayText: function 14 -/
-- a contract that was proved by hand
set_option maxHeartbeats 1600000 in
set_option maxRecDepth 100000 in
theorem marshal_day (b e : Nat) (w : World) (hb : b ≤ 6) (he : e ≤ 6) :
    Calls Tryd.prog 26 #[.agg #[.int .i64 (b : Int), .int .i64 (e : Int)]] w fun x w' => ∃ v c, x = .returned (.tuple #[.slice (some ⟨v, 0, none⟩) (Days.rangeT b e).length c, .nilIface]) ∧ MapK.BRow w' v (Days.rangeT b e) ∧ v < w'.heap.size ∧ Below w.heap.size w w' := by
  have L1 := MapK.inv_lookD hb
  have L2 := MapK.inv_lookD2 he
  have C := Aside0.mk MapK.days_inv
  obtain ⟨B, hB⟩ : ∃ B, Days.dayB b = B := ⟨_, rfl⟩
  obtain ⟨E, hE⟩ : ∃ E, Days.dayB e = E := ⟨_, rfl⟩
  rw [hB] at L1
  rw [hE] at L2
  have HB := Aside0.mk hB
  have HE := Aside0.mk hE
  have hz1 : ¬ 9223372036854775807 < B.size + 1 := by rw [← hB]; have := MapK.day_size b; omega
  have hz2 : ¬ 9223372036854775807 < B.size + 1 + E.size := by rw [← hB, ← hE]; have := MapK.day_size b; have := MapK.day_size e; omega
  clear hB hE hb he
  have hcv := fun (W : World) (s : ByteArray) => Lib.run_convert_string_bytes (P := Tryd.prog) W 9 51 5 s (u := .string) Tryd.underlying9 Tryd.underlying51 Tryd.underlying5
  by_cases hbe : b = e
  · subst hbe
    have hne : ((b : Int) == (b : Int)) = true := by simp
    have HR := Aside0.mk (show B = Days.rangeB b b by rw [← HB.out]; unfold Days.rangeB Days.rangeT; rw [if_pos rfl]; rfl)
    go_enter Tryd.func26, Tryd.ntmps26
    go_wp2_with fail
    go_region_with (go_at_call 39; refine (C.out _).mono ?_; rintro x w' ⟨rfl, rfl⟩)
    all_goals (try go_wp2_with fail)
    all_goals go_ret2
    all_goals
      have hL : B.data.toList = Days.rangeT b b := by rw [HR.out]; rfl
      rw [show (Days.rangeT b b).length = (B).size by rw [← hL, Array.length_toList]; rfl, ← hL]
      refine ⟨_, _, rfl, MapK.BRow.at_ _ _ _ _ (by simp), by rw [Lib.bytesWorld_size]; simp, below_step (by repeat (first | exact Below.refl _ _ | apply below_alloc | apply below_drew1)) (Lib.bytesWorld_below _ _ _)⟩
  · have hne : ((b : Int) == (e : Int)) = false := by simp; omega
    have HR := Aside0.mk (show B ++ ⟨#[58]⟩ ++ E = Days.rangeB b e by rw [← HB.out, ← HE.out]; unfold Days.rangeB Days.rangeT; rw [if_neg hbe]; apply ByteArray.ext; apply Array.ext'; simp [Days.dayB])
    clear hbe
    go_enter Tryd.func26, Tryd.ntmps26
    go_wp2_with fail
    go_region_with (go_at_call 39; refine (C.out _).mono ?_; rintro x w' ⟨rfl, rfl⟩)
    all_goals (try go_wp2_with fail)
    all_goals go_region_with (go_at_call 39; refine (C.out _).mono ?_; rintro x w' ⟨rfl, rfl⟩)
    all_goals (try go_wp2_with fail)
    all_goals go_ret2
    all_goals
      have hL : (B ++ ⟨#[58]⟩ ++ E).data.toList = Days.rangeT b e := by rw [HR.out]; rfl
      rw [show (Days.rangeT b e).length = B.size + 1 + E.size by rw [← hL, Array.length_toList]; show ((B ++ ⟨#[58]⟩) ++ E).size = _; simp; rfl, ← hL]
      refine ⟨_, _, rfl, MapK.BRow.at_ _ _ _ _ (by simp), by rw [Lib.bytesWorld_size]; simp, below_step (by repeat (first | exact Below.refl _ _ | apply below_alloc | apply below_drew1)) (Lib.bytesWorld_below _ _ _)⟩
def impl_WeekdayText.f (a0 a1 : Int) : Option (ByteArray × Bool) := if 0 ≤ a0 ∧ a0 ≤ a1 ∧ a1 ≤ 6 then some (Days.rangeB a0.toNat a1.toNat, true) else none
set_option maxHeartbeats 1600000 in
set_option maxRecDepth 100000 in
theorem impl_WeekdayText.calls (a0 a1 : Int) (r1 : ByteArray) (r2 : Bool) (w : World) (h : impl_WeekdayText.f a0 a1 = some (r1, r2)) :
    Calls Tryd.prog 14 #[.int .i64 a0, .int .i64 a1] w fun e w' => e = .returned (.tuple #[.string r1, .bool r2]) ∧ Below w.heap.size w w' := by
  unfold impl_WeekdayText.f at h
  by_cases hc : 0 ≤ a0 ∧ a0 ≤ a1 ∧ a1 ≤ 6
  · rw [if_pos hc] at h
    have h := Option.some.inj h
    injection h with e1 e2
    subst e1 e2
    obtain ⟨b, rfl⟩ : ∃ b : Nat, a0 = (b : Int) := ⟨a0.toNat, by omega⟩
    obtain ⟨e, rfl⟩ : ∃ e : Nat, a1 = (e : Int) := ⟨a1.toNat, by omega⟩
    rw [Int.toNat_natCast, Int.toNat_natCast]
    have C := Aside0.mk (marshal_day b e w (by omega) (by omega))
    clear hc
    go_enter Tryd.func14, Tryd.ntmps14
    go_wp2_with fail
    refine C.out.mono ?_
    rintro x w1 ⟨v, c, rfl, hR, hv, hB⟩
    have hcv : ∀ W, Below w1.heap.size w1 W → (convert 51 9 (.slice (some ⟨v, 0, none⟩) (Days.rangeT b e).length c)).run Tryd.prog W = .ok (.string (Days.rangeB b e)) W := fun W hb => (hR.below hb hv).back 51 9 5 Tryd.underlying51 Tryd.underlying5 Tryd.underlying9
    have h1 := hcv w1 (Below.refl _ _)
    have h2 := hcv w1.drew (below_drew1 (Below.refl _ _))
    have HB := Aside0.mk hB
    clear hcv hR hv hB
    go_wp2_with fail
    go_region
    all_goals (try go_wp2)
    all_goals go_ret2
    all_goals exact ⟨rfl, by repeat (first | exact HB.out | apply below_drew1)⟩
  · rw [if_neg hc] at h
    cases h


/-! ### spec_Weekday: function 27 -/
def spec_Weekday.f (a0 : Int) : Option (ByteArray) := if a0 = 0 then (some (⟨#[115, 117, 110, 100, 97, 121]⟩ : ByteArray)) else (if a0 = 1 then (some (⟨#[109, 111, 110, 100, 97, 121]⟩ : ByteArray)) else (if a0 = 2 then (some (⟨#[116, 117, 101, 115, 100, 97, 121]⟩ : ByteArray)) else (if a0 = 3 then (some (⟨#[119, 101, 100, 110, 101, 115, 100, 97, 121]⟩ : ByteArray)) else (if a0 = 4 then (some (⟨#[116, 104, 117, 114, 115, 100, 97, 121]⟩ : ByteArray)) else (if a0 = 5 then (some (⟨#[102, 114, 105, 100, 97, 121]⟩ : ByteArray)) else (if a0 = 6 then (some (⟨#[115, 97, 116, 117, 114, 100, 97, 121]⟩ : ByteArray)) else (some (⟨#[]⟩ : ByteArray))))))))
set_option maxHeartbeats 8000000 in
set_option maxRecDepth 100000 in
theorem spec_Weekday.calls (a0 : Int) (r : ByteArray) (w : World) (h : spec_Weekday.f a0 = some r) :
    Calls Tryd.prog 27 #[.int .i64 a0] w fun e w' => e = .returned (.string r) ∧ Drawn0 w w' := by
  have H : (if a0 = 0 then (some (⟨#[115, 117, 110, 100, 97, 121]⟩ : ByteArray)) else (if a0 = 1 then (some (⟨#[109, 111, 110, 100, 97, 121]⟩ : ByteArray)) else (if a0 = 2 then (some (⟨#[116, 117, 101, 115, 100, 97, 121]⟩ : ByteArray)) else (if a0 = 3 then (some (⟨#[119, 101, 100, 110, 101, 115, 100, 97, 121]⟩ : ByteArray)) else (if a0 = 4 then (some (⟨#[116, 104, 117, 114, 115, 100, 97, 121]⟩ : ByteArray)) else (if a0 = 5 then (some (⟨#[102, 114, 105, 100, 97, 121]⟩ : ByteArray)) else (if a0 = 6 then (some (⟨#[115, 97, 116, 117, 114, 100, 97, 121]⟩ : ByteArray)) else (some (⟨#[]⟩ : ByteArray))))))))) = some r := h
  clear h
  by_cases c2 : a0 = 0
  · rw [if_pos c2] at H
    have c2b0 : (a0 == 0) = true := beq_iff_eq.mpr c2
    have c2b1 : (a0 != 0) = false := bne_eq_false_iff_eq.mpr c2
    clear c2
    obtain rfl := Option.some.inj H
    go_enter Tryd.func27, Tryd.ntmps27
    go_wp2
    go_ret
    exact ⟨by first | rfl | (simp; done) | (simp [*]; done), by repeat (first | exact Drawn0.refl _ | apply Drawn0.step)⟩
  · rw [if_neg c2] at H
    have c2b0 : (a0 == 0) = false := beq_eq_false_iff_ne.mpr c2
    have c2b1 : (a0 != 0) = true := bne_iff_ne.mpr c2
    by_cases c3 : a0 = 1
    · rw [if_pos c3] at H
      have c3b0 : (a0 == 1) = true := beq_iff_eq.mpr c3
      have c3b1 : (a0 != 1) = false := bne_eq_false_iff_eq.mpr c3
      clear c3
      obtain rfl := Option.some.inj H
      go_enter Tryd.func27, Tryd.ntmps27
      go_wp2
      go_ret
      exact ⟨by first | rfl | (simp; done) | (simp [*]; done), by repeat (first | exact Drawn0.refl _ | apply Drawn0.step)⟩
    · rw [if_neg c3] at H
      have c3b0 : (a0 == 1) = false := beq_eq_false_iff_ne.mpr c3
      have c3b1 : (a0 != 1) = true := bne_iff_ne.mpr c3
      by_cases c4 : a0 = 2
      · rw [if_pos c4] at H
        have c4b0 : (a0 == 2) = true := beq_iff_eq.mpr c4
        have c4b1 : (a0 != 2) = false := bne_eq_false_iff_eq.mpr c4
        clear c4
        obtain rfl := Option.some.inj H
        go_enter Tryd.func27, Tryd.ntmps27
        go_wp2
        go_ret
        exact ⟨by first | rfl | (simp; done) | (simp [*]; done), by repeat (first | exact Drawn0.refl _ | apply Drawn0.step)⟩
      · rw [if_neg c4] at H
        have c4b0 : (a0 == 2) = false := beq_eq_false_iff_ne.mpr c4
        have c4b1 : (a0 != 2) = true := bne_iff_ne.mpr c4
        by_cases c5 : a0 = 3
        · rw [if_pos c5] at H
          have c5b0 : (a0 == 3) = true := beq_iff_eq.mpr c5
          have c5b1 : (a0 != 3) = false := bne_eq_false_iff_eq.mpr c5
          clear c5
          obtain rfl := Option.some.inj H
          go_enter Tryd.func27, Tryd.ntmps27
          go_wp2
          go_ret
          exact ⟨by first | rfl | (simp; done) | (simp [*]; done), by repeat (first | exact Drawn0.refl _ | apply Drawn0.step)⟩
        · rw [if_neg c5] at H
          have c5b0 : (a0 == 3) = false := beq_eq_false_iff_ne.mpr c5
          have c5b1 : (a0 != 3) = true := bne_iff_ne.mpr c5
          by_cases c6 : a0 = 4
          · rw [if_pos c6] at H
            have c6b0 : (a0 == 4) = true := beq_iff_eq.mpr c6
            have c6b1 : (a0 != 4) = false := bne_eq_false_iff_eq.mpr c6
            clear c6
            obtain rfl := Option.some.inj H
            go_enter Tryd.func27, Tryd.ntmps27
            go_wp2
            go_ret
            exact ⟨by first | rfl | (simp; done) | (simp [*]; done), by repeat (first | exact Drawn0.refl _ | apply Drawn0.step)⟩
          · rw [if_neg c6] at H
            have c6b0 : (a0 == 4) = false := beq_eq_false_iff_ne.mpr c6
            have c6b1 : (a0 != 4) = true := bne_iff_ne.mpr c6
            by_cases c7 : a0 = 5
            · rw [if_pos c7] at H
              have c7b0 : (a0 == 5) = true := beq_iff_eq.mpr c7
              have c7b1 : (a0 != 5) = false := bne_eq_false_iff_eq.mpr c7
              clear c7
              obtain rfl := Option.some.inj H
              go_enter Tryd.func27, Tryd.ntmps27
              go_wp2
              go_ret
              exact ⟨by first | rfl | (simp; done) | (simp [*]; done), by repeat (first | exact Drawn0.refl _ | apply Drawn0.step)⟩
            · rw [if_neg c7] at H
              have c7b0 : (a0 == 5) = false := beq_eq_false_iff_ne.mpr c7
              have c7b1 : (a0 != 5) = true := bne_iff_ne.mpr c7
              by_cases c8 : a0 = 6
              · rw [if_pos c8] at H
                have c8b0 : (a0 == 6) = true := beq_iff_eq.mpr c8
                have c8b1 : (a0 != 6) = false := bne_eq_false_iff_eq.mpr c8
                clear c8
                obtain rfl := Option.some.inj H
                go_enter Tryd.func27, Tryd.ntmps27
                go_wp2
                go_ret
                exact ⟨by first | rfl | (simp; done) | (simp [*]; done), by repeat (first | exact Drawn0.refl _ | apply Drawn0.step)⟩
              · rw [if_neg c8] at H
                have c8b0 : (a0 == 6) = false := beq_eq_false_iff_ne.mpr c8
                have c8b1 : (a0 != 6) = true := bne_iff_ne.mpr c8
                obtain rfl := Option.some.inj H
                go_enter Tryd.func27, Tryd.ntmps27
                go_wp2
                go_ret
                exact ⟨by first | rfl | (simp; done) | (simp [*]; done), by repeat (first | exact Drawn0.refl _ | apply Drawn0.step)⟩

/-! ### spec_WeekdayText: function 15 -/
def spec_WeekdayText.f (a0 : Int) (a1 : Int) : Option (ByteArray) := if a0 = a1 then ((spec_Weekday.f a0).bind fun t111 => (some t111)) else ((spec_Weekday.f a0).bind fun t112 => (if t112.size + 1 ≤ 9223372036854775807 then ((spec_Weekday.f a1).bind fun t113 => (if (t112 ++ (⟨#[58]⟩ : ByteArray)).size + t113.size ≤ 9223372036854775807 then (some ((t112 ++ (⟨#[58]⟩ : ByteArray)) ++ t113)) else (none))) else (none)))
set_option maxHeartbeats 8000000 in
set_option maxRecDepth 100000 in
theorem spec_WeekdayText.calls (a0 : Int) (a1 : Int) (r : ByteArray) (w : World) (h : spec_WeekdayText.f a0 a1 = some r) :
    Calls Tryd.prog 15 #[.int .i64 a0, .int .i64 a1] w fun e w' => e = .returned (.string r) ∧ Drawn0 w w' := by
  have H : (if a0 = a1 then ((spec_Weekday.f a0).bind fun t111 => (some t111)) else ((spec_Weekday.f a0).bind fun t112 => (if t112.size + 1 ≤ 9223372036854775807 then ((spec_Weekday.f a1).bind fun t113 => (if (t112 ++ (⟨#[58]⟩ : ByteArray)).size + t113.size ≤ 9223372036854775807 then (some ((t112 ++ (⟨#[58]⟩ : ByteArray)) ++ t113)) else (none))) else (none)))) = some r := h
  clear h
  by_cases c3 : a0 = a1
  · rw [if_pos c3] at H
    have c3b0 : (a0 == a1) = true := beq_iff_eq.mpr c3
    have c3b1 : (a0 != a1) = false := bne_eq_false_iff_eq.mpr c3
    clear c3
    replace H := Option.bind_eq_some_iff.mp H
    obtain ⟨t111, A40, H⟩ := H
    replace H : (some t111) = some r := H
    have A4 := Aside0.mk A40
    clear A40
    obtain rfl := Option.some.inj H
    go_enter Tryd.func15, Tryd.ntmps15
    go_wp2_with (first | ((with_reducible refine gate_callee (f := 27) rfl ?_); refine goesL_ (some 9) rfl rfl Tryd.func27 (by kernel_rfl) rfl #[.int .i64 a0] rfl (by (try simp only [List.map_toArray, List.map_cons, List.map_nil]); first | done | rfl | (simp only [List.length_drop, List.length_take]; rfl)) ?_; (with_reducible refine (spec_Weekday.calls a0 t111 _ A4.out).mono ?_); rintro e w' ⟨rfl, ⟨nd, rfl⟩⟩; refine ⟨_, rfl, ?_⟩))
    go_ret
    exact ⟨by first | rfl | (simp; done) | (simp [*]; done), by repeat (first | exact Drawn0.refl _ | apply Drawn0.step)⟩
  · rw [if_neg c3] at H
    have c3b0 : (a0 == a1) = false := beq_eq_false_iff_ne.mpr c3
    have c3b1 : (a0 != a1) = true := bne_iff_ne.mpr c3
    replace H := Option.bind_eq_some_iff.mp H
    obtain ⟨t112, A50, H⟩ := H
    replace H : (if t112.size + 1 ≤ 9223372036854775807 then ((spec_Weekday.f a1).bind fun t113 => (if (t112 ++ (⟨#[58]⟩ : ByteArray)).size + t113.size ≤ 9223372036854775807 then (some ((t112 ++ (⟨#[58]⟩ : ByteArray)) ++ t113)) else (none))) else (none)) = some r := H
    have A5 := Aside0.mk A50
    clear A50
    by_cases c6 : t112.size + 1 ≤ 9223372036854775807
    · rw [if_pos c6] at H
      have c6b0 := eq_true c6
      have c6b1 : decide (t112.size + 1 ≤ 9223372036854775807) = true := decide_eq_true c6
      try have c6b2 : (9223372036854775807 < t112.size + 1) = False := eq_false (Nat.not_lt.2 c6)
      replace H := Option.bind_eq_some_iff.mp H
      obtain ⟨t113, A70, H⟩ := H
      replace H : (if (t112 ++ (⟨#[58]⟩ : ByteArray)).size + t113.size ≤ 9223372036854775807 then (some ((t112 ++ (⟨#[58]⟩ : ByteArray)) ++ t113)) else (none)) = some r := H
      have A7 := Aside0.mk A70
      clear A70
      by_cases c8 : (t112 ++ (⟨#[58]⟩ : ByteArray)).size + t113.size ≤ 9223372036854775807
      · rw [if_pos c8] at H
        have c8b0 := eq_true c8
        have c8b1 : decide ((t112 ++ (⟨#[58]⟩ : ByteArray)).size + t113.size ≤ 9223372036854775807) = true := decide_eq_true c8
        try have c8b2 : (9223372036854775807 < (t112 ++ (⟨#[58]⟩ : ByteArray)).size + t113.size) = False := eq_false (Nat.not_lt.2 c8)
        try have c8b3 := c8b2
        try simp only [ByteArray.size_append, show (⟨#[58]⟩ : ByteArray).size = 1 from rfl] at c8b3
        obtain rfl := Option.some.inj H
        go_enter Tryd.func15, Tryd.ntmps15
        go_wp2_with (first | ((with_reducible refine gate_callee (f := 27) rfl ?_); refine goesL_ (some 11) rfl rfl Tryd.func27 (by kernel_rfl) rfl #[.int .i64 a0] rfl (by (try simp only [List.map_toArray, List.map_cons, List.map_nil]); first | done | rfl | (simp only [List.length_drop, List.length_take]; rfl)) ?_; (with_reducible refine (spec_Weekday.calls a0 t112 _ A5.out).mono ?_); rintro e w' ⟨rfl, ⟨nd, rfl⟩⟩; refine ⟨_, rfl, ?_⟩) | ((with_reducible refine gate_callee (f := 27) rfl ?_); refine goesL_ (some 14) rfl rfl Tryd.func27 (by kernel_rfl) rfl #[.int .i64 a1] rfl (by (try simp only [List.map_toArray, List.map_cons, List.map_nil]); first | done | rfl | (simp only [List.length_drop, List.length_take]; rfl)) ?_; (with_reducible refine (spec_Weekday.calls a1 t113 _ A7.out).mono ?_); rintro e w' ⟨rfl, ⟨nd, rfl⟩⟩; refine ⟨_, rfl, ?_⟩))
        go_ret
        exact ⟨by first | rfl | (simp; done) | (simp [*]; done), by repeat (first | exact Drawn0.refl _ | apply Drawn0.step)⟩
      · rw [if_neg c8] at H
        exact absurd H (by simp)
    · rw [if_neg c6] at H
      exact absurd H (by simp)

end Go.Proofs.YtfkapmbjnfnmmaaDoor.Q
