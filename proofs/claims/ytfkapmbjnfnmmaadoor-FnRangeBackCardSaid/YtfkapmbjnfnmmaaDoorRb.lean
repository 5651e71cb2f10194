/- Two numbers' text read as a range: timeinterval.stringableRangeFromString. -/
import Derived.Test.YtfkapmbjnfnmmaaDoorQx1
import Derived.Test.YtfkapmbjnfnmmaaDoorNums
import Derived.Test.YtfkapmbjnfnmmaaDoorLib
import Derived.Test.YtfkapmbjnfnmmaaDoorShelf
import Derived.Deep.QuietTactic
import Derived.BigQuiet
import Derived.BigRegion
import Derived.Deep.RegionHeld3
import Derived.Deep.RegionWith
import Derived.WalkSmall
namespace Go.Proofs.YtfkapmbjnfnmmaaDoor.Door
open Go.RowKit Go.Lib Go.Proofs.YtfkapmbjnfnmmaaDoor.Q Go.Proofs.YtfkapmbjnfnmmaaDoor.Pure Go.Proofs.YtfkapmbjnfnmmaaDoorW.PrintWords Go.Proofs.YtfkapmbjnfnmmaaDoorW.PrintLast
set_option linter.unusedVariables false
set_option linter.unusedSimpArgs false
theorem cells_two {w : World} {B : Nat} {a b : Value} {t : TypeId} (h : w.heap[B]? = some (.cells #[a, b] t (0, 0))) : w.cell? ⟨B, 0, none⟩ = some a ∧ w.cell? ⟨B, 1, none⟩ = some b ∧ w.frozen? ⟨B, 0, none⟩ = false ∧ w.frozen? ⟨B, 1, none⟩ = false := by
  unfold World.cell? World.frozen?
  rw [h]
  exact ⟨rfl, rfl, rfl, rfl⟩
theorem set_begin (B base : Nat) (a b : Value) (t : TypeId) (n : Int) (w : World) (h : w.heap[B]? = some (.cells #[a, b] t (0, 0))) (hb : base ≤ B) :
    Calls Tryd.prog 96 #[.pointer (some ⟨B, 0, none⟩), .int .i64 n] w fun e w' => e = .returned (.tuple #[]) ∧ w'.heap[B]? = some (.cells #[.int .i64 n, b] t (0, 0)) ∧ Below base w w' ∧ w'.heap.size = w.heap.size := by
  have H := Aside0.mk h
  obtain ⟨c0, c1, f0, f1⟩ := cells_two h
  clear h
  go_enter Tryd.func96, Tryd.ntmps96
  go_wp2
  go_end0
  have g1 := Lib.heap_setCell_same (i := 0) H.out (.int .i64 n)
  exact ⟨rfl, g1, (Below.refl base w).setCell hb _, by simp⟩
theorem set_end (B base : Nat) (a b : Value) (t : TypeId) (n : Int) (w : World) (h : w.heap[B]? = some (.cells #[a, b] t (0, 0))) (hb : base ≤ B) :
    Calls Tryd.prog 97 #[.pointer (some ⟨B, 0, none⟩), .int .i64 n] w fun e w' => e = .returned (.tuple #[]) ∧ w'.heap[B]? = some (.cells #[a, .int .i64 n] t (0, 0)) ∧ Below base w w' ∧ w'.heap.size = w.heap.size := by
  have H := Aside0.mk h
  obtain ⟨c0, c1, f0, f1⟩ := cells_two h
  clear h
  go_enter Tryd.func97, Tryd.ntmps97
  go_wp2
  go_end0
  have g1 := Lib.heap_setCell_same (i := 1) H.out (.int .i64 n)
  exact ⟨rfl, g1, (Below.refl base w).setCell hb _, by simp⟩
theorem at_str {w : World} {g n i : Nat} {xs : List ByteArray} (h : Kd.C Kd.string w (some ⟨g, 0, none⟩) n xs) (hi : i < n) : w.cell? ⟨g, i, none⟩ = some (.string (xs.getD i ByteArray.empty)) := by
  obtain ⟨ad, e1, h1⟩ := Kd.at_string h (i : Int) (by omega) (by omega)
  injection e1 with e1
  subst e1
  have : (⟨g, 0, none⟩ : Addr).add ((i : Int)).toNat = ⟨g, i, none⟩ := by unfold Addr.add; split <;> simp_all
  rw [this] at h1
  exact h1
theorem w64t (x : Int) (h0 : -9223372036854775808 ≤ x) (h1 : x ≤ 9223372036854775807) : wrap64 x = x := by unfold wrap64; omega
theorem ext_l (s : ByteArray) (i j : Nat) : (s.extract i j).toList = (s.data.toList.drop i).take (j - i) := by
  rw [Lib.toList_data, ByteArray.data_extract, Array.toList_extract, List.extract_eq_take_drop]
theorem idx_step (k : Nat) (s : ByteArray) (i : Nat) (hs : s.size ≤ 2147483647) (hi : i ≤ s.size) :
    timeinterval_zzIndex.l0 (k + 1) s ⟨#[58]⟩ (i : Int) = if i + 1 ≤ s.size then (if (s.data.toList.drop i).take 1 = [58] then some (i : Int) else timeinterval_zzIndex.l0 k s ⟨#[58]⟩ ((i + 1 : Nat) : Int)) else some (-1) := by
  have h1 : (⟨#[58]⟩ : ByteArray).size = 1 := rfl
  have hl : (⟨#[58]⟩ : ByteArray).toList = [58] := by rw [Lib.toList_data]
  simp only [timeinterval_zzIndex.l0]
  rw [h1, show wrap64 ((i : Int) + ((1 : Nat) : Int)) = ((i + 1 : Nat) : Int) by rw [w64t _ (by omega) (by omega)]; omega, hl]
  by_cases hf : i + 1 ≤ s.size
  · rw [if_pos (by omega), if_pos hf, if_pos (by omega), if_pos (by omega), Int.toNat_natCast, Int.toNat_natCast, ext_l, show i + 1 - i = 1 by omega]
    rw [show wrap64 ((i : Int) + 1) = ((i + 1 : Nat) : Int) by rw [w64t _ (by omega) (by omega)]; omega]
  · rw [if_neg (by omega), if_neg hf]
theorem idxC_none : ∀ (l : List UInt8) (i : Nat), (∀ x ∈ l, x.toNat ≠ 58) → idxC l i = -1
  | [], _, _ => rfl
  | b :: r, i, h => by
    unfold idxC
    rw [if_neg (h b List.mem_cons_self)]
    exact idxC_none r (i + 1) (fun x hx => h x (List.mem_cons_of_mem _ hx))
theorem idxC_some : ∀ (l r : List UInt8) (i : Nat), 0 ≤ idxC (l ++ 58 :: r) i
  | [], r, i => by
    show 0 ≤ idxC (58 :: r) i
    unfold idxC
    rw [if_pos (by decide)]
    omega
  | b :: l, r, i => by
    show 0 ≤ idxC (b :: (l ++ 58 :: r)) i
    unfold idxC
    split
    · omega
    · exact idxC_some l r (i + 1)
theorem num_ne {n : Int} {x : UInt8} (h : x ∈ Go.Lib.itoa n) : x.toNat ≠ 58 := by
  have := Nums.itoa_mem h
  omega
theorem rng_size {b e : Int} (h1 : -100000 < b) (h2 : b < 100000) (h3 : -100000 < e) (h4 : e < 100000) : (Nums.rngB b e).size ≤ 13 := by
  have l1 := Nums.itoa_len h1 h2
  have l2 := Nums.itoa_len h3 h4
  show (Nums.rngT b e).toArray.size ≤ 13
  rw [List.size_toArray]
  unfold Nums.rngT
  split
  · omega
  · rw [List.length_append, List.length_cons]
    omega
theorem has_rng {b e : Int} (h1 : -100000 < b) (h2 : b < 100000) (h3 : -100000 < e) (h4 : e < 100000) : timeinterval_zzContainsRune.f (Nums.rngB b e) 58 = some (decide (b ≠ e)) := by
  have hs := rng_size h1 h2 h3 h4
  unfold timeinterval_zzContainsRune.f timeinterval_zzIndexRune.f
  rw [if_pos ⟨List.all_eq_true.2 (fun x hx => decide_eq_true (Nums.rng_asc hx)), rfl, by omega⟩]
  simp only [Option.bind_some]
  congr 1
  show decide (idxC (Nums.rngT b e) 0 ≥ 0) = _
  unfold Nums.rngT
  by_cases h : b = e
  · rw [if_pos h, idxC_none _ _ (fun x hx => num_ne hx), decide_eq_false (by omega), decide_eq_false (by simpa using h)]
  · rw [if_neg h, decide_eq_true (idxC_some _ _ _), decide_eq_true h]
theorem index_ev (s : ByteArray) (hs : s.size ≤ 2147483647) (p : Nat) (hp : p < s.size) (h58 : (s.data.toList.drop p).take 1 = [58]) (hno : ∀ j, j < p → ¬ (s.data.toList.drop j).take 1 = [58]) : Ev (fun k => timeinterval_zzIndex.f k s ⟨#[58]⟩) (p : Int) := by
  have g := ev_up (L := fun k i => timeinterval_zzIndex.l0 k s ⟨#[58]⟩ (i : Int)) (fun _ => (p : Int)) p (ev_succ fun k => by
      rw [idx_step k s p hs (by omega), if_pos (by omega), if_pos h58]) (fun i hi g => by
    refine Ev.step (fun k => ?_) g
    show timeinterval_zzIndex.l0 (k + 1) s ⟨#[58]⟩ (i : Int) = _
    rw [idx_step k s i hs (by omega), if_pos (by omega), if_neg (hno i hi)]) p 0 (by omega)
  exact g
theorem index_none (s : ByteArray) (hs : s.size ≤ 2147483647) (hno : ∀ j, j < s.size → ¬ (s.data.toList.drop j).take 1 = [58]) : Ev (fun k => timeinterval_zzIndex.f k s ⟨#[58]⟩) (-1) := by
  have g := ev_up (L := fun k i => timeinterval_zzIndex.l0 k s ⟨#[58]⟩ (i : Int)) (fun _ => (-1 : Int)) s.size (ev_succ fun k => by
      rw [idx_step k s s.size hs (by omega), if_neg (by omega)]) (fun i hi g => by
    refine Ev.step (fun k => ?_) g
    show timeinterval_zzIndex.l0 (k + 1) s ⟨#[58]⟩ (i : Int) = _
    rw [idx_step k s i hs (by omega), if_pos (by omega), if_neg (hno i hi)]) s.size 0 (by omega)
  exact g
theorem take_one {l : List UInt8} (hl : ∀ x ∈ l, x.toNat ≠ 58) (r : List UInt8) (j : Nat) (hj : j < l.length) : ¬ ((l ++ r).drop j).take 1 = [58] := by
  intro h
  rw [List.drop_append_of_le_length (by omega), List.drop_eq_getElem_cons hj] at h
  have h2 : l[j] = 58 := by
    have := List.cons.inj h
    exact this.1
  exact hl _ (List.getElem_mem hj) (by rw [h2]; rfl)
theorem split_ev (A B : List UInt8) (hA : ∀ x ∈ A, x.toNat ≠ 58) (hB : ∀ x ∈ B, x.toNat ≠ 58) (hl : A.length + B.length ≤ 1000) : Ev (fun k => timeinterval_zzSplit.f k ⟨(A ++ 58 :: B).toArray⟩ ⟨#[58]⟩) [⟨A.toArray⟩, ⟨B.toArray⟩] := by
  have h1 : (⟨#[58]⟩ : ByteArray).size = 1 := rfl
  have hz : (⟨(A ++ 58 :: B).toArray⟩ : ByteArray).size = A.length + (B.length + 1) := by
    show (A ++ 58 :: B).toArray.size = _
    simp
  have hz2 : (⟨B.toArray⟩ : ByteArray).size = B.length := by
    show B.toArray.size = _
    simp
  have i1 := index_ev ⟨(A ++ 58 :: B).toArray⟩ (by omega) A.length (by omega) (by simp) (fun j hj => take_one hA _ j hj)
  have i2 := index_none ⟨B.toArray⟩ (by omega) (fun j hj => by have := take_one hB [] j (by omega); simpa using this)
  have x1 : (⟨(A ++ 58 :: B).toArray⟩ : ByteArray).extract 0 A.length = ⟨A.toArray⟩ := by
    apply ByteArray.ext
    apply Array.ext'
    rw [ByteArray.data_extract, Array.toList_extract, List.extract_eq_take_drop]
    simp
  have x2 : (⟨(A ++ 58 :: B).toArray⟩ : ByteArray).extract (A.length + 1) (A.length + (B.length + 1)) = ⟨B.toArray⟩ := by
    apply ByteArray.ext
    apply Array.ext'
    rw [ByteArray.data_extract, Array.toList_extract, List.extract_eq_take_drop]
    simp [List.drop_append]
    rw [show A.length + (B.length + 1) - (A.length + 1) = B.length by omega, List.drop_eq_nil_of_le (by omega), List.nil_append, List.take_length]
  have hw : wrap64 ((A.length : Int) + ((1 : Nat) : Int)) = ((A.length + 1 : Nat) : Int) := by rw [w64t _ (by omega) (by omega)]; omega
  unfold timeinterval_zzSplit.f
  simp only [h1, if_neg (show ¬ (((1 : Nat) : Int) = 0) by omega)]
  refine Ev.step (fun k => by
    show timeinterval_zzSplit.l1 (k + 1) _ _ _ = _
    simp only [timeinterval_zzSplit.l1]
    rfl) (Ev.bind i1 ?_)
  simp only [h1, hw, hz, if_neg (show ¬ ((A.length : Int) < 0) by omega), if_pos (show (0 : Int) ≤ (A.length : Int) by omega), if_pos (show (A.length : Int) ≤ ((A.length + (B.length + 1) : Nat) : Int) by omega), List.length_nil, if_pos (show 0 < 8796093022208 by omega), if_pos (show (0 : Int) ≤ ((A.length + 1 : Nat) : Int) by omega), if_pos (show ((A.length + 1 : Nat) : Int) ≤ ((A.length + (B.length + 1) : Nat) : Int) by omega), Int.toNat_natCast, x1, x2, List.nil_append]
  refine Ev.step (fun k => by
    show timeinterval_zzSplit.l1 (k + 1) _ _ _ = _
    simp only [timeinterval_zzSplit.l1]
    rfl) (Ev.bind i2 ?_)
  simp only [if_pos (show (-1 : Int) < 0 by omega), List.length_cons, List.length_nil, if_pos (show 0 + 1 < 8796093022208 by omega)]
  exact Ev.now _
theorem split_rng {b e : Int} (h : b ≠ e) (h1 : -100000 < b) (h2 : b < 100000) (h3 : -100000 < e) (h4 : e < 100000) : ∃ k, timeinterval_zzSplit.f k (Nums.rngB b e) ⟨#[58]⟩ = some [Nums.numB b, Nums.numB e] := by
  have l1 := Nums.itoa_len h1 h2
  have l2 := Nums.itoa_len h3 h4
  have := split_ev (Go.Lib.itoa b) (Go.Lib.itoa e) (fun x hx => num_ne hx) (fun x hx => num_ne hx) (by omega)
  obtain ⟨k, hk⟩ := Ev.rounds this
  refine ⟨k, ?_⟩
  unfold Nums.rngB Nums.rngT
  rw [if_neg h]
  exact hk
/-- A receiver of ranges: its methods, and what its memberFromString makes of a number's text. -/
structure RecvInc (T bt : TypeId) (B : Nat) (b e : Int) : Prop where
  m1 : ∀ w, (method 259 T (.pointer (some ⟨B, 0, none⟩)) "pub-clamour/pub/alertmanager/timeinterval.memberFromString").run Tryd.prog w = .ok (113, .pointer (some ⟨B, 0, none⟩)) w
  m2 : ∀ w, (method 259 T (.pointer (some ⟨B, 0, none⟩)) "pub-clamour/pub/alertmanager/timeinterval.setBegin").run Tryd.prog w = .ok (96, .pointer (some ⟨B, 0, none⟩)) w
  m3 : ∀ w, (method 259 T (.pointer (some ⟨B, 0, none⟩)) "pub-clamour/pub/alertmanager/timeinterval.setEnd").run Tryd.prog w = .ok (97, .pointer (some ⟨B, 0, none⟩)) w
  m4 : ∀ w, (nilAhead 259 T (.pointer (some ⟨B, 0, none⟩)) "pub-clamour/pub/alertmanager/timeinterval.memberFromString").run Tryd.prog w = .ok (some false) w
  mb : ∀ (p : Value) (W : World), Calls Tryd.prog 113 #[p, .string (Nums.numB b)] W fun x w' => x = .returned (.tuple #[.int .i64 b, .nilIface]) ∧ Below W.heap.size W w'
  me : ∀ (p : Value) (W : World), Calls Tryd.prog 113 #[p, .string (Nums.numB e)] W fun x w' => x = .returned (.tuple #[.int .i64 e, .nilIface]) ∧ Below W.heap.size W w'
set_option maxHeartbeats 6400000 in
set_option maxRecDepth 100000 in
theorem string_Inc (T bt : TypeId) (b e : Int) (B base : Nat) (w : World) (hr : RecvInc T bt B b e) (h1 : -100000 < b) (h2 : b < 100000) (h3 : -100000 < e) (h4 : e < 100000)
    (hB : w.heap[B]? = some (.cells #[.int .i64 0, .int .i64 0] bt (0, 0))) (hbase : base ≤ B) (hbs : base ≤ w.heap.size) :
    Calls Tryd.prog 31 #[.string (Nums.rngB b e), .iface T (.pointer (some ⟨B, 0, none⟩))] w fun x w' => x = .returned .nilIface ∧ w'.heap[B]? = some (.cells #[.int .i64 b, .int .i64 e] bt (0, 0)) ∧ Below base w w' := by
  have hlow : Go.Lib.toLowerA (Nums.rngB b e).data.toList = (Nums.rngB b e).data.toList := Nums.rng_low b e
  have hasc : ∀ (j : Nat) (x : UInt8), (Nums.rngB b e).data.toList[j]? = some x → x.toNat < 128 := fun j x hx => Nums.rng_asc (List.mem_of_getElem? hx)
  have hsz : (Nums.rngB b e).size ≤ 140737488355328 := by have := rng_size h1 h2 h3 h4; omega
  have L := Aside0.mk (fun W => Tryd.strings_ToLower_ascii (Nums.rngB b e) W hsz hasc)
  rw [hlow] at L
  have e0 : (⟨(Nums.rngB b e).data.toList.toArray⟩ : ByteArray) = Nums.rngB b e := rfl
  rw [e0] at L
  have H := Aside0.mk (has_rng h1 h2 h3 h4)
  have HB := Aside0.mk hB
  have HBL := Aside0.mk (Array.getElem?_eq_some_iff.1 hB).1
  have hm1 := hr.m1
  have hm2 := hr.m2
  have hm3 := hr.m3
  have hm4 := hr.m4
  have MB := Aside0.mk hr.mb
  have ME := Aside0.mk hr.me
  by_cases hbe : b = e
  · subst hbe
    simp only [ne_eq, not_true_eq_false, decide_false] at H
    have ed : Nums.rngB b b = Nums.numB b := by unfold Nums.rngB Nums.rngT; rw [if_pos rfl]; rfl
    rw [ed] at L H ⊢
    generalize Nums.numB b = D at *
    clear hlow hasc hsz ed e0 hB hr h1 h2 h3 h4 hm4 ME
    go_enter Tryd.func31, Tryd.ntmps31
    go_wp2_with fail
    refine (L.out _).mono ?_
    rintro x w1 ⟨rfl, hb1⟩
    have HB1 := Aside0.mk hb1
    clear hb1
    go_wp2_with fail
    refine (timeinterval_zzContainsRune.calls D 58 false _ H.out).mono ?_
    rintro x w2 ⟨rfl, hb2⟩
    have HB2 := Aside0.mk (below_step HB1.out hb2)
    clear hb2
    go_wp2_with fail
    refine (MB.out _ _).mono ?_
    rintro x w3 ⟨rfl, hb3⟩
    have HB3 := Aside0.mk (below_step HB2.out hb3)
    have HH3 := Aside0.mk ((HB3.out.block B HBL.out).trans HB.out)
    clear hb3
    go_wp2_with fail
    refine (set_begin B base _ _ _ b w3 HH3.out hbase).mono ?_
    rintro x w4 ⟨rfl, hh4, hb4, hs4⟩
    have HH4 := Aside0.mk hh4
    have HB4 := Aside0.mk ((HB3.out.mono hbs).trans hb4)
    clear hh4 hb4 hs4
    go_wp2_with fail
    refine (set_end B base _ _ _ b w4 HH4.out hbase).mono ?_
    rintro x w5 ⟨rfl, hh5, hb5, hs5⟩
    have HH5 := Aside0.mk hh5
    have HB5 := Aside0.mk (HB4.out.trans hb5)
    clear hh5 hb5 hs5
    go_wp2
    go_ret
    exact ⟨rfl, HH5.out, HB5.out⟩
  · obtain ⟨k, hk⟩ := split_rng hbe h1 h2 h3 h4
    have SP := Aside0.mk hk
    simp only [ne_eq, hbe, not_false_eq_true, decide_true] at H
    generalize Nums.rngB b e = R at *
    generalize Nums.numB b = D at *
    generalize Nums.numB e = E at *
    clear hlow hasc hsz e0 hB hr h1 h2 h3 h4 hk hbe
    have hmf : ∀ (fn : Fn) (first cap : Array Value) (w : World), (Instr.makeFunc fn first cap).run Tryd.prog w = .ok (.func fn first cap) w := fun _ _ _ _ => rfl
    go_enter Tryd.func31, Tryd.ntmps31
    go_wp2_with fail
    refine (L.out _).mono ?_
    rintro x w1 ⟨rfl, hb1⟩
    have HB1 := Aside0.mk hb1
    clear hb1
    go_wp2_with fail
    refine (timeinterval_zzContainsRune.calls R 58 true _ H.out).mono ?_
    rintro x w2 ⟨rfl, hb2⟩
    have HB2 := Aside0.mk (below_step HB1.out hb2)
    clear hb2
    go_wp2_with fail
    refine (timeinterval_zzSplit.calls k _ _ _ _ SP.out).mono ?_
    rintro x w3 ⟨v, rfl, hR, hb3⟩
    obtain ⟨g, cap, rfl, _, _, _⟩ := Kd.R_form hR (by simp)
    obtain ⟨_, hcap, hC⟩ := Kd.R_reads' hR
    have HB3 := Aside0.mk (below_step HB2.out hb3)
    have c0 := at_str hC (i := 0) (by simp)
    have c1 := at_str hC (i := 1) (by simp)
    simp only [List.getD, List.getElem?_cons_zero, List.getElem?_cons_succ, Option.getD_some] at c0 c1
    have HG := Aside0.mk (World.block_lt_of_cell? w3 _ c1)
    clear hR hb3 hC
    go_wp2_with fail
    go_region_with (go_at_call 113; refine (MB.out _ _).mono ?_; rintro x w4 ⟨rfl, hb4⟩; have c1' : w4.cell? ⟨g, 1, none⟩ = some (.string E) := (hb4.cell (by exact HG.out)).trans c1; have HB4 := Aside0.mk (below_step (by repeat (first | exact HB3.out | apply below_drew1)) hb4); clear hb4)
    all_goals (try go_wp2_with fail)
    all_goals clear c0 c1
    all_goals
      go_region_with (go_at_call 113; refine (ME.out _ _).mono ?_; rintro x w5 ⟨rfl, hb5⟩; have HB5 := Aside0.mk (below_step (by repeat (first | exact HB4.out | apply below_drew1)) hb5); clear hb5)
    all_goals (try go_wp2_with fail)
    all_goals
      have HH5 := Aside0.mk ((HB5.out.block B HBL.out).trans HB.out)
      refine (set_begin B base _ _ _ b w5 HH5.out hbase).mono ?_
      rintro x w6 ⟨rfl, hh6, hb6, hs6⟩
      have HH6 := Aside0.mk hh6
      have HB6 := Aside0.mk ((HB5.out.mono hbs).trans hb6)
      clear hh6 hb6 hs6
      go_wp2_with fail
      refine (set_end B base _ _ _ e w6 HH6.out hbase).mono ?_
      rintro x w7 ⟨rfl, hh7, hb7, hs7⟩
      have HH7 := Aside0.mk hh7
      have HB7 := Aside0.mk (HB6.out.trans hb7)
      clear hh7 hb7 hs7
      go_wp2
      go_ret
      exact ⟨rfl, HH7.out, HB7.out⟩
/-- A receiver of ranges: its methods, and what its memberFromString makes of a number's text. -/
structure RecvMon (T bt : TypeId) (B : Nat) (b e : Int) : Prop where
  m1 : ∀ w, (method 259 T (.pointer (some ⟨B, 0, none⟩)) "pub-clamour/pub/alertmanager/timeinterval.memberFromString").run Tryd.prog w = .ok (95, .pointer (some ⟨B, 0, none⟩)) w
  m2 : ∀ w, (method 259 T (.pointer (some ⟨B, 0, none⟩)) "pub-clamour/pub/alertmanager/timeinterval.setBegin").run Tryd.prog w = .ok (96, .pointer (some ⟨B, 0, none⟩)) w
  m3 : ∀ w, (method 259 T (.pointer (some ⟨B, 0, none⟩)) "pub-clamour/pub/alertmanager/timeinterval.setEnd").run Tryd.prog w = .ok (97, .pointer (some ⟨B, 0, none⟩)) w
  m4 : ∀ w, (nilAhead 259 T (.pointer (some ⟨B, 0, none⟩)) "pub-clamour/pub/alertmanager/timeinterval.memberFromString").run Tryd.prog w = .ok (some false) w
  mb : ∀ (p : Value) (W : World), Calls Tryd.prog 95 #[p, .string (Nums.numB b)] W fun x w' => x = .returned (.tuple #[.int .i64 b, .nilIface]) ∧ Below W.heap.size W w'
  me : ∀ (p : Value) (W : World), Calls Tryd.prog 95 #[p, .string (Nums.numB e)] W fun x w' => x = .returned (.tuple #[.int .i64 e, .nilIface]) ∧ Below W.heap.size W w'
set_option maxHeartbeats 6400000 in
set_option maxRecDepth 100000 in
theorem string_Mon (T bt : TypeId) (b e : Int) (B base : Nat) (w : World) (hr : RecvMon T bt B b e) (h1 : -100000 < b) (h2 : b < 100000) (h3 : -100000 < e) (h4 : e < 100000)
    (hB : w.heap[B]? = some (.cells #[.int .i64 0, .int .i64 0] bt (0, 0))) (hbase : base ≤ B) (hbs : base ≤ w.heap.size) :
    Calls Tryd.prog 31 #[.string (Nums.rngB b e), .iface T (.pointer (some ⟨B, 0, none⟩))] w fun x w' => x = .returned .nilIface ∧ w'.heap[B]? = some (.cells #[.int .i64 b, .int .i64 e] bt (0, 0)) ∧ Below base w w' := by
  have hlow : Go.Lib.toLowerA (Nums.rngB b e).data.toList = (Nums.rngB b e).data.toList := Nums.rng_low b e
  have hasc : ∀ (j : Nat) (x : UInt8), (Nums.rngB b e).data.toList[j]? = some x → x.toNat < 128 := fun j x hx => Nums.rng_asc (List.mem_of_getElem? hx)
  have hsz : (Nums.rngB b e).size ≤ 140737488355328 := by have := rng_size h1 h2 h3 h4; omega
  have L := Aside0.mk (fun W => Tryd.strings_ToLower_ascii (Nums.rngB b e) W hsz hasc)
  rw [hlow] at L
  have e0 : (⟨(Nums.rngB b e).data.toList.toArray⟩ : ByteArray) = Nums.rngB b e := rfl
  rw [e0] at L
  have H := Aside0.mk (has_rng h1 h2 h3 h4)
  have HB := Aside0.mk hB
  have HBL := Aside0.mk (Array.getElem?_eq_some_iff.1 hB).1
  have hm1 := hr.m1
  have hm2 := hr.m2
  have hm3 := hr.m3
  have hm4 := hr.m4
  have MB := Aside0.mk hr.mb
  have ME := Aside0.mk hr.me
  by_cases hbe : b = e
  · subst hbe
    simp only [ne_eq, not_true_eq_false, decide_false] at H
    have ed : Nums.rngB b b = Nums.numB b := by unfold Nums.rngB Nums.rngT; rw [if_pos rfl]; rfl
    rw [ed] at L H ⊢
    generalize Nums.numB b = D at *
    clear hlow hasc hsz ed e0 hB hr h1 h2 h3 h4 hm4 ME
    go_enter Tryd.func31, Tryd.ntmps31
    go_wp2_with fail
    refine (L.out _).mono ?_
    rintro x w1 ⟨rfl, hb1⟩
    have HB1 := Aside0.mk hb1
    clear hb1
    go_wp2_with fail
    refine (timeinterval_zzContainsRune.calls D 58 false _ H.out).mono ?_
    rintro x w2 ⟨rfl, hb2⟩
    have HB2 := Aside0.mk (below_step HB1.out hb2)
    clear hb2
    go_wp2_with fail
    refine (MB.out _ _).mono ?_
    rintro x w3 ⟨rfl, hb3⟩
    have HB3 := Aside0.mk (below_step HB2.out hb3)
    have HH3 := Aside0.mk ((HB3.out.block B HBL.out).trans HB.out)
    clear hb3
    go_wp2_with fail
    refine (set_begin B base _ _ _ b w3 HH3.out hbase).mono ?_
    rintro x w4 ⟨rfl, hh4, hb4, hs4⟩
    have HH4 := Aside0.mk hh4
    have HB4 := Aside0.mk ((HB3.out.mono hbs).trans hb4)
    clear hh4 hb4 hs4
    go_wp2_with fail
    refine (set_end B base _ _ _ b w4 HH4.out hbase).mono ?_
    rintro x w5 ⟨rfl, hh5, hb5, hs5⟩
    have HH5 := Aside0.mk hh5
    have HB5 := Aside0.mk (HB4.out.trans hb5)
    clear hh5 hb5 hs5
    go_wp2
    go_ret
    exact ⟨rfl, HH5.out, HB5.out⟩
  · obtain ⟨k, hk⟩ := split_rng hbe h1 h2 h3 h4
    have SP := Aside0.mk hk
    simp only [ne_eq, hbe, not_false_eq_true, decide_true] at H
    generalize Nums.rngB b e = R at *
    generalize Nums.numB b = D at *
    generalize Nums.numB e = E at *
    clear hlow hasc hsz e0 hB hr h1 h2 h3 h4 hk hbe
    have hmf : ∀ (fn : Fn) (first cap : Array Value) (w : World), (Instr.makeFunc fn first cap).run Tryd.prog w = .ok (.func fn first cap) w := fun _ _ _ _ => rfl
    go_enter Tryd.func31, Tryd.ntmps31
    go_wp2_with fail
    refine (L.out _).mono ?_
    rintro x w1 ⟨rfl, hb1⟩
    have HB1 := Aside0.mk hb1
    clear hb1
    go_wp2_with fail
    refine (timeinterval_zzContainsRune.calls R 58 true _ H.out).mono ?_
    rintro x w2 ⟨rfl, hb2⟩
    have HB2 := Aside0.mk (below_step HB1.out hb2)
    clear hb2
    go_wp2_with fail
    refine (timeinterval_zzSplit.calls k _ _ _ _ SP.out).mono ?_
    rintro x w3 ⟨v, rfl, hR, hb3⟩
    obtain ⟨g, cap, rfl, _, _, _⟩ := Kd.R_form hR (by simp)
    obtain ⟨_, hcap, hC⟩ := Kd.R_reads' hR
    have HB3 := Aside0.mk (below_step HB2.out hb3)
    have c0 := at_str hC (i := 0) (by simp)
    have c1 := at_str hC (i := 1) (by simp)
    simp only [List.getD, List.getElem?_cons_zero, List.getElem?_cons_succ, Option.getD_some] at c0 c1
    have HG := Aside0.mk (World.block_lt_of_cell? w3 _ c1)
    clear hR hb3 hC
    go_wp2_with fail
    go_region_with (go_at_call 95; refine (MB.out _ _).mono ?_; rintro x w4 ⟨rfl, hb4⟩; have c1' : w4.cell? ⟨g, 1, none⟩ = some (.string E) := (hb4.cell (by exact HG.out)).trans c1; have HB4 := Aside0.mk (below_step (by repeat (first | exact HB3.out | apply below_drew1)) hb4); clear hb4)
    all_goals (try go_wp2_with fail)
    all_goals clear c0 c1
    all_goals
      go_region_with (go_at_call 95; refine (ME.out _ _).mono ?_; rintro x w5 ⟨rfl, hb5⟩; have HB5 := Aside0.mk (below_step (by repeat (first | exact HB4.out | apply below_drew1)) hb5); clear hb5)
    all_goals (try go_wp2_with fail)
    all_goals
      have HH5 := Aside0.mk ((HB5.out.block B HBL.out).trans HB.out)
      refine (set_begin B base _ _ _ b w5 HH5.out hbase).mono ?_
      rintro x w6 ⟨rfl, hh6, hb6, hs6⟩
      have HH6 := Aside0.mk hh6
      have HB6 := Aside0.mk ((HB5.out.mono hbs).trans hb6)
      clear hh6 hb6 hs6
      go_wp2_with fail
      refine (set_end B base _ _ _ e w6 HH6.out hbase).mono ?_
      rintro x w7 ⟨rfl, hh7, hb7, hs7⟩
      have HH7 := Aside0.mk hh7
      have HB7 := Aside0.mk (HB6.out.trans hb7)
      clear hh7 hb7 hs7
      go_wp2
      go_ret
      exact ⟨rfl, HH7.out, HB7.out⟩
set_option maxRecDepth 100000 in
theorem inc_member (n : Int) (h1 : -100000 < n) (h2 : n < 100000) (p : Value) (w : World) :
    Calls Tryd.prog 113 #[p, .string (Nums.numB n)] w fun x w' => x = .returned (.tuple #[.int .i64 n, .nilIface]) ∧ Below w.heap.size w w' := by
  have C := Aside0.mk (Tryd.strconv_Atoi (Nums.numB n) n (by have := Nums.num_size h1 h2; omega) (Nums.atoi_itoa n))
  generalize Nums.numB n = D at *
  clear h1 h2
  go_enter Tryd.func113, Tryd.ntmps113
  go_wp2_with fail
  refine (C.out _).mono ?_
  rintro x w1 ⟨rfl, t, rfl⟩
  have HB := Aside0.mk (Lib.bytesWorld_below w 5 t)
  go_wp2
  go_ret2
  exact ⟨rfl, HB.out⟩
theorem recv_days (B : Nat) (b e : Int) (h1 : -100000 < b) (h2 : b < 100000) (h3 : -100000 < e) (h4 : e < 100000) : RecvInc 66 55 B b e where
  m1 := fun w => by kernel_rfl
  m2 := fun w => by kernel_rfl
  m3 := fun w => by kernel_rfl
  m4 := fun w => by kernel_rfl
  mb := fun p W => inc_member b h1 h2 p W
  me := fun p W => inc_member e h3 h4 p W
theorem recv_years (B : Nat) (b e : Int) (h1 : -100000 < b) (h2 : b < 100000) (h3 : -100000 < e) (h4 : e < 100000) : RecvInc 67 56 B b e where
  m1 := fun w => by kernel_rfl
  m2 := fun w => by kernel_rfl
  m3 := fun w => by kernel_rfl
  m4 := fun w => by kernel_rfl
  mb := fun p W => inc_member b h1 h2 p W
  me := fun p W => inc_member e h3 h4 p W
end Go.Proofs.YtfkapmbjnfnmmaaDoor.Door
