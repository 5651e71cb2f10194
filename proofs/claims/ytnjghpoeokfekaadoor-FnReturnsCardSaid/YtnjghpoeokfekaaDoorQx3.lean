-- printed by this project's own program wip/tools/mkprint.py (the kit's print.py with hand-proved contracts put in)
import Derived.Test.YtnjghpoeokfekaaDoorQx0
import Derived.Test.YtnjghpoeokfekaaDoorQx2
namespace Go.Proofs.YtnjghpoeokfekaaDoor.Q
open Go.RowKit Go.Proofs.YtnjghpoeokfekaaDoorW.PrintWords Go.Proofs.YtnjghpoeokfekaaDoorW.PrintLast Go.Proofs.YtnjghpoeokfekaaDoorW.PrintMore
attribute [local go_sem] max2_int min2_int max_two min_two max_three min_three max_four min_four   -- for this text's walks alone
set_option linter.unusedVariables false
set_option linter.unusedSimpArgs false

/-! ### impl_Unescape: function 12 -/
-- a contract that was proved by hand
/-- All places of old, the leftmost first, made new. -/
def repL (old new : List UInt8) : Nat → List UInt8 → List UInt8
  | 0, _ => []
  | _ + 1, [] => []
  | f + 1, c :: t => if old.isPrefixOf (c :: t) = true then new ++ repL old new f ((c :: t).drop old.length) else c :: repL old new f t
theorem repL_fuel (old new : List UInt8) (ho : 1 ≤ old.length) : ∀ (f g : Nat) (l : List UInt8), l.length < f → l.length < g → repL old new f l = repL old new g l
  | 0, _, _, h, _ => by omega
  | _ + 1, 0, _, _, h => by omega
  | f + 1, g + 1, [], _, _ => rfl
  | f + 1, g + 1, c :: t, h1, h2 => by
    simp only [List.length_cons] at h1 h2
    unfold repL
    rw [repL_fuel old new ho f g ((c :: t).drop old.length) (by rw [List.length_drop, List.length_cons]; omega) (by rw [List.length_drop, List.length_cons]; omega), repL_fuel old new ho f g t (by omega) (by omega)]
theorem wz (x : Int) (h0 : -9223372036854775808 ≤ x) (h1 : x ≤ 9223372036854775807) : wrap64 x = x := by unfold wrap64; omega
theorem ext_mid (s : ByteArray) (i n : Nat) : (s.extract i (i + n)).toList = (s.data.toList.drop i).take n := by
  rw [Lib.toList_data, ByteArray.data_extract, Array.toList_extract, List.extract_eq_take_drop, Nat.add_sub_cancel_left]
theorem sz (s : ByteArray) : s.data.toList.length = s.size := by rw [Array.length_toList]; rfl
theorem pre_iff (p l : List UInt8) (h : p.length ≤ l.length) : p.isPrefixOf l = true ↔ l.take p.length = p := by
  rw [List.isPrefixOf_iff_prefix, List.prefix_iff_eq_take]
  exact ⟨fun h => h.symm, fun h => h.symm⟩
theorem pre_short (p l : List UInt8) (h : l.length < p.length) : p.isPrefixOf l = false := by
  cases hb : p.isPrefixOf l with
  | false => rfl
  | true =>
    have := (List.isPrefixOf_iff_prefix.1 hb).length_le
    omega
/-- The first place from i on. -/
theorem index_l0 (s sub : ByteArray) (hs : s.size ≤ 2147483647) (hb : sub.size ≤ 2147483647) (hb1 : 1 ≤ sub.size) : ∀ (d i : Nat), i + d = s.size + 1 →
    (∃ j, i ≤ j ∧ j + sub.size ≤ s.size ∧ Ev (fun k => model_zzIndex.l0 k s sub (i : Int)) (j : Int) ∧ sub.data.toList.isPrefixOf (s.data.toList.drop j) = true ∧ ∀ x, i ≤ x → x < j → sub.data.toList.isPrefixOf (s.data.toList.drop x) = false)
    ∨ (Ev (fun k => model_zzIndex.l0 k s sub (i : Int)) (-1) ∧ ∀ x, i ≤ x → sub.data.toList.isPrefixOf (s.data.toList.drop x) = false)
  | d, i, hi => by
    have hsub := sz sub
    have hsz := sz s
    by_cases hfit : i + sub.size ≤ s.size
    · cases d with
      | zero => omega
      | succ d =>
        have hw : wrap64 ((i : Int) + (sub.size : Int)) = ((i + sub.size : Nat) : Int) := by rw [wz _ (by omega) (by omega)]; omega
        have hx : (s.extract i (i + sub.size)).toList = (s.data.toList.drop i).take sub.data.toList.length := by rw [ext_mid, hsub]
        by_cases hm : (s.data.toList.drop i).take sub.data.toList.length = sub.data.toList
        · left
          have hpre : sub.data.toList.isPrefixOf (s.data.toList.drop i) = true := (pre_iff _ _ (by rw [List.length_drop]; omega)).2 hm
          refine ⟨i, Nat.le_refl _, hfit, ⟨1, fun k hk => ?_⟩, hpre, fun x h1 h2 => by omega⟩
          obtain ⟨k, rfl⟩ : ∃ m, k = m + 1 := ⟨k - 1, by omega⟩
          simp only [model_zzIndex.l0]
          rw [hw, if_pos (by omega), if_pos (by omega), if_pos (by omega), Int.toNat_natCast, Int.toNat_natCast, hx, Lib.toList_data, if_pos hm]
        · have hpre : sub.data.toList.isPrefixOf (s.data.toList.drop i) = false := by
            cases hb : sub.data.toList.isPrefixOf (s.data.toList.drop i) with
            | false => rfl
            | true => exact absurd ((pre_iff _ _ (by rw [List.length_drop]; omega)).1 hb) hm
          have hstep : ∀ k, model_zzIndex.l0 (k + 1) s sub (i : Int) = model_zzIndex.l0 k s sub ((i + 1 : Nat) : Int) := by
            intro k
            simp only [model_zzIndex.l0]
            rw [hw, if_pos (by omega), if_pos (by omega), if_pos (by omega), Int.toNat_natCast, Int.toNat_natCast, hx, Lib.toList_data, if_neg hm, wz _ (by omega) (by omega)]
            rfl
          rcases index_l0 s sub hs hb hb1 d (i + 1) (by omega) with ⟨j, h1, h2, h3, h4, h5⟩ | ⟨h3, h5⟩
          · left
            refine ⟨j, by omega, h2, Ev.step hstep h3, h4, fun x hx1 hx2 => ?_⟩
            by_cases hxi : x = i
            · subst hxi; exact hpre
            · exact h5 x (by omega) hx2
          · right
            refine ⟨Ev.step hstep h3, fun x hx1 => ?_⟩
            by_cases hxi : x = i
            · subst hxi; exact hpre
            · exact h5 x (by omega)
    · right
      have hw : wrap64 ((i : Int) + (sub.size : Int)) = ((i + sub.size : Nat) : Int) := by rw [wz _ (by omega) (by omega)]; omega
      refine ⟨⟨1, fun k hk => ?_⟩, fun x hx => pre_short _ _ (by rw [List.length_drop]; omega)⟩
      obtain ⟨k, rfl⟩ : ∃ m, k = m + 1 := ⟨k - 1, by omega⟩
      simp only [model_zzIndex.l0]
      rw [hw, if_neg (by omega)]
theorem rep_none (old new : List UInt8) : ∀ (f : Nat) (l : List UInt8), l.length < f → (∀ x, old.isPrefixOf (l.drop x) = false) → repL old new f l = l
  | 0, _, h, _ => by omega
  | f + 1, [], _, _ => rfl
  | f + 1, c :: t, h, hx => by
    unfold repL
    have h0 := hx 0
    rw [List.drop_zero] at h0
    rw [h0, if_neg (by simp), rep_none old new f t (by simpa using h) (fun x => hx (x + 1))]
theorem rep_at (old new : List UInt8) : ∀ (j f : Nat) (l : List UInt8), l.length < f → j < l.length → old.isPrefixOf (l.drop j) = true → (∀ x, x < j → old.isPrefixOf (l.drop x) = false) →
    ∃ g, l.length - j ≤ g ∧ repL old new f l = l.take j ++ (new ++ repL old new g ((l.drop j).drop old.length))
  | _, 0, _, h, _, _, _ => by omega
  | _, f + 1, [], _, h, _, _ => by simp at h
  | 0, f + 1, c :: t, h, _, hm, _ => by
    refine ⟨f, by simp at h ⊢; omega, ?_⟩
    rw [List.drop_zero] at hm ⊢
    rw [repL, if_pos hm]
    rfl
  | j + 1, f + 1, c :: t, h, hj, hm, hx => by
    have h0 := hx 0 (by omega)
    rw [List.drop_zero] at h0
    obtain ⟨g, hg, e⟩ := rep_at old new j f t (by simpa using h) (by simpa using hj) hm (fun x hx' => hx (x + 1) (by omega))
    refine ⟨g, by simp at hg ⊢; omega, ?_⟩
    rw [repL, h0, if_neg (by simp), e]
    rfl
theorem strOf_bytes (l : List UInt8) : strOfNums (l.map fun c => (c.toNat : Int)) = ⟨l.toArray⟩ := by
  unfold strOfNums
  rw [List.map_map]
  have hid : ((fun m : Int => UInt8.ofNat m.toNat) ∘ fun c : UInt8 => (c.toNat : Int)) = id := by
    funext c
    simp
  rw [hid, List.map_id]
theorem ext_takeB (s : ByteArray) (n : Nat) : (s.extract 0 n).data.toList = s.data.toList.take n := by
  rw [ByteArray.data_extract, Array.toList_extract, List.extract_eq_take_drop, List.drop_zero, Nat.sub_zero]
theorem ext_dropB (s : ByteArray) (n : Nat) : (s.extract n s.size).data.toList = s.data.toList.drop n := by
  have hz : s.data.toList.length = s.size := sz s
  rw [ByteArray.data_extract, Array.toList_extract, List.extract_eq_take_drop, List.take_of_length_le (by rw [List.length_drop, hz]; omega)]
def raBody (k : Nat) (s old new : ByteArray) (x7 : List Int) (t : Int) : Option ByteArray := (if t < 0 then (if x7.length + s.size < 140737488355328 then (some (strOfNums (x7 ++ bytesOf s))) else none) else (if 0 ≤ t then (if t ≤ (s.size : Int) then (if x7.length + (s.extract 0 (t : Int).toNat).size < 140737488355328 then ((some (x7 ++ bytesOf (s.extract 0 (t : Int).toNat) : List Int)).bind fun y125 => (if y125.length + new.size < 140737488355328 then (if 0 ≤ (wrap64 (t + (old.size : Int))) then (if (wrap64 (t + (old.size : Int))) ≤ (s.size : Int) then (model_zzReplaceAll.l1 k (s.extract ((wrap64 (t + (old.size : Int))) : Int).toNat s.size) old new (y125 ++ bytesOf new)) else none) else none) else none)) else none) else none) else none))
theorem ra_step (k : Nat) (s old new : ByteArray) (x7 : List Int) : model_zzReplaceAll.l1 (k + 1) s old new x7 = (model_zzIndex.f k s old).bind fun t => raBody k s old new x7 t := by
  simp only [model_zzReplaceAll.l1, raBody]
theorem index_f {s sub : ByteArray} {r : Int} (h : Ev (fun k => model_zzIndex.l0 k s sub ((0 : Nat) : Int)) r) : Ev (fun k => model_zzIndex.f k s sub) r := h
theorem ra_ev {s old new : ByteArray} {x7 : List Int} {t : Int} {r : ByteArray} (h3 : Ev (fun k => model_zzIndex.f k s old) t) (h : Ev (fun k => raBody k s old new x7 t) r) : Ev (fun k => model_zzReplaceAll.l1 k s old new x7) r := by
  obtain ⟨K, hK⟩ := h3
  obtain ⟨L, hL⟩ := h
  refine ⟨max K L + 1, fun k hk => ?_⟩
  obtain ⟨k, rfl⟩ : ∃ m, k = m + 1 := ⟨k - 1, by omega⟩
  show model_zzReplaceAll.l1 (k + 1) s old new x7 = some r
  rw [ra_step]
  have a := hK k (by omega)
  have b := hL k (by omega)
  simp only at a b
  rw [a]
  exact b
theorem rep_l1_none (old new : ByteArray) (s : ByteArray) (out : List UInt8) (hm : s.size ≤ 2147483647) (hl : out.length ≤ 100000000000000)
    (h3 : Ev (fun k => model_zzIndex.l0 k s old ((0 : Nat) : Int)) (-1)) (h5 : ∀ x, old.data.toList.isPrefixOf (s.data.toList.drop x) = false) :
    Ev (fun k => model_zzReplaceAll.l1 k s old new (out.map fun c => (c.toNat : Int))) ⟨(out ++ repL old.data.toList new.data.toList (s.size + 1) s.data.toList).toArray⟩ := by
  have hr : repL old.data.toList new.data.toList (s.size + 1) s.data.toList = s.data.toList := rep_none _ _ _ _ (Nat.lt_succ_of_le (Nat.le_of_eq (sz s))) h5
  rw [hr]
  refine ra_ev (index_f h3) ⟨0, fun k _ => ?_⟩
  show raBody k s old new (out.map fun c => (c.toNat : Int)) (-1) = _
  unfold raBody
  rw [if_pos (show (-1 : Int) < 0 by omega), if_pos (by rw [List.length_map]; omega)]
  have hb : (out.map fun c => (c.toNat : Int)) ++ bytesOf s = (out ++ s.data.toList).map fun c => (c.toNat : Int) := by
    unfold bytesOf
    rw [List.map_append]
  rw [hb, strOf_bytes]
theorem ra_found (k : Nat) (s old new : ByteArray) (out : List UInt8) (j : Nat) (ho : old.size ≤ 1000) (hn : new.size ≤ 1000) (hm : s.size ≤ 2147483647) (h2 : j + old.size ≤ s.size) (hl : out.length ≤ 100000000000000) :
    raBody k s old new (out.map fun c => (c.toNat : Int)) (j : Int) = model_zzReplaceAll.l1 k (s.extract (j + old.size) s.size) old new ((out ++ (s.data.toList.take j ++ new.data.toList)).map fun c => (c.toNat : Int)) := by
  have he : (s.extract 0 j).size = j := by rw [ByteArray.size_extract]; omega
  have hw : wrap64 ((j : Int) + (old.size : Int)) = ((j + old.size : Nat) : Int) := by rw [wz _ (by omega) (by omega)]; omega
  have hbj : (out.map fun c => (c.toNat : Int)) ++ bytesOf (s.extract 0 j) ++ bytesOf new = (out ++ (s.data.toList.take j ++ new.data.toList)).map fun c => (c.toNat : Int) := by
    unfold bytesOf
    rw [ext_takeB, List.map_append, List.map_append, List.append_assoc]
  unfold raBody
  rw [if_neg (by omega), if_pos (by omega), if_pos (by omega), Int.toNat_natCast, he, if_pos (by rw [List.length_map]; omega)]
  simp only [Option.bind_some]
  rw [if_pos (by rw [List.length_append, List.length_map, bytesOf_length, he]; omega), hw, if_pos (by omega), if_pos (by omega), Int.toNat_natCast, hbj]
theorem rep_next (old new : List UInt8) (s : ByteArray) (j : Nat) (ho1 : 1 ≤ old.length) (h2 : j + old.length ≤ s.size) (h4 : old.isPrefixOf (s.data.toList.drop j) = true) (h5 : ∀ x, x < j → old.isPrefixOf (s.data.toList.drop x) = false) :
    repL old new (s.size + 1) s.data.toList = (s.data.toList.take j ++ new) ++ repL old new ((s.extract (j + old.length) s.size).size + 1) (s.extract (j + old.length) s.size).data.toList := by
  have hsz := sz s
  have hs' : (s.extract (j + old.length) s.size).size = s.size - (j + old.length) := by rw [ByteArray.size_extract]; omega
  obtain ⟨g, hg, e⟩ := rep_at old new j (s.size + 1) s.data.toList (by omega) (by omega) h4 h5
  rw [e, ext_dropB, hs', List.drop_drop, List.append_assoc]
  rw [repL_fuel old new ho1 g (s.size - (j + old.length) + 1) _ (by rw [List.length_drop, hsz]; rw [hsz] at hg; omega) (by rw [List.length_drop, hsz]; omega)]
theorem rep_l1 (old new : ByteArray) (ho : old.size ≤ 1000) (ho1 : 1 ≤ old.size) (hn : new.size ≤ 1000) (n : Nat) : ∀ (s : ByteArray) (out : List UInt8), s.size ≤ n → s.size ≤ 2147483647 → out.length + 1000 * s.size ≤ 100000000000000 →
    Ev (fun k => model_zzReplaceAll.l1 k s old new (out.map fun c => (c.toNat : Int))) ⟨(out ++ repL old.data.toList new.data.toList (s.size + 1) s.data.toList).toArray⟩ := by
  induction n with
  | zero =>
    intro s out hs hm hl
    rcases index_l0 s old hm (by omega) ho1 (s.size + 1) 0 (by omega) with ⟨j, _, h2, h3, h4, h5⟩ | ⟨h3, h5⟩
    · exfalso; omega
    · exact rep_l1_none old new s out hm (by omega) h3 (fun x => h5 x (by omega))
  | succ n ih =>
    intro s out hs hm hl
    rcases index_l0 s old hm (by omega) ho1 (s.size + 1) 0 (by omega) with ⟨j, _, h2, h3, h4, h5⟩ | ⟨h3, h5⟩
    · have hoz := sz old
      have hnz := sz new
      have hs' : (s.extract (j + old.size) s.size).size = s.size - (j + old.size) := by rw [ByteArray.size_extract]; omega
      have hlen : (out ++ (s.data.toList.take j ++ new.data.toList)).length ≤ out.length + (j + 1000) := by
        rw [List.length_append, List.length_append, hnz]
        have := List.length_take_le j s.data.toList
        generalize (s.data.toList.take j).length = q at this ⊢
        omega
      have i := ih (s.extract (j + old.size) s.size) (out ++ (s.data.toList.take j ++ new.data.toList)) (by omega) (by omega) (by rw [hs']; omega)
      have e := rep_next old.data.toList new.data.toList s j (by omega) (by omega) h4 (fun x hx => h5 x (by omega) hx)
      rw [hoz] at e
      rw [e, ← List.append_assoc]
      exact ra_ev (index_f h3) (Ev.congr (fun k => ra_found k s old new out j ho hn hm h2 (by omega)) i)
    · exact rep_l1_none old new s out hm (by omega) h3 (fun x => h5 x (by omega))
/-- zzReplaceAll, where what is looked for is not empty. -/
def repS (old new s : ByteArray) : ByteArray := ⟨(repL old.data.toList new.data.toList (s.size + 1) s.data.toList).toArray⟩
theorem rep_ev (old new s : ByteArray) (ho : old.size ≤ 1000) (ho1 : 1 ≤ old.size) (hn : new.size ≤ 1000) (hs : s.size ≤ 2147483647) : Ev (fun k => model_zzReplaceAll.f k s old new) (repS old new s) := by
  have h := rep_l1 old new ho ho1 hn s.size s [] (Nat.le_refl _) hs (by simp; omega)
  refine Ev.congr (fun k => ?_) h
  unfold model_zzReplaceAll.f
  rw [if_neg (by omega)]
  rfl
def impl_Unescape.f (a0 : ByteArray) (a1 : Int) : Option ByteArray := if a1 = 2 ∧ a0.size ≠ 0 ∧ a0.size ≤ 2147483647 ∧ (repS ⟨#[95, 100, 111, 116, 95]⟩ ⟨#[46]⟩ a0).size ≤ 2147483647 then some (repS ⟨#[95, 95]⟩ ⟨#[95]⟩ (repS ⟨#[95, 100, 111, 116, 95]⟩ ⟨#[46]⟩ a0)) else none
set_option maxRecDepth 100000 in
theorem unescape_dots (s : ByteArray) (w : World) (h0 : s.size ≠ 0) (hs : s.size ≤ 2147483647) (hs2 : (repS ⟨#[95, 100, 111, 116, 95]⟩ ⟨#[46]⟩ s).size ≤ 2147483647) :
    Calls Tryd.prog 19 #[.string s, .int .i64 2] w fun e w' => e = .returned (.string (repS ⟨#[95, 95]⟩ ⟨#[95]⟩ (repS ⟨#[95, 100, 111, 116, 95]⟩ ⟨#[46]⟩ s))) ∧ Below w.heap.size w w' := by
  have hz0 : ((s.size : Int) == 0) = false := by simpa using h0
  obtain ⟨k1, hk1⟩ := (rep_ev ⟨#[95, 100, 111, 116, 95]⟩ ⟨#[46]⟩ s (by decide) (by decide) (by decide) hs).rounds
  obtain ⟨k2, hk2⟩ := (rep_ev ⟨#[95, 95]⟩ ⟨#[95]⟩ (repS ⟨#[95, 100, 111, 116, 95]⟩ ⟨#[46]⟩ s) (by decide) (by decide) (by decide) hs2).rounds
  obtain ⟨s2, e2⟩ : ∃ s2, repS ⟨#[95, 95]⟩ ⟨#[95]⟩ (repS ⟨#[95, 100, 111, 116, 95]⟩ ⟨#[46]⟩ s) = s2 := ⟨_, rfl⟩
  rw [e2] at hk2 ⊢
  clear e2
  obtain ⟨s1, e1⟩ : ∃ s1, repS ⟨#[95, 100, 111, 116, 95]⟩ ⟨#[46]⟩ s = s1 := ⟨_, rfl⟩
  rw [e1] at hk1 hk2
  clear e1 hs2
  have H1 := Aside0.mk hk1
  have H2 := Aside0.mk hk2
  clear hk1 hk2
  go_enter Tryd.func19, Tryd.ntmps19
  go_wp2_with fail
  refine (model_zzReplaceAll.calls k1 _ _ _ s1 _ H1.out).mono ?_
  rintro e w1 ⟨rfl, hb⟩
  have HB1 := Aside0.mk hb
  clear hb
  go_wp2_with fail
  refine (model_zzReplaceAll.calls k2 _ _ _ s2 _ H2.out).mono ?_
  rintro e w2 ⟨rfl, hb⟩
  have HB2 := Aside0.mk (below_step HB1.out hb)
  clear hb
  go_wp2
  go_ret
  exact ⟨rfl, HB2.out⟩
theorem impl_Unescape.calls (a0 : ByteArray) (a1 : Int) (r : ByteArray) (w : World) (h : impl_Unescape.f a0 a1 = some r) :
    Calls Tryd.prog 12 #[.string a0, .int .i64 a1] w fun e w' => e = .returned (.string r) ∧ Below w.heap.size w w' := by
  unfold impl_Unescape.f at h
  by_cases hc : a1 = 2 ∧ a0.size ≠ 0 ∧ a0.size ≤ 2147483647 ∧ (repS ⟨#[95, 100, 111, 116, 95]⟩ ⟨#[46]⟩ a0).size ≤ 2147483647
  · rw [if_pos hc] at h
    injection h with h
    obtain ⟨rfl, h0, h1, h2⟩ := hc
    have H := Aside0.mk (unescape_dots a0 w h0 h1 h2)
    rw [h] at H
    clear h0 h1 h2 h
    go_enter Tryd.func12, Tryd.ntmps12
    go_wp2_with fail
    refine H.out.mono ?_
    rintro e w1 ⟨rfl, hb⟩
    go_wp2
    go_ret
    exact ⟨rfl, hb⟩
  · rw [if_neg hc] at h
    cases h


/-! ### model_isValidLegacyRune: function 34 -/
def model_isValidLegacyRune.f (a0 : Int) (a1 : Int) : Option (Bool) := if a0 ≥ 97 then (if a0 ≤ 122 then (some true) else (if a0 ≥ 65 then (if a0 ≤ 90 then (some true) else (if a0 = 95 then (some true) else (if a0 = 58 then (some true) else (if a0 ≥ 48 then (if a0 ≤ 57 then (some (decide (a1 > 0))) else (some false)) else (some false))))) else (if a0 = 95 then (some true) else (if a0 = 58 then (some true) else (if a0 ≥ 48 then (if a0 ≤ 57 then (some (decide (a1 > 0))) else (some false)) else (some false)))))) else (if a0 ≥ 65 then (if a0 ≤ 90 then (some true) else (if a0 = 95 then (some true) else (if a0 = 58 then (some true) else (if a0 ≥ 48 then (if a0 ≤ 57 then (some (decide (a1 > 0))) else (some false)) else (some false))))) else (if a0 = 95 then (some true) else (if a0 = 58 then (some true) else (if a0 ≥ 48 then (if a0 ≤ 57 then (some (decide (a1 > 0))) else (some false)) else (some false)))))
set_option maxHeartbeats 8000000 in
set_option maxRecDepth 100000 in
theorem model_isValidLegacyRune.calls (a0 : Int) (a1 : Int) (r : Bool) (w : World) (h : model_isValidLegacyRune.f a0 a1 = some r) :
    Calls Tryd.prog 34 #[.int .i32 a0, .int .i64 a1] w fun e w' => e = .returned (.bool r) ∧ Drawn0 w w' := by
  have H : (if a0 ≥ 97 then (if a0 ≤ 122 then (some true) else (if a0 ≥ 65 then (if a0 ≤ 90 then (some true) else (if a0 = 95 then (some true) else (if a0 = 58 then (some true) else (if a0 ≥ 48 then (if a0 ≤ 57 then (some (decide (a1 > 0))) else (some false)) else (some false))))) else (if a0 = 95 then (some true) else (if a0 = 58 then (some true) else (if a0 ≥ 48 then (if a0 ≤ 57 then (some (decide (a1 > 0))) else (some false)) else (some false)))))) else (if a0 ≥ 65 then (if a0 ≤ 90 then (some true) else (if a0 = 95 then (some true) else (if a0 = 58 then (some true) else (if a0 ≥ 48 then (if a0 ≤ 57 then (some (decide (a1 > 0))) else (some false)) else (some false))))) else (if a0 = 95 then (some true) else (if a0 = 58 then (some true) else (if a0 ≥ 48 then (if a0 ≤ 57 then (some (decide (a1 > 0))) else (some false)) else (some false)))))) = some r := h
  clear h
  by_cases c3 : a0 ≥ 97
  · rw [if_pos c3] at H
    have c3b0 : decide (97 ≤ a0) = true := decide_eq_true c3
    clear c3
    by_cases c4 : a0 ≤ 122
    · rw [if_pos c4] at H
      have c4b0 : decide (a0 ≤ 122) = true := decide_eq_true c4
      clear c4
      obtain rfl := Option.some.inj H
      go_enter Tryd.func34, Tryd.ntmps34
      go_wp2
      go_ret
      exact ⟨by first | rfl | (simp; done) | (simp [*]; done), by repeat (first | exact Drawn0.refl _ | apply Drawn0.step)⟩
    · rw [if_neg c4] at H
      have c4b0 : decide (a0 ≤ 122) = false := decide_eq_false c4
      clear c4
      by_cases c5 : a0 ≥ 65
      · rw [if_pos c5] at H
        have c5b0 : decide (65 ≤ a0) = true := decide_eq_true c5
        clear c5
        by_cases c6 : a0 ≤ 90
        · rw [if_pos c6] at H
          have c6b0 : decide (a0 ≤ 90) = true := decide_eq_true c6
          clear c6
          obtain rfl := Option.some.inj H
          go_enter Tryd.func34, Tryd.ntmps34
          go_wp2
          go_ret
          exact ⟨by first | rfl | (simp; done) | (simp [*]; done), by repeat (first | exact Drawn0.refl _ | apply Drawn0.step)⟩
        · rw [if_neg c6] at H
          have c6b0 : decide (a0 ≤ 90) = false := decide_eq_false c6
          clear c6
          by_cases c7 : a0 = 95
          · rw [if_pos c7] at H
            have c7b0 : (a0 == 95) = true := beq_iff_eq.mpr c7
            have c7b1 : (a0 != 95) = false := bne_eq_false_iff_eq.mpr c7
            clear c7
            obtain rfl := Option.some.inj H
            go_enter Tryd.func34, Tryd.ntmps34
            go_wp2
            go_ret
            exact ⟨by first | rfl | (simp; done) | (simp [*]; done), by repeat (first | exact Drawn0.refl _ | apply Drawn0.step)⟩
          · rw [if_neg c7] at H
            have c7b0 : (a0 == 95) = false := beq_eq_false_iff_ne.mpr c7
            have c7b1 : (a0 != 95) = true := bne_iff_ne.mpr c7
            by_cases c8 : a0 = 58
            · rw [if_pos c8] at H
              have c8b0 : (a0 == 58) = true := beq_iff_eq.mpr c8
              have c8b1 : (a0 != 58) = false := bne_eq_false_iff_eq.mpr c8
              clear c8
              obtain rfl := Option.some.inj H
              go_enter Tryd.func34, Tryd.ntmps34
              go_wp2
              go_ret
              exact ⟨by first | rfl | (simp; done) | (simp [*]; done), by repeat (first | exact Drawn0.refl _ | apply Drawn0.step)⟩
            · rw [if_neg c8] at H
              have c8b0 : (a0 == 58) = false := beq_eq_false_iff_ne.mpr c8
              have c8b1 : (a0 != 58) = true := bne_iff_ne.mpr c8
              by_cases c9 : a0 ≥ 48
              · rw [if_pos c9] at H
                have c9b0 : decide (48 ≤ a0) = true := decide_eq_true c9
                clear c9
                by_cases c10 : a0 ≤ 57
                · rw [if_pos c10] at H
                  have c10b0 : decide (a0 ≤ 57) = true := decide_eq_true c10
                  clear c10
                  obtain rfl := Option.some.inj H
                  go_enter Tryd.func34, Tryd.ntmps34
                  go_wp2
                  go_ret
                  exact ⟨by first | rfl | (simp; done) | (simp [*]; done), by repeat (first | exact Drawn0.refl _ | apply Drawn0.step)⟩
                · rw [if_neg c10] at H
                  have c10b0 : decide (a0 ≤ 57) = false := decide_eq_false c10
                  clear c10
                  obtain rfl := Option.some.inj H
                  go_enter Tryd.func34, Tryd.ntmps34
                  go_wp2
                  go_ret
                  exact ⟨by first | rfl | (simp; done) | (simp [*]; done), by repeat (first | exact Drawn0.refl _ | apply Drawn0.step)⟩
              · rw [if_neg c9] at H
                have c9b0 : decide (48 ≤ a0) = false := decide_eq_false c9
                clear c9
                obtain rfl := Option.some.inj H
                go_enter Tryd.func34, Tryd.ntmps34
                go_wp2
                go_ret
                exact ⟨by first | rfl | (simp; done) | (simp [*]; done), by repeat (first | exact Drawn0.refl _ | apply Drawn0.step)⟩
      · rw [if_neg c5] at H
        have c5b0 : decide (65 ≤ a0) = false := decide_eq_false c5
        clear c5
        by_cases c11 : a0 = 95
        · rw [if_pos c11] at H
          have c11b0 : (a0 == 95) = true := beq_iff_eq.mpr c11
          have c11b1 : (a0 != 95) = false := bne_eq_false_iff_eq.mpr c11
          clear c11
          obtain rfl := Option.some.inj H
          go_enter Tryd.func34, Tryd.ntmps34
          go_wp2
          go_ret
          exact ⟨by first | rfl | (simp; done) | (simp [*]; done), by repeat (first | exact Drawn0.refl _ | apply Drawn0.step)⟩
        · rw [if_neg c11] at H
          have c11b0 : (a0 == 95) = false := beq_eq_false_iff_ne.mpr c11
          have c11b1 : (a0 != 95) = true := bne_iff_ne.mpr c11
          by_cases c12 : a0 = 58
          · rw [if_pos c12] at H
            have c12b0 : (a0 == 58) = true := beq_iff_eq.mpr c12
            have c12b1 : (a0 != 58) = false := bne_eq_false_iff_eq.mpr c12
            clear c12
            obtain rfl := Option.some.inj H
            go_enter Tryd.func34, Tryd.ntmps34
            go_wp2
            go_ret
            exact ⟨by first | rfl | (simp; done) | (simp [*]; done), by repeat (first | exact Drawn0.refl _ | apply Drawn0.step)⟩
          · rw [if_neg c12] at H
            have c12b0 : (a0 == 58) = false := beq_eq_false_iff_ne.mpr c12
            have c12b1 : (a0 != 58) = true := bne_iff_ne.mpr c12
            by_cases c13 : a0 ≥ 48
            · rw [if_pos c13] at H
              have c13b0 : decide (48 ≤ a0) = true := decide_eq_true c13
              clear c13
              by_cases c14 : a0 ≤ 57
              · rw [if_pos c14] at H
                have c14b0 : decide (a0 ≤ 57) = true := decide_eq_true c14
                clear c14
                obtain rfl := Option.some.inj H
                go_enter Tryd.func34, Tryd.ntmps34
                go_wp2
                go_ret
                exact ⟨by first | rfl | (simp; done) | (simp [*]; done), by repeat (first | exact Drawn0.refl _ | apply Drawn0.step)⟩
              · rw [if_neg c14] at H
                have c14b0 : decide (a0 ≤ 57) = false := decide_eq_false c14
                clear c14
                obtain rfl := Option.some.inj H
                go_enter Tryd.func34, Tryd.ntmps34
                go_wp2
                go_ret
                exact ⟨by first | rfl | (simp; done) | (simp [*]; done), by repeat (first | exact Drawn0.refl _ | apply Drawn0.step)⟩
            · rw [if_neg c13] at H
              have c13b0 : decide (48 ≤ a0) = false := decide_eq_false c13
              clear c13
              obtain rfl := Option.some.inj H
              go_enter Tryd.func34, Tryd.ntmps34
              go_wp2
              go_ret
              exact ⟨by first | rfl | (simp; done) | (simp [*]; done), by repeat (first | exact Drawn0.refl _ | apply Drawn0.step)⟩
  · rw [if_neg c3] at H
    have c3b0 : decide (97 ≤ a0) = false := decide_eq_false c3
    clear c3
    by_cases c15 : a0 ≥ 65
    · rw [if_pos c15] at H
      have c15b0 : decide (65 ≤ a0) = true := decide_eq_true c15
      clear c15
      by_cases c16 : a0 ≤ 90
      · rw [if_pos c16] at H
        have c16b0 : decide (a0 ≤ 90) = true := decide_eq_true c16
        clear c16
        obtain rfl := Option.some.inj H
        go_enter Tryd.func34, Tryd.ntmps34
        go_wp2
        go_ret
        exact ⟨by first | rfl | (simp; done) | (simp [*]; done), by repeat (first | exact Drawn0.refl _ | apply Drawn0.step)⟩
      · rw [if_neg c16] at H
        have c16b0 : decide (a0 ≤ 90) = false := decide_eq_false c16
        clear c16
        by_cases c17 : a0 = 95
        · rw [if_pos c17] at H
          have c17b0 : (a0 == 95) = true := beq_iff_eq.mpr c17
          have c17b1 : (a0 != 95) = false := bne_eq_false_iff_eq.mpr c17
          clear c17
          obtain rfl := Option.some.inj H
          go_enter Tryd.func34, Tryd.ntmps34
          go_wp2
          go_ret
          exact ⟨by first | rfl | (simp; done) | (simp [*]; done), by repeat (first | exact Drawn0.refl _ | apply Drawn0.step)⟩
        · rw [if_neg c17] at H
          have c17b0 : (a0 == 95) = false := beq_eq_false_iff_ne.mpr c17
          have c17b1 : (a0 != 95) = true := bne_iff_ne.mpr c17
          by_cases c18 : a0 = 58
          · rw [if_pos c18] at H
            have c18b0 : (a0 == 58) = true := beq_iff_eq.mpr c18
            have c18b1 : (a0 != 58) = false := bne_eq_false_iff_eq.mpr c18
            clear c18
            obtain rfl := Option.some.inj H
            go_enter Tryd.func34, Tryd.ntmps34
            go_wp2
            go_ret
            exact ⟨by first | rfl | (simp; done) | (simp [*]; done), by repeat (first | exact Drawn0.refl _ | apply Drawn0.step)⟩
          · rw [if_neg c18] at H
            have c18b0 : (a0 == 58) = false := beq_eq_false_iff_ne.mpr c18
            have c18b1 : (a0 != 58) = true := bne_iff_ne.mpr c18
            by_cases c19 : a0 ≥ 48
            · rw [if_pos c19] at H
              have c19b0 : decide (48 ≤ a0) = true := decide_eq_true c19
              clear c19
              by_cases c20 : a0 ≤ 57
              · rw [if_pos c20] at H
                have c20b0 : decide (a0 ≤ 57) = true := decide_eq_true c20
                clear c20
                obtain rfl := Option.some.inj H
                go_enter Tryd.func34, Tryd.ntmps34
                go_wp2
                go_ret
                exact ⟨by first | rfl | (simp; done) | (simp [*]; done), by repeat (first | exact Drawn0.refl _ | apply Drawn0.step)⟩
              · rw [if_neg c20] at H
                have c20b0 : decide (a0 ≤ 57) = false := decide_eq_false c20
                clear c20
                obtain rfl := Option.some.inj H
                go_enter Tryd.func34, Tryd.ntmps34
                go_wp2
                go_ret
                exact ⟨by first | rfl | (simp; done) | (simp [*]; done), by repeat (first | exact Drawn0.refl _ | apply Drawn0.step)⟩
            · rw [if_neg c19] at H
              have c19b0 : decide (48 ≤ a0) = false := decide_eq_false c19
              clear c19
              obtain rfl := Option.some.inj H
              go_enter Tryd.func34, Tryd.ntmps34
              go_wp2
              go_ret
              exact ⟨by first | rfl | (simp; done) | (simp [*]; done), by repeat (first | exact Drawn0.refl _ | apply Drawn0.step)⟩
    · rw [if_neg c15] at H
      have c15b0 : decide (65 ≤ a0) = false := decide_eq_false c15
      clear c15
      by_cases c21 : a0 = 95
      · rw [if_pos c21] at H
        have c21b0 : (a0 == 95) = true := beq_iff_eq.mpr c21
        have c21b1 : (a0 != 95) = false := bne_eq_false_iff_eq.mpr c21
        clear c21
        obtain rfl := Option.some.inj H
        go_enter Tryd.func34, Tryd.ntmps34
        go_wp2
        go_ret
        exact ⟨by first | rfl | (simp; done) | (simp [*]; done), by repeat (first | exact Drawn0.refl _ | apply Drawn0.step)⟩
      · rw [if_neg c21] at H
        have c21b0 : (a0 == 95) = false := beq_eq_false_iff_ne.mpr c21
        have c21b1 : (a0 != 95) = true := bne_iff_ne.mpr c21
        by_cases c22 : a0 = 58
        · rw [if_pos c22] at H
          have c22b0 : (a0 == 58) = true := beq_iff_eq.mpr c22
          have c22b1 : (a0 != 58) = false := bne_eq_false_iff_eq.mpr c22
          clear c22
          obtain rfl := Option.some.inj H
          go_enter Tryd.func34, Tryd.ntmps34
          go_wp2
          go_ret
          exact ⟨by first | rfl | (simp; done) | (simp [*]; done), by repeat (first | exact Drawn0.refl _ | apply Drawn0.step)⟩
        · rw [if_neg c22] at H
          have c22b0 : (a0 == 58) = false := beq_eq_false_iff_ne.mpr c22
          have c22b1 : (a0 != 58) = true := bne_iff_ne.mpr c22
          by_cases c23 : a0 ≥ 48
          · rw [if_pos c23] at H
            have c23b0 : decide (48 ≤ a0) = true := decide_eq_true c23
            clear c23
            by_cases c24 : a0 ≤ 57
            · rw [if_pos c24] at H
              have c24b0 : decide (a0 ≤ 57) = true := decide_eq_true c24
              clear c24
              obtain rfl := Option.some.inj H
              go_enter Tryd.func34, Tryd.ntmps34
              go_wp2
              go_ret
              exact ⟨by first | rfl | (simp; done) | (simp [*]; done), by repeat (first | exact Drawn0.refl _ | apply Drawn0.step)⟩
            · rw [if_neg c24] at H
              have c24b0 : decide (a0 ≤ 57) = false := decide_eq_false c24
              clear c24
              obtain rfl := Option.some.inj H
              go_enter Tryd.func34, Tryd.ntmps34
              go_wp2
              go_ret
              exact ⟨by first | rfl | (simp; done) | (simp [*]; done), by repeat (first | exact Drawn0.refl _ | apply Drawn0.step)⟩
          · rw [if_neg c23] at H
            have c23b0 : decide (48 ≤ a0) = false := decide_eq_false c23
            clear c23
            obtain rfl := Option.some.inj H
            go_enter Tryd.func34, Tryd.ntmps34
            go_wp2
            go_ret
            exact ⟨by first | rfl | (simp; done) | (simp [*]; done), by repeat (first | exact Drawn0.refl _ | apply Drawn0.step)⟩

/-! ### model_IsValidLegacyMetricName: function 25 -/
def model_IsValidLegacyMetricName.f (a0 : ByteArray) : Option (Bool) := if (a0.size : Int) = 0 then (some false) else (none)
set_option maxHeartbeats 8000000 in
set_option maxRecDepth 100000 in
theorem model_IsValidLegacyMetricName.calls (a0 : ByteArray) (r : Bool) (w : World) (h : model_IsValidLegacyMetricName.f a0 = some r) :
    Calls Tryd.prog 25 #[.string a0] w fun e w' => e = .returned (.bool r) ∧ Drawn0 w w' := by
  have H : (if (a0.size : Int) = 0 then (some false) else (none)) = some r := h
  clear h
  by_cases c2 : (a0.size : Int) = 0
  · rw [if_pos c2] at H
    have c2b0 : ((a0.size : Int) == 0) = true := beq_iff_eq.mpr c2
    have c2b1 : ((a0.size : Int) != 0) = false := bne_eq_false_iff_eq.mpr c2
    clear c2
    obtain rfl := Option.some.inj H
    go_enter Tryd.func25, Tryd.ntmps25
    go_wp2
    go_ret
    exact ⟨by first | rfl | (simp; done) | (simp [*]; done), by repeat (first | exact Drawn0.refl _ | apply Drawn0.step)⟩
  · rw [if_neg c2] at H
    exact absurd H (by simp)

-- NOT PRINTED: function 35 (strings_Builder_WriteString)

-- NOT PRINTED: function 36 (strconv_FormatInt_36)

-- NOT PRINTED: function 20 (model_EscapeName)

/-! ### impl_Escape: function 13 -/
-- a contract that was proved by hand
def legR (r pos : Nat) : Bool := (decide (97 ≤ r) && decide (r ≤ 122)) || (decide (65 ≤ r) && decide (r ≤ 90)) || decide (r = 95) || decide (r = 58) || (decide (48 ≤ r) && decide (r ≤ 57) && decide (0 < pos))
theorem legR_f (r pos : Nat) : model_isValidLegacyRune.f (r : Int) (pos : Int) = some (legR r pos) := by
  unfold model_isValidLegacyRune.f legR
  have hp : decide ((pos : Int) > 0) = decide (0 < pos) := decide_eq_decide.2 (by omega)
  rw [hp]
  repeat' split
  all_goals congr 1
  all_goals by_cases h : 0 < pos
  all_goals simp only [h, decide_true, decide_false, Bool.and_true, Bool.and_false, Bool.or_false]
  all_goals simp
  all_goals omega
theorem legacy_rune (r pos : Nat) (w : World) :
    Calls Tryd.prog 34 #[.int .i32 r, .int .i64 pos] w fun e w' => e = .returned (.bool (legR r pos)) ∧ ∃ n, w' = w.drewN n :=
  (model_isValidLegacyRune.calls _ _ _ w (legR_f r pos)).mono fun e w' ⟨h, hd⟩ => ⟨h, hd.out⟩
/-- What is made of a text from place pos on, rune by rune. -/
def escFrom (f : Nat → Nat → List UInt8) (s : ByteArray) : Nat → Nat → List UInt8
  | 0, _ => []
  | fuel + 1, pos => if pos < s.size then f (Utf8.decode s pos).1 pos ++ escFrom f s fuel (pos + (Utf8.decode s pos).2) else []
theorem escFrom_end (f : Nat → Nat → List UInt8) (s : ByteArray) (fuel pos : Nat) (h : ¬ pos < s.size) : escFrom f s fuel pos = [] := by
  cases fuel with
  | zero => rfl
  | succ n => simp [escFrom, h]
theorem escFrom_step {f : Nat → Nat → List UInt8} {s : ByteArray} {fuel pos : Nat} (h : pos < s.size) : escFrom f s (fuel + 1) pos = f (Utf8.decode s pos).1 pos ++ escFrom f s fuel (pos + (Utf8.decode s pos).2) := by simp [escFrom, h]
def dotsP (r pos : Nat) : List UInt8 := if r = 95 then [95, 95] else if r = 46 then [95, 100, 111, 116, 95] else if legR r pos = true then Lib.encodeRune (r : Int) else [95, 95]
set_option maxHeartbeats 4000000 in
set_option maxRecDepth 1000000 in
theorem escape_dots (s : ByteArray) (w : World) (h0 : s.size ≠ 0) (hs : s.size ≤ 2147483647) :
    Calls Tryd.prog 20 #[.string s, .int .i64 2] w fun e w' => e = .returned (.string ⟨(escFrom dotsP s s.size 0).toArray⟩) ∧ Below w.heap.size w w' := by
  have hz0 : ((s.size : Int) == 0) = false := by simpa using h0
  obtain ⟨R, hR⟩ : ∃ R, escFrom dotsP s s.size 0 = R := ⟨_, rfl⟩
  rw [hR]
  have HR := Aside0.mk hR
  clear hR h0
  go_enter Tryd.func20, Tryd.ntmps20
  go_wp2
  -- MARK dots (printed by tools/gen_esc.py)
  go_loopw [] (fun wr => ∃ (pos fuel : Nat) (acc : List UInt8), Aside0 (Lib.IsBuilderF 52 5 w.heap.size w.heap.size (Lib.byteCells acc) wr ∧ wr.heap[w.heap.size + 1]? = some (.stringIter s pos) ∧ Below w.heap.size w wr ∧ acc ++ escFrom dotsP s fuel pos = R ∧ s.size ≤ pos + fuel ∧ acc.length ≤ 8 * pos + 8)) (fun wr => s.size - wr.iterPos (w.heap.size + 1))
  case atStart =>
    refine ⟨0, s.size, [], Aside0.mk ⟨(Lib.IsBuilderF.of (Lib.fresh_isBuilder 52 5 w)).alloc _, ?_, ((Below.refl _ w).alloc (Nat.le_refl _) _).alloc (by simp) _, HR.out, by omega, by simp⟩⟩
    have := World.iter_heap (w.alloc (.cells #[.pointer none, .slice none 0 0] 52)) s 0
    simpa using this
  case round =>
    obtain ⟨pos, fuel, acc, HR⟩ := hrel
    obtain ⟨hI, hit, hbw, hacc, hfu, hal⟩ := HR.out
    clear HR
    have HA := Aside0.mk hacc
    clear hacc
    have hsz : w.heap.size + 1 < wr.heap.size := (Array.getElem?_eq_some_iff.1 hit).1
    by_cases hp : pos < s.size
    · have hnx : ∀ ty, (Instr.next (.pointer (some ⟨w.heap.size + 1, 0, none⟩)) true ty).run Tryd.prog wr = _ := fun ty => Lib.run_next_any_at wr (w.heap.size + 1) s pos ty hit hp
      have hwd := Lib.decode_width_pos s pos hp
      have hd1 := decode_le s pos
      obtain ⟨f, rfl⟩ : ∃ f, fuel = f + 1 := ⟨fuel - 1, by omega⟩
      have hstep := escFrom_step (f := dotsP) (fuel := f) hp
      obtain ⟨⟨r, wd⟩, hq⟩ : ∃ q, Utf8.decode s pos = q := ⟨_, rfl⟩
      rw [hq] at hnx hwd hd1 hstep
      simp only at hnx hwd hd1 hstep
      rw [hstep] at HA
      have hI2 := hI.iterAt hit (pos + wd)
      have hit2 := Lib.iterAt_heap wr (w.heap.size + 1) s pos (pos + wd) hit
      have hbw2 := Lib.below_iterAt hbw (k := w.heap.size + 1) (by omega) s (pos + wd)
      have hsz2 : w.heap.size ≤ (wr.iterAt (w.heap.size + 1) s (pos + wd)).heap.size := by rw [Lib.iterAt_size]; omega
      have HQ := Aside0.mk hq
      have HI := Aside0.mk hI
      have HI2 := Aside0.mk hI2
      have HT := Aside0.mk hit
      have HT2 := Aside0.mk hit2
      have HB2 := Aside0.mk hbw2
      have hacl : (Lib.byteCells acc).length ≤ 8 * pos + 8 := by rw [Lib.byteCells_length]; exact hal
      clear hq hstep hI hI2 hit hit2 hbw hbw2
      by_cases h95 : r = 95
      · subst h95
        go_wp2_with (go_at_call 35; refine (Tryd.sbWriteString w.heap.size w.heap.size (Lib.byteCells acc) ⟨#[95, 95]⟩ _ HI2.out (by show _ + 2 ≤ _; omega) hsz2).mono ?_)
        rintro e W1 ⟨rfl, h1, b1, k1⟩
        have H2 := Aside0.mk (show Lib.IsBuilderF 52 5 w.heap.size w.heap.size (Lib.byteCells (acc ++ [95, 95])) W1 by rw [Lib.byteCells_append]; exact Or.inr h1)
        have HB3 := Aside0.mk (HB2.out.trans b1)
        have HT3 := Aside0.mk (k1.iter HT2.out (by omega))
        have HA3 := Aside0.mk (show (acc ++ [95, 95]) ++ escFrom dotsP s f (pos + wd) = R by rw [← HA.out, List.append_assoc, show dotsP 95 pos = [95, 95] from by unfold dotsP; rw [if_pos rfl]])
        clear h1 b1 k1
        go_wp2
        go_roundw
        case rel => exact ⟨pos + wd, f, acc ++ [95, 95], Aside0.mk ⟨H2.out, HT3.out, HB3.out, HA3.out, by omega, by rw [List.length_append]; simp only [List.length_cons, List.length_nil]; omega⟩⟩
        case measure =>
          simp only [World.iterPos, HT3.out, HT.out]
          omega
      have n95 : ((r : Int) == 95) = false := by simp; omega
      by_cases h46 : r = 46
      · subst h46
        go_wp2_with (go_at_call 35; refine (Tryd.sbWriteString w.heap.size w.heap.size (Lib.byteCells acc) ⟨#[95, 100, 111, 116, 95]⟩ _ HI2.out (by show _ + 5 ≤ _; omega) hsz2).mono ?_)
        rintro e W1 ⟨rfl, h1, b1, k1⟩
        have H2 := Aside0.mk (show Lib.IsBuilderF 52 5 w.heap.size w.heap.size (Lib.byteCells (acc ++ [95, 100, 111, 116, 95])) W1 by rw [Lib.byteCells_append]; exact Or.inr h1)
        have HB3 := Aside0.mk (HB2.out.trans b1)
        have HT3 := Aside0.mk (k1.iter HT2.out (by omega))
        have HA3 := Aside0.mk (show (acc ++ [95, 100, 111, 116, 95]) ++ escFrom dotsP s f (pos + wd) = R by rw [← HA.out, List.append_assoc, show dotsP 46 pos = [95, 100, 111, 116, 95] from by unfold dotsP; rw [if_neg (by omega), if_pos rfl]])
        clear h1 b1 k1
        go_wp2
        go_roundw
        case rel => exact ⟨pos + wd, f, acc ++ [95, 100, 111, 116, 95], Aside0.mk ⟨H2.out, HT3.out, HB3.out, HA3.out, by omega, by rw [List.length_append]; simp only [List.length_cons, List.length_nil]; omega⟩⟩
        case measure =>
          simp only [World.iterPos, HT3.out, HT.out]
          omega
      have n46 : ((r : Int) == 46) = false := by simp; omega
      go_wp2_with fail
      refine (legacy_rune r pos _).mono ?_
      rintro e W0 ⟨rfl, n0, rfl⟩
      replace HI2 := Aside0.mk (show Lib.IsBuilderF 52 5 w.heap.size w.heap.size (Lib.byteCells acc) ((wr.iterAt (w.heap.size + 1) s (pos + wd)).drewN n0) from HI2.out)
      replace HT2 := Aside0.mk (show ((wr.iterAt (w.heap.size + 1) s (pos + wd)).drewN n0).heap[w.heap.size + 1]? = some (.stringIter s (pos + wd)) from HT2.out)
      replace HB2 := Aside0.mk (below_drewN HB2.out n0)
      replace hsz2 : w.heap.size ≤ ((wr.iterAt (w.heap.size + 1) s (pos + wd)).drewN n0).heap.size := hsz2
      cases hL : legR r pos with
      | true =>
        have HL := Aside0.mk hL
        clear hL
        have hl4 : (Lib.encodeRune (r : Int)).length ≤ 4 := by have := Lib.runeCells_le (r : Int); rw [Lib.runeCells_length] at this; exact this.2
        go_wp2_with (go_at_call 31; refine (Tryd.sbWriteRune w.heap.size w.heap.size (Lib.byteCells acc) (r : Int) (by omega) (by omega) _ HI2.out (by omega) hsz2).mono ?_)
        rintro e W1 ⟨rfl, h1, b1, k1⟩
        have H2 := Aside0.mk (show Lib.IsBuilderF 52 5 w.heap.size w.heap.size (Lib.byteCells (acc ++ Lib.encodeRune (r : Int))) W1 by rw [Lib.byteCells_append, Lib.byteCells_encodeRune]; exact Or.inr h1)
        have HB3 := Aside0.mk (HB2.out.trans b1)
        have HT3 := Aside0.mk (k1.iter HT2.out (by omega))
        have HA3 := Aside0.mk (show (acc ++ Lib.encodeRune (r : Int)) ++ escFrom dotsP s f (pos + wd) = R by rw [← HA.out, List.append_assoc, show dotsP r pos = Lib.encodeRune (r : Int) from by unfold dotsP; rw [if_neg h95, if_neg h46, if_pos HL.out]])
        clear h1 b1 k1
        go_wp2
        go_roundw
        case rel => exact ⟨pos + wd, f, acc ++ Lib.encodeRune (r : Int), Aside0.mk ⟨H2.out, HT3.out, HB3.out, HA3.out, by omega, by rw [List.length_append]; omega⟩⟩
        case measure =>
          simp only [World.iterPos, HT3.out, HT.out]
          omega
      | false =>
        have HL := Aside0.mk hL
        clear hL
        go_wp2_with (go_at_call 35; refine (Tryd.sbWriteString w.heap.size w.heap.size (Lib.byteCells acc) ⟨#[95, 95]⟩ _ HI2.out (by show _ + 2 ≤ _; omega) hsz2).mono ?_)
        rintro e W1 ⟨rfl, h1, b1, k1⟩
        have H2 := Aside0.mk (show Lib.IsBuilderF 52 5 w.heap.size w.heap.size (Lib.byteCells (acc ++ [95, 95])) W1 by rw [Lib.byteCells_append]; exact Or.inr h1)
        have HB3 := Aside0.mk (HB2.out.trans b1)
        have HT3 := Aside0.mk (k1.iter HT2.out (by omega))
        have HA3 := Aside0.mk (show (acc ++ [95, 95]) ++ escFrom dotsP s f (pos + wd) = R by rw [← HA.out, List.append_assoc, show dotsP r pos = [95, 95] from by unfold dotsP; rw [if_neg h95, if_neg h46, if_neg (by rw [HL.out]; simp)]])
        clear h1 b1 k1
        go_wp2
        go_roundw
        case rel => exact ⟨pos + wd, f, acc ++ [95, 95], Aside0.mk ⟨H2.out, HT3.out, HB3.out, HA3.out, by omega, by rw [List.length_append]; simp only [List.length_cons, List.length_nil]; omega⟩⟩
        case measure =>
          simp only [World.iterPos, HT3.out, HT.out]
          omega
    · have hnx : ∀ ty, (Instr.next (.pointer (some ⟨w.heap.size + 1, 0, none⟩)) true ty).run Tryd.prog wr = _ := fun ty => Lib.run_next_end_at wr (w.heap.size + 1) s pos ty hit hp
      have HI := Aside0.mk hI
      have HB := Aside0.mk hbw
      clear hI hbw
      go_wp2_with (go_at_call 33; refine (Tryd.sbString w.heap.size w.heap.size acc _ HI.out (by omega)).mono ?_)
      rintro e W1 ⟨rfl, _, b1, _⟩
      have hR := HA.out
      rw [escFrom_end dotsP s fuel pos hp, List.append_nil] at hR
      subst hR
      go_wp2
      go_ret
      exact ⟨rfl, HB.out.trans b1⟩
def impl_Escape.f (a0 : ByteArray) (a1 : Int) : Option ByteArray := if a1 = 2 ∧ a0.size ≠ 0 ∧ a0.size ≤ 2147483647 then some ⟨(escFrom dotsP a0 a0.size 0).toArray⟩ else none
theorem impl_Escape.calls (a0 : ByteArray) (a1 : Int) (r : ByteArray) (w : World) (h : impl_Escape.f a0 a1 = some r) :
    Calls Tryd.prog 13 #[.string a0, .int .i64 a1] w fun e w' => e = .returned (.string r) ∧ Below w.heap.size w w' := by
  unfold impl_Escape.f at h
  by_cases hc : a1 = 2 ∧ a0.size ≠ 0 ∧ a0.size ≤ 2147483647
  · rw [if_pos hc] at h
    injection h with h
    subst h
    obtain ⟨rfl, h0, h1⟩ := hc
    have H := Aside0.mk (escape_dots a0 w h0 h1)
    clear h0 h1
    go_enter Tryd.func13, Tryd.ntmps13
    go_wp2_with fail
    refine H.out.mono ?_
    rintro e w1 ⟨rfl, hb⟩
    go_wp2
    go_ret
    exact ⟨rfl, hb⟩
  · rw [if_neg hc] at h
    cases h


end Go.Proofs.YtnjghpoeokfekaaDoor.Q
