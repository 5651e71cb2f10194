/- Duration.String of a time that is not below nothing: its walk. -/
import Derived.Test.YtdookfmcphmlgaaDoorDur
import Derived.OneCell
import Derived.WalkSmall
import Derived.Deep.RegionHeld3
import Derived.Deep.RegionWith
import Derived.Sort.Grow
import Derived.Lib.ItoaLen
namespace Go.Proofs.YtdookfmcphmlgaaDoor.Door
open Go.RowKit Go.Shelf Go.Lib Go.Proofs.YtdookfmcphmlgaaDoor.Q Go.Proofs.YtdookfmcphmlgaaDoor.Pure Go.Proofs.YtdookfmcphmlgaaDoorW.PrintWords Go.Proofs.YtdookfmcphmlgaaDoorW.PrintLast
set_option linter.unusedVariables false
set_option linter.unusedSimpArgs false
def Pow (w : World) : Prop := Lib.TabIs Tryd.prog w "internal/strconv.uint64pow10" .u64 Lib.pow10Tab
theorem below_grow (w : World) (k : Nat) (os : Array Obj) : Below w.heap.size w (Go.Sort.grow (w.drewN k) os) := by
  refine (below_drewN (Below.refl _ w) k).trans ⟨rfl, rfl, rfl, by simp [Go.Sort.grow, World.drewN], fun i hi => ?_⟩
  show ((w.drewN k).heap ++ os)[i]? = _
  exact Array.getElem?_append_left hi
theorem fmt_any (n : Int) (w : World) (h0 : 0 ≤ n) (h1 : n ≤ 9223372036854775807) (hP : Pow w) :
    Calls Tryd.prog 17 #[.int .i64 n, .int .i64 10] w fun e w' => e = .returned (.string ⟨(Lib.itoa n).toArray⟩) ∧ Below w.heap.size w w' :=
  (Tryd.strconv_FormatInt_10 n (by omega) h1 w hP).mono fun e w' ⟨h, k, os, hw⟩ => ⟨h, hw ▸ below_grow w k os⟩
theorem itoa_size (n : Int) (h0 : 0 ≤ n) (h1 : n ≤ 9223372036854775807) : (⟨(Lib.itoa n).toArray⟩ : ByteArray).size ≤ 21 := by
  have h := Lib.itoa_length_le n (by omega) h1
  simpa [ByteArray.size] using h
def durStepB (s : ByteArray) (x m : Int) (ex : Bool) (u : ByteArray) : Int × ByteArray :=
  if ex = true ∧ ¬ x % m = 0 then (x, s) else if 0 < x / m then (x - x / m * m, s ++ (⟨(Lib.itoa (x / m)).toArray⟩ ++ u)) else (x, s)
set_option maxHeartbeats 4000000 in
theorem dur_f (u : ByteArray) (m : Int) (ex : Bool) (x : Int) (s : ByteArray) (Bm Br base : Nat) (w : World) (hm : 1 ≤ m) (hm2 : m ≤ 31536000000) (hx0 : 0 ≤ x) (hx1 : x ≤ 9223372036854) (hu : u.size ≤ 2) (hs : s.size ≤ 1000)
    (h1 : w.heap[Bm]? = some (.cells #[.int .i64 x] 2 (0, 0))) (h2 : w.heap[Br]? = some (.cells #[.string s] 9 (0, 0))) (hne : ¬ Bm = Br) (hb1 : base ≤ Bm) (hb2 : base ≤ Br) (hP : Pow w) :
    Calls Tryd.prog 16 #[.string u, .int .i64 m, .bool ex, .pointer (some ⟨Bm, 0, none⟩), .pointer (some ⟨Br, 0, none⟩)] w fun e w' =>
      e = .returned (.tuple #[]) ∧ w'.heap[Bm]? = some (.cells #[.int .i64 (durStepB s x m ex u).1] 2 (0, 0)) ∧ w'.heap[Br]? = some (.cells #[.string (durStepB s x m ex u).2] 9 (0, 0)) ∧ Below base w w' ∧ w.heap.size ≤ w'.heap.size := by
  have c1 := cell_of_one h1
  have c2 := cell_of_one h2
  have f1 := free_of_one h1
  have f2 := free_of_one h2
  have hlt1 := lt_of_block h1
  have hlt2 := lt_of_block h2
  have H1 := Aside0.mk h1
  have H2 := Aside0.mk h2
  have HP := Aside0.mk hP
  clear h1 h2 hP
  by_cases hc : ex = true ∧ ¬ x % m = 0
  · obtain ⟨he, hr⟩ := hc
    subst he
    have hne0 : ((x % m) != 0) = true := by simpa using hr
    go_enter Tryd.func16, Tryd.ntmps16
    go_wp2
    have hv : durStepB s x m true u = (x, s) := by unfold durStepB; rw [if_pos ⟨rfl, hr⟩]
    rw [hv]
    exact bodyPost_ret (results_none rfl _ _ _) rfl ⟨rfl, H1.out, H2.out, Below.refl _ _, Nat.le_refl _⟩
  · have hg : ex = true → ((x % m) != 0) = false := fun h => by
      have : x % m = 0 := Decidable.byContradiction fun h' => hc ⟨h, h'⟩
      simpa using this
    have hv0 : ∀ p, (if 0 < x / m then (x - x / m * m, s ++ (⟨(Lib.itoa (x / m)).toArray⟩ ++ u)) else (x, s)) = p → durStepB s x m ex u = p := fun p hp => by unfold durStepB; rw [if_neg hc]; exact hp
    obtain ⟨F, hF⟩ : ∃ F : ByteArray, (⟨(Lib.itoa (x / m)).toArray⟩ : ByteArray) = F := ⟨_, rfl⟩
    have hFs : F.size ≤ 21 := by rw [← hF]; exact itoa_size _ (Int.ediv_nonneg hx0 (by omega)) (by have := Int.ediv_le_self m hx0; omega)
    rw [hF] at hv0
    have HF := Aside0.mk (fun (W : World) (hP : Pow W) => hF ▸ fmt_any (x / m) W (Int.ediv_nonneg hx0 (by omega)) (by have := Int.ediv_le_self m hx0; omega) hP)
    clear hF
    have HV := Aside0.mk hv0
    clear hc hv0
    have hd0 : 0 ≤ x / m := Int.ediv_nonneg hx0 (by omega)
    have hd1 : x / m ≤ x := Int.ediv_le_self _ hx0
    have hd2 : x / m * m ≤ x := Int.ediv_mul_le _ (by omega)
    have hd3 : 0 ≤ x / m * m := Int.mul_nonneg hd0 (by omega)
    have hd9 : x / m ≤ 9223372036854775807 := by omega
    by_cases hp : 0 < x / m
    · have hv := HV.out _ (if_pos hp)
      rw [hv]
      clear hv HV
      cases ex with
      | true =>
        have hg1 := hg rfl
        clear hg
        have hcat1 : ∀ W, (Op.stringOp .add F u).run Tryd.prog W = .ok (.string (F ++ u)) W := fun W => run_string_add_sum W _ _ (by omega)
        have hcat2 : ∀ W, (Op.stringOp .add s (F ++ u)).run Tryd.prog W = .ok (.string (s ++ (F ++ u))) W := fun W => run_string_add_sum W _ _ (by rw [ByteArray.size_append]; omega)
        go_enter Tryd.func16, Tryd.ntmps16
        go_wp2
        go_region_with (go_at_call 17; refine (HF.out _ ?_).mono ?_; (exact HP.out); rintro e w1 ⟨rfl, hb1⟩; have c2' := (hb1.cell hlt2).trans c2; have f2' := (hb1.frozen hlt2).trans f2; have c1' := (hb1.cell hlt1).trans c1; have f1' := (hb1.frozen hlt1).trans f1; have HB1 := Aside0.mk hb1; clear hb1)
        all_goals
          have c1x := (World.cell?_setCell_other w1 ⟨Br, 0, none⟩ ⟨Bm, 0, none⟩ (.string (s ++ (F ++ u))) (by intro h; exact hne (congrArg Addr.block h).symm)).trans c1'
          go_wp2
          go_end0
          have g1 : w1.heap[Bm]? = some (.cells #[.int .i64 x] 2 (0, 0)) := (HB1.out.block Bm hlt1).trans H1.out
          have g2 : w1.heap[Br]? = some (.cells #[.string s] 9 (0, 0)) := (HB1.out.block Br hlt2).trans H2.out
          have hsz : w.heap.size ≤ w1.heap.size := HB1.out.size
          refine ⟨rfl, one_setCell ((Below.heap_setCell _ _ _ _ hne).trans g1), (Below.heap_setCell _ _ _ _ (fun h => hne h.symm)).trans (one_setCell g2), ?_, ?_⟩
          · have hb0 : Below w.heap.size w w1 := ⟨HB1.out.os, HB1.out.tape, HB1.out.output, HB1.out.size, HB1.out.block⟩
            have hbb : Below base w w1 := Below.mono hb0 (by omega)
            exact (hbb.setCell hb2 _).setCell hb1 _
          · simpa using hsz
      | false =>
        clear hg
        have hcat1 : ∀ W, (Op.stringOp .add F u).run Tryd.prog W = .ok (.string (F ++ u)) W := fun W => run_string_add_sum W _ _ (by omega)
        have hcat2 : ∀ W, (Op.stringOp .add s (F ++ u)).run Tryd.prog W = .ok (.string (s ++ (F ++ u))) W := fun W => run_string_add_sum W _ _ (by rw [ByteArray.size_append]; omega)
        go_enter Tryd.func16, Tryd.ntmps16
        go_wp2
        go_region_with (go_at_call 17; refine (HF.out _ ?_).mono ?_; (exact HP.out); rintro e w1 ⟨rfl, hb1⟩; have c2' := (hb1.cell hlt2).trans c2; have f2' := (hb1.frozen hlt2).trans f2; have c1' := (hb1.cell hlt1).trans c1; have f1' := (hb1.frozen hlt1).trans f1; have HB1 := Aside0.mk hb1; clear hb1)
        all_goals
          have c1x := (World.cell?_setCell_other w1 ⟨Br, 0, none⟩ ⟨Bm, 0, none⟩ (.string (s ++ (F ++ u))) (by intro h; exact hne (congrArg Addr.block h).symm)).trans c1'
          go_wp2
          go_end0
          have g1 : w1.heap[Bm]? = some (.cells #[.int .i64 x] 2 (0, 0)) := (HB1.out.block Bm hlt1).trans H1.out
          have g2 : w1.heap[Br]? = some (.cells #[.string s] 9 (0, 0)) := (HB1.out.block Br hlt2).trans H2.out
          have hsz : w.heap.size ≤ w1.heap.size := HB1.out.size
          refine ⟨rfl, one_setCell ((Below.heap_setCell _ _ _ _ hne).trans g1), (Below.heap_setCell _ _ _ _ (fun h => hne h.symm)).trans (one_setCell g2), ?_, ?_⟩
          · have hb0 : Below w.heap.size w w1 := ⟨HB1.out.os, HB1.out.tape, HB1.out.output, HB1.out.size, HB1.out.block⟩
            have hbb : Below base w w1 := Below.mono hb0 (by omega)
            exact (hbb.setCell hb2 _).setCell hb1 _
          · simpa using hsz
    · have hv := HV.out _ (if_neg hp)
      rw [hv]
      clear hv HV
      have hp1 : ¬ x / m > 0 := hp
      have hp2 := decide_eq_false hp1
      cases ex with
      | true =>
        have hg1 := hg rfl
        clear hg
        go_enter Tryd.func16, Tryd.ntmps16
        go_wp2
        go_end0
        exact ⟨rfl, H1.out, H2.out, Below.refl _ _, Nat.le_refl _⟩
      | false =>
        clear hg
        go_enter Tryd.func16, Tryd.ntmps16
        go_wp2
        go_end0
        exact ⟨rfl, H1.out, H2.out, Below.refl _ _, Nat.le_refl _⟩
theorem durStepB_bounds {s : ByteArray} {x m : Int} {ex : Bool} {u : ByteArray} (hm : 1 ≤ m) (hx0 : 0 ≤ x) (hx1 : x ≤ 9223372036854) (hu : u.size ≤ 2) : 0 ≤ (durStepB s x m ex u).1 ∧ (durStepB s x m ex u).1 ≤ x ∧ (durStepB s x m ex u).2.size ≤ s.size + 23 := by
  have hd2 : x / m * m ≤ x := Int.ediv_mul_le _ (by omega)
  have hd3 : 0 ≤ x / m * m := Int.mul_nonneg (Int.ediv_nonneg hx0 (by omega)) (by omega)
  unfold durStepB
  split
  · exact ⟨hx0, Int.le_refl _, by simp⟩
  · split
    · have hz := itoa_size (x / m) (Int.ediv_nonneg hx0 (by omega)) (by have := Int.ediv_le_self m hx0; omega)
      refine ⟨by simp only; omega, by simp only; omega, ?_⟩
      simp only [ByteArray.size_append]
      omega
    · exact ⟨hx0, Int.le_refl _, by simp⟩
/-- The text of a time of x milliseconds. -/
def durSteps : List (ByteArray × Int × Bool) → ByteArray × Int → ByteArray × Int
  | [], p => p
  | (u, m, ex) :: r, p => durSteps r ((durStepB p.1 p.2 m ex u).2, (durStepB p.1 p.2 m ex u).1)
def durUnits : List (ByteArray × Int × Bool) := [(⟨#[121]⟩, 31536000000, true), (⟨#[119]⟩, 604800000, true), (⟨#[100]⟩, 86400000, false), (⟨#[104]⟩, 3600000, false), (⟨#[109]⟩, 60000, false), (⟨#[115]⟩, 1000, false), (⟨#[109, 115]⟩, 1, false)]
def durText (n : Int) : ByteArray := if n / 1000000 = 0 then ⟨#[48, 115]⟩ else (durSteps durUnits (⟨#[]⟩, n / 1000000)).1
def DurF (s : ByteArray) (x m : Int) (ex : Bool) (u : ByteArray) (Bm Br base : Nat) (w : World) (e : Ending) (w' : World) : Prop :=
  ∃ x' s', durStepB s x m ex u = (x', s') ∧ e = .returned (.tuple #[]) ∧ 0 ≤ x' ∧ x' ≤ 9223372036854 ∧ s'.size ≤ s.size + 23 ∧ w'.heap[Bm]? = some (.cells #[.int .i64 x'] 2 (0, 0)) ∧ w'.heap[Br]? = some (.cells #[.string s'] 9 (0, 0)) ∧ Below base w w' ∧ Pow w'
theorem Pow.below {w w' : World} (h : Pow w) (hb : Below w.heap.size w w') : Pow w' := by
  have hg : Tryd.prog.globalNamed "internal/strconv.uint64pow10" = some 2 := by kernel_rfl
  refine var?_below hb hg ?_ h
  rcases Nat.lt_or_ge 2 w.heap.size with h' | h'
  · exact h'
  · exfalso
    unfold Pow Lib.TabIs World.var? at h
    simp [hg, Array.getElem?_eq_none h'] at h
theorem dur_F (u : ByteArray) (m : Int) (ex : Bool) (x : Int) (s : ByteArray) (Bm Br base : Nat) (w0 w : World) (hm : 1 ≤ m) (hm2 : m ≤ 31536000000) (hx0 : 0 ≤ x) (hx1 : x ≤ 9223372036854) (hu : u.size ≤ 2) (hs : s.size ≤ 1000)
    (h1 : w.heap[Bm]? = some (.cells #[.int .i64 x] 2 (0, 0))) (h2 : w.heap[Br]? = some (.cells #[.string s] 9 (0, 0))) (hne : ¬ Bm = Br) (hb1 : base ≤ Bm) (hb2 : base ≤ Br) (hP : Pow w0) (hw0 : w0.heap.size = base) (hb : Below base w0 w) :
    Calls Tryd.prog 16 #[.string u, .int .i64 m, .bool ex, .pointer (some ⟨Bm, 0, none⟩), .pointer (some ⟨Br, 0, none⟩)] w fun e w' => DurF s x m ex u Bm Br base w0 e w' := by
  refine (dur_f u m ex x s Bm Br base w hm hm2 hx0 hx1 hu hs h1 h2 hne hb1 hb2 (hP.below (hw0 ▸ hb))).mono ?_
  rintro e w' ⟨he, g1, g2, g3, g4⟩
  obtain ⟨q1, q2, q3⟩ := durStepB_bounds (s := s) (ex := ex) hm hx0 hx1 hu
  exact ⟨(durStepB s x m ex u).1, (durStepB s x m ex u).2, rfl, he, q1, Int.le_trans q2 hx1, q3, g1, g2, hb.trans g3, hP.below (hw0 ▸ hb.trans g3)⟩
set_option maxHeartbeats 4000000 in
theorem dur_String (n : Int) (w : World) (h0 : 0 ≤ n) (h1 : n ≤ 9223372036854775807) (hP : Pow w) :
    Calls Tryd.prog 11 #[.int .i64 n] w fun e w' => e = .returned (.string (durText n)) ∧ Below w.heap.size w w' := by
  have HP := Aside0.mk hP
  clear hP
  have hd0 : 0 ≤ n / 1000000 := by omega
  have hd1 : n / 1000000 ≤ 9223372036854 := by omega
  by_cases hz : n / 1000000 = 0
  · have hv : durText n = ⟨#[48, 115]⟩ := by unfold durText; rw [if_pos hz]
    rw [hv]
    have hb : ((n / 1000000) == 0) = true := by simpa using hz
    clear hz hv
    go_enter Tryd.func11, Tryd.ntmps11
    go_wp2
    go_ret
    exact ⟨rfl, below_alloc (below_alloc (Below.refl _ _) _) _⟩
  · have hv : durText n = (durSteps durUnits (⟨#[]⟩, n / 1000000)).1 := by unfold durText; rw [if_neg hz]
    have hb : ((n / 1000000) == 0) = false := by simpa using hz
    have hmf : ∀ (fn : Fn) (first cap : Array Value) (w : World), (Instr.makeFunc fn first cap).run Tryd.prog w = .ok (.func fn first cap) w := fun _ _ _ _ => rfl
    rw [hv]
    clear hz hv
    generalize hx : n / 1000000 = x at hd0 hd1 hb
    have HX := Aside0.mk hx
    obtain ⟨T, hT⟩ : ∃ T, (durSteps durUnits (⟨#[]⟩, x)).1 = T := ⟨_, rfl⟩
    rw [hT]
    have HT := Aside0.mk hT
    have hW1 : ((w.alloc (.cells #[.int .i64 x] 2 (0, 0))).alloc (.cells #[.string ⟨#[]⟩] 9 (0, 0))).heap[w.heap.size]? = some (.cells #[.int .i64 x] 2 (0, 0)) := (Below.heap_alloc _ _ _ (by simp)).trans (heap_alloc_new w _)
    have hW2 : ((w.alloc (.cells #[.int .i64 x] 2 (0, 0))).alloc (.cells #[.string ⟨#[]⟩] 9 (0, 0))).heap[w.heap.size + 1]? = some (.cells #[.string ⟨#[]⟩] 9 (0, 0)) := by have h := heap_alloc_new (w.alloc (.cells #[.int .i64 x] 2 (0, 0))) (.cells #[.string ⟨#[]⟩] 9 (0, 0)); simpa using h
    have G1 := Aside0.mk hW1
    have G2 := Aside0.mk hW2
    clear hW1 hW2 hT
    go_enter Tryd.func11, Tryd.ntmps11
    go_wp2_with fail
    refine (dur_F ⟨#[121]⟩ 31536000000 true x ⟨#[]⟩ w.heap.size (w.heap.size + 1) w.heap.size w _ (by omega) (by omega) hd0 hd1 (by decide) (by decide) G1.out G2.out (by omega) (by omega) (by omega) HP.out rfl (below_alloc (below_alloc (Below.refl _ _) _) _)).mono ?_
    rintro e w1 ⟨x1, s1, e1, rfl, b1, c1, z1, k1, l1, m1, p1⟩
    have E1 := Aside0.mk e1
    have A1 := Aside0.mk (show 0 ≤ x1 ∧ x1 ≤ 9223372036854 ∧ s1.size ≤ 23 from ⟨b1, c1, by have h0 : (⟨#[]⟩ : ByteArray).size = 0 := rfl; omega⟩)
    have B1 := Aside0.mk (And.intro k1 (And.intro l1 m1))
    clear e1 b1 c1 z1 k1 l1 m1 p1
    go_wp2_with fail
    refine (dur_F ⟨#[119]⟩ 604800000 true x1 s1 w.heap.size (w.heap.size + 1) w.heap.size w _ (by omega) (by omega) A1.out.1 A1.out.2.1 (by decide) (by have := A1.out; omega) B1.out.1 B1.out.2.1 (by omega) (by omega) (by omega) HP.out rfl B1.out.2.2).mono ?_
    rintro e w2 ⟨x2, s2, e2, rfl, b2, c2, z2, k2, l2, m2, p2⟩
    have E2 := Aside0.mk e2
    have A2 := Aside0.mk (show 0 ≤ x2 ∧ x2 ≤ 9223372036854 ∧ s2.size ≤ 46 from ⟨b2, c2, by have := A1.out; omega⟩)
    have B2 := Aside0.mk (And.intro k2 (And.intro l2 m2))
    clear e2 b2 c2 z2 k2 l2 m2 p2
    go_wp2_with fail
    refine (dur_F ⟨#[100]⟩ 86400000 false x2 s2 w.heap.size (w.heap.size + 1) w.heap.size w _ (by omega) (by omega) A2.out.1 A2.out.2.1 (by decide) (by have := A2.out; omega) B2.out.1 B2.out.2.1 (by omega) (by omega) (by omega) HP.out rfl B2.out.2.2).mono ?_
    rintro e w3 ⟨x3, s3, e3, rfl, b3, c3, z3, k3, l3, m3, p3⟩
    have E3 := Aside0.mk e3
    have A3 := Aside0.mk (show 0 ≤ x3 ∧ x3 ≤ 9223372036854 ∧ s3.size ≤ 69 from ⟨b3, c3, by have := A2.out; omega⟩)
    have B3 := Aside0.mk (And.intro k3 (And.intro l3 m3))
    clear e3 b3 c3 z3 k3 l3 m3 p3
    go_wp2_with fail
    refine (dur_F ⟨#[104]⟩ 3600000 false x3 s3 w.heap.size (w.heap.size + 1) w.heap.size w _ (by omega) (by omega) A3.out.1 A3.out.2.1 (by decide) (by have := A3.out; omega) B3.out.1 B3.out.2.1 (by omega) (by omega) (by omega) HP.out rfl B3.out.2.2).mono ?_
    rintro e w4 ⟨x4, s4, e4, rfl, b4, c4, z4, k4, l4, m4, p4⟩
    have E4 := Aside0.mk e4
    have A4 := Aside0.mk (show 0 ≤ x4 ∧ x4 ≤ 9223372036854 ∧ s4.size ≤ 92 from ⟨b4, c4, by have := A3.out; omega⟩)
    have B4 := Aside0.mk (And.intro k4 (And.intro l4 m4))
    clear e4 b4 c4 z4 k4 l4 m4 p4
    go_wp2_with fail
    refine (dur_F ⟨#[109]⟩ 60000 false x4 s4 w.heap.size (w.heap.size + 1) w.heap.size w _ (by omega) (by omega) A4.out.1 A4.out.2.1 (by decide) (by have := A4.out; omega) B4.out.1 B4.out.2.1 (by omega) (by omega) (by omega) HP.out rfl B4.out.2.2).mono ?_
    rintro e w5 ⟨x5, s5, e5, rfl, b5, c5, z5, k5, l5, m5, p5⟩
    have E5 := Aside0.mk e5
    have A5 := Aside0.mk (show 0 ≤ x5 ∧ x5 ≤ 9223372036854 ∧ s5.size ≤ 115 from ⟨b5, c5, by have := A4.out; omega⟩)
    have B5 := Aside0.mk (And.intro k5 (And.intro l5 m5))
    clear e5 b5 c5 z5 k5 l5 m5 p5
    go_wp2_with fail
    refine (dur_F ⟨#[115]⟩ 1000 false x5 s5 w.heap.size (w.heap.size + 1) w.heap.size w _ (by omega) (by omega) A5.out.1 A5.out.2.1 (by decide) (by have := A5.out; omega) B5.out.1 B5.out.2.1 (by omega) (by omega) (by omega) HP.out rfl B5.out.2.2).mono ?_
    rintro e w6 ⟨x6, s6, e6, rfl, b6, c6, z6, k6, l6, m6, p6⟩
    have E6 := Aside0.mk e6
    have A6 := Aside0.mk (show 0 ≤ x6 ∧ x6 ≤ 9223372036854 ∧ s6.size ≤ 138 from ⟨b6, c6, by have := A5.out; omega⟩)
    have B6 := Aside0.mk (And.intro k6 (And.intro l6 m6))
    clear e6 b6 c6 z6 k6 l6 m6 p6
    go_wp2_with fail
    refine (dur_F ⟨#[109, 115]⟩ 1 false x6 s6 w.heap.size (w.heap.size + 1) w.heap.size w _ (by omega) (by omega) A6.out.1 A6.out.2.1 (by decide) (by have := A6.out; omega) B6.out.1 B6.out.2.1 (by omega) (by omega) (by omega) HP.out rfl B6.out.2.2).mono ?_
    rintro e w7 ⟨x7, s7, e7, rfl, b7, c7, z7, k7, l7, m7, p7⟩
    have E7 := Aside0.mk e7
    have A7 := Aside0.mk (show 0 ≤ x7 ∧ x7 ≤ 9223372036854 ∧ s7.size ≤ 161 from ⟨b7, c7, by have := A6.out; omega⟩)
    have B7 := Aside0.mk (And.intro k7 (And.intro l7 m7))
    clear e7 b7 c7 z7 k7 l7 m7 p7
    have hc := cell_of_one B7.out.2.1
    have hs7 : s7.size ≤ 161 := A7.out.2.2
    have hTs : T = s7 := by
      rw [← HT.out]
      unfold durUnits
      simp only [durSteps, E1.out, E2.out, E3.out, E4.out, E5.out, E6.out, E7.out]
    subst hTs
    go_wp2
    go_ret
    exact ⟨by rw [show ((⟨#[]⟩ : ByteArray) ++ T) = T from by apply ByteArray.ext; simp]; rfl, B7.out.2.2⟩
end Go.Proofs.YtdookfmcphmlgaaDoor.Door
