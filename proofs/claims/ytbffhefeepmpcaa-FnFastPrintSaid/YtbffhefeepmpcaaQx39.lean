-- printed by this project's own program wip/tools/mkprint.py (the kit's print.py with hand-proved contracts put in)
import Derived.Test.YtbffhefeepmpcaaQx0
import Derived.Test.YtbffhefeepmpcaaQx28
import Derived.Test.YtbffhefeepmpcaaQx36
import Derived.Test.YtbffhefeepmpcaaQx37
import Derived.Test.YtbffhefeepmpcaaQx38
namespace Go.Proofs.Ytbffhefeepmpcaa.Q
open Go.RowKit Go.Proofs.YtbffhefeepmpcaaW.PrintWords Go.Proofs.YtbffhefeepmpcaaW.PrintLast Go.Proofs.YtbffhefeepmpcaaW.PrintMore
attribute [local go_sem] max2_int min2_int max_two min_two max_three min_three max_four min_four   -- for this text's walks alone
set_option linter.unusedVariables false
set_option linter.unusedSimpArgs false

/-! ### model_labelSetToFastFingerprint: function 70 -/
-- contracts that were proved by hand
def hStep (a : Int) (c : UInt8) : Int := IntKind.u64.wrap ((Go.bits .xor .u64 a (IntKind.u64.wrap (c.toNat : Int))) * 1099511628211)
def hStr (h : Int) (s : ByteArray) : Int := s.data.toList.foldl hStep h
def hByte (a b : Int) : Int := IntKind.u64.wrap ((Go.bits .xor .u64 a (IntKind.u64.wrap b)) * 1099511628211)
theorem hashAdd_ev (h : Int) (s : ByteArray) (hs : s.size ≤ maxLen) : Ev (fun k => model_hashAdd.f k h s) (hStr h s) := by
  have g := Pure.ev_up (L := fun k i => model_hashAdd.l0 k ((s.data.toList.take i).foldl hStep h) s (i : Int)) (fun _ => hStr h s) s.size (Pure.ev_succ (fun k => by
      simp only [model_hashAdd.l0]
      rw [if_neg (by omega), List.take_of_length_le (by simp)]
      rfl)) (fun i hi g => by
    refine Ev.step (fun k => ?_) g
    show model_hashAdd.l0 (k + 1) _ s (i : Int) = _
    simp only [model_hashAdd.l0]
    rw [if_pos (by omega), if_pos (by omega), Pure.wrap_next hi hs]
    have hl : i < s.data.toList.length := by simpa using hi
    have eb : bt s (i : Int) = ((s.data.toList[i]'hl).toNat : Int) := by
      unfold bt
      rw [dif_pos (by simpa using hi)]
      rfl
    rw [eb, List.take_succ_eq_append_getElem hl, List.foldl_append]
    simp only [List.foldl_cons, List.foldl_nil, hStep]) s.size 0 (by omega)
  exact g
def fpOne (x c : ByteArray) : Int := hStr (hByte (hStr 14695981039346656037 x) 255) c
set_option maxRecDepth 100000 in
theorem wrap_u64 (a : Int) : 0 ≤ IntKind.u64.wrap a ∧ IntKind.u64.wrap a < 18446744073709551616 := by
  simp [IntKind.wrap, IntKind.bits, IntKind.signed]
  omega
theorem fold_wrap : ∀ (l : List UInt8) (a : Int), (0 ≤ a ∧ a < 18446744073709551616) → 0 ≤ l.foldl hStep a ∧ l.foldl hStep a < 18446744073709551616
  | [], _, h => h
  | c :: r, a, _ => fold_wrap r (hStep a c) (wrap_u64 _)
theorem fpOne_range (x c : ByteArray) : 0 ≤ fpOne x c ∧ fpOne x c < 18446744073709551616 := fold_wrap _ _ (wrap_u64 _)
def fpN (p : ByteArray × ByteArray) : Nat := (fpOne p.1 p.2).toNat
theorem fpN_lt (p : ByteArray × ByteArray) : fpN p < 18446744073709551616 := by have := fpOne_range p.1 p.2; unfold fpN; omega
def fpFold (l : MapsS.SM) : Nat := l.foldl (fun a p => a ^^^ fpN p) 0
theorem fpFold_snoc (l : MapsS.SM) (p : ByteArray × ByteArray) : fpFold (l ++ [p]) = fpFold l ^^^ fpN p := by simp [fpFold, List.foldl_append]
theorem fpFold_lt (l : MapsS.SM) : fpFold l < 18446744073709551616 := by
  have h : ∀ (l : MapsS.SM) (a : Nat), a < 2 ^ 64 → l.foldl (fun a p => a ^^^ fpN p) a < 2 ^ 64 := by
    intro l
    induction l with
    | nil => intro a h; exact h
    | cons x r ih => intro a h; exact ih _ (Nat.xor_lt_two_pow h (fpN_lt x))
  exact h l 0 (by decide)
theorem fpFold_perm {l1 l2 : MapsS.SM} (h : l1.Perm l2) : fpFold l1 = fpFold l2 := by
  unfold fpFold
  refine h.foldl_eq' (fun x _ y _ z => ?_) 0
  rw [Nat.xor_assoc, Nat.xor_assoc, Nat.xor_comm (fpN x)]
def fastFp (m : MapsS.SM) : Int := if m.length = 0 then 14695981039346656037 else (fpFold m : Int)
set_option maxHeartbeats 1600000 in
set_option maxRecDepth 100000 in
theorem model_labelSetToFastFingerprint.calls (b n : Nat) (m : MapsS.SM) (w : World) (h : LSet w b n m) :
    Calls Try.prog 70 #[.map (some b)] w fun e w' => e = .returned (.int .u64 (fastFp m)) ∧ Below w.heap.size w w' := by
  have e1 := fun ty => h.len_run Try.underlying74 ty
  have H := Aside0.mk h
  have HL := Aside0.mk h.lt
  clear h
  unfold fastFp
  by_cases hm : m.length = 0
  · have c1 : ((m.length : Int) == 0) = true := by simp [hm]
    rw [if_pos hm]
    clear hm
    go_enter Try.func70, Try.ntmps70
    go_wp2
    go_ret
    exact ⟨rfl, Below.refl _ _⟩
  · have c1 : ((m.length : Int) == 0) = false := by simp [hm]
    rw [if_neg hm]
    clear hm
    obtain ⟨q, hq⟩ : ∃ q : Nat, fpFold m = q := ⟨_, rfl⟩
    rw [hq]
    have HQ := Aside0.mk hq
    clear hq
    go_enter Try.func70, Try.ntmps70
    go_wp2_with (at_range; refine MapsS.wpList_range_sm (t := 74) rfl _ rfl Try.underlying74 Try.underlying108 rfl H.out ?_; intro w2 r hr hR hg hsz; have HR := Aside0.mk hR; have HG := Aside0.mk (show r = w.heap.size from hr); have HB := Aside0.mk (pw_below_grown (Below.refl w.heap.size w) none (Nat.le_refl _) hg (by simp)); clear hr hR hg hsz)
    go_frame
    clear e1 c1
    go_loopw [3, 12] (fun v3 _ wr => ∃ seen, v3 = .int .u64 (fpFold seen : Nat) ∧ Aside0 (MapsS.RSM Try.prog 108 107 wr b r n m seen) ∧ Aside0 (Below w.heap.size w wr)) (fun _ _ wr => wr.rangeLeft b r)
    case atStart => exact ⟨[], rfl, HR, HB⟩
    case round =>
      clear HR HB
      obtain ⟨seen, rfl, HR, HB⟩ := hrel
      obtain ⟨s, hs⟩ : ∃ s : Nat, fpFold seen = s := ⟨_, rfl⟩
      have HS := Aside0.mk hs
      rw [hs]
      clear hs
      go_wp2_with (at_next; refine MapsS.wpList_next_sm rfl _ rfl Try.underlying108 Try.underlying107 rfl HR.out ?_ ?_)
      · intro hp
        have hf : s = q := by rw [← HS.out, ← HQ.out]; exact fpFold_perm hp
        clear hp
        subst hf
        go_wp2
        go_ret
        exact ⟨rfl, HB.out⟩
      · intro x c w3 hmem hnot hR hlt hg hsz hen
        have HM := Aside0.mk (H.out.2.2 _ hmem)
        have HR3 := Aside0.mk hR
        have HB3 := Aside0.mk (pw_below_grown HB.out _ (below_size HB.out) hg (fun k hk => by injection hk with hk; have := HG.out; omega))
        have HT := Aside0.mk hlt
        clear hmem hnot hR hg hsz hlt
        have hx : Go.bits .xor .u64 ((s : Nat) : Int) (fpOne x c) = ((fpFold (seen ++ [(x, c)]) : Nat) : Int) := by
          have e0 : fpOne x c = ((fpN (x, c) : Nat) : Int) := by have := fpOne_range x c; simp only [fpN]; omega
          rw [e0, u64_xor_nat _ _ (by rw [← HS.out]; exact fpFold_lt seen) (fpN_lt _), fpFold_snoc, HS.out]
        obtain ⟨k1, hk1⟩ := (hashAdd_ev 14695981039346656037 x HM.out.1).rounds
        obtain ⟨k2, hk2⟩ := (hashAdd_ev (hByte (hStr 14695981039346656037 x) 255) c HM.out.2).rounds
        have hk3 : model_hashAddByte.f (hStr 14695981039346656037 x) 255 = some (hByte (hStr 14695981039346656037 x) 255) := rfl
        unfold fpOne at hx
        generalize hStr (hByte (hStr 14695981039346656037 x) 255) c = v3 at *
        generalize hByte (hStr 14695981039346656037 x) 255 = v2 at *
        generalize hStr 14695981039346656037 x = v1 at *
        have F1 := Aside0.mk hk1
        have F2 := Aside0.mk hk2
        have F3 := Aside0.mk hk3
        have HX := Aside0.mk hx
        clear hk1 hk2 hk3 hx
        go_wp2_with fail
        refine (model_hashNew.calls _ _ rfl).mono ?_
        rintro e w4 ⟨rfl, hD⟩
        have HR4 := Aside0.mk (HR3.out.drawn hD)
        have HB4 := Aside0.mk (below_step HB3.out hD.below)
        have HT4 := Aside0.mk (show w4.rangeLeft b r < wr.rangeLeft b r by obtain ⟨j, rfl⟩ := hD; exact HT.out)
        clear hD hen
        go_wp2_with fail
        refine (model_hashAdd.calls k1 _ _ _ _ F1.out).mono ?_
        rintro e w5 ⟨rfl, hD⟩
        have HR5 := Aside0.mk (HR4.out.drawn hD)
        have HB5 := Aside0.mk (below_step HB4.out hD.below)
        have HT5 := Aside0.mk (show w5.rangeLeft b r < wr.rangeLeft b r by obtain ⟨j, rfl⟩ := hD; exact HT4.out)
        clear hD
        go_wp2_with fail
        refine (model_hashAddByte.calls _ _ _ _ F3.out).mono ?_
        rintro e w6 ⟨rfl, hD⟩
        have HR6 := Aside0.mk (HR5.out.drawn hD)
        have HB6 := Aside0.mk (below_step HB5.out hD.below)
        have HT6 := Aside0.mk (show w6.rangeLeft b r < wr.rangeLeft b r by obtain ⟨j, rfl⟩ := hD; exact HT5.out)
        clear hD
        go_wp2_with fail
        refine (model_hashAdd.calls k2 _ _ _ _ F2.out).mono ?_
        rintro e w7 ⟨rfl, hD⟩
        have HR7 := Aside0.mk (HR6.out.drawn hD)
        have HB7 := Aside0.mk (below_step HB6.out hD.below)
        have HT7 := Aside0.mk (show w7.rangeLeft b r < wr.rangeLeft b r by obtain ⟨j, rfl⟩ := hD; exact HT6.out)
        clear hD
        go_wp2
        go_roundw
        case rel => exact ⟨_, by rw [← HX.out], HR7, HB7⟩
        case measure => exact HT7.out


end Go.Proofs.Ytbffhefeepmpcaa.Q
