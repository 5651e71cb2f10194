/- The law FnPairsText over plain lists. -/
import Derived.Test.YtbffhefeepmpcaaQx22
import Derived.Test.YtbffhefeepmpcaaFits1
import Derived.Test.YtbffhefeepmpcaaSpecSet
import Derived.Test.YtbffhefeepmpcaaJoins
set_option linter.unusedVariables false
set_option linter.unusedSimpArgs false
namespace Go.Proofs.Ytbffhefeepmpcaa.Pure
open Go.RowKit Go.Proofs.Ytbffhefeepmpcaa.Q Go.Proofs.YtbffhefeepmpcaaW.PrintWords Go.Proofs.YtbffhefeepmpcaaW.PrintLast
abbrev PairI := S48
def toTP (p : PairI) : S120 := ⟨p.f0, p.f1⟩
def oneP (p : PairI) : ByteArray := (p.f0 ++ (⟨#[61]⟩ : ByteArray)) ++ p.f1
def sepP : ByteArray := ⟨#[44, 32]⟩
theorem get_PI {l : List PairI} {i : Nat} (h : i < l.length) : rd_T48 l (i : Int) = l[i] := by
  simp [rd_T48, h]
theorem inPairs_ev (l : List PairI) (hl : l.length ≤ 4000000000) : Ev (fun k => impl_inPairs.f k l) (l.map toTP) := by
  unfold impl_inPairs.f
  have g := ev_up (L := fun k i => impl_inPairs.l0 k ((l.take i).map toTP) l (l.length : Int) (i : Int)) (fun _ => l.map toTP) l.length (ev_succ fun k => by
      simp only [impl_inPairs.l0]
      rw [if_neg (by omega), List.take_of_length_le (Nat.le_refl _)]) (fun i hi g => by
    refine Ev.step (fun k => ?_) g
    show impl_inPairs.l0 (k + 1) _ _ _ _ = _
    simp only [impl_inPairs.l0, List.length_map]
    rw [if_pos (by omega), if_pos (by omega), if_pos (by omega), if_pos (by rw [List.length_take]; omega), get_PI hi, wrap_next hi (by unfold maxLen; omega), List.take_succ_eq_append_getElem hi, List.map_append]
    rfl) l.length 0 (by omega)
  exact g
def tot (l : List PairI) : Nat := (l.map fun p => p.f0.size + p.f1.size + 3).sum
theorem tot_cons (p : PairI) (r : List PairI) : tot (p :: r) = p.f0.size + p.f1.size + 3 + tot r := by simp [tot]
theorem tot_le : ∀ l : List PairI, l.all fits2 = true → tot l ≤ l.length * 4294967297
  | [], _ => by simp [tot]
  | p :: r, h => by
    rw [List.all_cons, Bool.and_eq_true] at h
    have ih := tot_le r h.2
    have hp := h.1
    unfold fits2 at hp
    rw [tot_cons, List.length_cons]
    split at hp
    · cases hp
    · split at hp
      · cases hp
      · omega
theorem pairsL_len : ∀ l : List PairI, (pairsL (l.map toTP)).length ≤ tot l
  | [] => by simp [pairsL]
  | p :: r => by
    have ih := pairsL_len r
    rw [List.map_cons, pairsL_cons, tot_cons]
    simp only [List.length_append, List.length_cons, List.length_nil]
    have e0 : (toTP p).f0.data.toList.length = p.f0.size := rfl
    have e1 : (toTP p).f1.data.toList.length = p.f1.size := rfl
    rw [e0, e1]
    split <;> simp <;> omega
theorem bl_one (p : PairI) : bl (oneP p) = bl p.f0 ++ [61] ++ bl p.f1 := by unfold oneP; rw [bl_append, bl_append]
theorem join_pairs : ∀ l : List PairI, Go.Lib.join ((l.map oneP).map bl) (bl sepP) = pairsL (l.map toTP)
  | [] => rfl
  | [p] => by
    rw [List.map_cons, List.map_nil, List.map_cons, List.map_nil, Go.Lib.join_one, List.map_cons, List.map_nil, pairsL_cons, bl_one]
    simp [pairsL, toTP, bl]
  | p :: q :: r => by
    have ih := join_pairs (q :: r)
    show Go.Lib.join (bl (oneP p) :: ((q :: r).map oneP).map bl) (bl sepP) = pairsL (toTP p :: (q :: r).map toTP)
    rw [Go.Lib.join_cons, pairsL_cons, ← ih, bl_one, if_neg (by simp)]
    have e : Go.Lib.joinTail (bl sepP) (((q :: r).map oneP).map bl) = bl sepP ++ Go.Lib.join (((q :: r).map oneP).map bl) (bl sepP) := by
      rw [List.map_cons, List.map_cons, Go.Lib.join_cons]
      simp [Go.Lib.joinTail]
    rw [e]
    simp [toTP, bl, sepP, List.append_assoc]
theorem sizes_one : ∀ l : List PairI, sizes (l.map oneP) ≤ tot l
  | [] => by simp [sizes, tot]
  | p :: r => by
    have ih := sizes_one r
    rw [tot_cons]
    have e : sizes ((p :: r).map oneP) = (oneP p).size + sizes (r.map oneP) := by simp [sizes]
    have e2 : (oneP p).size = p.f0.size + 1 + p.f1.size := by unfold oneP; rw [ByteArray.size_append, ByteArray.size_append]; rfl
    rw [e, e2]
    omega
theorem get_SP {l : List PairI} {i : Nat} (h : i < l.length) : rd_T50 (l.map toSP) (i : Int) = toSP l[i] := by
  simp [rd_T50, h]
theorem specPairs_ev (l : List PairI) (hl : l.length ≤ 300) (hf : l.all fits2 = true) : Ev (fun k => spec_PairsText.f k (l.map toSP)) (joined (l.map oneP) sepP) := by
  have ht := tot_le l hf
  have hs := sizes_one l
  unfold spec_PairsText.f
  rw [List.length_map]
  have g := ev_up (L := fun k i => spec_PairsText.l0 k (l.map toSP) ((l.take i).map oneP) (l.length : Int) (i : Int)) (fun _ => joined (l.map oneP) sepP) l.length (by
      refine Ev.step (f := fun k => (spec_Joined.f k (l.map oneP) sepP).bind fun t => some t) (fun k => ?_) (Ev.bind (specJoined_ev (l.map oneP) sepP (by rw [List.length_map]; unfold maxLen; omega) ?_) (Ev.now _))
      · simp only [spec_PairsText.l0]
        rw [if_neg (by omega), List.take_of_length_le (Nat.le_refl _)]
        rfl
      · rw [List.length_map]
        have : sepP.size = 2 := rfl
        rw [this]
        omega) (fun i hi g => by
    have hm := List.all_eq_true.1 hf l[i] (List.getElem_mem hi)
    unfold fits2 at hm
    split at hm
    · cases hm
    · split at hm
      · cases hm
      · rename_i h1 h2
        refine Ev.step (fun k => ?_) g
        show spec_PairsText.l0 (k + 1) _ _ _ _ = _
        have hc : (l.take (i + 1)).map oneP = (l.take i).map oneP ++ [oneP l[i]] := by rw [List.take_succ_eq_append_getElem hi, List.map_append]; rfl
        simp only [spec_PairsText.l0, List.length_map]
        rw [get_SP hi]
        have e0 : (toSP l[i]).f0 = l[i].f0 := rfl
        have e1 : (toSP l[i]).f1 = l[i].f1 := rfl
        rw [e0, e1, if_pos (by omega), if_pos (by omega), if_pos (by omega), if_pos (by omega), if_pos (by rw [ByteArray.size_append]; have : (⟨#[61]⟩ : ByteArray).size = 1 := rfl; omega), if_pos (by rw [List.length_take]; omega), wrap_next hi (by unfold maxLen; omega), hc]
        rfl) l.length 0 (by omega)
  exact g
theorem implPairs_ev (l : List PairI) (hl : l.length ≤ 300) (hf : l.all fits2 = true) : Ev (fun k => impl_PairsText.f k l) (joined (l.map oneP) sepP) := by
  have ht := tot_le l hf
  have hp := pairsL_len l
  unfold impl_PairsText.f
  refine Ev.bind (inPairs_ev l (by omega)) ?_
  have e : template_Pairs_String.f (l.map toTP) = some (joined (l.map oneP) sepP) := by
    unfold template_Pairs_String.f
    rw [if_pos ⟨by rw [List.length_map]; unfold maxLen; omega, by omega⟩]
    refine congrArg some (ba_of ?_)
    rw [bl_joined, join_pairs]
  rw [e]
  exact Ev.now _
theorem FnPairsText : laws_FnPairsText.Pure := by
  intro l ⟨hl, hk⟩
  refine Ev.rounds ?_
  unfold laws_FnPairsText.f
  refine Ev.bind (zzFits1_ev l hl) ?_
  cases hz : (if (l.length : Int) > 2147483647 then false else l.all fits2)
  · simp only [Bool.false_eq_true, if_false]
    exact Ev.now _
  obtain ⟨nl, hf⟩ := fits1_len hz
  simp only [if_true, laws_much.f, Option.bind_some]
  by_cases h1 : (l.length : Int) > 300
  · simp only [decide_eq_true h1, if_true]
    exact Ev.now _
  simp only [decide_eq_false h1, Bool.false_eq_true, if_false]
  refine Ev.bind (implPairs_ev l (by omega) hf) (Ev.bind (pairs_ev l (by omega)) (Ev.bind (specPairs_ev l (by omega) hf) ?_))
  simp only [if_true]
  refine Ev.bind (implPairs_ev [(⟨(⟨#[97]⟩ : ByteArray), (⟨#[98]⟩ : ByteArray)⟩ : PairI), (⟨(⟨#[99]⟩ : ByteArray), (⟨#[]⟩ : ByteArray)⟩ : PairI)] (by simp) (by decide +kernel)) ?_
  have e : joined ([(⟨(⟨#[97]⟩ : ByteArray), (⟨#[98]⟩ : ByteArray)⟩ : PairI), (⟨(⟨#[99]⟩ : ByteArray), (⟨#[]⟩ : ByteArray)⟩ : PairI)].map oneP) sepP = ⟨#[97, 61, 98, 44, 32, 99, 61]⟩ := by decide +kernel
  rw [e]
  have e5 : ((⟨#[97, 61, 98, 44, 32, 99, 61]⟩ : ByteArray).toList == ([97, 61, 98, 44, 32, 99, 61] : List UInt8)) = true := by first | decide +kernel | (rw [Lib.toList_data]; rfl)
  rw [e5]
  exact Ev.now _
end Go.Proofs.Ytbffhefeepmpcaa.Pure
