-- printed by this project's own program wip/tools/mkprint.py (the kit's print.py with hand-proved contracts put in)
/- The row of laws_FnClassicEscapes: for every input the law returns true, and its arguments read as before. -/
import Derived.Test.YtbcgcfdpblhddaaDoorRows
import Derived.Test.YtbcgcfdpblhddaaDoorCards
import Derived.Test.YtbcgcfdpblhddaaDoorTie
import Derived.Lay
import Derived.LaidOnce
import Derived.SevenTiedAt
import Derived.Lib.LaidU8
import Derived.Test.YtbcgcfdpblhddaaDoorQx24
import Derived.Test.YtbcgcfdpblhddaaDoorRead
import Derived.Test.YtbcgcfdpblhddaaDoorPureFnClassicEscapes
import Derived.Test.YtbcgcfdpblhddaaDoorPay
import Derived.WalkKit
import Derived.ProofKit
import Derived.OpenShut
import Derived.ShutString
import Derived.ChangeOld
import Derived.Below
import Derived.SizedLaws
namespace Go.Proofs.YtbcgcfdpblhddaaDoor.fnClassicEscapes
open Go.ChangeShapes Go.WideShapes Go.ChangeAt Go.RowKit Go.Proofs.YtbcgcfdpblhddaaDoor.Read Go.Proofs.YtbcgcfdpblhddaaDoor.Q Go.Proofs.YtbcgcfdpblhddaaDoorW.PrintWords
open Go.ChangeMaps (open_string shut_string)
set_option linter.unusedVariables false
theorem own : ownKnob Tryd.prog.godebug = none := by kernel_rfl
theorem laidOut : laidOutB Tryd.prog = true := by kernel_rfl
set_option maxRecDepth 100000 in
theorem lifted (os : Os) (started : os.Started) (H : Type) (enc : TypeId × Value → H) :
    ReturnsInHanded {} Tryd.checked os 3 .any (fun w args => (Rows.fnClassicEscapesSpec.pre enc Tryd.prog Tryd.f3 [] false w args ∧ laidMetH Tryd.prog Rows.fnClassicEscapesRow.laid w) ∧ sizedMet enc Tryd.prog Tryd.f3 (OpenSpec.ofChange Rows.fnClassicEscapesSpec) false w args)
      (Rows.fnClassicEscapesSpec.post enc Tryd.prog Tryd.f3 false true false false) := by
  refine returnsInHanded_of_change_and (C := Tryd.checked) (X := fun w _ => laidMetH Tryd.prog Rows.fnClassicEscapesRow.laid w) (fun _ _ _ hh h => h.of_heap hh) own started (by kernel_rfl) Tryd.func3
    (ChangeSpec.witness_shaped (enc := enc) (C := Tryd.checked) (os := os) (X := fun w _ => laidMetH Tryd.prog Rows.fnClassicEscapesRow.laid w) false (World.laidAll Tryd.prog os Rows.fnClassicEscapesRow.laid) #[.string ByteArray.empty, .slice none 0 0] 8 (World.laidAll_os _ _ _)
      (World.shaped_of_ZipB (by kernel_rfl) (by kernel_rfl)) (by kernel_rfl) (by kernel_rfl) (by kernel_rfl)
      (by rw [MakeChecks.laidMetH_plain _ _ _ (by kernel_rfl)]; exact laidMet_laidAll _ (by kernel_rfl) (by kernel_rfl))) ?_
  intro W base args ds gs before hval0 hW hcnd hsz0 hL _
  have hval : ∀ (j : Nat) t v, Tryd.f3.params[j]? = some t → args[j]? = some v → Value.okWide Tryd.prog W .any base t v := hval0
  have hW' := hW
  obtain ⟨p, q, hA0, hV, rfl, hfz, hnd⟩ := hW
  have hA : DataW.TrodAll enc Tryd.prog W 0 (fun _ => true) true Tryd.f3.params.toList args.toList ds p := hA0
  rw [Tryd.params3] at hA hval
  obtain ⟨v0, vs0, d0, ds0, p0, q0, hargs, rfl, rfl, h0, r0⟩ := trodAll_cons hA
  obtain ⟨v1, vs1, d1, ds1, p1, q1, rfl, rfl, rfl, h1, r1⟩ := trodAll_cons r0
  obtain ⟨rfl, rfl, rfl⟩ := trodAll_nil r1
  obtain rfl : args = #[v0, v1] := by cases args; simp_all
  obtain ⟨rfl, rfl⟩ := trodVars_none hV
  obtain ⟨a0, rfl, rfl, rfl, w0⟩ := open_string Tryd.underlying9 (hval 0 9 v0 rfl rfl) h0
  have k1 := h1
  have lt1 : ∀ x ∈ p1, x.block < W.heap.size := by obtain ⟨m, hm⟩ := k1; exact DataW.trod_lt m _ _ _ hm
  obtain ⟨A1, c1, l1, rfl, hc1, hr1, w1⟩ := Rd.arg_slice (Rd.slice Tryd.underlying22 (by kernel_rfl) (Rd.int Tryd.underlying5)) (okWide_slice Tryd.underlying22 (hval 1 22 v1 rfl rfl)) h1
  clear hA0 hval0 hsz0
  obtain ⟨k, hk⟩ := Pure.FnClassicEscapes a0 l1 w0 w1
  rw [MakeChecks.laidMetH_plain _ _ _ (by kernel_rfl)] at hL
  have hT_ : Cl.UT W := Cl.UT_of_reads (Lib.laidMet.reads hL (.tail _ (.head _))) (Lib.laidMet.reads hL (.head _))
  refine (laws_FnClassicEscapes.calls (k := k) (a0 := a0) (A1 := A1) (c1 := c1) (l1 := l1) (hr1 := hr1) (hc1 := hc1) (w := W) (hT_ := hT_) (r := true) (h := hk)).mono fun e W' ⟨he, bel0⟩ => ?_
  have bel : Below W.heap.size W W' := bel0
  subst he
  exact ⟨_, rfl, _, _, _, [], _, [], hW', trodAll_mk1 (shut_bool Tryd.underlying4 _), (trodAll_cons_mk (shut_string Tryd.underlying9 w0) (trodAll_cons_mk (Below.trod laidOut (by kernel_rfl) (of_decide_eq_true (by kernel_rfl)) k1 bel lt1) trodAll_mk0)), rfl, bel.frame _, fun h => by cases h⟩
theorem over : Rows.fnClassicEscapesRow.holds Tryd.pinned (OpenSpec.ofChange Rows.fnClassicEscapesSpec) :=
  OpenClaim.holds_of_wide 3 Tryd.f3 rfl rfl rfl rfl rfl rfl rfl ⟨rfl, rfl, rfl, rfl, rfl⟩ rfl rfl rfl rfl rfl (by kernel_rfl) Tryd.func3 (by kernel_rfl)
    (of_decide_eq_true (by kernel_rfl)) (by unfold Func.isWrapper; first | (rw [if_pos (by decide +kernel)]; kernel_rfl) | (rw [if_neg (by decide +kernel)]; exact ⟨rfl, rfl⟩))
    (fun os started H enc _ => lifted os started H enc)
theorem card_holds : Rows.FnClassicEscapesCardSaid :=
  Claim7.holds_tied_plain_at .later [] [.data, .pinned] true Rows.fnClassicEscapesCard.stood.harness true over (fun _ h => by cases h) (by kernel_rfl) (fun _ h => by cases h) fnClassicEscapes_row_tie rfl ⟨rfl, rfl⟩ (by kernel_rfl) rfl
    (fun f fn hf hfn => by
      obtain rfl : f = 3 := Option.some.inj ((show Tryd.prog.funcNamed "pub-clamour/laws.FnClassicEscapes" = some 3 by kernel_rfl).symm.trans hf) |>.symm
      obtain rfl : fn = Tryd.f3 := (Option.some.inj (Tryd.func3.symm.trans hfn)).symm
      exact ⟨by kernel_rfl, fun j t ht => by
        rw [Tryd.params3] at ht
        have hm : t ∈ [9, 22] := by simpa using Array.mem_of_getElem? ht
        have hall : ([9, 22].all fun u => !Tryd.prog.wantsStandIn u) = true := by kernel_rfl
        exact (show Tryd.prog.wantsStandIn t = false by simpa using List.all_eq_true.1 hall t hm)⟩)
    (by kernel_rfl)
#print axioms card_holds
end Go.Proofs.YtbcgcfdpblhddaaDoor.fnClassicEscapes
namespace Go.Proofs.YtbcgcfdpblhddaaDoor
/-- The row, under a short name, for the claim. -/
theorem fnClassicEscapes_holds : Rows.FnClassicEscapesCardSaid := fnClassicEscapes.card_holds
end Go.Proofs.YtbcgcfdpblhddaaDoor
