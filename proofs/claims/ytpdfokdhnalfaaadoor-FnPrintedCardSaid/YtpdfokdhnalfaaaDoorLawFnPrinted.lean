-- printed by this project's own program wip/tools/mkprint.py (the kit's print.py with hand-proved contracts put in)
/- The row of laws_FnPrinted: for every input the law returns true, and its arguments read as before. -/
import Derived.Test.YtpdfokdhnalfaaaDoorRows
import Derived.Test.YtpdfokdhnalfaaaDoorCards
import Derived.Test.YtpdfokdhnalfaaaDoorTie
import Derived.Lay
import Derived.LaidOnce
import Derived.SevenTiedAt
import Derived.Lib.LaidU8
import Derived.Test.YtpdfokdhnalfaaaDoorQx4
import Derived.Test.YtpdfokdhnalfaaaDoorRead
import Derived.Test.YtpdfokdhnalfaaaDoorPureFnPrinted
import Derived.Test.YtpdfokdhnalfaaaDoorPay
import Derived.WalkKit
import Derived.ProofKit
import Derived.OpenShut
import Derived.ShutString
import Derived.ChangeOld
import Derived.Below
import Derived.SizedLaws
namespace Go.Proofs.YtpdfokdhnalfaaaDoor.fnPrinted
open Go.ChangeShapes Go.WideShapes Go.ChangeAt Go.RowKit Go.Proofs.YtpdfokdhnalfaaaDoor.Read Go.Proofs.YtpdfokdhnalfaaaDoor.Q Go.Proofs.YtpdfokdhnalfaaaDoorW.PrintWords
open Go.ChangeMaps (open_string shut_string)
set_option linter.unusedVariables false
theorem own : ownKnob Tryd.prog.godebug = none := by kernel_rfl
theorem laidOut : laidOutB Tryd.prog = true := by kernel_rfl
theorem rd23 : Rd Tryd.prog 23 k23 okS23 := Rd.iso (Rd.struct Tryd.underlying23 (by kernel_rfl) (RdFrom.cons _ rfl rfl (by kernel_rfl) (Rd.int Tryd.underlying3) (RdFrom.cons _ rfl rfl (by kernel_rfl) (Rd.string Tryd.underlying9) (RdFrom.last _ rfl rfl (by kernel_rfl) (Rd.string Tryd.underlying9))))) (fun x : S23 => (x.f0, x.f1, x.f2)) (fun p => (⟨p.1, p.2.1, p.2.2⟩ : S23)) (fun _ => rfl)
set_option maxRecDepth 100000 in
theorem lifted (os : Os) (started : os.Started) (H : Type) (enc : TypeId × Value → H) :
    ReturnsInHanded {} Tryd.checked os 3 .any (fun w args => (Rows.fnPrintedSpec.pre enc Tryd.prog Tryd.f3 [] false w args ∧ laidMetH Tryd.prog Rows.fnPrintedRow.laid w) ∧ sizedMet enc Tryd.prog Tryd.f3 (OpenSpec.ofChange Rows.fnPrintedSpec) false w args)
      (Rows.fnPrintedSpec.post enc Tryd.prog Tryd.f3 false true false false) := by
  refine returnsInHanded_of_change_and (C := Tryd.checked) (X := fun w _ => laidMetH Tryd.prog Rows.fnPrintedRow.laid w) (fun _ _ _ hh h => h.of_heap hh) own started (by kernel_rfl) Tryd.func3
    (ChangeSpec.witness_shaped (enc := enc) (C := Tryd.checked) (os := os) (X := fun w _ => laidMetH Tryd.prog Rows.fnPrintedRow.laid w) false (World.laidAll Tryd.prog os Rows.fnPrintedRow.laid) #[.agg #[.int .i64 0, .string ByteArray.empty, .string ByteArray.empty]] 8 (World.laidAll_os _ _ _)
      (World.shaped_of_ZipB (by kernel_rfl) (by kernel_rfl)) (by kernel_rfl) (by kernel_rfl) (by kernel_rfl)
      (by rw [MakeChecks.laidMetH_plain _ _ _ (by kernel_rfl)]; exact laidMet_laidAll _ (by kernel_rfl) (by kernel_rfl))) ?_
  intro W base args ds gs before hval0 hW hcnd hsz0 hL _
  have hval : ∀ (j : Nat) t v, Tryd.f3.params[j]? = some t → args[j]? = some v → Value.okWide Tryd.prog W .any base t v := hval0
  have hW' := hW
  obtain ⟨p, q, hA0, hV, rfl, hfz, hnd⟩ := hW
  have hA : DataW.TrodAll enc Tryd.prog W 0 (fun _ => true) true Tryd.f3.params.toList args.toList ds p := hA0
  rw [Tryd.params3] at hA hval
  obtain ⟨v0, vs0, d0, ds0, p0, q0, hargs, rfl, rfl, h0, r0⟩ := trodAll_cons hA
  obtain ⟨rfl, rfl, rfl⟩ := trodAll_nil r0
  obtain rfl : args = #[v0] := by cases args; simp_all
  obtain ⟨rfl, rfl⟩ := trodVars_none hV
  have k0 := h0
  have lt0 : ∀ x ∈ p0, x.block < W.heap.size := by obtain ⟨m, hm⟩ := k0; exact DataW.trod_lt m _ _ _ hm
  obtain ⟨⟨a0_0, a0_1, a0_2⟩, g0, w0⟩ := Rd.arg rd23 h0
  obtain ⟨cs0, rfl, _⟩ := okWide_struct Tryd.underlying23 (hval 0 23 v0 rfl rfl)
  obtain rfl : cs0 = #[.int .i64 a0_0, .string a0_1, .string a0_2] := Array.toList_inj.1 (k23_open g0)
  clear hA0 hval0 hsz0
  obtain ⟨k, hk⟩ := Pure.FnPrinted a0_0 a0_1 a0_2 w0.1 w0.2.1 w0.2.2
  rw [MakeChecks.laidMetH_plain _ _ _ (by kernel_rfl)] at hL
  have hT_ : Door.PT W := Door.PT_of_reads (Lib.laidMet.reads hL (.tail _ (.tail _ (.tail _ (.tail _ (.tail _ (.tail _ (.tail _ (.head _))))))))) (Lib.laidMet.reads hL (.head _)) (Lib.laidMet.reads hL (.tail _ (.head _))) (Lib.laidMet.reads hL (.tail _ (.tail _ (.tail _ (.tail _ (.tail _ (.head _))))))) (Lib.laidMet.reads hL (.tail _ (.tail _ (.tail _ (.head _))))) (Lib.laidMet.reads hL (.tail _ (.tail _ (.tail _ (.tail _ (.tail _ (.tail _ (.head _)))))))) (Lib.laidMet.reads hL (.tail _ (.tail _ (.tail _ (.tail _ (.head _))))))
  refine (laws_FnPrinted.calls (k := k) (a0_0 := a0_0) (a0_1 := a0_1) (a0_2 := a0_2) (w := W) (hT_ := hT_) (r := true) (h := hk)).mono fun e W' ⟨he, bel0⟩ => ?_
  have bel : Below W.heap.size W W' := bel0
  subst he
  exact ⟨_, rfl, _, _, _, [], _, [], hW', trodAll_mk1 (shut_bool Tryd.underlying4 _), (trodAll_cons_mk (Below.trod laidOut (by kernel_rfl) (of_decide_eq_true (by kernel_rfl)) k0 bel lt0) trodAll_mk0), rfl, bel.frame _, fun h => by cases h⟩
theorem over : Rows.fnPrintedRow.holds Tryd.pinned (OpenSpec.ofChange Rows.fnPrintedSpec) :=
  OpenClaim.holds_of_wide 3 Tryd.f3 rfl rfl rfl rfl rfl rfl rfl ⟨rfl, rfl, rfl, rfl, rfl⟩ rfl rfl rfl rfl rfl (by kernel_rfl) Tryd.func3 (by kernel_rfl)
    (of_decide_eq_true (by kernel_rfl)) (by unfold Func.isWrapper; first | (rw [if_pos (by decide +kernel)]; kernel_rfl) | (rw [if_neg (by decide +kernel)]; exact ⟨rfl, rfl⟩))
    (fun os started H enc _ => lifted os started H enc)
theorem card_holds : Rows.FnPrintedCardSaid :=
  Claim7.holds_tied_plain_at .later [] [.data, .listed, .pinned, .pinned, .pinned, .pinned, .pinned, .pinned] true Rows.fnPrintedCard.stood.harness false over (fun _ h => by cases h) (by kernel_rfl) (fun _ h => by cases h) fnPrinted_row_tie rfl ⟨rfl, rfl⟩ (by kernel_rfl) rfl
    (fun f fn hf hfn => by
      obtain rfl : f = 3 := Option.some.inj ((show Tryd.prog.funcNamed "pub-clamour/laws.FnPrinted" = some 3 by kernel_rfl).symm.trans hf) |>.symm
      obtain rfl : fn = Tryd.f3 := (Option.some.inj (Tryd.func3.symm.trans hfn)).symm
      exact ⟨by kernel_rfl, fun j t ht => by
        rw [Tryd.params3] at ht
        have hm : t ∈ [23] := by simpa using Array.mem_of_getElem? ht
        have hall : ([23].all fun u => !Tryd.prog.wantsStandIn u) = true := by kernel_rfl
        exact (show Tryd.prog.wantsStandIn t = false by simpa using List.all_eq_true.1 hall t hm)⟩)
    (by kernel_rfl)
#print axioms card_holds
end Go.Proofs.YtpdfokdhnalfaaaDoor.fnPrinted
namespace Go.Proofs.YtpdfokdhnalfaaaDoor
/-- The row, under a short name, for the claim. -/
theorem fnPrinted_holds : Rows.FnPrintedCardSaid := fnPrinted.card_holds
end Go.Proofs.YtpdfokdhnalfaaaDoor
