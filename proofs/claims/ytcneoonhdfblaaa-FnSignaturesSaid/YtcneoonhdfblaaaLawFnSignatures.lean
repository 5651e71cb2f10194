-- printed by this project's own program wip/tools/mkprint.py (the kit's print.py with hand-proved contracts put in)
/- The row of laws_FnSignatures: for every input the law returns true, and its arguments read as before. -/
import Derived.Test.YtcneoonhdfblaaaRows
import Derived.Test.YtcneoonhdfblaaaQx8
import Derived.Test.YtcneoonhdfblaaaRead
import Derived.Test.YtcneoonhdfblaaaPureFnSignatures
import Derived.WalkKit
import Derived.ProofKit
import Derived.OpenShut
import Derived.ShutString
import Derived.ChangeOld
import Derived.Below
import Derived.SizedLaws
namespace Go.Proofs.Ytcneoonhdfblaaa.fnSignatures
open Go.ChangeShapes Go.WideShapes Go.ChangeAt Go.RowKit Go.Proofs.Ytcneoonhdfblaaa.Read Go.Proofs.Ytcneoonhdfblaaa.Q Go.Proofs.YtcneoonhdfblaaaW.PrintWords
open Go.ChangeMaps (open_string shut_string)
set_option linter.unusedVariables false
theorem own : ownKnob Try.prog.godebug = none := by kernel_rfl
theorem laidOut : laidOutB Try.prog = true := by kernel_rfl
theorem rd32 : Rd Try.prog 32 k32 okS32 := Rd.iso (Rd.struct Try.underlying32 (by kernel_rfl) (RdFrom.cons _ rfl rfl (by kernel_rfl) (Rd.string Try.underlying9) (RdFrom.last _ rfl rfl (by kernel_rfl) (Rd.string Try.underlying9)))) (fun x : S32 => (x.f0, x.f1)) (fun p => (⟨p.1, p.2⟩ : S32)) (fun _ => rfl)
set_option maxRecDepth 100000 in
theorem lifted (os : Os) (started : os.Started) (H : Type) (enc : TypeId × Value → H) :
    ReturnsInHanded {} Try.checked os 4 .any (Rows.fnSignaturesSpec.pre6 enc Try.prog Try.f4 Rows.fnSignaturesRow.domain false) (Rows.fnSignaturesSpec.post enc Try.prog Try.f4 false true false false) := by
  refine returnsInHanded_of_change_sized (C := Try.checked) own started (by kernel_rfl) Try.func4
    (ChangeSpec.witness6 (enc := enc) (C := Try.checked) false ⟨#[], #[.slice none 0 0, .slice none 0 0], []⟩ 8 (by kernel_rfl) (by kernel_rfl) (by kernel_rfl) (by kernel_rfl)) ?_
  intro W base args ds gs before hval0 hW hcnd hsz0 _
  have hval : ∀ (j : Nat) t v, Try.f4.params[j]? = some t → args[j]? = some v → Value.okWide Try.prog W .any base t v := hval0
  have hW' := hW
  obtain ⟨p, q, hA0, hV, rfl, hfz, hnd⟩ := hW
  have hA : DataW.TrodAll enc Try.prog W 0 (fun _ => true) true Try.f4.params.toList args.toList ds p := hA0
  rw [Try.params4] at hA hval
  obtain ⟨v0, vs0, d0, ds0, p0, q0, hargs, rfl, rfl, h0, r0⟩ := trodAll_cons hA
  obtain ⟨v1, vs1, d1, ds1, p1, q1, rfl, rfl, rfl, h1, r1⟩ := trodAll_cons r0
  obtain ⟨rfl, rfl, rfl⟩ := trodAll_nil r1
  obtain rfl : args = #[v0, v1] := by cases args; simp_all
  obtain ⟨rfl, rfl⟩ := trodVars_none hV
  have k0 := h0
  have lt0 : ∀ x ∈ p0, x.block < W.heap.size := by obtain ⟨m, hm⟩ := k0; exact DataW.trod_lt m _ _ _ hm
  obtain ⟨A0, c0, l0, rfl, hc0, hr0, w0⟩ := Rd.arg_slice (Rd.slice Try.underlying27 (by kernel_rfl) rd32) (okWide_slice Try.underlying27 (hval 0 27 v0 rfl rfl)) h0
  have k1 := h1
  have lt1 : ∀ x ∈ p1, x.block < W.heap.size := by obtain ⟨m, hm⟩ := k1; exact DataW.trod_lt m _ _ _ hm
  obtain ⟨A1, c1, l1, rfl, hc1, hr1, w1⟩ := Rd.arg_slice (Rd.slice Try.underlying28 (by kernel_rfl) (Rd.bool Try.underlying4)) (okWide_slice Try.underlying28 (hval 1 28 v1 rfl rfl)) h1
  clear hA0 hval0 hsz0
  obtain ⟨k, hk⟩ := Pure.FnSignatures l0 l1 w0 w1
  refine (laws_FnSignatures.calls (k := k) (A0 := A0) (c0 := c0) (l0 := l0) (hr0 := hr0) (hc0 := hc0) (A1 := A1) (c1 := c1) (l1 := l1) (hr1 := hr1) (hc1 := hc1) (w := W) (r := true) (h := hk)).mono fun e W' ⟨he, bel0⟩ => ?_
  have bel : Below W.heap.size W W' := bel0
  subst he
  exact ⟨_, rfl, _, _, _, [], _, [], hW', trodAll_mk1 (shut_bool Try.underlying4 _), (trodAll_cons_mk (Below.trod laidOut (by kernel_rfl) (of_decide_eq_true (by kernel_rfl)) k0 bel lt0) (trodAll_cons_mk (Below.trod laidOut (by kernel_rfl) (of_decide_eq_true (by kernel_rfl)) k1 bel lt1) trodAll_mk0)), rfl, bel.frame _, fun h => by cases h⟩
theorem over : Rows.fnSignaturesRow.holds Try.pinned (OpenSpec.ofChange Rows.fnSignaturesSpec) :=
  OpenClaim.holds_of_wide 4 Try.f4 rfl rfl rfl rfl rfl rfl rfl ⟨rfl, rfl, rfl, rfl, rfl⟩ rfl rfl rfl rfl rfl (by kernel_rfl) Try.func4 (by kernel_rfl)
    (of_decide_eq_true (by kernel_rfl)) (by unfold Func.isWrapper; first | (rw [if_pos (by decide +kernel)]; kernel_rfl) | (rw [if_neg (by decide +kernel)]; exact ⟨rfl, rfl⟩))
    (fun os started H enc _ => lifted os started H enc)
theorem proved : Rows.FnSignaturesSaid := over
#print axioms proved
end Go.Proofs.Ytcneoonhdfblaaa.fnSignatures
namespace Go.Proofs.Ytcneoonhdfblaaa
/-- The row, under a short name, for the claim. -/
theorem fnSignatures_holds : Rows.FnSignaturesSaid := fnSignatures.proved
end Go.Proofs.Ytcneoonhdfblaaa
