-- printed by this project's own program wip/tools/mkprint.py (the kit's print.py with hand-proved contracts put in)
/- The row of laws_FnWithoutMore: for every input the law returns true, and its arguments read as before. -/
import Derived.Test.YtbffcmiabcmjcaaRows
import Derived.Test.YtbffcmiabcmjcaaQx5
import Derived.Test.YtbffcmiabcmjcaaRead
import Derived.Test.YtbffcmiabcmjcaaPureFnWithoutMore
import Derived.WalkKit
import Derived.ProofKit
import Derived.OpenShut
import Derived.ShutString
import Derived.ChangeOld
import Derived.Below
import Derived.SizedLaws
namespace Go.Proofs.Ytbffcmiabcmjcaa.fnWithoutMore
open Go.ChangeShapes Go.WideShapes Go.ChangeAt Go.RowKit Go.Proofs.Ytbffcmiabcmjcaa.Read Go.Proofs.Ytbffcmiabcmjcaa.Q Go.Proofs.YtbffcmiabcmjcaaW.PrintWords
open Go.ChangeMaps (open_string shut_string)
set_option linter.unusedVariables false
theorem own : ownKnob Try.prog.godebug = none := by kernel_rfl
theorem laidOut : laidOutB Try.prog = true := by kernel_rfl
theorem rd26 : Rd Try.prog 26 k26 okS26 := Rd.iso (Rd.struct Try.underlying26 (by kernel_rfl) (RdFrom.cons _ rfl rfl (by kernel_rfl) (Rd.string Try.underlying9) (RdFrom.last _ rfl rfl (by kernel_rfl) (Rd.string Try.underlying9)))) (fun x : S26 => (x.f0, x.f1)) (fun p => (⟨p.1, p.2⟩ : S26)) (fun _ => rfl)
set_option maxRecDepth 100000 in
theorem lifted (os : Os) (started : os.Started) (H : Type) (enc : TypeId × Value → H) :
    ReturnsInHanded {} Try.checked os 6 .any (Rows.fnWithoutMoreSpec.pre6 enc Try.prog Try.f6 Rows.fnWithoutMoreRow.domain false) (Rows.fnWithoutMoreSpec.post enc Try.prog Try.f6 false true false false) := by
  refine returnsInHanded_of_change_sized (C := Try.checked) own started (by kernel_rfl) Try.func6
    (ChangeSpec.witness6 (enc := enc) (C := Try.checked) false ⟨#[], #[.slice none 0 0, .slice none 0 0, .slice none 0 0], []⟩ 8 (by kernel_rfl) (by kernel_rfl) (by kernel_rfl) (by kernel_rfl)) ?_
  intro W base args ds gs before hval0 hW hcnd hsz0 _
  have hval : ∀ (j : Nat) t v, Try.f6.params[j]? = some t → args[j]? = some v → Value.okWide Try.prog W .any base t v := hval0
  have hW' := hW
  obtain ⟨p, q, hA0, hV, rfl, hfz, hnd⟩ := hW
  have hA : DataW.TrodAll enc Try.prog W 0 (fun _ => true) true Try.f6.params.toList args.toList ds p := hA0
  rw [Try.params6] at hA hval
  obtain ⟨v0, vs0, d0, ds0, p0, q0, hargs, rfl, rfl, h0, r0⟩ := trodAll_cons hA
  obtain ⟨v1, vs1, d1, ds1, p1, q1, rfl, rfl, rfl, h1, r1⟩ := trodAll_cons r0
  obtain ⟨v2, vs2, d2, ds2, p2, q2, rfl, rfl, rfl, h2, r2⟩ := trodAll_cons r1
  obtain ⟨rfl, rfl, rfl⟩ := trodAll_nil r2
  obtain rfl : args = #[v0, v1, v2] := by cases args; simp_all
  obtain ⟨rfl, rfl⟩ := trodVars_none hV
  have k0 := h0
  have lt0 : ∀ x ∈ p0, x.block < W.heap.size := by obtain ⟨m, hm⟩ := k0; exact DataW.trod_lt m _ _ _ hm
  obtain ⟨A0, c0, l0, rfl, hc0, hr0, w0⟩ := Rd.arg_slice (Rd.slice Try.underlying22 (by kernel_rfl) rd26) (okWide_slice Try.underlying22 (hval 0 22 v0 rfl rfl)) h0
  have k1 := h1
  have lt1 : ∀ x ∈ p1, x.block < W.heap.size := by obtain ⟨m, hm⟩ := k1; exact DataW.trod_lt m _ _ _ hm
  obtain ⟨A1, c1, l1, rfl, hc1, hr1, w1⟩ := Rd.arg_slice (Rd.slice Try.underlying33 (by kernel_rfl) (Rd.string Try.underlying9)) (okWide_slice Try.underlying33 (hval 1 33 v1 rfl rfl)) h1
  have k2 := h2
  have lt2 : ∀ x ∈ p2, x.block < W.heap.size := by obtain ⟨m, hm⟩ := k2; exact DataW.trod_lt m _ _ _ hm
  obtain ⟨A2, c2, l2, rfl, hc2, hr2, w2⟩ := Rd.arg_slice (Rd.slice Try.underlying33 (by kernel_rfl) (Rd.string Try.underlying9)) (okWide_slice Try.underlying33 (hval 2 33 v2 rfl rfl)) h2
  clear hA0 hval0 hsz0
  obtain ⟨k, hk⟩ := Pure.FnWithoutMore l0 l1 l2 w0 w1 w2
  refine (laws_FnWithoutMore.calls (k := k) (A0 := A0) (c0 := c0) (l0 := l0) (hr0 := hr0) (hc0 := hc0) (A1 := A1) (c1 := c1) (l1 := l1) (hr1 := hr1) (hc1 := hc1) (A2 := A2) (c2 := c2) (l2 := l2) (hr2 := hr2) (hc2 := hc2) (w := W) (r := true) (h := hk)).mono fun e W' ⟨he, bel0⟩ => ?_
  have bel : Below W.heap.size W W' := bel0
  subst he
  exact ⟨_, rfl, _, _, _, [], _, [], hW', trodAll_mk1 (shut_bool Try.underlying4 _), (trodAll_cons_mk (Below.trod laidOut (by kernel_rfl) (of_decide_eq_true (by kernel_rfl)) k0 bel lt0) (trodAll_cons_mk (Below.trod laidOut (by kernel_rfl) (of_decide_eq_true (by kernel_rfl)) k1 bel lt1) (trodAll_cons_mk (Below.trod laidOut (by kernel_rfl) (of_decide_eq_true (by kernel_rfl)) k2 bel lt2) trodAll_mk0))), rfl, bel.frame _, fun h => by cases h⟩
theorem over : Rows.fnWithoutMoreRow.holds Try.pinned (OpenSpec.ofChange Rows.fnWithoutMoreSpec) :=
  OpenClaim.holds_of_wide 6 Try.f6 rfl rfl rfl rfl rfl rfl rfl ⟨rfl, rfl, rfl, rfl, rfl⟩ rfl rfl rfl rfl rfl (by kernel_rfl) Try.func6 (by kernel_rfl)
    (of_decide_eq_true (by kernel_rfl)) (by unfold Func.isWrapper; first | (rw [if_pos (by decide +kernel)]; kernel_rfl) | (rw [if_neg (by decide +kernel)]; exact ⟨rfl, rfl⟩))
    (fun os started H enc _ => lifted os started H enc)
theorem proved : Rows.FnWithoutMoreSaid := over
#print axioms proved
end Go.Proofs.Ytbffcmiabcmjcaa.fnWithoutMore
namespace Go.Proofs.Ytbffcmiabcmjcaa
/-- The row, under a short name, for the claim. -/
theorem fnWithoutMore_holds : Rows.FnWithoutMoreSaid := fnWithoutMore.proved
end Go.Proofs.Ytbffcmiabcmjcaa
