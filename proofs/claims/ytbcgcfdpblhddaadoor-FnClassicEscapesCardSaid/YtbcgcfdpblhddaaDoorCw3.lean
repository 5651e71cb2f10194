/- impl.ClassicMatcher: its walk. -/
import Derived.Test.YtbcgcfdpblhddaaDoorCw2
namespace Go.Proofs.YtbcgcfdpblhddaaDoor.Cl
open Go.RowKit Go.Lib Go.Proofs.YtbcgcfdpblhddaaDoor.Pure Go.Proofs.YtbcgcfdpblhddaaDoor.Q Go.Proofs.YtbcgcfdpblhddaaDoorW.PrintWords Go.Proofs.YtbcgcfdpblhddaaDoorW.PrintLast
set_option linter.unusedVariables false
set_option linter.unusedSimpArgs false
/-- A matcher's answer as data. -/
def ofM (m : Nat × List UInt8 × List UInt8) : S24 := ⟨(m.1 : Int), ba m.2.1, ba m.2.2⟩
/-- impl.ClassicMatcher of a text: what it answers. -/
def coR (R : Option (Nat × List UInt8 × List UInt8)) : S24 × Bool := match R with | some m => (ofM m, true) | none => (⟨0, ⟨#[]⟩, ⟨#[]⟩⟩, false)
def coF (s : ByteArray) : S24 × Bool := coR (cmB s.data.toList)
set_option maxHeartbeats 3200000 in
set_option maxRecDepth 100000 in
theorem classicMatcher_calls {w : World} {s : ByteArray} (h : UT w) (hs : s.size ≤ 1000000) :
    Calls Tryd.prog 6 #[.string s] w fun x w' => x = .returned (.tuple #[.agg #[.int .i64 (coF s).1.f0, .string (coF s).1.f1, .string (coF s).1.f2], .bool (coF s).2]) ∧ Below w.heap.size w w' := by
  have hb1 : Below w.heap.size w (w.alloc (.cells #[.int .i64 0, .string ⟨#[]⟩, .string ⟨#[]⟩] 24)) := below_alloc (Below.refl _ _) _
  have C := Aside0.mk (parse_matcher s _ hs (h.below hb1))
  have HB1 := Aside0.mk hb1
  unfold coF
  obtain ⟨R, hR⟩ : ∃ R, cmB s.data.toList = R := ⟨_, rfl⟩
  rw [hR] at C ⊢
  clear hR h hs hb1
  go_enter Tryd.func6, Tryd.ntmps6
  go_wp2_with fail
  refine C.out.mono ?_
  clear C
  intro x w1 hO
  have hb := hO.1
  have HG := Aside0.mk (show w1.heap[w.heap.size]? = some (.cells #[.int .i64 0, .string ⟨#[]⟩, .string ⟨#[]⟩] 24 (0, 0)) from (hb.block _ (by simp)).trans (Box.new_at rfl _))
  have HB := Aside0.mk (HB1.out.trans (hb.mono (by simp)))
  obtain ⟨_, hq⟩ := hO
  clear hb
  cases R with
  | some m =>
    obtain ⟨t, n, v⟩ := m
    obtain ⟨g, rfl, hlt, hg⟩ := hq
    have C2 := Aside0.mk (impl_outer.calls g _ _ _ w1 hg)
    clear hg hlt
    go_wp2_with fail
    refine C2.out.mono ?_
    clear C2
    rintro x w2 ⟨rfl, hb2⟩
    have HG2 := Aside0.mk ((hb2.block _ (blk_lt HG.out)).trans HG.out)
    have HB2 := Aside0.mk (below_step HB.out hb2)
    obtain ⟨⟨m0, m1, m2⟩, z0, z1, z2⟩ := cells3 HG2.out
    clear hb2
    go_wp2
    refine bodyPost_ret (results_ct rfl _ _ w.heap.size 24 #[.int .i64 (t : Int), .string (ba n), .string (ba v)] (0, 0) _ rfl (heap_set (i := 2) (heap_set (i := 1) (heap_set (i := 0) HG2.out (.int .i64 (t : Int))) (.string (ba n))) (.string (ba v))) Tryd.underlying24 rfl (by kernel_rfl)) rfl ?_
    exact ⟨rfl, ((HB2.out.setCell (Nat.le_refl _) _).setCell (Nat.le_refl _) _).setCell (Nat.le_refl _) _⟩
  | none =>
    obtain ⟨T, u, rfl⟩ := hq
    obtain ⟨⟨m0, m1, m2⟩, z0, z1, z2⟩ := cells3 HG.out
    go_wp2
    refine bodyPost_ret (results_ct rfl _ _ w.heap.size 24 #[.int .i64 0, .string ⟨#[]⟩, .string ⟨#[]⟩] (0, 0) _ rfl (heap_set (i := 2) (heap_set (i := 1) (heap_set (i := 0) HG.out (.int .i64 0)) (.string ⟨#[]⟩)) (.string ⟨#[]⟩)) Tryd.underlying24 rfl (by kernel_rfl)) rfl ?_
    exact ⟨rfl, ((HB.out.setCell (Nat.le_refl _) _).setCell (Nat.le_refl _) _).setCell (Nat.le_refl _) _⟩
end Go.Proofs.YtbcgcfdpblhddaaDoor.Cl
