/- The text of a range of numbers. -/
import Derived.Test.YtfkapmbjnfnmmaaDoorNums
import Derived.Test.YtfkapmbjnfnmmaaDoorMapK
import Derived.Test.YtfkapmbjnfnmmaaDoorLib
import Derived.Test.YtfkapmbjnfnmmaaDoorShelf
import Derived.Test.YtfkapmbjnfnmmaaDoorQx1
import Derived.Deep.QuietTactic
import Derived.BigQuiet
import Derived.BigRegion
import Derived.Deep.RegionHeld3
import Derived.Deep.RegionWith
import Derived.WalkSmall
import Derived.OneCell
import Derived.Sort.Grow
import Derived.Lib.ItoaLen
import Derived.Lib.LaidTab
import Derived.OpenShut
import Derived.PinnedBridge
namespace Go.Proofs.YtfkapmbjnfnmmaaDoor.Door
open Go.RowKit Go.Lib Go.Proofs.YtfkapmbjnfnmmaaDoor.Q Go.Proofs.YtfkapmbjnfnmmaaDoor.Pure Go.Proofs.YtfkapmbjnfnmmaaDoorW.PrintWords Go.Proofs.YtfkapmbjnfnmmaaDoorW.PrintLast
set_option linter.unusedVariables false
set_option linter.unusedSimpArgs false
open Go.Shelf
def Pow (w : World) : Prop := Lib.TabIs Tryd.prog w "internal/strconv.uint64pow10" .u64 Lib.pow10Tab
theorem below_grow (w : World) (k : Nat) (os : Array Obj) : Below w.heap.size w (Go.Sort.grow (w.drewN k) os) := by
  refine (pw_below_drewN (Below.refl _ w) k).trans ⟨rfl, rfl, rfl, by simp [Go.Sort.grow, World.drewN], fun i hi => ?_⟩
  show ((w.drewN k).heap ++ os)[i]? = _
  exact Array.getElem?_append_left hi
theorem itoa_any (n : Int) (w : World) (h0 : -9223372036854775808 ≤ n) (h1 : n ≤ 9223372036854775807) (hP : Pow w) :
    Calls Tryd.prog 40 #[.int .i64 n] w fun e w' => e = .returned (.string (Nums.numB n)) ∧ Below w.heap.size w w' :=
  (Tryd.strconv_Itoa n h0 h1 w hP).mono fun e w' ⟨h, k, os, hw⟩ => ⟨h, hw ▸ below_grow w k os⟩
theorem Pow.below {w w' : World} (h : Pow w) (hb : Below w.heap.size w w') : Pow w' := by
  have hg : Tryd.prog.globalNamed "internal/strconv.uint64pow10" = some 1 := by kernel_rfl
  refine var?_below hb hg ?_ h
  rcases Nat.lt_or_ge 1 w.heap.size with h' | h'
  · exact h'
  · exfalso
    unfold Pow Lib.TabIs World.var? at h
    simp [hg, Array.getElem?_eq_none h'] at h
theorem pow_of_reads {w : World} (h : VarReads Tryd.prog w "internal/strconv.uint64pow10" (tabData .u64 pow10Tab)) : Pow w := by
  obtain ⟨g', t, cs, fuel, p, hg, hty, hvar, hd⟩ := h
  obtain rfl := Option.some.inj ((show Tryd.prog.globalNamed "internal/strconv.uint64pow10" = some 1 by kernel_rfl).symm.trans hg)
  obtain rfl := Option.some.inj ((show (Tryd.prog.globals[1]?).map (·.type) = some 111 by kernel_rfl).symm.trans hty)
  unfold Pow Lib.TabIs
  rw [hvar, ← cells_of_tab Tryd.underlying111 Tryd.underlying97 (by kernel_rfl) (by kernel_rfl) hd]
set_option maxHeartbeats 3200000 in
set_option maxRecDepth 100000 in
theorem marshal_num (b e : Int) (w : World) (h1 : -100000 < b) (h2 : b < 100000) (h3 : -100000 < e) (h4 : e < 100000) (hP : Pow w) :
    Calls Tryd.prog 30 #[.agg #[.int .i64 b, .int .i64 e]] w fun x w' => ∃ v c, x = .returned (.tuple #[.slice (some ⟨v, 0, none⟩) (Nums.rngT b e).length c, .nilIface]) ∧ MapK.BRow w' v (Nums.rngT b e) ∧ v < w'.heap.size ∧ Below w.heap.size w w' := by
  have CB := Aside0.mk (fun W (hp : Pow W) => itoa_any b W (by omega) (by omega) hp)
  have CE := Aside0.mk (fun W (hp : Pow W) => itoa_any e W (by omega) (by omega) hp)
  have hcv := fun (W : World) (s : ByteArray) => Lib.run_convert_string_bytes (P := Tryd.prog) W 9 51 5 s (u := .string) Tryd.underlying9 Tryd.underlying51 Tryd.underlying5
  have sB := Nums.num_size h1 h2
  have sE := Nums.num_size h3 h4
  obtain ⟨B, hB⟩ : ∃ B, Nums.numB b = B := ⟨_, rfl⟩
  obtain ⟨E, hE⟩ : ∃ E, Nums.numB e = E := ⟨_, rfl⟩
  rw [hB] at CB sB
  rw [hE] at CE sE
  have HB := Aside0.mk hB
  have HE := Aside0.mk hE
  have HP := Aside0.mk (show Pow (w.alloc (.cells #[.int .i64 b, .int .i64 e] 37)) from hP.below (below_alloc (Below.refl _ _) _))
  have HPW := Aside0.mk (fun W (hb : Below w.heap.size w W) => hP.below hb)
  clear hB hE h1 h2 h3 h4 hP
  by_cases hbe : b = e
  · subst hbe
    have hne : (b == b) = true := by simp
    have HR := Aside0.mk (show B = Nums.rngB b b by rw [← HB.out]; unfold Nums.rngB Nums.rngT; rw [if_pos rfl]; rfl)
    go_enter Tryd.func30, Tryd.ntmps30
    go_wp2_with fail
    refine (CB.out _ HP.out).mono ?_
    rintro x w1 ⟨rfl, hb1⟩
    have HB1 := Aside0.mk (below_step (below_alloc (Below.refl w.heap.size w) _) hb1)
    clear hb1
    go_wp2_with fail
    go_ret2
    have hL : B.data.toList = Nums.rngT b b := by rw [HR.out]; rfl
    rw [show (Nums.rngT b b).length = B.size by rw [← hL, Array.length_toList]; rfl, ← hL]
    exact ⟨_, _, rfl, MapK.BRow.at_ _ _ _ _ rfl, by rw [Lib.bytesWorld_size]; omega, below_step HB1.out (Lib.bytesWorld_below _ _ _)⟩
  · have hne : (b == e) = false := by simpa using hbe
    have HR := Aside0.mk (show B ++ ⟨#[58]⟩ ++ E = Nums.rngB b e by rw [← HB.out, ← HE.out]; unfold Nums.rngB Nums.rngT; rw [if_neg hbe]; apply ByteArray.ext; apply Array.ext'; simp [Nums.numB])
    have hz1 : ¬ 9223372036854775807 < B.size + 1 := by omega
    have hz2 : ¬ 9223372036854775807 < B.size + 1 + E.size := by omega
    clear hbe
    go_enter Tryd.func30, Tryd.ntmps30
    have HA := Aside0.mk (show (w.alloc (.cells #[.int .i64 b, .int .i64 e] 37)).heap[w.heap.size]? = some (.cells #[.int .i64 b, .int .i64 e] 37 (0, 0)) from heap_alloc_new w _)
    have HB0 := Aside0.mk (below_alloc (Below.refl w.heap.size w) (.cells #[.int .i64 b, .int .i64 e] 37))
    have HL0 := Aside0.mk (show w.heap.size < (w.alloc (.cells #[.int .i64 b, .int .i64 e] 37)).heap.size by simp)
    go_wp2_with fail
    go_region_held3 (fun w' => w'.cell? ⟨w.heap.size, 0, none⟩ = some (.int .i64 b) ∧ w'.cell? ⟨w.heap.size, 1, none⟩ = some (.int .i64 e)) (go_keep) (first
      | (go_at_call 40; refine (CB.out _ (HPW.out _ (by repeat (first | exact HBe.out | exact HB0.out | apply below_drew1)))).mono ?_; rintro x wb ⟨rfl, hbb⟩; have HAb := Aside0.mk ((hbb.block w.heap.size (by first | exact HLe.out | exact HL0.out)).trans (by first | exact HAe.out | exact HA.out)); have HLb := Aside0.mk (Array.getElem?_eq_some_iff.1 HAb.out).1; have HBb := Aside0.mk (below_step (by repeat (first | exact HBe.out | exact HB0.out | apply below_drew1)) hbb); have db0 : wb.cell? ⟨w.heap.size, 0, none⟩ = some (.int .i64 b) := (blk_cell HAb.out 0).trans rfl; have db1 : wb.cell? ⟨w.heap.size, 1, none⟩ = some (.int .i64 e) := (blk_cell HAb.out 1).trans rfl; clear hbb)
      | (go_at_call 40; refine (CE.out _ (HPW.out _ (by repeat (first | exact HBb.out | exact HB0.out | apply below_drew1)))).mono ?_; rintro x we ⟨rfl, hbb⟩; have HAe := Aside0.mk ((hbb.block w.heap.size (by first | exact HLb.out | exact HL0.out)).trans (by first | exact HAb.out | exact HA.out)); have HLe := Aside0.mk (Array.getElem?_eq_some_iff.1 HAe.out).1; have HBe := Aside0.mk (below_step (by repeat (first | exact HBb.out | exact HB0.out | apply below_drew1)) hbb); have de0 : we.cell? ⟨w.heap.size, 0, none⟩ = some (.int .i64 b) := (blk_cell HAe.out 0).trans rfl; have de1 : we.cell? ⟨w.heap.size, 1, none⟩ = some (.int .i64 e) := (blk_cell HAe.out 1).trans rfl; clear hbb))
    all_goals (try go_wp2_with fail)
    all_goals
      go_ret2
      have hL : (B ++ ⟨#[58]⟩ ++ E).data.toList = Nums.rngT b e := by rw [HR.out]; rfl
      rw [show (Nums.rngT b e).length = B.size + 1 + E.size by rw [← hL, Array.length_toList]; show ((B ++ ⟨#[58]⟩) ++ E).size = _; simp; rfl, ← hL]
      exact ⟨_, _, rfl, MapK.BRow.at_ _ _ _ _ rfl, by rw [Lib.bytesWorld_size]; exact Nat.lt_succ_self _, below_step (by repeat (first | exact HBe.out | exact HBb.out | apply below_drew1)) (Lib.bytesWorld_below _ _ _)⟩
set_option maxHeartbeats 1600000 in
set_option maxRecDepth 100000 in
theorem range_text (b e : Int) (w : World) (h1 : -100000 < b) (h2 : b < 100000) (h3 : -100000 < e) (h4 : e < 100000) (hP : Pow w) :
    Calls Tryd.prog 18 #[.int .i64 b, .int .i64 e] w fun x w' => x = .returned (.string (Nums.rngB b e)) ∧ Below w.heap.size w w' := by
  have C := Aside0.mk (marshal_num b e w h1 h2 h3 h4 hP)
  clear h1 h2 h3 h4 hP
  go_enter Tryd.func18, Tryd.ntmps18
  go_wp2_with fail
  refine C.out.mono ?_
  rintro x w1 ⟨v, c, rfl, hR, hv, hB⟩
  have hcv : ∀ W, Below w1.heap.size w1 W → (convert 51 9 (.slice (some ⟨v, 0, none⟩) (Nums.rngT b e).length c)).run Tryd.prog W = .ok (.string (Nums.rngB b e)) W := fun W hb => (hR.below hb hv).back 51 9 5 Tryd.underlying51 Tryd.underlying5 Tryd.underlying9
  have h1 := hcv w1 (Below.refl _ _)
  have HB := Aside0.mk hB
  clear hcv hR hv hB
  go_wp2
  go_ret
  exact ⟨rfl, HB.out⟩
end Go.Proofs.YtfkapmbjnfnmmaaDoor.Door
