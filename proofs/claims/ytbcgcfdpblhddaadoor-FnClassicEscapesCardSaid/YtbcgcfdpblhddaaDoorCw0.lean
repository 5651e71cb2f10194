/- Matchers as pointers, NewMatcher, errors.New, impl.outer, impl.outers: for the old reader. -/
import Derived.Test.YtbcgcfdpblhddaaDoorCl5
import Derived.Test.YtbcgcfdpblhddaaDoorLib
import Derived.Test.YtbcgcfdpblhddaaDoorBox
import Derived.Test.YtbcgcfdpblhddaaDoorWN
import Derived.Test.YtbcgcfdpblhddaaDoorQx0
import Derived.Deep.RegionHeld3
import Derived.LoopTactic
namespace Go.Proofs.YtbcgcfdpblhddaaDoor.Cl
open Go.RowKit Go.Lib Go.Proofs.YtbcgcfdpblhddaaDoor.Pure Go.Proofs.YtbcgcfdpblhddaaDoor.Q Go.Proofs.YtbcgcfdpblhddaaDoorW.PrintWords Go.Proofs.YtbcgcfdpblhddaaDoorW.PrintLast
set_option linter.unusedVariables false
set_option linter.unusedSimpArgs false
set_option linter.unusedVariables false
set_option linter.unusedSimpArgs false
theorem heap_set {w : World} {b i : Nat} {cs : Array Value} {T : TypeId} {fr : Nat × Nat} (hb : w.heap[b]? = some (.cells cs T fr)) (v : Value) : (w.setCell ⟨b, i, none⟩ v).heap[b]? = some (.cells (cs.setIfInBounds i v) T fr) := by
  simp [World.setCell, Array.getElem?_modify, hb]
set_option linter.unusedVariables false
set_option linter.unusedSimpArgs false
abbrev SMt := S76
def kMat : Kd S76 := Box.box 76 k76
theorem kMat_new {w : World} {base g : Nat} {x : S76} (hb : base ≤ g) (h : w.heap[g]? = some (.cells #[.int .i64 x.f0, .string x.f1, .string x.f2] 76 (0, 0))) (ok : Nat → Prop) (ho : ok g) :
    kMat.M w base ok x [.pointer (some ⟨g, 0, none⟩)] :=
  ⟨g, _, rfl, ho, hb, h, k76_mkM w base ok x⟩
theorem infoPM : (Tryd.prog.info? 42).map (fun i => (i.zero, i.size, i.bytes)) = some (some (.pointer none), 1, 8) := by kernel_rfl
theorem newMatcher_calls (t : Int) (n v : ByteArray) (w : World) :
    Calls Tryd.prog 33 #[.int .i64 t, .string n, .string v] w fun x w' => ∃ g, x = .returned (.tuple #[.pointer (some ⟨g, 0, none⟩), .nilIface]) ∧ w.heap.size ≤ g ∧ w'.heap[g]? = some (.cells #[.int .i64 t, .string n, .string v] 76 (0, 0)) ∧ Below w.heap.size w w' := by
  go_enter Tryd.func33, Tryd.ntmps33
  go_wp2
  go_ret2
  exact ⟨_, rfl, by omega, Box.new_at (by simp) _, by repeat (first | exact Below.refl _ _ | apply below_alloc)⟩
theorem kMat_open {w : World} {x : S76} {cs : List Value} (h : kMat.K w x cs) : ∃ g, cs = [.pointer (some ⟨g, 0, none⟩)] ∧ w.heap[g]? = some (.cells #[.int .i64 x.f0, .string x.f1, .string x.f2] 76 (0, 0)) := by
  obtain ⟨g, cs', e, hg, hk⟩ := h
  have e' := k76_open hk
  refine ⟨g, e, ?_⟩
  rw [hg]
  congr 2
  exact Array.toList_inj.1 e'
def zMat : SMt := ⟨0, ⟨#[]⟩, ⟨#[]⟩⟩
theorem errNew_calls (t : ByteArray) (w : World) : Calls Tryd.prog 28 #[.string t] w fun x w' => Below w.heap.size w w' ∧ ∃ T u, x = .returned (.iface T u) := by
  go_enter Tryd.func28, Tryd.ntmps28
  go_wp2
  go_ret
  exact ⟨by repeat (first | exact Below.refl _ _ | apply below_alloc), _, _, rfl⟩
set_option linter.unusedVariables false
set_option linter.unusedSimpArgs false
def ofMat (x : S76) : S24 := ⟨x.f0, x.f1, x.f2⟩
set_option maxHeartbeats 3200000 in
set_option maxRecDepth 100000 in
theorem impl_outer.calls (g : Nat) (a : Int) (b c : ByteArray) (w : World) (h : w.heap[g]? = some (.cells #[.int .i64 a, .string b, .string c] 76 (0, 0))) :
    Calls Tryd.prog 17 #[.pointer (some ⟨g, 0, none⟩)] w fun e w' => e = .returned (.agg #[.int .i64 a, .string b, .string c]) ∧ Below w.heap.size w w' := by
  have hl := blk_lt h
  have c0 : w.cell? ⟨g, 0, none⟩ = some (.int .i64 a) := (blk_cell h 0).trans rfl
  have c1 : w.cell? ⟨g, 1, none⟩ = some (.string b) := (blk_cell h 1).trans rfl
  have c2 : w.cell? ⟨g, 2, none⟩ = some (.string c) := (blk_cell h 2).trans rfl
  clear h
  have hne : g ≠ w.heap.size := by omega
  go_enter Tryd.func17, Tryd.ntmps17
  go_wp2
  go_region_held3 (fun w' => w'.cell? ⟨g, 0, none⟩ = some (.int .i64 a) ∧ w'.cell? ⟨g, 1, none⟩ = some (.string b) ∧ w'.cell? ⟨g, 2, none⟩ = some (.string c)) (go_keep) (fail)
  all_goals (try go_wp2)
  refine bodyPost_ret (v := .agg #[.int .i64 a, .string b, .string c]) ?_ rfl ?_
  · simp [results]
    go_simp
  · exact ⟨rfl, by repeat (first | exact below_alloc (Below.refl _ _) _ | apply below_drew1 | apply pw_below_drewN)⟩
theorem infoIM : (Tryd.prog.info? 24).map (fun i => (i.zero, i.size, i.bytes)) = some (some (.agg #[.int .i64 0, .string ⟨#[]⟩, .string ⟨#[]⟩]), 3, 40) := by kernel_rfl
set_option maxHeartbeats 3200000 in
set_option maxRecDepth 100000 in
theorem impl_outers.calls (A0 : Option Addr) (c0 : Nat) (l0 : List S76) (w : World) (hr0 : Kd.C kMat w A0 l0.length l0) (hl : l0.length ≤ 1000000000) :
    Calls Tryd.prog 19 #[.slice A0 l0.length c0] w fun e w' => ∃ v, e = .returned v ∧ Kd.R k24 24 w' w.heap.size (fun _ => True) v (l0.map ofMat) ∧ Below w.heap.size w w' := by
  have R0 := Aside0.mk hr0
  clear hr0
  go_enter Tryd.func19, Tryd.ntmps19
  go_wp2
  go_loopw [3, 8] (fun v3 v8 wr => ∃ j : Nat, j ≤ l0.length ∧ v8 = .int .i64 j ∧ Aside0 (Kd.R k24 24 wr w.heap.size (fun _ => True) v3 ((l0.take j).map ofMat)) ∧ Aside0 (Below w.heap.size w wr)) (fun _ v8 _ => l0.length - (RowKit.intOf v8).toNat)
  case atStart => exact ⟨0, Nat.zero_le _, rfl, ⟨Kd.R_nil _ _ _ _ _⟩, ⟨Below.refl _ _⟩⟩
  case round =>
    obtain ⟨j, hj, rfl, HO, HB⟩ := hrel
    by_cases hlt : j < l0.length
    · obtain ⟨ad, c, e0, _, hK, hc0⟩ := Kd.C_get (Kd.C_below R0.out HB.out) zMat (j : Int) (by omega) (by omega)
      obtain ⟨g, rfl, hb⟩ := kMat_open hK
      cases e0
      have er : l0.getD (j : Int).toNat zMat = l0[j] := by rw [Int.toNat_natCast, List.getD_eq_getElem?_getD, List.getElem?_eq_getElem hlt]; rfl
      rw [er] at hb
      have hx : wr.cell? (ad.add j) = some (.pointer (some ⟨g, 0, none⟩)) := by
        have := hc0 0 _ rfl
        simpa [kMat, Box.box] using this
      have HT := Aside0.mk (show (l0.take (j + 1)).map ofMat = (l0.take j).map ofMat ++ [(⟨l0[j].f0, l0[j].f1, l0[j].f2⟩ : S24)] by rw [List.take_succ_eq_append_getElem hlt, List.map_append]; rfl)
      clear er hc0 hK
      generalize l0[j] = x at *
      obtain ⟨x0, x1, x2⟩ := x
      simp only at hb HT
      have HP := Aside0.mk hb
      clear hb
      go_wp2_with fail
      refine (impl_outer.calls g x0 x1 x2 wr HP.out).mono ?_
      rintro e w3 ⟨rfl, hB3⟩
      have HO3 := Aside0.mk (Kd.R_below HO.out hB3)
      have HB3 := Aside0.mk (below_step HB.out hB3)
      clear hB3 HO HB HP
      have HS3 := Aside0.mk (below_size HB3.out)
      go_wp2_with ((with_reducible refine gate_builtin (b := .append) (xs := #[.tmp 12, .tmp 15]) rfl ?_); at_builtin; refine Kd.R_append k24 (w0 := w) w.heap.size rfl (.tmp 12) (.tmp 15) 29 24 (.agg #[.int .i64 0, .string ⟨#[]⟩, .string ⟨#[]⟩]) 40 rfl Tryd.underlying29 infoIM rfl (by decide) (by omega) u3 ((l0.take j).map ofMat) (⟨x0, x1, x2⟩ : S24) [.int .i64 x0, .string x1, .string x2] (fun _ => True) (fun _ => False) rfl (by first | (go_simp; done) | (go_simp; rfl)) (k24_mkM _ _ _ (⟨x0, x1, x2⟩ : S24)) (fun _ hk => hk.elim) (fun _ _ => trivial) HO3.out HB3.out HS3.out (by rw [List.length_map, List.length_take]; omega) ?_; intro v2 w4 hO4 hB4 hg4 hat4; rw [← HT.out] at hO4; have HO4 := Aside0.mk hO4; have HB4 := Aside0.mk hB4; clear hO4 hB4 hg4 hat4 HO3 HB3 HT HS3)
      go_roundw
      case rel => exact ⟨j + 1, by omega, by go_num, HO4, HB4⟩
      case measure => simp [RowKit.intOf]; omega
    · have hj2 : j = l0.length := by omega
      subst hj2
      have hO := HO.out
      rw [List.take_of_length_le (Nat.le_refl _)] at hO
      have HO2 := Aside0.mk hO
      clear hO HO
      go_wp2
      go_ret
      exact ⟨_, rfl, HO2.out, HB.out⟩
theorem cells3 {w : World} {g : Nat} {t : TypeId} {v0 v1 v2 : Value} (h : w.heap[g]? = some (.cells #[v0, v1, v2] t (0, 0))) :
    (w.cell? ⟨g, 0, none⟩ = some v0 ∧ w.cell? ⟨g, 1, none⟩ = some v1 ∧ w.cell? ⟨g, 2, none⟩ = some v2) ∧ (w.frozen? ⟨g, 0, none⟩ = false ∧ w.frozen? ⟨g, 1, none⟩ = false ∧ w.frozen? ⟨g, 2, none⟩ = false) := by
  unfold World.cell? World.frozen?
  rw [h]
  exact ⟨⟨rfl, rfl, rfl⟩, ⟨rfl, rfl, rfl⟩⟩
end Go.Proofs.YtbcgcfdpblhddaaDoor.Cl
