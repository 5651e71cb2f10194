/- The walk of ParseDuration. -/
import Derived.Test.YtdookfmcphmlgaaDoorDurPure
import Derived.Test.YtdookfmcphmlgaaDoorShelf
import Derived.LoopTactic
import Derived.Laws.DeepStrings4
namespace Go.Proofs.YtdookfmcphmlgaaDoor.Door
open Go.RowKit Go.Shelf Go.Lib Go.Proofs.YtdookfmcphmlgaaDoor.Q Go.Proofs.YtdookfmcphmlgaaDoor.Pure Go.Proofs.YtdookfmcphmlgaaDoorW.PrintWords Go.Proofs.YtdookfmcphmlgaaDoorW.PrintLast
set_option linter.unusedVariables false
set_option linter.unusedSimpArgs false
/-- What the walks ask of the world: the two errors' variables hold something. -/
def Errs (w : World) : Prop := (∃ ev, w.cell? ⟨0, 0, none⟩ = some ev ∧ (ev = .nilIface ∨ ∃ te pe, ev = .iface te pe)) ∧ (∃ ev, w.cell? ⟨1, 0, none⟩ = some ev ∧ (ev = .nilIface ∨ ∃ te pe, ev = .iface te pe))
theorem Errs.below {w w' : World} (h : Errs w) (hb : Below w.heap.size w w') : Errs w' := by
  obtain ⟨⟨e0, h0, k0⟩, ⟨e1, h1, k1⟩⟩ := h
  exact ⟨⟨e0, (hb.cell (World.block_lt_of_cell? w _ h0)).trans h0, k0⟩, ⟨e1, (hb.cell (World.block_lt_of_cell? w _ h1)).trans h1, k1⟩⟩
theorem errors_New (s : ByteArray) (w : World) :
    Calls Tryd.prog 12 #[.string s] w fun e w' => (∃ te pe, e = .returned (.iface te pe)) ∧ Below w.heap.size w w' := by
  go_enter Tryd.func12, Tryd.ntmps12
  go_wp2
  go_ret
  exact ⟨⟨_, _, rfl⟩, below_alloc (Below.refl _ _) _⟩
def PUPost (l : List UInt8) (e : Ending) : Prop := match parseUintB 64 l with
  | .ok u => e = .returned (.tuple #[.int .u64 u, .nilIface])
  | _ => ∃ u te pe, e = .returned (.tuple #[.int .u64 u, .iface te pe])
theorem strconv_ParseUint (s : ByteArray) (w : World) (hs : s.size ≤ 281474976710656) (hE : Errs w) :
    Calls Tryd.prog 14 #[.string s, .int .i64 10, .int .i64 0] w fun e w' => PUPost s.data.toList e ∧ Below w.heap.size w w' := by
  obtain ⟨⟨e0, h0, k0⟩, ⟨e1, h1, k1⟩⟩ := hE
  unfold PUPost
  cases h : parseUintB 64 s.data.toList with
  | ok u =>
    refine (Tryd.strconv_ParseUint_10_at0_ok s (by omega) u h w).mono ?_
    rintro e w' ⟨rfl, hw⟩
    refine ⟨rfl, ?_⟩
    rcases hw with rfl | rfl
    · exact Below.refl _ _
    · exact bytesWorld_below w _ s
  | «syntax» =>
    refine (Tryd.strconv_ParseUint_10_at0_syntax s hs h e0 w h0 k0).mono ?_
    rintro e w' ⟨N, rfl, _, _, hb⟩
    exact ⟨⟨_, _, _, rfl⟩, hb⟩
  | range =>
    refine (Tryd.strconv_ParseUint_10_at0_range s hs h e1 w h1 k1).mono ?_
    rintro e w' ⟨N, rfl, _, _, hb⟩
    exact ⟨⟨_, _, _, rfl⟩, hb⟩
theorem isdig_at (b : UInt8) : model_isdigit.f (b.toNat : Int) = some (isdig b) := by
  unfold model_isdigit.f isdig
  by_cases h : 48 ≤ b.toNat
  · rw [if_pos (by omega), decide_eq_true h, Bool.true_and]
    congr 1
    exact decide_eq_decide.2 ⟨fun h => by omega, fun h => by omega⟩
  · rw [if_neg (by omega), decide_eq_false h, Bool.false_and]
def strLen : Value → Nat
  | .string s => s.size
  | _ => 0
theorem size_length (s : ByteArray) : s.data.toList.length = s.size := by rw [Array.length_toList]; rfl
theorem ext_take (s : ByteArray) (n : Nat) : (s.extract 0 n).data.toList = s.data.toList.take n := by
  rw [ByteArray.data_extract, Array.toList_extract, List.extract_eq_take_drop, List.drop_zero, Nat.sub_zero]
theorem ext_drop (s : ByteArray) (n : Nat) : (s.extract n s.size).data.toList = s.data.toList.drop n := by
  have hz : s.data.toList.length = s.size := size_length s
  rw [ByteArray.data_extract, Array.toList_extract, List.extract_eq_take_drop, List.take_of_length_le (by rw [List.length_drop, hz]; omega)]
theorem nl_pos {l : List UInt8} (h : 0 < l.length) (hd : isdig (l.getD 0 0) = false) : 1 ≤ nl l := by
  cases l with
  | nil => simp at h
  | cons b r =>
    have hb : isdig b = false := hd
    unfold nl
    rw [if_neg (by rw [hb]; simp)]
    omega
theorem getD_drop0 (l : List UInt8) (n : Nat) : (l.drop n).getD 0 0 = l.getD n 0 := by simp [List.getD, List.getElem?_drop]
theorem pu_take (z : ByteArray) (D : Nat) (W : World) (hz : z.size ≤ 2147483647) (hE : Errs W) :
    Calls Tryd.prog 14 #[.string (z.extract 0 D), .int .i64 10, .int .i64 0] W fun e w' => PUPost (z.data.toList.take D) e ∧ Below W.heap.size W w' := by
  have h := strconv_ParseUint (z.extract 0 D) W (by rw [← size_length, ext_take, List.length_take, size_length]; omega) hE
  rw [ext_take] at h
  exact h
def DurPost (r : Option Nat) (e : Ending) : Prop := match r with
  | some d => e = .returned (.tuple #[.int .i64 d, .nilIface])
  | none => ∃ te pe, e = .returned (.tuple #[.int .i64 0, .iface te pe])
set_option maxRecDepth 100000 in
set_option maxHeartbeats 40000000 in
theorem model_ParseDuration (s : ByteArray) (w : World) (hs : s.size ≤ 2147483647) (hE : Errs w) :
    Calls Tryd.prog 10 #[.string s] w fun e w' => DurPost (parseDur s.data.toList) e ∧ Below w.heap.size w w' := by
  obtain ⟨r, hr⟩ : ∃ r, parseDur s.data.toList = r := ⟨_, rfl⟩
  rw [hr]
  have HE := Aside0.mk hE
  clear hE
  by_cases h48 : s.data.toList = [48]
  · have hs48 : s = ⟨#[48]⟩ := by
      apply ByteArray.ext
      exact Array.toList_inj.1 h48
    have hr' : r = some 0 := by rw [← hr]; unfold parseDur; rw [if_pos h48]
    subst hs48
    subst hr'
    go_enter Tryd.func10, Tryd.ntmps10
    go_wp2
    go_ret2
    exact ⟨rfl, Below.refl _ _⟩
  by_cases h0 : s.data.toList = []
  · have hs0 : s = ⟨#[]⟩ := by
      apply ByteArray.ext
      exact Array.toList_inj.1 h0
    have hr' : r = none := by rw [← hr]; unfold parseDur; rw [if_neg h48, if_pos h0]
    subst hs0
    subst hr'
    go_enter Tryd.func10, Tryd.ntmps10
    go_wp2_with fail
    refine (errors_New _ w).mono ?_
    rintro e w1 ⟨⟨te, pe, rfl⟩, hb⟩
    go_wp2
    go_ret2
    exact ⟨⟨te, pe, rfl⟩, hb⟩
  have hgo : durGo (s.data.toList.length + 1) s.data.toList 0 0 = r := by rw [← hr]; unfold parseDur; rw [if_neg h48, if_neg h0]
  have b48 : (s.toList == [48]) = false := by rw [Lib.toList_data]; simpa using h48
  have b0 : (s.toList == []) = false := by rw [Lib.toList_data]; simpa using h0
  have HG := Aside0.mk hgo
  have HB := Aside0.mk (Below.refl w.heap.size w)
  clear hgo hr h48 h0
  go_enter Tryd.func10, Tryd.ntmps10
  go_wp2
  go_loopw [0, 4, 5] (fun v0 v4 v5 wr => ∃ (z : ByteArray) (f d : Nat) (p : Int), z.size ≤ 2147483647 ∧ v0 = .string z ∧ v4 = .int .u64 d ∧ v5 = .int .i64 p ∧ Aside0 (durGo f z.data.toList d p = r ∧ z.size < f ∧ d ≤ 9223372036854775807 ∧ 0 ≤ p ∧ p ≤ 7) ∧ Aside0 (Errs wr) ∧ Aside0 (Below w.heap.size w wr)) (fun v0 _ _ _ => strLen v0)
  case atStart => exact ⟨s, s.data.toList.length + 1, 0, 0, hs, rfl, rfl, rfl, Aside0.mk ⟨HG.out, by rw [size_length]; omega, by omega, by omega, by omega⟩, HE, HB⟩
  case round =>
    clear HG HE HB b48 b0 hs
    obtain ⟨z, f, d, p, hz, rfl, rfl, rfl, HG, HE, HB⟩ := hrel
    obtain ⟨hg, hf, hd, hp0, hp7⟩ := HG.out
    cases f with
    | zero => omega
    | succ f =>
    by_cases h0 : z.data.toList = []
    · have hr : r = some d := by rw [← hg]; unfold durGo; rw [if_pos h0]
      have b0 : (z.toList == []) = true := by rw [Lib.toList_data, h0]; rfl
      subst hr
      clear hg HG
      go_wp2
      go_ret2
      exact ⟨rfl, HB.out⟩
    have b0 : (z.toList == []) = false := by rw [Lib.toList_data]; simpa using h0
    have hz0 : 0 < z.size := by
      rw [← size_length]
      exact List.length_pos_iff.2 h0
    have hz0' : (0 : Int) < (z.size : Int) := by omega
    cases hc : isdig (z.data.toList.getD 0 0) with
    | false =>
      have hr := dur_none h0 hg (step_nodig hc)
      subst hr
      clear hg HG
      go_wp2_with fail
      refine (model_isdigit.calls _ _ wr (isdig_at _)).mono ?_
      rintro e w1 ⟨rfl, hb⟩
      rw [byte_at z 0 hz0, hc]
      have HB1 := Aside0.mk (below_step HB.out hb.below)
      clear hb
      go_wp2_with fail
      refine (errors_New _ w1).mono ?_
      rintro e w2 ⟨⟨te, pe, rfl⟩, hb⟩
      go_wp2
      go_ret2
      exact ⟨⟨te, pe, rfl⟩, below_step HB1.out hb⟩
    | true =>
      have HC := Aside0.mk hc
      have HG2 := Aside0.mk hg
      clear hg HG
      go_wp2_with fail
      refine (model_isdigit.calls _ _ wr (isdig_at _)).mono ?_
      rintro e w1 ⟨rfl, hb⟩
      rw [byte_at z 0 hz0, hc]
      have HB1 := Aside0.mk (below_step HB.out hb.below)
      have HE1 := Aside0.mk (HE.out.below hb.below)
      clear hb hc HE HB
      go_wp2
      -- MARK (behind this: printed by tools/gen_dur.py)
      obtain ⟨D, hD⟩ : ∃ D, dl z.data.toList = D := ⟨_, rfl⟩
      have hDz : D ≤ z.size := by rw [← hD, ← size_length]; exact dl_le _
      have HPU := Aside0.mk (fun (W : World) (hE : Errs W) => pu_take z D W hz hE)
      have hDi : (D : Int) ≤ (z.size : Int) := by omega
      go_loopw [6] (fun v6 wx => ∃ j : Nat, j ≤ D ∧ v6 = .int .i64 j ∧ Aside0 (Errs wx) ∧ Aside0 (Below w.heap.size w wx)) (fun v6 _ => D - (RowKit.intOf v6).toNat)
      case atStart => exact ⟨0, Nat.zero_le _, rfl, HE1, HB1⟩
      case round =>
        clear HE1 HB1
        obtain ⟨j, hj, rfl, HE1, HB1⟩ := hrel
        by_cases hjd : j < D
        · have hjz : j < z.size := by omega
          have hlt : (j : Int) < (z.size : Int) := by omega
          go_wp2_with fail
          refine (model_isdigit.calls _ _ wr (isdig_at _)).mono ?_
          rintro e w2 ⟨rfl, hb⟩
          rw [byte_at z j hjz, dl_in _ _ (by rw [hD]; exact hjd)]
          have HB2 := Aside0.mk (below_step HB1.out hb.below)
          have HE2 := Aside0.mk (HE1.out.below hb.below)
          clear hb HB1 HE1
          go_wp2
          go_roundw
          case rel => exact ⟨j + 1, by omega, by simp, HE2, HB2⟩
          case measure => simp [RowKit.intOf] <;> omega
        obtain rfl : j = D := by omega
        by_cases hall : j = z.size
        · have hge : ¬ (j : Int) < (z.size : Int) := by omega
          have HA := Aside0.mk hall
          clear hall
          go_wp2_with fail
          refine (HPU.out wr HE1.out).mono ?_
          rintro e w4 ⟨hp, hb⟩
          have HB4 := Aside0.mk (below_step HB1.out hb)
          have HE4 := Aside0.mk (HE1.out.below hb)
          clear hb HB1 HE1
          unfold PUPost at hp
          cases hv : parseUintB 64 (z.data.toList.take j) with
          | ok v =>
            simp only [hv] at hp
            subst hp
            have HV := Aside0.mk hv
            clear hv
            go_wp2
            generalize hz1 : z.extract j z.size = z1
            have HZ1 := Aside0.mk (show z1.data.toList = z.data.toList.drop j by rw [← hz1]; exact ext_drop _ _)
            have hz1s : z1.size = z.size - j := by rw [← hz1, ← size_length, ext_drop, List.length_drop, size_length]
            obtain ⟨K, hK⟩ : ∃ K, nl z1.data.toList = K := ⟨_, rfl⟩
            have hKs : K ≤ z1.size := by rw [← hK, ← size_length]; exact nl_le _
            clear hz1
            go_loopw [6] (fun v6 wy => ∃ k : Nat, k ≤ K ∧ v6 = .int .i64 k ∧ Aside0 (Errs wy) ∧ Aside0 (Below w.heap.size w wy)) (fun v6 _ => K - (RowKit.intOf v6).toNat)
            case atStart => exact ⟨0, Nat.zero_le _, rfl, HE4, HB4⟩
            case round =>
              clear HE4 HB4
              obtain ⟨k, hk, rfl, HE5, HB5⟩ := hrel
              by_cases hkK : k < K
              · exfalso; have := HA.out; omega
              obtain rfl : k = K := by omega
              by_cases hend : k = z1.size
              · have hge : ¬ (k : Int) < (z1.size : Int) := by omega
                have HN := Aside0.mk hend
                clear hend
                have hr := dur_none h0 HG2.out (step_all HC.out (by rw [hD]; exact HV.out) (by rw [hD, size_length]; exact HA.out))
                subst hr
                clear HG2
                have hK0 : k = 0 := by have := HA.out; omega
                subst hK0
                go_wp2_with fail
                refine (errors_New _ wr).mono ?_
                rintro e wq ⟨⟨te, pe, rfl⟩, hb⟩
                go_wp2
                go_ret2
                exact ⟨⟨te, pe, rfl⟩, below_step HB5.out hb⟩
              · exfalso; have := HA.out; omega
          | «syntax» =>
            simp only [hv] at hp
            obtain ⟨uu, te0, pe0, rfl⟩ := hp
            have hr := dur_none h0 HG2.out (step_bad HC.out (fun v h => by rw [hD, hv] at h; cases h))
            subst hr
            clear HG2
            go_wp2_with fail
            refine (errors_New _ w4).mono ?_
            rintro e wq ⟨⟨te, pe, rfl⟩, hb⟩
            go_wp2
            go_ret2
            exact ⟨⟨te, pe, rfl⟩, below_step HB4.out hb⟩
          | range =>
            simp only [hv] at hp
            obtain ⟨uu, te0, pe0, rfl⟩ := hp
            have hr := dur_none h0 HG2.out (step_bad HC.out (fun v h => by rw [hD, hv] at h; cases h))
            subst hr
            clear HG2
            go_wp2_with fail
            refine (errors_New _ w4).mono ?_
            rintro e wq ⟨⟨te, pe, rfl⟩, hb⟩
            go_wp2
            go_ret2
            exact ⟨⟨te, pe, rfl⟩, below_step HB4.out hb⟩
        · have hjz : j < z.size := by omega
          have hlt : (j : Int) < (z.size : Int) := by omega
          go_wp2_with fail
          refine (model_isdigit.calls _ _ wr (isdig_at _)).mono ?_
          rintro e w2 ⟨rfl, hb⟩
          rw [byte_at z j hjz, show isdig (z.data.toList.getD j 0) = false by rw [← hD]; exact dl_at _ (by rw [hD, size_length]; exact hjz)]
          have HB2 := Aside0.mk (below_step HB1.out hb.below)
          have HE2 := Aside0.mk (HE1.out.below hb.below)
          clear hb HB1 HE1
          go_wp2_with fail
          refine (HPU.out w2 HE2.out).mono ?_
          rintro e w4 ⟨hp, hb⟩
          have HB4 := Aside0.mk (below_step HB2.out hb)
          have HE4 := Aside0.mk (HE2.out.below hb)
          clear hb HB2 HE2
          unfold PUPost at hp
          cases hv : parseUintB 64 (z.data.toList.take j) with
          | ok v =>
            simp only [hv] at hp
            subst hp
            have HV := Aside0.mk hv
            clear hv
            go_wp2
            generalize hz1 : z.extract j z.size = z1
            have HZ1 := Aside0.mk (show z1.data.toList = z.data.toList.drop j by rw [← hz1]; exact ext_drop _ _)
            have hz1s : z1.size = z.size - j := by rw [← hz1, ← size_length, ext_drop, List.length_drop, size_length]
            obtain ⟨K, hK⟩ : ∃ K, nl z1.data.toList = K := ⟨_, rfl⟩
            have hKs : K ≤ z1.size := by rw [← hK, ← size_length]; exact nl_le _
            have hK1 : 1 ≤ K := by
              have h := dl_at z.data.toList (by rw [hD, size_length]; omega)
              rw [hD] at h
              rw [← hK, HZ1.out]
              exact nl_pos (by rw [List.length_drop, size_length]; omega) (by rw [getD_drop0]; exact h)
            clear hz1
            go_loopw [6] (fun v6 wy => ∃ k : Nat, k ≤ K ∧ v6 = .int .i64 k ∧ Aside0 (Errs wy) ∧ Aside0 (Below w.heap.size w wy)) (fun v6 _ => K - (RowKit.intOf v6).toNat)
            case atStart => exact ⟨0, Nat.zero_le _, rfl, HE4, HB4⟩
            case round =>
              clear HE4 HB4
              obtain ⟨k, hk, rfl, HE5, HB5⟩ := hrel
              by_cases hkK : k < K
              · have hkz : k < z1.size := by omega
                have hlt : (k : Int) < (z1.size : Int) := by omega
                go_wp2_with fail
                refine (model_isdigit.calls _ _ wr (isdig_at _)).mono ?_
                rintro e w6 ⟨rfl, hb⟩
                rw [byte_at z1 k hkz, nl_in _ _ (by rw [hK]; exact hkK)]
                have HB6 := Aside0.mk (below_step HB5.out hb.below)
                have HE6 := Aside0.mk (HE5.out.below hb.below)
                clear hb HB5 HE5
                go_wp2
                go_roundw
                case rel => exact ⟨k + 1, by omega, by simp, HE6, HB6⟩
                case measure => simp [RowKit.intOf] <;> omega
              obtain rfl : k = K := by omega
              by_cases hend : k = z1.size
              · have hge : ¬ (k : Int) < (z1.size : Int) := by omega
                have HN := Aside0.mk hend
                clear hend
                have hne1 : ¬ dl z.data.toList = z.data.toList.length := by rw [hD, size_length]; omega
                have hub : (z1.extract 0 k).data.toList = (z.data.toList.drop j).take k := by rw [ext_take, HZ1.out]
                have huu : ∀ x, unitOf (z1.extract 0 k) = x → unitOf ⟨((z.data.toList.drop (dl z.data.toList)).take (nl (z.data.toList.drop (dl z.data.toList)))).toArray⟩ = x := fun x hx => by
                  rw [hD, ← HZ1.out, hK, HZ1.out, ← hub, Array.toArray_toList]
                  exact hx
                have HZ2 := Aside0.mk (show (z1.extract k (z.size - j)).data.toList = (z.data.toList.drop (dl z.data.toList)).drop (nl (z.data.toList.drop (dl z.data.toList))) by
                  rw [hD, ← HZ1.out, hK, ← hz1s, ext_drop])
                have hKi : ¬ (k : Int) = 0 := by omega
                have hKi2 : ((k : Int) == 0) = false := by simpa using hKi
                have hKle : (k : Int) ≤ (z1.size : Int) := by omega
                go_wp2_with fail
                refine (model_unitMap (z1.extract 0 k) wr).mono ?_
                rintro e w5 ⟨rfl, hb⟩
                have H10 := Aside0.mk (below_step HB5.out hb)
                have E10 := Aside0.mk (HE5.out.below hb)
                clear hb HB5 HE5
                cases hu : unitOf (z1.extract 0 k) with
                | none =>
                  rw [show unitRes (z1.extract 0 k) = .tuple #[.agg #[.int .i64 0, .int .u64 0], .bool false] by unfold unitRes; rw [hu]]
                  have hr := dur_none h0 HG2.out (step_unit HC.out (by rw [hD]; exact HV.out) hne1 (huu _ hu))
                  subst hr
                  clear HG2
                  go_wp2_with fail
                  refine (errors_New _ _).mono ?_
                  rintro e wq ⟨⟨te, pe, rfl⟩, hb⟩
                  go_wp2
                  go_ret2
                  exact ⟨⟨te, pe, rfl⟩, below_step (below_alloc H10.out _) hb⟩
                | some pm =>
                  obtain ⟨p1, m⟩ := pm
                  rw [show unitRes (z1.extract 0 k) = .tuple #[.agg #[.int .i64 p1, .int .u64 m], .bool true] by unfold unitRes; rw [hu]]
                  obtain ⟨q1, q2, q3, q4⟩ := unit_bounds hu
                  have HQ := Aside0.mk (show 1 ≤ p1 ∧ p1 ≤ 7 ∧ 1 ≤ m ∧ m ≤ 31536000000000000 from ⟨q1, q2, q3, q4⟩)
                  have HST := Aside0.mk (step_rest (d := d) (last := p) HC.out (by rw [hD]; exact HV.out) hne1 (huu _ hu))
                  clear q1 q2 q3 q4 hu huu hub
                  have hm0 : ¬ m = 0 := by have := HQ.out; omega
                  by_cases c1 : p1 ≤ p
                  · have dc1 := decide_eq_true c1
                    have hr := dur_none h0 HG2.out (by rw [HST.out, if_pos c1])
                    subst hr
                    clear HG2 HST
                    go_wp2_with fail
                    refine (errors_New _ _).mono ?_
                    rintro e wq ⟨⟨te, pe, rfl⟩, hb⟩
                    go_wp2
                    go_ret2
                    exact ⟨⟨te, pe, rfl⟩, below_step (below_alloc H10.out _) hb⟩
                  have dc1 := decide_eq_false c1
                  go_wp2_with fail
                  · have hw : IntKind.u64.wrap (Int.tdiv 9223372036854775808 m) < (v : Int) := by assumption
                    have hr := dur_none h0 HG2.out (by rw [HST.out, if_neg (by omega), if_pos (dur_w1 HQ.out.2.2.1 HQ.out.2.2.2 hw)])
                    subst hr
                    refine (errors_New _ _).mono ?_
                    rintro e wq ⟨⟨te, pe, rfl⟩, hb⟩
                    go_wp2
                    go_ret2
                    exact ⟨⟨te, pe, rfl⟩, below_step (below_alloc H10.out _) hb⟩
                  · have hw : (v : Int) ≤ IntKind.u64.wrap (Int.tdiv 9223372036854775808 m) := by assumption
                    have hx : 9223372036854775807 < IntKind.u64.wrap ((d : Int) + IntKind.u64.wrap ((v : Int) * m)) := by assumption
                    obtain ⟨n1, n2⟩ := dur_w2 HQ.out.2.2.1 HQ.out.2.2.2 hd hw
                    have hr := dur_none h0 HG2.out (by rw [HST.out, if_neg (by omega), if_neg n1, if_pos (by rw [← n2]; exact hx)])
                    subst hr
                    refine (errors_New _ _).mono ?_
                    rintro e wq ⟨⟨te, pe, rfl⟩, hb⟩
                    go_wp2
                    go_ret2
                    exact ⟨⟨te, pe, rfl⟩, below_step (below_alloc H10.out _) hb⟩
                  · have hw : (v : Int) ≤ IntKind.u64.wrap (Int.tdiv 9223372036854775808 m) := by assumption
                    have hx : IntKind.u64.wrap ((d : Int) + IntKind.u64.wrap ((v : Int) * m)) ≤ 9223372036854775807 := by assumption
                    obtain ⟨n1, n2⟩ := dur_w2 HQ.out.2.2.1 HQ.out.2.2.2 hd hw
                    rw [n2] at hx
                    have hs := dur_some h0 HG2.out (by rw [HST.out, if_neg (by omega), if_neg n1, if_neg (by omega)])
                    rw [n2]
                    have hzs : (z1.extract k (z.size - j)).size = z1.size - k := by rw [ByteArray.size_extract]; omega
                    go_roundw
                    case rel => exact ⟨z1.extract k (z.size - j), f, d + v * m.toNat, p1, by rw [hzs]; omega, rfl, by rw [dur_nat HQ.out.2.2.1], rfl, Aside0.mk ⟨by rw [HZ2.out]; exact hs, by rw [hzs]; omega, by have := dur_nat (d := d) (v := v) HQ.out.2.2.1; omega, by have := HQ.out; omega, HQ.out.2.1⟩, Aside0.mk (E10.out.below (below_alloc (Below.refl _ _) _)), Aside0.mk (below_alloc H10.out _)⟩
                    case measure => simp [strLen, hzs]; omega
              · have hkz : k < z1.size := by omega
                have hlt : (k : Int) < (z1.size : Int) := by omega
                go_wp2_with fail
                refine (model_isdigit.calls _ _ wr (isdig_at _)).mono ?_
                rintro e w6 ⟨rfl, hb⟩
                rw [byte_at z1 k hkz, show isdig (z1.data.toList.getD k 0) = true by rw [← hK]; exact nl_at _ (by rw [hK, size_length]; exact hkz)]
                have HB6 := Aside0.mk (below_step HB5.out hb.below)
                have HE6 := Aside0.mk (HE5.out.below hb.below)
                clear hb HB5 HE5
                have hne1 : ¬ dl z.data.toList = z.data.toList.length := by rw [hD, size_length]; omega
                have hub : (z1.extract 0 k).data.toList = (z.data.toList.drop j).take k := by rw [ext_take, HZ1.out]
                have huu : ∀ x, unitOf (z1.extract 0 k) = x → unitOf ⟨((z.data.toList.drop (dl z.data.toList)).take (nl (z.data.toList.drop (dl z.data.toList)))).toArray⟩ = x := fun x hx => by
                  rw [hD, ← HZ1.out, hK, HZ1.out, ← hub, Array.toArray_toList]
                  exact hx
                have HZ2 := Aside0.mk (show (z1.extract k (z.size - j)).data.toList = (z.data.toList.drop (dl z.data.toList)).drop (nl (z.data.toList.drop (dl z.data.toList))) by
                  rw [hD, ← HZ1.out, hK, ← hz1s, ext_drop])
                have hKi : ¬ (k : Int) = 0 := by omega
                have hKi2 : ((k : Int) == 0) = false := by simpa using hKi
                have hKle : (k : Int) ≤ (z1.size : Int) := by omega
                go_wp2_with fail
                refine (model_unitMap (z1.extract 0 k) w6).mono ?_
                rintro e w5 ⟨rfl, hb⟩
                have H10 := Aside0.mk (below_step HB6.out hb)
                have E10 := Aside0.mk (HE6.out.below hb)
                clear hb HB6 HE6
                cases hu : unitOf (z1.extract 0 k) with
                | none =>
                  rw [show unitRes (z1.extract 0 k) = .tuple #[.agg #[.int .i64 0, .int .u64 0], .bool false] by unfold unitRes; rw [hu]]
                  have hr := dur_none h0 HG2.out (step_unit HC.out (by rw [hD]; exact HV.out) hne1 (huu _ hu))
                  subst hr
                  clear HG2
                  go_wp2_with fail
                  refine (errors_New _ _).mono ?_
                  rintro e wq ⟨⟨te, pe, rfl⟩, hb⟩
                  go_wp2
                  go_ret2
                  exact ⟨⟨te, pe, rfl⟩, below_step (below_alloc H10.out _) hb⟩
                | some pm =>
                  obtain ⟨p1, m⟩ := pm
                  rw [show unitRes (z1.extract 0 k) = .tuple #[.agg #[.int .i64 p1, .int .u64 m], .bool true] by unfold unitRes; rw [hu]]
                  obtain ⟨q1, q2, q3, q4⟩ := unit_bounds hu
                  have HQ := Aside0.mk (show 1 ≤ p1 ∧ p1 ≤ 7 ∧ 1 ≤ m ∧ m ≤ 31536000000000000 from ⟨q1, q2, q3, q4⟩)
                  have HST := Aside0.mk (step_rest (d := d) (last := p) HC.out (by rw [hD]; exact HV.out) hne1 (huu _ hu))
                  clear q1 q2 q3 q4 hu huu hub
                  have hm0 : ¬ m = 0 := by have := HQ.out; omega
                  by_cases c1 : p1 ≤ p
                  · have dc1 := decide_eq_true c1
                    have hr := dur_none h0 HG2.out (by rw [HST.out, if_pos c1])
                    subst hr
                    clear HG2 HST
                    go_wp2_with fail
                    refine (errors_New _ _).mono ?_
                    rintro e wq ⟨⟨te, pe, rfl⟩, hb⟩
                    go_wp2
                    go_ret2
                    exact ⟨⟨te, pe, rfl⟩, below_step (below_alloc H10.out _) hb⟩
                  have dc1 := decide_eq_false c1
                  go_wp2_with fail
                  · have hw : IntKind.u64.wrap (Int.tdiv 9223372036854775808 m) < (v : Int) := by assumption
                    have hr := dur_none h0 HG2.out (by rw [HST.out, if_neg (by omega), if_pos (dur_w1 HQ.out.2.2.1 HQ.out.2.2.2 hw)])
                    subst hr
                    refine (errors_New _ _).mono ?_
                    rintro e wq ⟨⟨te, pe, rfl⟩, hb⟩
                    go_wp2
                    go_ret2
                    exact ⟨⟨te, pe, rfl⟩, below_step (below_alloc H10.out _) hb⟩
                  · have hw : (v : Int) ≤ IntKind.u64.wrap (Int.tdiv 9223372036854775808 m) := by assumption
                    have hx : 9223372036854775807 < IntKind.u64.wrap ((d : Int) + IntKind.u64.wrap ((v : Int) * m)) := by assumption
                    obtain ⟨n1, n2⟩ := dur_w2 HQ.out.2.2.1 HQ.out.2.2.2 hd hw
                    have hr := dur_none h0 HG2.out (by rw [HST.out, if_neg (by omega), if_neg n1, if_pos (by rw [← n2]; exact hx)])
                    subst hr
                    refine (errors_New _ _).mono ?_
                    rintro e wq ⟨⟨te, pe, rfl⟩, hb⟩
                    go_wp2
                    go_ret2
                    exact ⟨⟨te, pe, rfl⟩, below_step (below_alloc H10.out _) hb⟩
                  · have hw : (v : Int) ≤ IntKind.u64.wrap (Int.tdiv 9223372036854775808 m) := by assumption
                    have hx : IntKind.u64.wrap ((d : Int) + IntKind.u64.wrap ((v : Int) * m)) ≤ 9223372036854775807 := by assumption
                    obtain ⟨n1, n2⟩ := dur_w2 HQ.out.2.2.1 HQ.out.2.2.2 hd hw
                    rw [n2] at hx
                    have hs := dur_some h0 HG2.out (by rw [HST.out, if_neg (by omega), if_neg n1, if_neg (by omega)])
                    rw [n2]
                    have hzs : (z1.extract k (z.size - j)).size = z1.size - k := by rw [ByteArray.size_extract]; omega
                    go_roundw
                    case rel => exact ⟨z1.extract k (z.size - j), f, d + v * m.toNat, p1, by rw [hzs]; omega, rfl, by rw [dur_nat HQ.out.2.2.1], rfl, Aside0.mk ⟨by rw [HZ2.out]; exact hs, by rw [hzs]; omega, by have := dur_nat (d := d) (v := v) HQ.out.2.2.1; omega, by have := HQ.out; omega, HQ.out.2.1⟩, Aside0.mk (E10.out.below (below_alloc (Below.refl _ _) _)), Aside0.mk (below_alloc H10.out _)⟩
                    case measure => simp [strLen, hzs]; omega
          | «syntax» =>
            simp only [hv] at hp
            obtain ⟨uu, te0, pe0, rfl⟩ := hp
            have hr := dur_none h0 HG2.out (step_bad HC.out (fun v h => by rw [hD, hv] at h; cases h))
            subst hr
            clear HG2
            go_wp2_with fail
            refine (errors_New _ w4).mono ?_
            rintro e wq ⟨⟨te, pe, rfl⟩, hb⟩
            go_wp2
            go_ret2
            exact ⟨⟨te, pe, rfl⟩, below_step HB4.out hb⟩
          | range =>
            simp only [hv] at hp
            obtain ⟨uu, te0, pe0, rfl⟩ := hp
            have hr := dur_none h0 HG2.out (step_bad HC.out (fun v h => by rw [hD, hv] at h; cases h))
            subst hr
            clear HG2
            go_wp2_with fail
            refine (errors_New _ w4).mono ?_
            rintro e wq ⟨⟨te, pe, rfl⟩, hb⟩
            go_wp2
            go_ret2
            exact ⟨⟨te, pe, rfl⟩, below_step HB4.out hb⟩
end Go.Proofs.YtdookfmcphmlgaaDoor.Door
