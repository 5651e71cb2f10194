/- ReadDuration, ReadSigned and the law FnReadSigned: their walks. -/
import Derived.Test.YtdookfmcphmlgaaDoorDur
namespace Go.Proofs.YtdookfmcphmlgaaDoor.Door
open Go.RowKit Go.Shelf Go.Lib Go.Proofs.YtdookfmcphmlgaaDoor.Q Go.Proofs.YtdookfmcphmlgaaDoor.Pure Go.Proofs.YtdookfmcphmlgaaDoorW.PrintWords Go.Proofs.YtdookfmcphmlgaaDoorW.PrintLast
set_option linter.unusedVariables false
set_option linter.unusedSimpArgs false
theorem durGo_le : ∀ (f : Nat) (l : List UInt8) (d : Nat) (p : Int) (r : Nat), d ≤ 9223372036854775807 → durGo f l d p = some r → r ≤ 9223372036854775807
  | 0, l, d, p, r, hd, h => by simp [durGo] at h
  | f + 1, l, d, p, r, hd, h => by
    unfold durGo at h
    split at h
    · injection h with h; omega
    · split at h
      · cases h
      · rename_i l' d' p' hs
        refine durGo_le f l' d' p' r ?_ h
        unfold durStep at hs
        split at hs
        · cases hs
        · split at hs
          · rename_i v hv
            split at hs
            · cases hs
            · split at hs
              · cases hs
              · rename_i q m hu
                obtain ⟨q1, q2, q3, q4⟩ := unit_bounds hu
                split at hs
                · cases hs
                · split at hs
                  · cases hs
                  · split at hs
                    · cases hs
                    · injection hs with hs
                      injection hs with h1 h2
                      injection h2 with h2 h3
                      have := dur_nat (d := d) (v := v) q3
                      omega
          · cases hs
theorem parse_le {l : List UInt8} {r : Nat} (h : parseDur l = some r) : r ≤ 9223372036854775807 := by
  unfold parseDur at h
  split at h
  · injection h with h; omega
  · split at h
    · cases h
    · exact durGo_le _ _ _ _ _ (by omega) h
def readD (l : List UInt8) : Option Int := (parseDur l).map fun d => (d : Int)
def readS : List UInt8 → Option Int
  | 45 :: r => (parseDur r).map fun d => -(d : Int)
  | l => readD l
def resV : Option Int → Value
  | some d => .tuple #[.int .i64 d, .bool true]
  | none => .tuple #[.int .i64 0, .bool false]
def SDPost (r : Option Int) (e : Ending) : Prop := match r with
  | some d => e = .returned (.tuple #[.int .i64 d, .nilIface])
  | none => ∃ te pe, e = .returned (.tuple #[.int .i64 0, .iface te pe])
theorem impl_ReadDuration (s : ByteArray) (w : World) (hs : s.size ≤ 2147483647) (hE : Errs w) :
    Calls Tryd.prog 7 #[.string s] w fun e w' => e = .returned (resV (readD s.data.toList)) ∧ Below w.heap.size w w' := by
  obtain ⟨r, hr⟩ : ∃ r, readD s.data.toList = r := ⟨_, rfl⟩
  rw [hr]
  have HR := Aside0.mk hr
  clear hr
  have HE := Aside0.mk hE
  clear hE
  go_enter Tryd.func7, Tryd.ntmps7
  go_wp2_with fail
  refine (model_ParseDuration s w hs HE.out).mono ?_
  rintro e w1 ⟨hp, hb⟩
  have HB := Aside0.mk hb
  clear hb
  unfold DurPost at hp
  cases hv : parseDur s.data.toList with
  | some d =>
    simp only [hv] at hp
    subst hp
    obtain rfl : some (d : Int) = r := by rw [← HR.out]; unfold readD; rw [hv]; rfl
    clear hv HR
    go_wp2
    go_ret2
    exact ⟨rfl, HB.out⟩
  | none =>
    simp only [hv] at hp
    obtain ⟨te, pe, rfl⟩ := hp
    obtain rfl : none = r := by rw [← HR.out]; unfold readD; rw [hv]; rfl
    clear hv HR
    go_wp2
    go_ret2
    exact ⟨rfl, HB.out⟩
theorem model_ParseSigned (s : ByteArray) (w : World) (hs : s.size ≤ 2147483647) (hE : Errs w) :
    Calls Tryd.prog 9 #[.string s] w fun e w' => SDPost (readS s.data.toList) e ∧ Below w.heap.size w w' := by
  obtain ⟨r, hr0⟩ : ∃ r, readS s.data.toList = r := ⟨_, rfl⟩
  rw [hr0]
  have HE := Aside0.mk hE
  clear hE
  by_cases h0 : s.data.toList = []
  · have hr : readS s.data.toList = readD s.data.toList := by rw [h0]; rfl
    rw [hr] at hr0
    have HR := Aside0.mk hr0
    clear hr0
    have b0 : (s.toList == []) = true := by rw [Lib.toList_data, h0]; rfl
    clear h0 hr
    go_enter Tryd.func9, Tryd.ntmps9
    go_wp2_with fail
    refine (model_ParseDuration s w hs HE.out).mono ?_
    rintro e w1 ⟨hp, hb⟩
    have HB := Aside0.mk hb
    clear hb
    unfold DurPost at hp
    cases hv : parseDur s.data.toList with
    | some d =>
      simp only [hv] at hp
      subst hp
      obtain rfl : some (d : Int) = r := by rw [← HR.out]; unfold readD; rw [hv]; rfl
      clear hv HR
      go_wp2
      go_ret2
      exact ⟨rfl, HB.out⟩
    | none =>
      simp only [hv] at hp
      obtain ⟨te, pe, rfl⟩ := hp
      obtain rfl : none = r := by rw [← HR.out]; unfold readD; rw [hv]; rfl
      clear hv HR
      go_wp2
      go_ret2
      exact ⟨⟨te, pe, rfl⟩, HB.out⟩
  have b0 : (s.toList == []) = false := by rw [Lib.toList_data]; simpa using h0
  have hz0 : 0 < s.size := by
    rw [← size_length]
    exact List.length_pos_iff.2 h0
  have hz0' : (0 : Int) < (s.size : Int) := by omega
  by_cases h45 : s[0]'hz0 = 45
  · have hn : ((s[0]'hz0).toNat : Int) = 45 := by rw [h45]; rfl
    have hd : s.data.toList = 45 :: (s.extract 1 s.size).data.toList := by
      rw [ext_drop]
      have hg := byte_at s 0 hz0
      rw [h45] at hg
      cases hl : s.data.toList with
      | nil => exact absurd hl h0
      | cons b r =>
        rw [hl] at hg
        have hb : (45 : UInt8) = b := hg
        subst hb
        rfl
    have hr : readS s.data.toList = (parseDur (s.extract 1 s.size).data.toList).map fun d => -(d : Int) := by rw [hd]; rfl
    rw [hr] at hr0
    have HR := Aside0.mk hr0
    clear hr0
    have hne : (((s[0]'hz0).toNat : Int) != 45) = false := by simpa using hn
    have hs1 : (s.extract 1 s.size).size ≤ 2147483647 := by rw [ByteArray.size_extract]; omega
    have H1 := Aside0.mk (model_ParseDuration (s.extract 1 s.size) w hs1 HE.out)
    have H45 := Aside0.mk h45
    have Hn := Aside0.mk hn
    have hz1 : (1 : Int) ≤ (s.size : Int) := by omega
    clear hr hd h45 h0 hn
    go_enter Tryd.func9, Tryd.ntmps9
    go_wp2_with fail
    refine H1.out.mono ?_
    rintro e w1 ⟨hp, hb⟩
    have HB := Aside0.mk hb
    clear hb
    unfold DurPost at hp
    cases hv : parseDur (s.extract 1 s.size).data.toList with
    | some d =>
      simp only [hv] at hp
      subst hp
      have hd := parse_le hv
      obtain rfl : some (-(d : Int)) = r := by rw [← HR.out]; rw [hv]; rfl
      clear hv HR
      go_wp2
      go_ret2
      exact ⟨rfl, HB.out⟩
    | none =>
      simp only [hv] at hp
      obtain ⟨te, pe, rfl⟩ := hp
      obtain rfl : none = r := by rw [← HR.out]; rw [hv]; rfl
      clear hv HR
      go_wp2
      go_ret2
      exact ⟨⟨te, pe, rfl⟩, HB.out⟩
  · have hr : readS s.data.toList = readD s.data.toList := by
      have hg := byte_at s 0 hz0
      cases hl : s.data.toList with
      | nil => rfl
      | cons b r =>
        rw [hl] at hg
        have hb : s[0]'hz0 = b := hg
        rw [hb] at h45
        unfold readS
        split
        · rename_i heq; injection heq with h1 h2; exact absurd h1 h45
        · rfl
    rw [hr] at hr0
    have HR := Aside0.mk hr0
    clear hr0
    have hn : ¬ ((s[0]'hz0).toNat : Int) = 45 := fun h => h45 (UInt8.toNat_inj.1 (by have : (45 : UInt8).toNat = 45 := rfl; omega))
    have hne : (((s[0]'hz0).toNat : Int) != 45) = true := by simpa using hn
    have H45 := Aside0.mk h45
    clear hr h45 h0
    go_enter Tryd.func9, Tryd.ntmps9
    go_wp2_with fail
    refine (model_ParseDuration s w hs HE.out).mono ?_
    rintro e w1 ⟨hp, hb⟩
    have HB := Aside0.mk hb
    clear hb
    unfold DurPost at hp
    cases hv : parseDur s.data.toList with
    | some d =>
      simp only [hv] at hp
      subst hp
      obtain rfl : some (d : Int) = r := by rw [← HR.out]; unfold readD; rw [hv]; rfl
      clear hv HR
      go_wp2
      go_ret2
      exact ⟨rfl, HB.out⟩
    | none =>
      simp only [hv] at hp
      obtain ⟨te, pe, rfl⟩ := hp
      obtain rfl : none = r := by rw [← HR.out]; unfold readD; rw [hv]; rfl
      clear hv HR
      go_wp2
      go_ret2
      exact ⟨⟨te, pe, rfl⟩, HB.out⟩
theorem impl_ReadSigned (s : ByteArray) (w : World) (hs : s.size ≤ 2147483647) (hE : Errs w) :
    Calls Tryd.prog 5 #[.string s] w fun e w' => e = .returned (resV (readS s.data.toList)) ∧ Below w.heap.size w w' := by
  obtain ⟨r, hr⟩ : ∃ r, readS s.data.toList = r := ⟨_, rfl⟩
  rw [hr]
  have HR := Aside0.mk hr
  clear hr
  have HE := Aside0.mk hE
  clear hE
  go_enter Tryd.func5, Tryd.ntmps5
  go_wp2_with fail
  refine (model_ParseSigned s w hs HE.out).mono ?_
  rintro e w1 ⟨hp, hb⟩
  have HB := Aside0.mk hb
  clear hb
  unfold SDPost at hp
  cases hv : readS s.data.toList with
  | some d =>
    simp only [hv] at hp
    subst hp
    obtain rfl : some d = r := by rw [← HR.out, hv]
    clear hv HR
    go_wp2
    go_ret2
    exact ⟨rfl, HB.out⟩
  | none =>
    simp only [hv] at hp
    obtain ⟨te, pe, rfl⟩ := hp
    obtain rfl : none = r := by rw [← HR.out, hv]
    clear hv HR
    go_wp2
    go_ret2
    exact ⟨rfl, HB.out⟩
end Go.Proofs.YtdookfmcphmlgaaDoor.Door
