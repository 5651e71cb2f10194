/- The walk of FnValueValid at a world whose two tables of unicode/utf8 read as Go lays them. -/
import Derived.Test.YtejlamkknoicgaaDoorShelf
import Derived.Test.YtejlamkknoicgaaDoorValid
import Derived.Test.YtejlamkknoicgaaDoorQx2
import Derived.Test.YtejlamkknoicgaaDoorQx2
import Derived.WalkKit
import Derived.ProofKit
namespace Go.Proofs.YtejlamkknoicgaaDoor.Door
open Go.RowKit Go.Shelf Go.Lib Go.Proofs.YtejlamkknoicgaaDoor.Q Go.Proofs.YtejlamkknoicgaaDoor.Pure Go.Proofs.YtejlamkknoicgaaDoorW.PrintWords Go.Proofs.YtejlamkknoicgaaDoorW.PrintLast
set_option linter.unusedVariables false
theorem label_IsValid (s : ByteArray) (w : World) (hs : s.size ≤ 9223372036854775807) (hT : Tryd.Tabs w) :
    Calls Tryd.prog 12 #[.string s] w fun e w' => e = .returned (.bool (validD s.data.toList)) ∧ Below w.heap.size w w' := by
  go_enter Tryd.func12, Tryd.ntmps12
  go_wp2_with fail
  refine (Tryd.utf8_ValidString s w hs hT).mono ?_
  rintro e w1 ⟨rfl, hb⟩
  go_wp2
  go_ret
  exact ⟨rfl, hb⟩
theorem impl_ValueValid (s : ByteArray) (w : World) (hs : s.size ≤ 9223372036854775807) (hT : Tryd.Tabs w) :
    Calls Tryd.prog 5 #[.string s] w fun e w' => e = .returned (.bool (validD s.data.toList)) ∧ Below w.heap.size w w' := by
  go_enter Tryd.func5, Tryd.ntmps5
  go_wp2_with fail
  refine (label_IsValid s w hs hT).mono ?_
  rintro e w1 ⟨rfl, hb⟩
  go_wp2
  go_ret
  exact ⟨rfl, hb⟩
theorem specValid (s : ByteArray) (w : World) :
    Calls Tryd.prog 7 #[.string s] w fun e w' => e = .returned (.bool (validD s.data.toList)) ∧ Below w.heap.size w w' := by
  obtain ⟨k, hk⟩ := (specValid_ev s).rounds
  exact (spec_Valid.calls k s _ w hk).mono fun e w' ⟨h, hd⟩ => ⟨h, hd.below⟩
theorem lawsLong (s : ByteArray) (w : World) :
    Calls Tryd.prog 6 #[.string s] w fun e w' => e = .returned (.bool (decide ((s.size : Int) > 65536))) ∧ Below w.heap.size w w' :=
  (laws_long.calls s _ w rfl).mono fun e w' ⟨h, hd⟩ => ⟨h, hd.below⟩
theorem law_FnValueValid (s : ByteArray) (w : World) (hT : Tryd.Tabs w) :
    Calls Tryd.prog 3 #[.string s] w fun e w' => e = .returned (.bool true) ∧ Below w.heap.size w w' := by
  by_cases hs : (s.size : Int) > 2147483647
  · have d : decide ((s.size : Int) > 2147483647) = true := decide_eq_true hs
    go_enter Tryd.func3, Tryd.ntmps3
    go_wp2
    go_ret
    exact ⟨rfl, Below.refl _ _⟩
  have d : decide ((s.size : Int) > 2147483647) = false := decide_eq_false hs
  have hs' : s.size ≤ 9223372036854775807 := by omega
  have HT := Aside0.mk hT
  have HS := Aside0.mk hs'
  clear hT hs'
  go_enter Tryd.func3, Tryd.ntmps3
  go_wp2_with fail
  refine (impl_ValueValid ⟨#[]⟩ w (by decide) HT.out).mono ?_
  rintro e w1 ⟨rfl, hb⟩
  have HB1 := Aside0.mk hb
  have HT1 := Aside0.mk (HT.out.below hb)
  clear hb
  rw [show validD (⟨#[]⟩ : ByteArray).data.toList = true from rfl]
  go_wp2_with fail
  refine (impl_ValueValid ⟨#[255]⟩ w1 (by decide) HT1.out).mono ?_
  rintro e w2 ⟨rfl, hb⟩
  have HB2 := Aside0.mk (below_step HB1.out hb)
  have HT2 := Aside0.mk (HT1.out.below hb)
  clear hb HB1 HT1
  rw [show validD (⟨#[255]⟩ : ByteArray).data.toList = false from by decide +kernel]
  go_wp2_with fail
  refine (lawsLong s w2).mono ?_
  rintro e w3 ⟨rfl, hb⟩
  have HB3 := Aside0.mk (below_step HB2.out hb)
  have HT3 := Aside0.mk (HT2.out.below hb)
  clear hb HB2 HT2
  by_cases hl : (s.size : Int) > 65536
  · rw [decide_eq_true hl]
    go_wp2
    go_ret
    exact ⟨rfl, HB3.out⟩
  rw [decide_eq_false hl]
  go_wp2_with fail
  refine (impl_ValueValid s w3 HS.out HT3.out).mono ?_
  rintro e w4 ⟨rfl, hb⟩
  have HB4 := Aside0.mk (below_step HB3.out hb)
  have HT4 := Aside0.mk (HT3.out.below hb)
  clear hb HB3 HT3
  go_wp2_with fail
  refine (specValid s w4).mono ?_
  rintro e w5 ⟨rfl, hb⟩
  have HB5 := Aside0.mk (below_step HB4.out hb)
  have HT5 := Aside0.mk (HT4.out.below hb)
  clear hb HB4 HT4
  go_wp2_with fail
  refine (impl_ValueValid s w5 HS.out HT5.out).mono ?_
  rintro e w6 ⟨rfl, hb⟩
  have HB6 := Aside0.mk (below_step HB5.out hb)
  have HT6 := Aside0.mk (HT5.out.below hb)
  clear hb HB5 HT5
  go_wp2_with fail
  refine (Tryd.utf8_ValidString s w6 HS.out HT6.out).mono ?_
  rintro e w7 ⟨rfl, hb⟩
  have HB7 := Aside0.mk (below_step HB6.out hb)
  clear hb HB6 HT6
  go_wp2
  go_ret
  exact ⟨by simp, HB7.out⟩
end Go.Proofs.YtejlamkknoicgaaDoor.Door
