/- The walk of FnTruncateBegin. -/
import Derived.Test.YthpaplpnbklojaaDoorTruncBeginPure
namespace Go.Proofs.YthpaplpnbklojaaDoor.Door
open Go.RowKit Go.Shelf Go.Lib Go.Proofs.YthpaplpnbklojaaDoor.Q Go.Proofs.YthpaplpnbklojaaDoor.Pure Go.Proofs.YthpaplpnbklojaaDoorW.PrintWords Go.Proofs.YthpaplpnbklojaaDoorW.PrintLast
set_option linter.unusedVariables false
set_option linter.unusedSimpArgs false
theorem impl_TruncateBytes (s : ByteArray) (n : Int) (w : World) (hs : s.size ≤ 2147483647) (h0 : 4 ≤ n) (h1 : n ≤ 1048576) (hm : n - 3 ≤ (count s.data.toList : Int)) :
    Calls Tryd.prog 9 #[.string s, .int .i64 n] w fun e w' => TBPost s n e ∧ Below w.heap.size w w' := by
  have HC := Aside0.mk (notify_TruncateInBytes s n w hs h0 h1 hm)
  clear hs h0 h1 hm
  go_enter Tryd.func9, Tryd.ntmps9
  go_wp2_with fail
  refine HC.out.mono ?_
  rintro e w1 ⟨⟨t, c, rfl, ht⟩, hb⟩
  have HT := Aside0.mk ht
  clear ht HC
  go_wp2
  go_ret2
  exact ⟨⟨t, c, rfl, HT.out⟩, hb⟩
set_option maxHeartbeats 1600000 in
theorem law_FnTruncateBegin (s : ByteArray) (n : Int) (w : World) (hT : Tryd.Tabs w) :
    Calls Tryd.prog 3 #[.string s, .int .i64 n] w fun e w' => e = .returned (.bool true) ∧ Below w.heap.size w w' := by
  by_cases hs : (s.size : Int) > 2147483647
  · have d : decide ((s.size : Int) > 2147483647) = true := decide_eq_true hs
    go_enter Tryd.func3, Tryd.ntmps3
    go_wp2
    go_ret
    exact ⟨rfl, Below.refl _ _⟩
  have d : decide ((s.size : Int) > 2147483647) = false := decide_eq_false hs
  have HT := Aside0.mk hT
  have HS := Aside0.mk (show s.size ≤ 9223372036854775807 by omega)
  have HS2 := Aside0.mk (show s.size ≤ 2147483647 by omega)
  clear hT hs
  by_cases hl : (s.size : Int) > 65536
  · have dl := decide_eq_true hl
    go_enter Tryd.func3, Tryd.ntmps3
    go_wp2_with fail
    refine (impl_TruncateRunes ⟨#[97, 98, 99, 100, 101, 102]⟩ 5 w (by decide) (by decide) (by decide)).mono ?_
    rintro e wa ⟨rfl, hb⟩
    have HBa := Aside0.mk hb
    have HTa := Aside0.mk (HT.out.below hb)
    clear hb
    rw [abS, abB]
    go_wp2_with fail
    refine (specRunes ⟨#[97, 98, 99, 100, 226, 128, 166]⟩ wa (by decide)).mono ?_
    rintro e wb ⟨rfl, hb⟩
    have HBb := Aside0.mk (below_step HBa.out hb)
    have HTb := Aside0.mk (HTa.out.below hb)
    clear hb HBa HTa
    rw [abC]
    go_wp2_with fail
    refine (laws_begins ⟨#[97, 98, 99, 100, 226, 128, 166]⟩ ⟨#[97, 98, 99, 100, 101, 102]⟩ wb (by decide) (by decide) abV).mono ?_
    rintro e wc ⟨rfl, hb⟩
    have HBc := Aside0.mk (below_step HBb.out hb)
    have HTc := Aside0.mk (HTb.out.below hb)
    clear hb HBb HTb
    rw [abG]
    go_wp2_with fail
    refine (lawsLong s wc).mono ?_
    rintro e w1 ⟨rfl, hb⟩
    have HB1 := Aside0.mk (below_step HBc.out hb)
    have HT1 := Aside0.mk (HTc.out.below hb)
    clear hb HBc HTc
    rw [dl]
    go_wp2
    go_ret
    exact ⟨rfl, HB1.out⟩
  have dl := decide_eq_false hl
  by_cases h0 : n < 4
  · have d0 := decide_eq_true h0
    go_enter Tryd.func3, Tryd.ntmps3
    go_wp2_with fail
    refine (impl_TruncateRunes ⟨#[97, 98, 99, 100, 101, 102]⟩ 5 w (by decide) (by decide) (by decide)).mono ?_
    rintro e wa ⟨rfl, hb⟩
    have HBa := Aside0.mk hb
    have HTa := Aside0.mk (HT.out.below hb)
    clear hb
    rw [abS, abB]
    go_wp2_with fail
    refine (specRunes ⟨#[97, 98, 99, 100, 226, 128, 166]⟩ wa (by decide)).mono ?_
    rintro e wb ⟨rfl, hb⟩
    have HBb := Aside0.mk (below_step HBa.out hb)
    have HTb := Aside0.mk (HTa.out.below hb)
    clear hb HBa HTa
    rw [abC]
    go_wp2_with fail
    refine (laws_begins ⟨#[97, 98, 99, 100, 226, 128, 166]⟩ ⟨#[97, 98, 99, 100, 101, 102]⟩ wb (by decide) (by decide) abV).mono ?_
    rintro e wc ⟨rfl, hb⟩
    have HBc := Aside0.mk (below_step HBb.out hb)
    have HTc := Aside0.mk (HTb.out.below hb)
    clear hb HBb HTb
    rw [abG]
    go_wp2_with fail
    refine (lawsLong s wc).mono ?_
    rintro e w1 ⟨rfl, hb⟩
    have HB1 := Aside0.mk (below_step HBc.out hb)
    have HT1 := Aside0.mk (HTc.out.below hb)
    clear hb HBc HTc
    rw [dl]
    go_wp2
    go_ret
    exact ⟨rfl, HB1.out⟩
  have d0 := decide_eq_false h0
  by_cases h1 : n > 1048576
  · have d1 := decide_eq_true h1
    go_enter Tryd.func3, Tryd.ntmps3
    go_wp2_with fail
    refine (impl_TruncateRunes ⟨#[97, 98, 99, 100, 101, 102]⟩ 5 w (by decide) (by decide) (by decide)).mono ?_
    rintro e wa ⟨rfl, hb⟩
    have HBa := Aside0.mk hb
    have HTa := Aside0.mk (HT.out.below hb)
    clear hb
    rw [abS, abB]
    go_wp2_with fail
    refine (specRunes ⟨#[97, 98, 99, 100, 226, 128, 166]⟩ wa (by decide)).mono ?_
    rintro e wb ⟨rfl, hb⟩
    have HBb := Aside0.mk (below_step HBa.out hb)
    have HTb := Aside0.mk (HTa.out.below hb)
    clear hb HBa HTa
    rw [abC]
    go_wp2_with fail
    refine (laws_begins ⟨#[97, 98, 99, 100, 226, 128, 166]⟩ ⟨#[97, 98, 99, 100, 101, 102]⟩ wb (by decide) (by decide) abV).mono ?_
    rintro e wc ⟨rfl, hb⟩
    have HBc := Aside0.mk (below_step HBb.out hb)
    have HTc := Aside0.mk (HTb.out.below hb)
    clear hb HBb HTb
    rw [abG]
    go_wp2_with fail
    refine (lawsLong s wc).mono ?_
    rintro e w1 ⟨rfl, hb⟩
    have HB1 := Aside0.mk (below_step HBc.out hb)
    have HT1 := Aside0.mk (HTc.out.below hb)
    clear hb HBc HTc
    rw [dl]
    go_wp2
    go_ret
    exact ⟨rfl, HB1.out⟩
  have d1 := decide_eq_false h1
  have hwn : IntKind.i64.wrap (n - 3) = n - 3 := by unfold IntKind.wrap; simp [IntKind.signed, IntKind.bits]; omega
  cases hv : validD s.data.toList with
  | false =>
    go_enter Tryd.func3, Tryd.ntmps3
    go_wp2_with fail
    refine (impl_TruncateRunes ⟨#[97, 98, 99, 100, 101, 102]⟩ 5 w (by decide) (by decide) (by decide)).mono ?_
    rintro e wa ⟨rfl, hb⟩
    have HBa := Aside0.mk hb
    have HTa := Aside0.mk (HT.out.below hb)
    clear hb
    rw [abS, abB]
    go_wp2_with fail
    refine (specRunes ⟨#[97, 98, 99, 100, 226, 128, 166]⟩ wa (by decide)).mono ?_
    rintro e wb ⟨rfl, hb⟩
    have HBb := Aside0.mk (below_step HBa.out hb)
    have HTb := Aside0.mk (HTa.out.below hb)
    clear hb HBa HTa
    rw [abC]
    go_wp2_with fail
    refine (laws_begins ⟨#[97, 98, 99, 100, 226, 128, 166]⟩ ⟨#[97, 98, 99, 100, 101, 102]⟩ wb (by decide) (by decide) abV).mono ?_
    rintro e wc ⟨rfl, hb⟩
    have HBc := Aside0.mk (below_step HBb.out hb)
    have HTc := Aside0.mk (HTb.out.below hb)
    clear hb HBb HTb
    rw [abG]
    go_wp2_with fail
    refine (lawsLong s wc).mono ?_
    rintro e w1 ⟨rfl, hb⟩
    have HB1 := Aside0.mk (below_step HBc.out hb)
    have HT1 := Aside0.mk (HTc.out.below hb)
    clear hb HBc HTc
    rw [dl]
    go_wp2_with fail
    refine (Tryd.utf8_ValidString s w1 HS.out HT1.out).mono ?_
    rintro e w2 ⟨rfl, hb⟩
    have HB2 := Aside0.mk (below_step HB1.out hb)
    have HT2 := Aside0.mk (HT1.out.below hb)
    clear hb HB1 HT1
    rw [hv]
    go_wp2
    go_ret
    exact ⟨rfl, HB2.out⟩
  | true =>
    by_cases hr : (count s.data.toList : Int) < n - 3
    · have dr := decide_eq_true hr
      go_enter Tryd.func3, Tryd.ntmps3
      go_wp2_with fail
      refine (impl_TruncateRunes ⟨#[97, 98, 99, 100, 101, 102]⟩ 5 w (by decide) (by decide) (by decide)).mono ?_
      rintro e wa ⟨rfl, hb⟩
      have HBa := Aside0.mk hb
      have HTa := Aside0.mk (HT.out.below hb)
      clear hb
      rw [abS, abB]
      go_wp2_with fail
      refine (specRunes ⟨#[97, 98, 99, 100, 226, 128, 166]⟩ wa (by decide)).mono ?_
      rintro e wb ⟨rfl, hb⟩
      have HBb := Aside0.mk (below_step HBa.out hb)
      have HTb := Aside0.mk (HTa.out.below hb)
      clear hb HBa HTa
      rw [abC]
      go_wp2_with fail
      refine (laws_begins ⟨#[97, 98, 99, 100, 226, 128, 166]⟩ ⟨#[97, 98, 99, 100, 101, 102]⟩ wb (by decide) (by decide) abV).mono ?_
      rintro e wc ⟨rfl, hb⟩
      have HBc := Aside0.mk (below_step HBb.out hb)
      have HTc := Aside0.mk (HTb.out.below hb)
      clear hb HBb HTb
      rw [abG]
      go_wp2_with fail
      refine (lawsLong s wc).mono ?_
      rintro e w1 ⟨rfl, hb⟩
      have HB1 := Aside0.mk (below_step HBc.out hb)
      have HT1 := Aside0.mk (HTc.out.below hb)
      clear hb HBc HTc
      rw [dl]
      go_wp2_with fail
      refine (Tryd.utf8_ValidString s w1 HS.out HT1.out).mono ?_
      rintro e w2 ⟨rfl, hb⟩
      have HB2 := Aside0.mk (below_step HB1.out hb)
      have HT2 := Aside0.mk (HT1.out.below hb)
      clear hb HB1 HT1
      rw [hv]
      go_wp2_with fail
      refine (specRunes s w2 HS.out).mono ?_
      rintro e w3 ⟨rfl, hb⟩
      have HB3 := Aside0.mk (below_step HB2.out hb)
      have HT3 := Aside0.mk (HT2.out.below hb)
      clear hb HB2 HT2
      go_wp2
      go_ret
      exact ⟨rfl, HB3.out⟩
    have dr := decide_eq_false hr
    obtain ⟨f1, f2, f3, f4⟩ := begin_facts s n HS2.out hv (by omega) (by omega)
    have HF1 := Aside0.mk f1
    have HF2 := Aside0.mk f2
    have HF3 := Aside0.mk f3
    obtain ⟨cc, hcc⟩ : ∃ cc, count ((truncS s n).extract (bg (truncS s n).data.toList s.data.toList) (truncS s n).size).data.toList = cc := ⟨_, rfl⟩
    rw [hcc] at f4
    have HCC := Aside0.mk hcc
    have HF4 := Aside0.mk f4
    clear hcc
    have HF5 := Aside0.mk (show ((truncS s n).extract (bg (truncS s n).data.toList s.data.toList) (truncS s n).size).size ≤ 9223372036854775807 by rw [extract_size]; omega)
    have HV := Aside0.mk hv
    clear f1 f2 f3 f4
    go_enter Tryd.func3, Tryd.ntmps3
    go_wp2_with fail
    refine (impl_TruncateRunes ⟨#[97, 98, 99, 100, 101, 102]⟩ 5 w (by decide) (by decide) (by decide)).mono ?_
    rintro e wa ⟨rfl, hb⟩
    have HBa := Aside0.mk hb
    have HTa := Aside0.mk (HT.out.below hb)
    clear hb
    rw [abS, abB]
    go_wp2_with fail
    refine (specRunes ⟨#[97, 98, 99, 100, 226, 128, 166]⟩ wa (by decide)).mono ?_
    rintro e wb ⟨rfl, hb⟩
    have HBb := Aside0.mk (below_step HBa.out hb)
    have HTb := Aside0.mk (HTa.out.below hb)
    clear hb HBa HTa
    rw [abC]
    go_wp2_with fail
    refine (laws_begins ⟨#[97, 98, 99, 100, 226, 128, 166]⟩ ⟨#[97, 98, 99, 100, 101, 102]⟩ wb (by decide) (by decide) abV).mono ?_
    rintro e wc ⟨rfl, hb⟩
    have HBc := Aside0.mk (below_step HBb.out hb)
    have HTc := Aside0.mk (HTb.out.below hb)
    clear hb HBb HTb
    rw [abG]
    go_wp2_with fail
    refine (lawsLong s wc).mono ?_
    rintro e w1 ⟨rfl, hb⟩
    have HB1 := Aside0.mk (below_step HBc.out hb)
    have HT1 := Aside0.mk (HTc.out.below hb)
    clear hb HBc HTc
    rw [dl]
    go_wp2_with fail
    refine (Tryd.utf8_ValidString s w1 HS.out HT1.out).mono ?_
    rintro e w2 ⟨rfl, hb⟩
    have HB2 := Aside0.mk (below_step HB1.out hb)
    have HT2 := Aside0.mk (HT1.out.below hb)
    clear hb HB1 HT1
    rw [HV.out]
    go_wp2_with fail
    refine (specRunes s w2 HS.out).mono ?_
    rintro e w3 ⟨rfl, hb⟩
    have HB3 := Aside0.mk (below_step HB2.out hb)
    have HT3 := Aside0.mk (HT2.out.below hb)
    clear hb HB2 HT2
    go_wp2_with fail
    refine (impl_TruncateRunes s n w3 HS2.out (by omega) (by omega)).mono ?_
    rintro e w4 ⟨rfl, hb⟩
    have HB4 := Aside0.mk (below_step HB3.out hb)
    have HT4 := Aside0.mk (HT3.out.below hb)
    clear hb HB3 HT3
    go_wp2_with fail
    refine (impl_TruncateBytes s n w4 HS2.out (by omega) (by omega) (by omega)).mono ?_
    rintro e w5 ⟨⟨u, c, rfl, hu⟩, hb⟩
    have HB5 := Aside0.mk (below_step HB4.out hb)
    have HT5 := Aside0.mk (HT4.out.below hb)
    clear hb HB4 HT4
    obtain ⟨u1, u2, u3, u4⟩ := bytes_facts s u n HS2.out HV.out (by omega) hu
    have HU1 := Aside0.mk u1
    have HU2 := Aside0.mk u2
    clear hu u2
    go_wp2_with fail
    refine (laws_begins (truncS s n) s w5 HF1.out HS2.out HF2.out).mono ?_
    rintro e w6 ⟨rfl, hb⟩
    have HB6 := Aside0.mk (below_step HB5.out hb)
    have HT6 := Aside0.mk (HT5.out.below hb)
    clear hb HB5 HT5
    have f3 := HF3.out
    have f4 := HF4.out
    go_wp2_with fail
    refine (specRunes ((truncS s n).extract (bg (truncS s n).data.toList s.data.toList) (truncS s n).size) w6 HF5.out).mono ?_
    rintro e w7 ⟨rfl, hb⟩
    have HB7 := Aside0.mk (below_step HB6.out hb)
    have HT7 := Aside0.mk (HT6.out.below hb)
    clear hb HB6 HT6
    rw [HCC.out]
    have d4 := decide_eq_true f4
    go_wp2_with fail
    refine (laws_begins u s w7 HU1.out HS2.out HU2.out).mono ?_
    rintro e w8 ⟨rfl, hb⟩
    have HB8 := Aside0.mk (below_step HB7.out hb)
    clear hb HB7 HT7
    have hww : IntKind.i64.wrap ((u.size : Int) - (bg u.data.toList s.data.toList : Int)) = (u.size : Int) - (bg u.data.toList s.data.toList : Int) := by unfold IntKind.wrap; simp [IntKind.signed, IntKind.bits]; omega
    have d5 := decide_eq_true u4
    go_wp2
    go_ret
    exact ⟨by simp [d5, hww], HB8.out⟩
end Go.Proofs.YthpaplpnbklojaaDoor.Door
