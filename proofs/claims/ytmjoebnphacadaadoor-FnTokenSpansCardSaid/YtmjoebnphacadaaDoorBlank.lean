/- laws.blank: its walk. -/
import Derived.Test.YtmjoebnphacadaaDoorSpan
namespace Go.Proofs.YtmjoebnphacadaaDoor.Lex
open Go.RowKit Go.Lib Go.Proofs.YtmjoebnphacadaaDoorW.PrintWords Go.Proofs.YtmjoebnphacadaaDoorW.PrintLast
set_option linter.unusedVariables false
set_option linter.unusedSimpArgs false
set_option maxHeartbeats 4000000 in
set_option maxRecDepth 1000000 in
theorem blank_calls (s : ByteArray) (w : World) (hs : s.size ≤ 2147483647) (hT : LT w) :
    Calls Tryd.prog 11 #[.string s] w fun e w' => e = .returned (.bool (blankR s s.size 0)) ∧ Below w.heap.size w w' := by
  obtain ⟨R, hR⟩ : ∃ R, blankR s s.size 0 = R := ⟨_, rfl⟩
  rw [hR]
  have HR := Aside0.mk hR
  have HT := Aside0.mk hT
  clear hR hT
  have hnot : ∀ (x : Bool) (w : World), (Op.unary .not (.bool x)).run Tryd.prog w = .ok (.bool (!x)) w := fun _ _ => rfl
  go_enter Tryd.func11, Tryd.ntmps11
  go_wp2
  go_loopw [] (fun wr => ∃ (pos fuel : Nat), Aside0 (wr.heap[w.heap.size]? = some (.stringIter s pos) ∧ Below w.heap.size w wr ∧ blankR s fuel pos = R ∧ s.size ≤ pos + fuel)) (fun wr => s.size - wr.iterPos w.heap.size)
  case atStart => exact ⟨0, s.size, Aside0.mk ⟨World.iter_heap w s 0, (Below.refl _ w).alloc (Nat.le_refl _) _, HR.out, by omega⟩⟩
  case round =>
    obtain ⟨pos, fuel, HR⟩ := hrel
    obtain ⟨hit, hbw, hacc, hfu⟩ := HR.out
    clear HR
    have HA := Aside0.mk hacc
    clear hacc
    have hsz : w.heap.size < wr.heap.size := (Array.getElem?_eq_some_iff.1 hit).1
    by_cases hp : pos < s.size
    · have hnx : ∀ ty, (Instr.next (.pointer (some ⟨w.heap.size, 0, none⟩)) true ty).run Tryd.prog wr = _ := fun ty => Lib.run_next_any_at wr w.heap.size s pos ty hit hp
      have hwd := adv_pos s pos
      obtain ⟨f, rfl⟩ : ∃ f, fuel = f + 1 := ⟨fuel - 1, by omega⟩
      have HT2 := Aside0.mk (Lib.iterAt_heap wr w.heap.size s pos (pos + wdt s pos) hit)
      have HB2 := Aside0.mk (Lib.below_iterAt hbw (k := w.heap.size) (by omega) s (pos + wdt s pos))
      have SP := Aside0.mk (fun W (h : Below w.heap.size w W) => Tryd.unicode_IsSpace_any (rn s pos) W (rn_lo s pos) (rn_hi s pos) (HT.out.below h).2)
      have H0 := Aside0.mk hit
      clear hit hbw
      cases hsp : Lib.isSpaceZ (rn s pos) with
      | true =>
        rw [hsp] at SP
        have HA2 := Aside0.mk (show blankR s f (pos + wdt s pos) = R from (blankR_step hp hsp).symm.trans HA.out)
        clear HA hsp
        go_wp2_with fail
        refine (SP.out _ HB2.out).mono ?_
        rintro e w2 ⟨rfl, hb⟩
        have HT3 := Aside0.mk ((hb.block w.heap.size (Array.getElem?_eq_some_iff.1 HT2.out).1).trans HT2.out)
        have HB3 := Aside0.mk (below_step HB2.out hb)
        clear hb
        go_wp2
        go_roundw
        case rel => exact ⟨pos + wdt s pos, f, Aside0.mk ⟨HT3.out, HB3.out, HA2.out, by omega⟩⟩
        case measure =>
          have e1 : w2.iterPos w.heap.size = pos + wdt s pos := by
            have := HT3.out
            simp only [World.iterPos, this]
          have e2 : wr.iterPos w.heap.size = pos := by simp only [World.iterPos, H0.out]
          rw [e1, e2]
          have : 1 ≤ wdt s pos := hwd
          omega
      | false =>
        rw [hsp] at SP
        have hR := (blankR_stop (f := f) hp hsp).symm.trans HA.out
        subst hR
        clear HA hsp
        go_wp2_with fail
        refine (SP.out _ HB2.out).mono ?_
        rintro e w2 ⟨rfl, hb⟩
        have HB3 := Aside0.mk (below_step HB2.out hb)
        clear hb
        go_wp2
        go_ret
        exact ⟨rfl, HB3.out⟩
    · have hnx : ∀ ty, (Instr.next (.pointer (some ⟨w.heap.size, 0, none⟩)) true ty).run Tryd.prog wr = _ := fun ty => Lib.run_next_end_at wr w.heap.size s pos ty hit hp
      have HB := Aside0.mk hbw
      clear hbw
      have hR := (blankR_end hp).symm.trans HA.out
      subst hR
      go_wp2
      go_ret
      exact ⟨rfl, HB.out⟩
end Go.Proofs.YtmjoebnphacadaaDoor.Lex
