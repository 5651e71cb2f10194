/- The walk of FnTokenSpans. -/
import Derived.Test.YtmjoebnphacadaaDoorBlank
import Derived.Test.YtmjoebnphacadaaDoorPayL
import Derived.Test.YtmjoebnphacadaaDoorQx1
namespace Go.Proofs.YtmjoebnphacadaaDoor.Door
open Go.RowKit Go.Lib Go.Proofs.YtmjoebnphacadaaDoor.Q Go.Proofs.YtmjoebnphacadaaDoor.Lex Go.Proofs.YtmjoebnphacadaaDoorW.PrintWords Go.Proofs.YtmjoebnphacadaaDoorW.PrintLast
set_option linter.unusedVariables false
set_option linter.unusedSimpArgs false
theorem tokensR_len (s : ByteArray) : ∀ f p c, (tokensR s f p c).1.length ≤ f := by
  intro f
  induction f with
  | zero => intro p c; exact Nat.le_refl _
  | succ f ih =>
    intro p c
    cases hV : scanE s (s.size + 1) p c with
    | eof u v => rw [tokensR_eof hV]; simp
    | bad => rw [tokensR_bad hV]; simp
    | tok k a e ca ce =>
      rw [tokensR_tok hV]
      have := ih e ce
      simp
      exact this
theorem ba_ne (x : ByteArray) : (x != x) = false := by
  have : (x == x) = true := by
    show ByteArray.beq x x = true
    simp [ByteArray.beq]
  simp [bne, this]
theorem toks_one : (tokensR ⟨#[123, 32, 97, 32, 125]⟩ 6 0 0).2 = true ∧ (tokensR ⟨#[123, 32, 97, 32, 125]⟩ 6 0 0).1.length = 3 := by decide +kernel
/-- What the law asks of one token at its place. -/
theorem span_facts {s : ByteArray} {f q c : Nat} {t : S27} {l : List S27} {ok : Bool} (hq : q ≤ s.size) (hc : c ≤ q) (h : tokensR s f q c = (t :: l, ok)) :
    ∃ (f' k a e ca ce : Nat), f = f' + 1 ∧ t = ⟨(k : Int), s.extract a e, (a : Int), (e : Int), (ca : Int), (ce : Int)⟩ ∧ tokensR s f' e ce = (l, ok) ∧ q ≤ a ∧ a < e ∧ e ≤ s.size ∧ ce ≤ e ∧ 1 ≤ k ∧ k ≤ 9 ∧
      blankR (s.extract q a) (s.extract q a).size 0 = true ∧ c + Lib.runeCount (s.extract q a) = ca ∧ ca + Lib.runeCount (s.extract a e) = ce := by
  cases f with
  | zero => injection h with h1 h2; exact nomatch h1
  | succ f' =>
    cases hV : scanE s (s.size + 1) q c with
    | eof u v => rw [tokensR_eof hV] at h; injection h with h1 h2; exact nomatch h1
    | bad => rw [tokensR_bad hV] at h; injection h with h1 h2; exact nomatch h1
    | tok k a e ca ce =>
      rw [tokensR_tok hV] at h
      injection h with h1 h2
      injection h1 with h3 h4
      have hle := scanE_le _ _ _ _ _ _ _ _ hq hc hV
      obtain ⟨s1, s2⟩ := scanE_steps _ _ _ _ _ _ _ _ hV
      have l1 := s1.le
      have l2 := s2.le
      refine ⟨f', k, a, e, ca, ce, rfl, h3.symm, ?_, by omega, by omega, by omega, by omega, by omega, by omega, ?_, ?_, ?_⟩
      · rw [← h4, ← h2]
      · have := steps_blank (a := q) (by omega) s1 (Nat.le_refl _) (s.extract q a).size (by rw [ext_size (by omega)]; omega)
        rw [Nat.sub_self] at this
        exact this
      · have := steps_count (a := q) (by omega) s1 (Nat.le_refl _) (s.extract q a).size (by rw [ext_size (by omega)]; omega)
        rw [Nat.sub_self] at this
        unfold Lib.runeCount
        rw [this]
        omega
      · have := steps_count (a := a) (by omega) s2 (Nat.le_refl _) (s.extract a e).size (by rw [ext_size (by omega)]; omega)
        rw [Nat.sub_self] at this
        unfold Lib.runeCount
        rw [this]
        omega
theorem span_end {s : ByteArray} {f q c : Nat} (hf : s.size + 1 ≤ q + f) (hq : q ≤ s.size) (h : tokensR s f q c = ([], true)) : blankR (s.extract q s.size) (s.extract q s.size).size 0 = true := by
  cases f with
  | zero => omega
  | succ f' =>
    cases hV : scanE s (s.size + 1) q c with
    | eof u v =>
      obtain ⟨s1, h2⟩ := scanE_eof _ _ _ _ _ (by omega) hV
      have hu : ∀ {p c u v : Nat}, Lex.Steps s SpP p c u v → p ≤ s.size → u ≤ s.size := by
        intro p c u v h
        induction h with
        | refl => exact id
        | step h hP t ih => intro _; exact ih (adv_le s _ h)
      have := hu s1 hq
      obtain rfl : u = s.size := by omega
      have := steps_blank (a := q) (Nat.le_refl _) s1 (Nat.le_refl _) (s.extract q s.size).size (by rw [ext_size (Nat.le_refl _)]; omega)
      rw [Nat.sub_self] at this
      exact this
    | bad => rw [tokensR_bad hV] at h; injection h with h1 h2; exact nomatch h2
    | tok k a e ca ce => rw [tokensR_tok hV] at h; injection h with h1 h2; exact nomatch h1
set_option maxHeartbeats 12800000 in
set_option maxRecDepth 100000 in
theorem law_FnTokenSpans (a : ByteArray) (w : World) (hT : Lex.LT w) :
    Calls Tryd.prog 3 #[.string a] w fun x w' => x = .returned (.bool true) ∧ Below w.heap.size w w' := by
  have HT := Aside0.mk hT
  clear hT
  have hnot : ∀ (x : Bool) (w : World), (Op.unary .not (.bool x)).run Tryd.prog w = .ok (.bool (!x)) w := fun _ _ => rfl
  by_cases hz : (a.size : Int) > 2147483647
  · go_enter Tryd.func3, Tryd.ntmps3
    go_wp2
    go_ret
    exact ⟨rfl, Below.refl _ _⟩
  · have HZ := Aside0.mk hz
    have T1 := Aside0.mk (fun W (h : Lex.LT W) => impl_Tokens.calls ⟨#[123, 32, 97, 32, 125]⟩ _ _ W h (show impl_Tokens.f ⟨#[123, 32, 97, 32, 125]⟩ = some ((tokensR ⟨#[123, 32, 97, 32, 125]⟩ 6 0 0).1, (tokensR ⟨#[123, 32, 97, 32, 125]⟩ 6 0 0).2) from rfl))
    have T2 := Aside0.mk (fun W (h : Lex.LT W) => impl_Tokens.calls a (tokensR a (a.size + 1) 0 0).1 (tokensR a (a.size + 1) 0 0).2 W h (by unfold impl_Tokens.f; rw [if_pos (by omega)]))
    rw [toks_one.1] at T1
    have h3 := toks_one.2
    generalize (tokensR ⟨#[123, 32, 97, 32, 125]⟩ 6 0 0).1 = L1 at T1 h3
    go_enter Tryd.func3, Tryd.ntmps3
    go_wp2_with fail
    refine (T1.out _ HT.out).mono ?_
    rintro x w1 ⟨v1, rfl, hR1, hb1⟩
    obtain ⟨A1, c1, rfl⟩ := Kd.R_slice hR1
    have HB1 := Aside0.mk hb1
    clear hR1 hb1 T1
    rw [h3]
    clear h3
    go_wp2_with fail
    refine (laws_long.calls a _ w1 rfl).mono ?_
    rintro x w2 ⟨rfl, hb⟩
    have HB2 := Aside0.mk (below_step HB1.out hb.below)
    clear hb
    by_cases hlong : (a.size : Int) > 65536
    · rw [decide_eq_true hlong]
      go_wp2
      go_ret
      exact ⟨rfl, HB2.out⟩
    rw [decide_eq_false hlong]
    have HZ2 := Aside0.mk (show a.size ≤ 65536 by omega)
    go_wp2_with fail
    refine (T2.out _ (Lex.LT.below HT.out HB2.out)).mono ?_
    clear T2
    rintro x w3 ⟨v3, rfl, hR3, hb3⟩
    have HB3 := Aside0.mk (below_step HB2.out hb3)
    cases hok : (tokensR a (a.size + 1) 0 0).2 with
    | false =>
      clear hR3 hb3
      go_wp2
      go_ret
      exact ⟨rfl, HB3.out⟩
    | true =>
    have HTK := Aside0.mk (show tokensR a (a.size + 1) 0 0 = ((tokensR a (a.size + 1) 0 0).1, true) by rw [← hok])
    generalize (tokensR a (a.size + 1) 0 0).1 = l at HTK hR3
    obtain ⟨A3, c3, rfl, _, hC3⟩ := Kd.R_reads hR3
    have HC3 := Aside0.mk hC3
    have HLEN := Aside0.mk (show l.length ≤ 65537 from ?hlen)
    case hlen =>
      have h9 := tokensR_len a (a.size + 1) 0 0
      rw [HTK.out] at h9
      simp only at h9
      have := HZ2.out
      omega
    clear hok hC3 hR3 hb3 hlong hz
    go_wp2
    go_loopw [5, 6, 34] (fun v5 v6 v34 wr => ∃ i q c f : Nat, v5 = .int .i64 (q : Int) ∧ v6 = .int .i64 (c : Int) ∧ v34 = .int .i64 (i : Int) ∧ Aside0 (i ≤ l.length ∧ tokensR a f q c = (l.drop i, true) ∧ a.size + 1 ≤ q + f ∧ q ≤ a.size ∧ c ≤ q) ∧ Aside0 (Below w3.heap.size w3 wr)) (fun _ _ v34 _ => l.length - (RowKit.intOf v34).toNat)
    case atStart => exact ⟨0, 0, 0, a.size + 1, rfl, rfl, rfl, ⟨by omega, HTK.out, by omega, by omega, by omega⟩, ⟨Below.refl _ _⟩⟩
    case round =>
      obtain ⟨i, q, c, f, rfl, rfl, rfl, HR, HB⟩ := hrel
      by_cases hlt : i < l.length
      · obtain ⟨ad, e0, hx0, hx1, hx2, hx3, hx4, hx5⟩ := at_T27 (Kd.C_below HC3.out HB.out) (i : Int) (by omega) (by omega)
        have er : rd_T27 l (i : Int) = l[i] := by unfold rd_T27; rw [Int.toNat_natCast, List.getD_eq_getElem?_getD, List.getElem?_eq_getElem hlt]; rfl
        have hd : l.drop i = l[i] :: l.drop (i + 1) := List.drop_eq_getElem_cons hlt
        have htk := HR.out.2.1
        rw [hd] at htk
        obtain ⟨f', k, ta, te, ca, ce, rfl, ht, htk', h1, h2, h3, h4, h5, h6, hb1, hb2, hb3⟩ := span_facts HR.out.2.2.2.1 HR.out.2.2.2.2 htk
        rw [er, ht] at hx0 hx1 hx2 hx3 hx4 hx5
        simp only [Int.toNat_natCast] at hx0 hx1 hx2 hx3 hx4 hx5
        subst e0
        have HR2 := Aside0.mk (show i + 1 ≤ l.length ∧ tokensR a f' te ce = (l.drop (i + 1), true) ∧ a.size + 1 ≤ te + f' ∧ te ≤ a.size ∧ ce ≤ te from ⟨hlt, htk', by have := HR.out; omega, h3, h4⟩)
        have HLI := Aside0.mk hlt
        have HHY := Aside0.mk (And.intro h1 (And.intro h2 (And.intro h3 (And.intro h4 (And.intro h5 h6)))))
        have HHB := Aside0.mk (And.intro hb1 (And.intro hb2 hb3))
        clear er hd htk ht htk' h1 h2 h3 h4 h5 h6 hb1 hb2 hb3
        have HG := Aside0.mk (heap_alloc_new wr (.cells #[.int .i64 (k : Int), .string (a.extract ta te), .int .i64 (ta : Int), .int .i64 (te : Int), .int .i64 (ca : Int), .int .i64 (ce : Int)] 27))
        have HW := Aside0.mk (show Below w3.heap.size w3 (wr.alloc (.cells #[.int .i64 (k : Int), .string (a.extract ta te), .int .i64 (ta : Int), .int .i64 (te : Int), .int .i64 (ca : Int), .int .i64 (ce : Int)] 27)) from HB.out.alloc HB.out.size _)
        have CS := Aside0.mk (show ∀ W, Below (wr.alloc (.cells #[.int .i64 (k : Int), .string (a.extract ta te), .int .i64 (ta : Int), .int .i64 (te : Int), .int .i64 (ca : Int), .int .i64 (ce : Int)] 27)).heap.size (wr.alloc (.cells #[.int .i64 (k : Int), .string (a.extract ta te), .int .i64 (ta : Int), .int .i64 (te : Int), .int .i64 (ca : Int), .int .i64 (ce : Int)] 27)) W → W.heap[wr.heap.size]? = some (.cells #[.int .i64 (k : Int), .string (a.extract ta te), .int .i64 (ta : Int), .int .i64 (te : Int), .int .i64 (ca : Int), .int .i64 (ce : Int)] 27) from fun W hb => (hb.block wr.heap.size (by simp)).trans HG.out)
        have q1 : ¬ ((ta : Int) < (q : Int)) := by have := HHY.out; omega
        have q2 : ¬ ((te : Int) ≤ (ta : Int)) := by have := HHY.out; omega
        have q3 : ¬ ((te : Int) > (a.size : Int)) := by have := HHY.out; omega
        have q4 : ¬ ((te : Int) < (ta : Int)) := by have := HHY.out; omega
        have q5 : ¬ ((a.size : Int) < (te : Int)) := by have := HHY.out; omega
        have q6 : ¬ ((a.size : Int) < (ta : Int)) := by have := HHY.out; omega
        have q7 : ¬ ((k : Int) < 1) := by have := HHY.out; omega
        have q8 : ¬ ((k : Int) > 9) := by have := HHY.out; omega
        have d1 : decide (ta < q) = false := decide_eq_false (by have := HHY.out; omega)
        have d2 : decide (te ≤ ta) = false := decide_eq_false (by have := HHY.out; omega)
        have d3 : decide (a.size < te) = false := decide_eq_false (by have := HHY.out; omega)
        have d4 : decide (k = 0) = false := decide_eq_false (by have := HHY.out; omega)
        have d5 : decide (k < 1) = false := decide_eq_false (by have := HHY.out; omega)
        have d6 : decide (9 < k) = false := decide_eq_false (by have := HHY.out; omega)
        have d7 : decide ((k : Int) < 1) = false := decide_eq_false (by have := HHY.out; omega)
        have d8 : decide ((9 : Int) < (k : Int)) = false := decide_eq_false (by have := HHY.out; omega)
        have q9 : (a.extract ta te != a.extract ta te) = false := ba_ne _
        have BL := Aside0.mk (fun W (h : Below w3.heap.size w3 W) => blank_calls (a.extract q ta) W (by rw [ext_size (by have := HHY.out; omega)]; have := HZ2.out; omega) (Lex.LT.below HT.out (below_step HB3.out h)))
        have e1 := HHB.out.1
        rw [e1] at BL
        clear e1
        go_wp2_with fail
        have m0 := cells6 HG.out
        obtain ⟨⟨m0, m1, m2, m3, m4, m5⟩, z0, z1, z2, z3, z4, z5⟩ := m0
        clear z0 z1 z2 z3 z4 z5
        go_region_held3 (fun w' => w'.cell? ⟨wr.heap.size, 0, none⟩ = some (.int .i64 (k : Int)) ∧ w'.cell? ⟨wr.heap.size, 1, none⟩ = some (.string (a.extract ta te)) ∧ w'.cell? ⟨wr.heap.size, 2, none⟩ = some (.int .i64 (ta : Int)) ∧ w'.cell? ⟨wr.heap.size, 3, none⟩ = some (.int .i64 (te : Int))) (go_keep) (first
          | (go_at_call 11; refine (BL.out _ (by repeat (first | exact HW.out | apply below_drew1 | apply pw_below_drewN))).mono ?_; rintro x w4 ⟨rfl, hb⟩; have HB4 := Aside0.mk (below_step (w := wr.alloc (.cells #[.int .i64 (k : Int), .string (a.extract ta te), .int .i64 (ta : Int), .int .i64 (te : Int), .int .i64 (ca : Int), .int .i64 (ce : Int)] 27)) (by repeat (first | exact Below.refl _ _ | apply below_drew1 | apply pw_below_drewN)) hb); clear hb m0 m1 m2 m3 m4 m5; obtain ⟨⟨m0, m1, m2, m3, m4, m5⟩, _, _, _, _, _, _⟩ := cells6 (CS.out _ HB4.out)))
        have HB5 := Aside0.mk (below_step HW.out HB4.out)
        have RC1 := Aside0.mk (fun W => Tryd.utf8_RuneCountInString (a.extract q ta) W (by rw [ext_size (by have := HHY.out; omega)]; have := HZ2.out; omega))
        have RC2 := Aside0.mk (fun W => Tryd.utf8_RuneCountInString (a.extract ta te) W (by rw [ext_size (by have := HHY.out; omega)]; have := HZ2.out; omega))
        have s1 : wrap64 ((c : Int) + (Lib.runeCount (a.extract q ta) : Int)) = (ca : Int) := by have := HHB.out.2.1; have := HHB.out.2.2; have := HHY.out; have := HZ2.out; unfold wrap64; omega
        have s2 : wrap64 ((ca : Int) + (Lib.runeCount (a.extract ta te) : Int)) = (ce : Int) := by have := HHB.out.2.2; have := HHY.out; have := HZ2.out; unfold wrap64; omega
        have S2 := Aside0.mk s2
        generalize Lib.runeCount (a.extract q ta) = N1 at s1 RC1 HHB
        generalize Lib.runeCount (a.extract ta te) = N2 at s2 S2 RC2 HHB
        have t1 : ((ca : Int) != (ca : Int)) = false := by simp
        have t2 : ((ce : Int) != (ce : Int)) = false := by simp
        clear q2 q3 q4 q5 q7 q8 d1 d2 d3 d4 d5 d6 d7 d8 q9
        go_wp2_with fail
        refine (RC1.out _).mono ?_
        rintro x w5 ⟨rfl, p5, hw5⟩
        have hb5 : Below w4.heap.size w4 w5 := by rw [hw5]; exact below_alloc (Below.refl _ _) _
        have HB6 := Aside0.mk (below_step HB4.out hb5)
        clear hw5 hb5 m0 m1 m2 m3 m4 m5
        obtain ⟨⟨m0, m1, m2, m3, m4, m5⟩, _, _, _, _, _, _⟩ := cells6 (CS.out _ HB6.out)
        go_wp2_with fail
        refine (RC2.out _).mono ?_
        rintro x w6 ⟨rfl, p6, hw6⟩
        have hb6 : Below w5.heap.size w5 w6 := by rw [hw6]; exact below_alloc (Below.refl _ _) _
        have HB7 := Aside0.mk (below_step HB6.out hb6)
        clear hw6 hb6 m0 m1 m2 m3 m4 m5
        obtain ⟨⟨m0, m1, m2, m3, m4, m5⟩, _, _, _, _, _, _⟩ := cells6 (CS.out _ HB7.out)
        have HB8 := Aside0.mk (below_step HW.out HB7.out)
        have hi9 : (i : Int) < 65537 := by have := HLI.out; have := HLEN.out; omega
        go_wp2
        go_roundw
        case rel => exact ⟨i + 1, te, ce, f', rfl, by first | rfl | exact congrArg (Value.int .i64) S2.out, by go_num, HR2, HB8⟩
        case measure => have := HLI.out; simp [RowKit.intOf]; omega
      · have hi : i = l.length := by have := HR.out; omega
        subst hi
        have htk := HR.out.2.1
        rw [List.drop_length] at htk
        have hbl := span_end HR.out.2.2.1 HR.out.2.2.2.1 htk
        have BL := Aside0.mk (fun W (h : Below w3.heap.size w3 W) => blank_calls (a.extract q a.size) W (by rw [ext_size (Nat.le_refl _)]; have := HZ2.out; omega) (Lex.LT.below HT.out (below_step HB3.out h)))
        rw [hbl] at BL
        have q1 : ¬ ((a.size : Int) < (q : Int)) := by have := HR.out; omega
        clear htk hbl
        go_wp2_with fail
        refine (BL.out _ HB.out).mono ?_
        rintro x w4 ⟨rfl, hb⟩
        have HB9 := Aside0.mk (below_step HB3.out (below_step HB.out hb))
        clear hb
        go_wp2
        go_ret
        exact ⟨rfl, HB9.out⟩
end Go.Proofs.YtmjoebnphacadaaDoor.Door
