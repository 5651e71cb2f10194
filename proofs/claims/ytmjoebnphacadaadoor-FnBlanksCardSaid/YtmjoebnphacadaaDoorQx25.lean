-- printed by this project's own program wip/tools/mkprint.py (the kit's print.py with hand-proved contracts put in)
import Derived.Test.YtmjoebnphacadaaDoorQx0
namespace Go.Proofs.YtmjoebnphacadaaDoor.Q
open Go.RowKit Go.Proofs.YtmjoebnphacadaaDoorW.PrintWords Go.Proofs.YtmjoebnphacadaaDoorW.PrintLast Go.Proofs.YtmjoebnphacadaaDoorW.PrintMore
attribute [local go_sem] max2_int min2_int max_two min_two max_three min_three max_four min_four   -- for this text's walks alone
set_option linter.unusedVariables false
set_option linter.unusedSimpArgs false

/-! ### impl_Tokens: function 9 -/
-- a contract that was proved by hand
theorem infoTk : (Tryd.prog.info? 27).map (fun i => (i.zero, i.size, i.bytes)) = some (some (.agg #[.int .i64 0, .string ⟨#[]⟩, .int .i64 0, .int .i64 0, .int .i64 0, .int .i64 0]), 6, 56) := by kernel_rfl
open Go.Proofs.YtmjoebnphacadaaDoor.Lex in
/-- The tokens of a text from a place on; is there its end behind them? -/
def tokensR (s : ByteArray) : Nat → Nat → Nat → List S27 × Bool
  | 0, _, _ => ([], false)
  | f + 1, p, c => match scanE s (s.size + 1) p c with
    | .eof _ _ => ([], true)
    | .bad => ([], false)
    | .tok k a e ca ce => ((⟨(k : Int), s.extract a e, (a : Int), (e : Int), (ca : Int), (ce : Int)⟩ : S27) :: (tokensR s f e ce).1, (tokensR s f e ce).2)
noncomputable def impl_Tokens.f (a0 : ByteArray) : Option (List S27 × Bool) := if a0.size ≤ 2147483647 then some (tokensR a0 (a0.size + 1) 0 0) else none
section tokens
open Go.Proofs.YtmjoebnphacadaaDoor.Lex
theorem tokensR_eof {s : ByteArray} {f p c u v : Nat} (h : scanE s (s.size + 1) p c = .eof u v) : tokensR s (f + 1) p c = ([], true) := by
  show (match scanE s (s.size + 1) p c with | .eof _ _ => _ | .bad => _ | .tok k a e ca ce => _) = _
  rw [h]
theorem tokensR_bad {s : ByteArray} {f p c : Nat} (h : scanE s (s.size + 1) p c = .bad) : tokensR s (f + 1) p c = ([], false) := by
  show (match scanE s (s.size + 1) p c with | .eof _ _ => _ | .bad => _ | .tok k a e ca ce => _) = _
  rw [h]
theorem tokensR_tok {s : ByteArray} {f p c k a e ca ce : Nat} (h : scanE s (s.size + 1) p c = .tok k a e ca ce) :
    tokensR s (f + 1) p c = ((⟨(k : Int), s.extract a e, (a : Int), (e : Int), (ca : Int), (ce : Int)⟩ : S27) :: (tokensR s f e ce).1, (tokensR s f e ce).2) := by
  show (match scanE s (s.size + 1) p c with | .eof _ _ => _ | .bad => _ | .tok k a e ca ce => _) = _
  rw [h]
theorem R_kept {α : Type} {d : Kd α} {e B o : Nat} {w w1 : World} {v : Value} {xs : List α} (h : d.R e w (B + 1) (fun _ => True) v xs) (hk : Kept B o w w1) : d.R e w1 (B + 1) (fun _ => True) v xs :=
  Kd.R_mono (Kd.R_step (Kd.R_bound h) (fun k h1 h2 => hk.block k h2 (by have := h1.2.1; omega))) (fun _ _ => trivial)
theorem R_notB {α : Type} {d : Kd α} {e B : Nat} {w : World} {v : Value} {xs : List α} (h : d.R e w (B + 1) (fun _ => True) v xs) : some B ≠ v.ownBlock := by
  intro hh
  have := ((Kd.R_bound h).1 B hh.symm).2.1
  omega
theorem LexAt.block {w w' : World} {B o : Nat} {s : ByteArray} {e : Value} {a p wd ca c : Nat} (h : LexAt w B o s e a p wd ca c) (hb : w'.heap[B]? = w.heap[B]?) : LexAt w' B o s e a p wd ca c := by
  have h1 : ∀ i, w'.cell? ⟨B, i, none⟩ = w.cell? ⟨B, i, none⟩ := fun i => World.cell?_of_block (w := w) hb
  have h2 : ∀ i, w'.frozen? ⟨B, i, none⟩ = w.frozen? ⟨B, i, none⟩ := fun i => World.frozen?_of_block (w := w) hb
  exact ⟨(h1 _).trans h.c0, (h1 _).trans h.c1, (h1 _).trans h.c2, (h1 _).trans h.c3, (h1 _).trans h.c4, (h1 _).trans h.c5, (h1 _).trans h.c6, (h2 _).trans h.f1, (h2 _).trans h.f2, (h2 _).trans h.f3, (h2 _).trans h.f4, (h2 _).trans h.f5, (h2 _).trans h.f6⟩
set_option maxHeartbeats 6400000 in
set_option maxRecDepth 100000 in
theorem impl_Tokens.calls (a0 : ByteArray) (r1 : List S27) (r2 : Bool) (w : World) (hT_ : ETx w) (h : impl_Tokens.f a0 = some (r1, r2)) :
    Calls Tryd.prog 9 #[.string a0] w fun e w' => ∃ v0_ : Value, e = .returned (.tuple #[v0_, .bool r2]) ∧ Kd.R k27 27 w' w.heap.size (fun _ => True) v0_ r1 ∧ Below w.heap.size w w' := by
  unfold impl_Tokens.f at h
  split at h
  · rename_i hs
    have hq := Option.some.inj h
    clear h
    have HS := Aside0.mk hs
    have HT := Aside0.mk (show LT w from hT_.elim fun _ h => h.t)
    have HQ := Aside0.mk hq
    have N := Aside0.mk (new_lexer a0 w)
    clear hs hT_ hq
    go_enter Tryd.func9, Tryd.ntmps9
    go_wp2_with fail
    refine N.out.mono ?_
    rintro x w1 ⟨rfl, hl, hb⟩
    have HL1 := Aside0.mk hl
    have HB1 := Aside0.mk hb
    clear hl hb N
    go_wp2_with fail
    go_loopw [5] (fun v5 wr => ∃ (q c f wd : Nat) (l : List S27), Aside0 ((l ++ (tokensR a0 f q c).1, (tokensR a0 f q c).2) = (r1, r2) ∧ a0.size + 1 ≤ q + f ∧ q ≤ a0.size ∧ c ≤ q ∧ l.length ≤ q) ∧ Aside0 (LexAt wr w.heap.size 0 a0 .nilIface q q wd c c) ∧ Aside0 (Kd.R k27 27 wr (w.heap.size + 1) (fun _ => True) v5 l) ∧ Aside0 (Below w.heap.size w wr)) (fun _ wr => a0.size - posAt wr w.heap.size 0)
    case atStart => exact ⟨0, 0, a0.size + 1, 0, [], ⟨HQ.out, by omega, by omega, by omega, by simp⟩, HL1, ⟨Kd.R_nil _ _ _ _ _⟩, HB1⟩
    case round =>
      obtain ⟨q, c, f, wd, l, HR, HL, HO, HB⟩ := hrel
      obtain ⟨f, rfl⟩ : ∃ g, f = g + 1 := ⟨f - 1, by have := HR.out; omega⟩
      have C := Aside0.mk (zz_scan (w0 := w) ⟨HT.out, HB.out, Nat.le_refl _⟩ HL.out HS.out HR.out.2.2.1 HR.out.2.2.2.1)
      go_wp2_with fail
      refine C.out.mono ?_
      clear C
      intro x w2 hO
      cases hV : scanE a0 (a0.size + 1) q c with
      | eof u v =>
        rw [hV] at hO
        obtain ⟨hk, rfl, wd1, hl⟩ := hO
        have hEq := HR.out.1
        rw [tokensR_eof hV, List.append_nil] at hEq
        injection hEq with e1 e2
        subst e1 e2
        have HB2 := Aside0.mk (HB.out.trans (hk.below (Nat.le_refl _) HB.out.size))
        have HO2 := Aside0.mk (R_kept HO.out hk)
        clear hk hl hV
        unfold noTok
        go_wp2
        go_ret2
        exact ⟨_, rfl, Kd.R_below (Kd.R_lower HO2.out (by omega)) (below_alloc (Below.refl _ _) _), HB2.out.alloc HB2.out.size _⟩
      | bad =>
        rw [hV] at hO
        obtain ⟨hk, r, rfl, hr, a9, p9, wd9, ca9, c9, hl⟩ := hO
        obtain ⟨T, cs, rfl, hT⟩ := hr
        have hEq := HR.out.1
        rw [tokensR_bad hV, List.append_nil] at hEq
        injection hEq with e1 e2
        subst e1 e2
        have HB2 := Aside0.mk (HB.out.trans (hk.below (Nat.le_refl _) HB.out.size))
        have HO2 := Aside0.mk (R_kept HO.out hk)
        clear hk hl hV hT
        unfold noTok
        go_wp2
        go_ret2
        exact ⟨_, rfl, Kd.R_below (Kd.R_lower HO2.out (by omega)) (below_alloc (Below.refl _ _) _), HB2.out.alloc HB2.out.size _⟩
      | tok k9 a9 E9 ca9 c9 =>
        rw [hV] at hO
        obtain ⟨hk, rfl, wd1, hl⟩ := hO
        have hle := scanE_le _ _ _ _ _ _ _ _ HR.out.2.2.1 HR.out.2.2.2.1 hV
        have hEq := HR.out.1
        rw [tokensR_tok hV] at hEq
        have HR2 := Aside0.mk (show (l ++ [(⟨(k9 : Int), a0.extract a9 E9, (a9 : Int), (E9 : Int), (ca9 : Int), (c9 : Int)⟩ : S27)] ++ (tokensR a0 f E9 c9).1, (tokensR a0 f E9 c9).2) = (r1, r2) ∧ a0.size + 1 ≤ E9 + f ∧ E9 ≤ a0.size ∧ c9 ≤ E9 ∧ (l ++ [(⟨(k9 : Int), a0.extract a9 E9, (a9 : Int), (E9 : Int), (ca9 : Int), (c9 : Int)⟩ : S27)]).length ≤ E9 from
          ⟨by rw [List.append_assoc]; exact hEq, by have := HR.out; omega, by omega, by omega, by rw [List.length_append, List.length_singleton]; have := HR.out; omega⟩)
        have HB2 := Aside0.mk (HB.out.trans (hk.below (Nat.le_refl _) HB.out.size))
        have HO2 := Aside0.mk (Kd.R_below (R_kept HO.out hk) (below_alloc (Below.refl w2.heap.size w2) (.cells #[.int .i64 (k9 : Int), .string (a0.extract a9 E9), .int .i64 (a9 : Int), .int .i64 (E9 : Int), .int .i64 (ca9 : Int), .int .i64 (c9 : Int)] 49)))
        have HL2 := Aside0.mk (hl.alloc (.cells #[.int .i64 (k9 : Int), .string (a0.extract a9 E9), .int .i64 (a9 : Int), .int .i64 (E9 : Int), .int .i64 (ca9 : Int), .int .i64 (c9 : Int)] 49))
        have HBW := Aside0.mk (HB2.out.alloc HB2.out.size (.cells #[.int .i64 (k9 : Int), .string (a0.extract a9 E9), .int .i64 (a9 : Int), .int .i64 (E9 : Int), .int .i64 (ca9 : Int), .int .i64 (c9 : Int)] 49))
        have HSZ := Aside0.mk (show w.heap.size + 1 ≤ (w2.alloc (.cells #[.int .i64 (k9 : Int), .string (a0.extract a9 E9), .int .i64 (a9 : Int), .int .i64 (E9 : Int), .int .i64 (ca9 : Int), .int .i64 (c9 : Int)] 49)).heap.size by have := hl.lt; simp; omega)
        have HNB := Aside0.mk (R_notB HO.out)
        have HA := Aside0.mk hle
        have HP := Aside0.mk (show posAt wr w.heap.size 0 = q from posAt_of HL.out)
        have hkn : ((k9 : Int) == 0) = false := by simp; omega
        clear hk hl hV hle hEq
        unfold tokV
        go_wp2_with ((with_reducible refine gate_builtin (b := .append) (xs := #[.tmp 22, .tmp 36]) rfl ?_); at_builtin; refine Kd.R_append k27 (w0 := (w2.alloc (.cells #[.int .i64 (k9 : Int), .string (a0.extract a9 E9), .int .i64 (a9 : Int), .int .i64 (E9 : Int), .int .i64 (ca9 : Int), .int .i64 (c9 : Int)] 49))) (w.heap.size + 1) rfl (.tmp 22) (.tmp 36) 22 27 (.agg #[.int .i64 0, .string ⟨#[]⟩, .int .i64 0, .int .i64 0, .int .i64 0, .int .i64 0]) 56 ?a0 ?a1 infoTk ?a2 ?a3 ?a4 u5 l (⟨(k9 : Int), a0.extract a9 E9, (a9 : Int), (E9 : Int), (ca9 : Int), (c9 : Int)⟩ : S27) [.int .i64 (k9 : Int), .string (a0.extract a9 E9), .int .i64 (a9 : Int), .int .i64 (E9 : Int), .int .i64 (ca9 : Int), .int .i64 (c9 : Int)] (fun _ => True) (fun _ => False) ?a5 ?a6 ?a7 ?a8 ?a9 ?b1 ?b2 ?b3 ?b4 ?_; (case a0 => rfl); (case a1 => exact Tryd.underlying22); (case a2 => rfl); (case a3 => decide); (case a4 => omega); (case a5 => rfl); (case a6 => (first | (go_simp; done) | (go_simp; rfl) | (go_simp; simp; done))); (case a7 => exact k27_mkM _ _ _ (⟨(k9 : Int), a0.extract a9 E9, (a9 : Int), (E9 : Int), (ca9 : Int), (c9 : Int)⟩ : S27)); (case a8 => exact fun _ hk => hk.elim); (case a9 => exact fun _ _ => trivial); (case b1 => exact HO2.out); (case b2 => exact Below.refl _ _); (case b3 => exact HSZ.out); (case b4 => (have h1 := HR.out; have h2 := HS.out; omega)); intro v2 w4 hO4 hB4 hg4 hat4; have HO4 := Aside0.mk hO4; have HB4 := Aside0.mk (HBW.out.trans (hB4.mono (Nat.le_succ _))); have HL4 := Aside0.mk (LexAt.block HL2.out (hg4.block w.heap.size HL2.out.lt HNB.out)); clear hO4 hB4 hg4 hat4)
        go_wp2
        go_roundw
        case rel => exact ⟨E9, c9, f, wd1, _, HR2, HL4, HO4, HB4⟩
        case measure =>
          rw [HP.out, posAt_of HL4.out]
          have := HA.out
          omega
  · exact nomatch h
end tokens


end Go.Proofs.YtmjoebnphacadaaDoor.Q
