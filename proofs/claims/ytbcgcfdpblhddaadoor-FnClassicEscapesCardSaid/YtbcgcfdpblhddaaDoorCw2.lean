/- labels.ParseMatcher: its walk. -/
import Derived.Test.YtbcgcfdpblhddaaDoorCw0
import Derived.Test.YtbcgcfdpblhddaaDoorCw1
import Derived.Test.YtbcgcfdpblhddaaDoorUqV
import Derived.Test.YtbcgcfdpblhddaaDoorBuilder
import Derived.Test.YtbcgcfdpblhddaaDoorQx8
import Derived.Test.YtbcgcfdpblhddaaDoorQx18
import Derived.Lib.RuneCount
import Derived.WalkSmall
import Derived.BigCall
import Derived.BigRegion
import Derived.Deep.RegionWith
namespace Go.Proofs.YtbcgcfdpblhddaaDoor.Cl
open Go.RowKit Go.Lib Go.Proofs.YtbcgcfdpblhddaaDoor.Pure Go.Proofs.YtbcgcfdpblhddaaDoor.Q Go.Proofs.YtbcgcfdpblhddaaDoorW.PrintWords Go.Proofs.YtbcgcfdpblhddaaDoorW.PrintLast
set_option linter.unusedVariables false
set_option linter.unusedSimpArgs false
/-- What the walks of the old reader ask of the world: the tables of utf8. -/
def UT (w : World) : Prop := Tryd.Tabs w
theorem UT.below {w w' : World} (h : UT w) (hb : Below w.heap.size w w') : UT w' := Utf8Tabs_below h hb
/-- The third token without the quote ahead of it, and whether there was one. -/
def rawQ : List UInt8 → List UInt8 × Bool
  | 34 :: r => (r, true)
  | v => (v, false)
theorem cut_quote (v : List UInt8) : strings_CutPrefix.f (ba v) ⟨#[34]⟩ = some (ba (rawQ v).1, (rawQ v).2) := by
  have hz : (⟨#[34]⟩ : ByteArray).size = 1 := rfl
  have hl : (⟨#[34]⟩ : ByteArray).toList = [34] := by rw [Lib.toList_data]
  unfold strings_CutPrefix.f stringslite_CutPrefix.f stringslite_HasPrefix.f
  rw [hz, hl]
  cases v with
  | nil => rfl
  | cons c r =>
    have hs : (ba (c :: r)).size = r.length + 1 := rfl
    have e1 : ((ba (c :: r)).extract 0 1).toList = [c] := by
      rw [Lib.toList_data, ByteArray.data_extract, Array.toList_extract, List.extract_eq_take_drop]
      rfl
    have e2 : (ba (c :: r)).extract 1 (r.length + 1) = ba r := by
      apply ByteArray.ext
      apply Array.toList_inj.1
      rw [ByteArray.data_extract, Array.toList_extract, List.extract_eq_take_drop]
      show r.take (r.length + 1 - 1) = r
      rw [Nat.add_sub_cancel, List.take_length]
    rw [hs, if_pos (by omega), if_pos (by omega), if_pos (by omega)]
    show ((some (((ba (c :: r)).extract 0 1).toList == [34])).bind _).bind _ = _
    rw [e1, Option.bind_some]
    by_cases h : c = 34
    · subst h
      rw [if_pos (by rfl)]
      show (if (0 : Int) ≤ ((1 : Nat) : Int) then (if ((1 : Nat) : Int) ≤ ((r.length + 1 : Nat) : Int) then some ((ba (34 :: r)).extract 1 (r.length + 1), true) else none) else none).bind _ = _
      rw [if_pos (by omega), if_pos (by omega), e2]
      rfl
    · have hb : ([c] == ([34] : List UInt8)) = false := by
        rw [beq_eq_false_iff_ne]
        intro e
        exact h (List.cons.inj e).1
      rw [hb, if_neg (by simp)]
      have : rawQ (c :: r) = (c :: r, false) := by
        unfold rawQ
        split
        · rename_i h2
          exact absurd (List.cons.inj h2).1 h
        · rfl
      rw [this]
      rfl
theorem type_of {t : Nat} (ht : t < 4) : labels_zzTypeOf.f (ba (oxL t)) = some (t : Int) := by
  unfold labels_zzTypeOf.f
  rw [Lib.toList_data, ba_list]
  rcases (show t = 0 ∨ t = 1 ∨ t = 2 ∨ t = 3 by omega) with rfl | rfl | rfl | rfl <;> rfl
/-- One matcher that was read, or none. -/
def PMPost (w : World) (R : Option (Nat × List UInt8 × List UInt8)) (x : Ending) (w' : World) : Prop := Below w.heap.size w w' ∧ match R with
  | some m => ∃ g, x = .returned (.tuple #[.pointer (some ⟨g, 0, none⟩), .nilIface]) ∧ w.heap.size ≤ g ∧ w'.heap[g]? = some (.cells #[.int .i64 (m.1 : Int), .string (ba m.2.1), .string (ba m.2.2)] 76 (0, 0))
  | none => ∃ T u, x = .returned (.tuple #[.pointer none, .iface T u])
theorem bld_new {w : World} {b : Nat} (h : w.heap[b]? = some (.cells #[.pointer none, .slice none 0 0] 65 (0, 0))) : Lib.IsBuilderF 65 5 b b (Lib.byteCells []) w :=
  .inl ⟨Nat.le_refl _, .slice none 0 0, h, World.ownsRowF_nil _ _ _ _, by simp [Value.ownBlock]⟩
theorem bld_is {B b : Nat} {bs : List Value} {w : World} (h : Lib.BuilderAtF 65 5 B b (.pointer (some ⟨b, 0, none⟩)) bs w) : Lib.IsBuilderF 65 5 B b bs w := .inr h
theorem bld_rune (acc : List UInt8) (r : Nat) : Lib.byteCells acc ++ Lib.runeCells (r : Int) = Lib.byteCells (acc ++ encR r) := by
  rw [Lib.byteCells_append]
  show _ = _ ++ Lib.byteCells (Lib.encodeRune (r : Int))
  rw [Lib.byteCells_encodeRune]
theorem bld_byte (acc : List UInt8) (c : UInt8) : Lib.byteCells acc ++ [Value.int .u8 (c.toNat : Int)] = Lib.byteCells (acc ++ [c]) := by rw [Lib.byteCells_append]; rfl
theorem it_kept {b k : Nat} {w w' : World} {s : ByteArray} {p : Nat} (h : Lib.OthersKept 5 (some b) w w') (hk : w.heap[k]? = some (.stringIter s p)) (hb : b < k) : w'.heap[k]? = some (.stringIter s p) :=
  h k _ hk (fun e => by injection e with e; omega) (fun c' fz e => nomatch e)
theorem encR_le (r : Nat) : (encR r).length ≤ 4 := by
  unfold encR Lib.encodeRune
  rw [List.length_map]
  exact (Lib.encodeRuneZ_length _).2
theorem rune_ub (s : ByteArray) (pos : Nat) : (Utf8.decode s pos).1 ≤ 1114111 := by
  have h := decodeN_valid (s.size - pos) (s.get! pos).toNat (s.get! (pos + 1)).toNat (s.get! (pos + 2)).toNat (s.get! (pos + 3)).toNat (UInt8.toNat_lt _)
  rw [← decode_at] at h
  omega
/-- A builder, and what lies below it. -/
structure KB (b : Nat) (w1 : World) (acc : List UInt8) (W : World) : Prop where
  u : Lib.IsBuilderF 65 5 b b (Lib.byteCells acc) W
  b : Below b w1 W
theorem KB.drew1 {b : Nat} {w1 : World} {acc : List UInt8} {W : World} (h : KB b w1 acc W) : KB b w1 acc W.drew := ⟨h.u, h.b.drew⟩
theorem KB.drawn {b : Nat} {w1 : World} {acc : List UInt8} {W W2 : World} (h : KB b w1 acc W) (hd : Drawn0 W W2) : KB b w1 acc W2 := by
  obtain ⟨n, rfl⟩ := hd
  exact ⟨h.u, pw_below_drewN h.b n⟩
theorem cvR_at {s : ByteArray} {f pos : Nat} {esc ex : Bool} {acc : List UInt8} (hp : pos < s.size) : cvR s (f + 1) pos esc ex acc =
    if esc = true then cvR s f (pos + (Utf8.decode s pos).2) false ex (acc ++ (if (Utf8.decode s pos).1 = 110 then [10] else if (Utf8.decode s pos).1 = 34 ∨ (Utf8.decode s pos).1 = 92 then encR (Utf8.decode s pos).1 else 92 :: encR (Utf8.decode s pos).1))
      else if (Utf8.decode s pos).1 = 92 then (if pos + 1 < s.size then cvR s f (pos + (Utf8.decode s pos).2) true ex acc else cvR s f (pos + (Utf8.decode s pos).2) false ex (acc ++ [92]))
      else if (Utf8.decode s pos).1 = 34 then (if ex = false ∨ pos + 1 < s.size then none else cvR s f (pos + (Utf8.decode s pos).2) false false acc)
      else cvR s f (pos + (Utf8.decode s pos).2) false ex (acc ++ encR (Utf8.decode s pos).1) := by
  conv => lhs; unfold cvR
  rw [if_pos hp]
theorem cvR_end {s : ByteArray} {f pos : Nat} {esc ex : Bool} {acc : List UInt8} (hp : ¬ pos < s.size) : cvR s f pos esc ex acc = some (acc, ex) := by
  cases f with
  | zero => rfl
  | succ f => unfold cvR; rw [if_neg hp]
theorem tr_le (l : List UInt8) : (tr l).length ≤ l.length := by
  have h1 := (lt_suffix l).length_le
  obtain ⟨b, _, e⟩ := rt_split (lt l)
  have := congrArg List.length e
  rw [List.length_append] at this
  show (rt (lt l)).length ≤ _
  omega
theorem pt_facts {l : List UInt8} {p : List UInt8 × Nat × List UInt8} (h : ptB l = some p) : p.2.1 < 4 ∧ p.1.length ≤ l.length ∧ p.2.2.length ≤ l.length := by
  unfold ptB at h
  dsimp only at h
  by_cases h0 : nmB true true (lt l) = []
  · rw [if_pos h0] at h; cases h
  · rw [if_neg h0] at h
    obtain ⟨q, hq, rfl⟩ := Option.map_eq_some_iff.1 h
    obtain ⟨q1, q2⟩ := op_facts hq
    have h1 := nm_le true true (lt l)
    have h2 := (lt_suffix l).length_le
    have h3 := (lt_suffix ((lt l).drop (nmB true true (lt l)).length)).length_le
    have h4 := congrArg List.length q2
    rw [List.length_append] at h4
    rw [List.length_drop] at h3
    have h5 := tr_le q.2
    refine ⟨q1, ?_, ?_⟩
    · show (nmB true true (lt l)).length ≤ _
      omega
    · show (tr q.2).length ≤ _
      omega
theorem raw_le (v : List UInt8) : (rawQ v).1.length ≤ v.length := by
  unfold rawQ
  split
  · simp
  · exact Nat.le_refl _
theorem vl_raw (v : List UInt8) : vlB v = if validD (rawQ v).1 = true then (cvB (rawQ v).1 false (rawQ v).2).bind fun q => if q.2 = true then none else some q.1 else none := by
  cases v with
  | nil => rfl
  | cons c r =>
    by_cases h : c = 34
    · subst h; rfl
    · have e1 : rawQ (c :: r) = (c :: r, false) := by
        unfold rawQ
        split
        · rename_i h2
          exact absurd (List.cons.inj h2).1 h
        · rfl
      have e2 : vlB (c :: r) = if validD (c :: r) = true then (cvB (c :: r) false false).bind fun q => if q.2 = true then none else some q.1 else none := by
        unfold vlB
        split
        · rename_i h2
          exact absurd (List.cons.inj h2).1 h
        · rfl
      rw [e1, e2]
/-- The loop's answer. -/
def cvA (q : ByteArray) (ex : Bool) : Option (List UInt8) := (cvR q q.size 0 false ex []).bind fun z => if z.2 = true then none else some z.1
theorem vl_cvA {v : List UInt8} (hv : validD (rawQ v).1 = true) : vlB v = cvA (ba (rawQ v).1) (rawQ v).2 := by
  rw [vl_raw, if_pos hv]
  unfold cvA
  rw [cvR_bytes (ba (rawQ v).1) _ 0 false _ [] (by omega) (by rw [List.drop_zero]; exact hv) (by simp), List.drop_zero, ba_list]
  cases cvB (rawQ v).1 false (rawQ v).2 <;> rfl
set_option maxHeartbeats 2000000 in
set_option maxRecDepth 1000000 in
theorem parse_matcher (s : ByteArray) (w : World) (hs : s.size ≤ 1000000) (hT : UT w) :
    Calls Tryd.prog 16 #[.string s] w (PMPost w (cmB s.data.toList)) := by
  obtain ⟨k, hk⟩ := (parts_ev (s := s) (by omega)).rounds
  have HPt := Aside0.mk (labels_zzMatcherParts.calls k s (ptL s) w hk)
  have HT := Aside0.mk hT
  clear hk hT
  cases hp : ptB s.data.toList with
  | none =>
    have e1 : ptL s = [] := by unfold ptL; rw [hp]
    have e2 : cmB s.data.toList = none := by unfold cmB; rw [hp]; rfl
    rw [e1] at HPt
    rw [e2]
    clear hp e1 e2
    go_enter Tryd.func16, Tryd.ntmps16
    go_wp2_with fail
    refine HPt.out.mono ?_
    rintro x w1 ⟨v, rfl, hR, hb⟩
    obtain ⟨A, c, rfl⟩ := Kd.R_slice hR
    have HB := Aside0.mk hb
    clear hb hR HPt HT
    go_wp2_with fail
    refine (errNew_calls _ _).mono ?_
    rintro x w2 ⟨hb2, T, u, rfl⟩
    have HB2 := Aside0.mk (below_step HB.out hb2)
    clear hb2
    go_wp2
    go_ret2
    exact ⟨HB2.out, _, _, rfl⟩
  | some p =>
    obtain ⟨n, t, v⟩ := p
    have e1 : ptL s = [s, ba n, ba (oxL t), ba v] := by unfold ptL; rw [hp]
    have e2 : cmB s.data.toList = (vlB v).map fun v => (t, n, v) := by unfold cmB; rw [hp]; rfl
    obtain ⟨ht4, hnl, hvl⟩ := pt_facts hp
    dsimp only at ht4 hnl hvl
    rw [lsz] at hnl hvl
    have hrl := raw_le v
    rw [e1] at HPt
    rw [e2]
    obtain ⟨R, hRv⟩ : ∃ R, vlB v = R := ⟨_, rfl⟩
    rw [hRv]
    have HCut := Aside0.mk (cut_quote v)
    have hvalid : ∀ b, validD (rawQ v).1 = b → b = false → R = none := by
      rintro b h rfl
      rw [← hRv, vl_raw, if_neg (by rw [h]; simp)]
    have hcva : validD (rawQ v).1 = true → cvA (ba (rawQ v).1) (rawQ v).2 = R := fun h => by rw [← hRv, vl_cvA h]
    have HVal := Aside0.mk hvalid
    have HCva := Aside0.mk hcva
    have HTy := Aside0.mk (type_of ht4)
    have hraw : (rawQ v).2 = false → (rawQ v).1 = v := by
      unfold rawQ
      split
      · intro h; cases h
      · intro _; rfl
    obtain ⟨⟨qr, ex⟩, hqr⟩ : ∃ q, rawQ v = q := ⟨_, rfl⟩
    rw [hqr] at HCut HVal HCva hrl hraw
    dsimp only at HCut HVal HCva hrl hraw
    obtain ⟨vb, hvb⟩ : ∃ vb, ba v = vb := ⟨_, rfl⟩
    obtain ⟨q, hq⟩ : ∃ q, ba qr = q := ⟨_, rfl⟩
    have hqs : q.size ≤ 1000000 := by rw [← hq]; show qr.length ≤ _; omega
    have hqd : q.data.toList = qr := by rw [← hq]; rfl
    have hraw2 : ex = false → vb = q := fun h => by rw [← hvb, ← hq, hraw h]
    rw [← hqd] at HVal HCva
    have e3 : ba q.data.toList = q := rfl
    rw [e3] at HCva
    rw [hvb] at HPt HCut
    rw [hq] at HCut
    obtain ⟨nb, hnb⟩ : ∃ nb, ba n = nb := ⟨_, rfl⟩
    obtain ⟨ob, hob⟩ : ∃ ob, ba (oxL t) = ob := ⟨_, rfl⟩
    rw [hnb, hob] at HPt
    rw [hob] at HTy
    have HN := Aside0.mk hnb
    have HT4 := Aside0.mk ht4
    clear hp e1 e2 e3 hnl hvl hRv hvalid hcva hraw hqr hvb hq hrl hqd hnb hob ht4
    go_enter Tryd.func16, Tryd.ntmps16
    go_wp2_with fail
    refine HPt.out.mono ?_
    rintro x w1 ⟨va, rfl, hR, hb⟩
    obtain ⟨g, c, rfl, hg0, hg1, _⟩ := Kd.R_form hR (by simp)
    have hC := (Kd.R_reads' hR).2.2
    have cs : ∀ W, Below w1.heap.size w1 W → W.cell? ⟨g, 1, none⟩ = some (.string nb) ∧ W.cell? ⟨g, 2, none⟩ = some (.string ob) ∧ W.cell? ⟨g, 3, none⟩ = some (.string vb) := by
      intro W hW
      have hC2 := Kd.C_below hC hW
      obtain ⟨a1, h1, c1⟩ := Kd.at_string hC2 1 (by omega) (by simp)
      obtain ⟨a2, h2, c2⟩ := Kd.at_string hC2 2 (by omega) (by simp)
      obtain ⟨a3, h3, c3⟩ := Kd.at_string hC2 3 (by omega) (by simp)
      obtain rfl := Option.some.inj h1
      obtain rfl := Option.some.inj h2
      obtain rfl := Option.some.inj h3
      exact ⟨c1, c2, c3⟩
    obtain ⟨d1, d2, d3⟩ := cs w1 (Below.refl _ _)
    have CS := Aside0.mk cs
    have HB := Aside0.mk hb
    clear hC hR hb HPt cs
    go_wp2_with fail
    have hnew : (w1.alloc (.cells #[.pointer none, .slice none 0 0] 65)).heap[w1.heap.size]? = some (.cells #[.pointer none, .slice none 0 0] 65 (0, 0)) := Box.new_at rfl _
    have HNew := Aside0.mk hnew
    have HB1 := Aside0.mk (below_alloc (Below.refl w1.heap.size w1) (Obj.cells #[.pointer none, .slice none 0 0] 65))
    clear hnew
    refine (strings_CutPrefix.calls _ _ q ex _ HCut.out).mono ?_
    rintro x w3 ⟨rfl, hd⟩
    have HNew3 := Aside0.mk ((hd.below.block _ (blk_lt HNew.out)).trans HNew.out)
    have HB3 := Aside0.mk (below_step HB1.out hd.below)
    clear hd HB1 HNew d1 d2 d3 HCut
    have HV := Aside0.mk (Tryd.utf8_ValidString q w3 (by omega) (HT.out.below (below_step HB.out HB3.out)))
    obtain ⟨vd, hvd⟩ : ∃ b, validD q.data.toList = b := ⟨_, rfl⟩
    rw [hvd] at HV HVal HCva
    have hcv := HCva.out
    unfold cvA at hcv
    obtain ⟨V, hV⟩ : ∃ V, cvR q q.size 0 false ex [] = V := ⟨_, rfl⟩
    rw [hV] at hcv
    have HCv := Aside0.mk hcv
    have HV0 := Aside0.mk hV
    clear hcv hV HCva hvd
    cases ex
    case' false => obtain rfl := (hraw2 rfl).symm
    all_goals
      clear hraw2
      go_wp2_with fail
      refine HV.out.mono ?_
      rintro x w4 ⟨rfl, hb4⟩
      have HNew4 := Aside0.mk ((hb4.block _ (blk_lt HNew3.out)).trans HNew3.out)
      have HB4 := Aside0.mk (below_step HB3.out hb4)
      clear hb4 HNew3 HB3 HV
      cases vd
      case false =>
        have hR := HVal.out _ rfl rfl
        subst hR
        go_wp2_with fail
        refine (errNew_calls _ _).mono ?_
        rintro x w5 ⟨hb5, T, u, rfl⟩
        have HB5 := Aside0.mk (below_step (below_step HB.out HB4.out) hb5)
        clear hb5
        go_wp2
        go_ret2
        exact ⟨HB5.out, _, _, rfl⟩
      case true =>
        have HVR := Aside0.mk (HCv.out rfl)
        clear HVal HCv
        -- THE LOOP (printed by tools/gen_cw2.py)
        have HLT := Aside0.mk (blk_lt HNew4.out)
        go_wp2
        go_loopw [2, 3, 7, 8] (fun v2 v3 v7 v8 wr => ∃ (pos fuel : Nat) (esc exx : Bool) (acc : List UInt8), v2 = .pointer none ∧ v3 = .nilIface ∧ v7 = .bool esc ∧ v8 = .bool exx ∧ Aside0 (wr.heap[w4.heap.size]? = some (.stringIter q pos) ∧ Lib.IsBuilderF 65 5 w1.heap.size w1.heap.size (Lib.byteCells acc) wr ∧ Below w1.heap.size w1 wr ∧ cvR q fuel pos esc exx acc = V ∧ q.size ≤ pos + fuel ∧ acc.length ≤ 5 * pos)) (fun _ _ _ _ wr => q.size - wr.iterPos w4.heap.size)
        case atStart => exact ⟨0, q.size, false, _, [], rfl, rfl, rfl, rfl, ⟨World.iter_heap w4 q 0, bld_new (((below_alloc (Below.refl w4.heap.size w4) _).block _ HLT.out).trans HNew4.out), HB4.out.alloc (Nat.le_of_lt HLT.out) _, HV0.out, by omega, by simp⟩⟩
        case round =>
          clear HV0 HNew4
          obtain ⟨pos, fuel, esc, exx, acc, rfl, rfl, rfl, rfl, HR⟩ := hrel
          obtain ⟨hit, hbu, hbw, hacc, hfu, hal⟩ := HR.out
          have HA := Aside0.mk hacc
          have HAL := Aside0.mk hal
          clear hacc HR hal
          by_cases hp : pos < q.size
          · have hnx : ∀ ty, (Instr.next (.pointer (some ⟨w4.heap.size, 0, none⟩)) true ty).run Tryd.prog wr = _ := fun ty => Lib.run_next_any_at wr w4.heap.size q pos ty hit hp
            have hwd := Lib.decode_width_pos q pos hp
            have hub := rune_ub q pos
            obtain ⟨f, rfl⟩ : ∃ f, fuel = f + 1 := ⟨fuel - 1, by omega⟩
            have hstep := cvR_at (f := f) (esc := esc) (ex := exx) (acc := acc) hp
            obtain ⟨⟨r, wd⟩, hq2⟩ : ∃ z, Utf8.decode q pos = z := ⟨_, rfl⟩
            rw [hq2] at hnx hwd hub hstep
            simp only at hnx hwd hub hstep
            rw [hstep] at HA
            have HW1 := Aside0.mk (show wrap64 ((q.size : Int) - 1) = (q.size : Int) - 1 by unfold wrap64; omega)
            have hr0 : -2147483648 ≤ (r : Int) := by omega
            have hr1 : (r : Int) ≤ 2147483647 := by omega
            have HT1 := Aside0.mk hit
            have HI := Aside0.mk (Lib.iterAt_heap wr w4.heap.size q pos (pos + wd) hit)
            have HU := Aside0.mk (hbu.iterAt hit (pos + wd))
            have HBW := Aside0.mk (Lib.below_iterAt hbw (k := w4.heap.size) (Nat.le_of_lt HLT.out) q (pos + wd))
            have HFU := Aside0.mk hfu
            have LEN := Aside0.mk (show (Lib.byteCells acc).length + 1 ≤ 140737488355328 by have := HAL.out; rw [Lib.byteCells_length]; omega)
            have LEN4 := Aside0.mk (show (Lib.byteCells acc).length + 4 ≤ 140737488355328 by have := HAL.out; rw [Lib.byteCells_length]; omega)
            have LEN5 := Aside0.mk (show (Lib.byteCells acc ++ [Value.int .u8 92]).length + 4 ≤ 140737488355328 by have := HAL.out; rw [List.length_append, Lib.byteCells_length, List.length_singleton]; omega)
            have HM := Aside0.mk (show wr.iterPos w4.heap.size = pos from iterPos_of hit)
            clear hq2 hstep hit hbw hbu hfu
            cases esc
            case true =>
              rw [if_pos rfl] at HA
              by_cases h110 : r = 110
              · have hb1 : ((r : Int) == 110) = true := beq_iff_eq.2 (by omega)
                rw [if_pos h110] at HA
                go_wp2_with fail
                refine (Tryd.sbWriteByte w1.heap.size w1.heap.size _ 10 _ HU.out LEN.out (below_size HBW.out)).mono ?_
                (try clear hw1)
                rintro x w5 ⟨rfl, hA, hb, hk⟩
                have HU5 := Aside0.mk (bld_is hA)
                have HI5 := Aside0.mk (it_kept hk HI.out HLT.out)
                have HBW5 := Aside0.mk (HBW.out.trans hb)
                clear hA hb hk HU HI HBW
                go_wp2
                (try clear hw1)
                go_roundw
                case rel => exact ⟨pos + wd, f, false, exx, acc ++ [10], rfl, rfl, rfl, rfl, ⟨HI5.out, (bld_byte acc 10) ▸ HU5.out, HBW5.out, HA.out, by have := HFU.out; omega, by have := HAL.out; have := encR_le r; (try simp only [List.length_append, List.length_cons, List.length_nil]); omega⟩⟩
                case measure =>
                  have e1 := iterPos_of HI5.out
                  show q.size - World.iterPos _ w4.heap.size < q.size - wr.iterPos w4.heap.size
                  rw [e1, HM.out]
                  omega
              · have hb1 : ((r : Int) == 110) = false := beq_eq_false_iff_ne.2 (by omega)
                rw [if_neg h110] at HA
                by_cases h34 : r = 34
                · have hb2 : ((r : Int) == 34) = true := beq_iff_eq.2 (by omega)
                  rw [if_pos (.inl h34)] at HA
                  go_wp2_with fail
                  refine (Tryd.sbWriteRune w1.heap.size w1.heap.size _ 34 (by decide) (by decide) _ HU.out LEN4.out (below_size HBW.out)).mono ?_
                  (try clear hw1)
                  rintro x w5 ⟨rfl, hA, hb, hk⟩
                  have HU5 := Aside0.mk (bld_is hA)
                  have HI5 := Aside0.mk (it_kept hk HI.out HLT.out)
                  have HBW5 := Aside0.mk (HBW.out.trans hb)
                  clear hA hb hk HU HI HBW
                  go_wp2
                  (try clear hw1)
                  go_roundw
                  case rel => exact ⟨pos + wd, f, false, exx, acc ++ encR r, rfl, rfl, rfl, rfl, ⟨HI5.out, (by have h := HU5.out; rw [show Lib.byteCells acc ++ Lib.runeCells 34 = Lib.byteCells (acc ++ encR 34) from bld_rune acc 34] at h; rw [h34]; exact h), HBW5.out, HA.out, by have := HFU.out; omega, by have := HAL.out; have := encR_le r; (try simp only [List.length_append, List.length_cons, List.length_nil]); omega⟩⟩
                  case measure =>
                    have e1 := iterPos_of HI5.out
                    show q.size - World.iterPos _ w4.heap.size < q.size - wr.iterPos w4.heap.size
                    rw [e1, HM.out]
                    omega
                · have hb2 : ((r : Int) == 34) = false := beq_eq_false_iff_ne.2 (by omega)
                  by_cases h92 : r = 92
                  · have hb3 : ((r : Int) == 92) = true := beq_iff_eq.2 (by omega)
                    rw [if_pos (.inr h92)] at HA
                    go_wp2_with fail
                    refine (Tryd.sbWriteRune w1.heap.size w1.heap.size _ 92 (by decide) (by decide) _ HU.out LEN4.out (below_size HBW.out)).mono ?_
                    (try clear hw1)
                    rintro x w5 ⟨rfl, hA, hb, hk⟩
                    have HU5 := Aside0.mk (bld_is hA)
                    have HI5 := Aside0.mk (it_kept hk HI.out HLT.out)
                    have HBW5 := Aside0.mk (HBW.out.trans hb)
                    clear hA hb hk HU HI HBW
                    go_wp2
                    (try clear hw1)
                    go_roundw
                    case rel => exact ⟨pos + wd, f, false, exx, acc ++ encR r, rfl, rfl, rfl, rfl, ⟨HI5.out, (by have h := HU5.out; rw [show Lib.byteCells acc ++ Lib.runeCells 92 = Lib.byteCells (acc ++ encR 92) from bld_rune acc 92] at h; rw [h92]; exact h), HBW5.out, HA.out, by have := HFU.out; omega, by have := HAL.out; have := encR_le r; (try simp only [List.length_append, List.length_cons, List.length_nil]); omega⟩⟩
                    case measure =>
                      have e1 := iterPos_of HI5.out
                      show q.size - World.iterPos _ w4.heap.size < q.size - wr.iterPos w4.heap.size
                      rw [e1, HM.out]
                      omega
                  · have hb3 : ((r : Int) == 92) = false := beq_eq_false_iff_ne.2 (by omega)
                    rw [if_neg (by omega)] at HA
                    go_wp2_with fail
                    refine (Tryd.sbWriteByte w1.heap.size w1.heap.size _ 92 _ HU.out LEN.out (below_size HBW.out)).mono ?_
                    (try clear hw1)
                    rintro x w5 ⟨rfl, hA, hb, hk⟩
                    have HU5 := Aside0.mk (bld_is hA)
                    have HI5 := Aside0.mk (it_kept hk HI.out HLT.out)
                    have HBW5 := Aside0.mk (HBW.out.trans hb)
                    clear hA hb hk HU HI HBW
                    go_wp2_with fail
                    refine (Tryd.sbWriteRune w1.heap.size w1.heap.size _ (r : Int) hr0 hr1 _ HU5.out LEN5.out (below_size HBW5.out)).mono ?_
                    (try clear hw1)
                    rintro x w6 ⟨rfl, hA, hb, hk⟩
                    have HU6 := Aside0.mk (bld_is hA)
                    have HI6 := Aside0.mk (it_kept hk HI5.out HLT.out)
                    have HBW6 := Aside0.mk (HBW5.out.trans hb)
                    clear hA hb hk HU5 HI5 HBW5
                    go_wp2
                    (try clear hw1)
                    go_roundw
                    case rel => exact ⟨pos + wd, f, false, exx, acc ++ (92 :: encR r), rfl, rfl, rfl, rfl, ⟨HI6.out, (show Lib.byteCells acc ++ [Value.int .u8 92] ++ Lib.runeCells (r : Int) = Lib.byteCells (acc ++ 92 :: encR r) by rw [show Lib.byteCells acc ++ [Value.int .u8 92] = Lib.byteCells (acc ++ [92]) from bld_byte acc 92, bld_rune, List.append_assoc]; rfl) ▸ HU6.out, HBW6.out, HA.out, by have := HFU.out; omega, by have := HAL.out; have := encR_le r; (try simp only [List.length_append, List.length_cons, List.length_nil]); omega⟩⟩
                    case measure =>
                      have e1 := iterPos_of HI6.out
                      show q.size - World.iterPos _ w4.heap.size < q.size - wr.iterPos w4.heap.size
                      rw [e1, HM.out]
                      omega
            case false =>
              rw [if_neg (by simp)] at HA
              by_cases h92 : r = 92
              · have hb1 : ((r : Int) == 92) = true := beq_iff_eq.2 (by omega)
                rw [if_pos h92] at HA
                by_cases hl : pos + 1 < q.size
                · have hl1 : (pos : Int) < (q.size : Int) - 1 := by omega
                  have hw1 := HW1.out
                  rw [if_pos hl] at HA
                  go_wp2
                  (try clear hw1)
                  go_roundw
                  case rel => exact ⟨pos + wd, f, true, exx, acc, rfl, rfl, rfl, rfl, ⟨HI.out, HU.out, HBW.out, HA.out, by have := HFU.out; omega, by have := HAL.out; have := encR_le r; (try simp only [List.length_append, List.length_cons, List.length_nil]); omega⟩⟩
                  case measure =>
                    have e1 := iterPos_of HI.out
                    show q.size - World.iterPos _ w4.heap.size < q.size - wr.iterPos w4.heap.size
                    rw [e1, HM.out]
                    omega
                · have hl1 : ¬ (pos : Int) < (q.size : Int) - 1 := by omega
                  have hw1 := HW1.out
                  rw [if_neg hl] at HA
                  go_wp2_with fail
                  refine (Tryd.sbWriteByte w1.heap.size w1.heap.size _ 92 _ HU.out LEN.out (below_size HBW.out)).mono ?_
                  (try clear hw1)
                  rintro x w5 ⟨rfl, hA, hb, hk⟩
                  have HU5 := Aside0.mk (bld_is hA)
                  have HI5 := Aside0.mk (it_kept hk HI.out HLT.out)
                  have HBW5 := Aside0.mk (HBW.out.trans hb)
                  clear hA hb hk HU HI HBW
                  go_wp2
                  (try clear hw1)
                  go_roundw
                  case rel => exact ⟨pos + wd, f, false, exx, acc ++ [92], rfl, rfl, rfl, rfl, ⟨HI5.out, (bld_byte acc 92) ▸ HU5.out, HBW5.out, HA.out, by have := HFU.out; omega, by have := HAL.out; have := encR_le r; (try simp only [List.length_append, List.length_cons, List.length_nil]); omega⟩⟩
                  case measure =>
                    have e1 := iterPos_of HI5.out
                    show q.size - World.iterPos _ w4.heap.size < q.size - wr.iterPos w4.heap.size
                    rw [e1, HM.out]
                    omega
              · have hb1 : ((r : Int) == 92) = false := beq_eq_false_iff_ne.2 (by omega)
                rw [if_neg h92] at HA
                by_cases h34 : r = 34
                · have hb2 : ((r : Int) == 34) = true := beq_iff_eq.2 (by omega)
                  rw [if_pos h34] at HA
                  by_cases hl : pos + 1 < q.size
                  · have hl1 : (pos : Int) < (q.size : Int) - 1 := by omega
                    rw [if_pos (.inr hl)] at HA
                    have hw1 := HW1.out
                    cases exx
                    all_goals
                      have hR : R = none := by rw [← HVR.out, ← HA.out]; rfl
                      subst hR
                      go_wp2_with fail
                      refine (errNew_calls _ _).mono ?_
                      rintro x w5 ⟨hb5, T, u, rfl⟩
                      have HB5 := Aside0.mk (below_step (below_step HB.out HBW.out) hb5)
                      clear hb5
                      go_wp2
                      go_ret2
                      exact ⟨HB5.out, _, _, rfl⟩
                  · have hl1 : ¬ (pos : Int) < (q.size : Int) - 1 := by omega
                    cases exx
                    case false =>
                      rw [if_pos (.inl rfl)] at HA
                      have hR : R = none := by rw [← HVR.out, ← HA.out]; rfl
                      subst hR
                      go_wp2_with fail
                      refine (errNew_calls _ _).mono ?_
                      rintro x w5 ⟨hb5, T, u, rfl⟩
                      have HB5 := Aside0.mk (below_step (below_step HB.out HBW.out) hb5)
                      clear hb5
                      go_wp2
                      go_ret2
                      exact ⟨HB5.out, _, _, rfl⟩
                    case true =>
                      rw [if_neg (by simp [hl])] at HA
                      have hw1 := HW1.out
                      go_wp2
                      (try clear hw1)
                      go_roundw
                      case rel => exact ⟨pos + wd, f, false, false, acc, rfl, rfl, rfl, rfl, ⟨HI.out, HU.out, HBW.out, HA.out, by have := HFU.out; omega, by have := HAL.out; have := encR_le r; (try simp only [List.length_append, List.length_cons, List.length_nil]); omega⟩⟩
                      case measure =>
                        have e1 := iterPos_of HI.out
                        show q.size - World.iterPos _ w4.heap.size < q.size - wr.iterPos w4.heap.size
                        rw [e1, HM.out]
                        omega
                · have hb2 : ((r : Int) == 34) = false := beq_eq_false_iff_ne.2 (by omega)
                  rw [if_neg h34] at HA
                  go_wp2_with fail
                  refine (Tryd.sbWriteRune w1.heap.size w1.heap.size _ (r : Int) hr0 hr1 _ HU.out LEN4.out (below_size HBW.out)).mono ?_
                  (try clear hw1)
                  rintro x w5 ⟨rfl, hA, hb, hk⟩
                  have HU5 := Aside0.mk (bld_is hA)
                  have HI5 := Aside0.mk (it_kept hk HI.out HLT.out)
                  have HBW5 := Aside0.mk (HBW.out.trans hb)
                  clear hA hb hk HU HI HBW
                  go_wp2
                  (try clear hw1)
                  go_roundw
                  case rel => exact ⟨pos + wd, f, false, exx, acc ++ encR r, rfl, rfl, rfl, rfl, ⟨HI5.out, (bld_rune acc r) ▸ HU5.out, HBW5.out, HA.out, by have := HFU.out; omega, by have := HAL.out; have := encR_le r; (try simp only [List.length_append, List.length_cons, List.length_nil]); omega⟩⟩
                  case measure =>
                    have e1 := iterPos_of HI5.out
                    show q.size - World.iterPos _ w4.heap.size < q.size - wr.iterPos w4.heap.size
                    rw [e1, HM.out]
                    omega
          · have hnx : ∀ ty, (Instr.next (.pointer (some ⟨w4.heap.size, 0, none⟩)) true ty).run Tryd.prog wr = _ := fun ty => Lib.run_next_end_at wr w4.heap.size q pos ty hit hp
            have hV := HA.out
            rw [cvR_end hp] at hV
            subst hV
            have HR2 := Aside0.mk HVR.out
            have HU := Aside0.mk hbu
            have HBW := Aside0.mk hbw
            clear HA HVR hbu hbw hit
            cases exx
            case true =>
              have hR : R = none := HR2.out.symm
              subst hR
              go_wp2_with fail
              refine (errNew_calls _ _).mono ?_
              rintro x w5 ⟨hb5, T, u, rfl⟩
              have HB5 := Aside0.mk (below_step (below_step HB.out HBW.out) hb5)
              clear hb5
              go_wp2
              go_ret2
              exact ⟨HB5.out, _, _, rfl⟩
            case false =>
              have hR : R = some acc := HR2.out.symm
              subst hR
              obtain ⟨d1, d2, d3⟩ := CS.out wr HBW.out
              have HK := Aside0.mk (KB.mk HU.out HBW.out)
              clear d3 HU HBW HR2
              go_wp2
              go_region_held3 (fun w' => w'.cell? ⟨g, 1, none⟩ = some (.string nb) ∧ w'.cell? ⟨g, 2, none⟩ = some (.string ob)) (go_keep) (first
                | (go_at_call 34; refine (labels_zzTypeOf.calls ob t _ HTy.out).mono ?_; rintro e w7 ⟨rfl, hd⟩; have HK := Aside0.mk (KB.drawn (by repeat (first | exact HK.out | apply KB.drew1)) hd); obtain ⟨d1, d2, d3⟩ := CS.out w7 HK.out.b; clear d3 hd)
                | (go_at_call 35; refine (Tryd.sbString w1.heap.size w1.heap.size acc _ (KB.u (w1 := w1) (acc := acc) (by repeat (first | exact HK.out | apply KB.drew1))) (below_size (KB.b (b := w1.heap.size) (w1 := w1) (acc := acc) (by repeat (first | exact HK.out | apply KB.drew1))))).mono ?_; rintro e w7 ⟨rfl, hu, hb, hk⟩; have HK := Aside0.mk (KB.mk (w1 := w1) hu ((KB.b (b := w1.heap.size) (w1 := w1) (acc := acc) (by repeat (first | exact HK.out | apply KB.drew1))).trans hb)); obtain ⟨d1, d2, d3⟩ := CS.out w7 HK.out.b; clear d3 hu hb hk)
                | (go_at_call 33; refine (newMatcher_calls _ _ _ _).mono ?_; rintro e w7 ⟨gm, rfl, hlt, hblk, hb⟩; have HG := Aside0.mk hblk; have HLE := Aside0.mk (show w.heap.size ≤ gm from Nat.le_trans (below_size (below_step HB.out (KB.b (b := w1.heap.size) (w1 := w1) (acc := acc) (by repeat (first | exact HK.out | apply KB.drew1))))) hlt); have HK2 := Aside0.mk (below_step (below_step HB.out (KB.b (b := w1.heap.size) (w1 := w1) (acc := acc) (by repeat (first | exact HK.out | apply KB.drew1)))) hb); obtain ⟨d1, d2, d3⟩ := CS.out w7 (below_step (KB.b (b := w1.heap.size) (w1 := w1) (acc := acc) (by repeat (first | exact HK.out | apply KB.drew1))) hb); clear d3 hblk hlt hb))
              all_goals
                go_wp2
                go_ret2
                refine ⟨by repeat (first | exact HK2.out | apply below_drew1), gm, rfl, HLE.out, ?_⟩
                have h := HG.out
                rw [← HN.out] at h
                exact h
end Go.Proofs.YtbcgcfdpblhddaaDoor.Cl
