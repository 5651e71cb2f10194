/- A set of labels in memory. -/
import Derived.Test.YtcneoonhdfblaaaSetsPure
import Derived.WalkKit
import Derived.Sort.EncStr
import Derived.Test.YtcneoonhdfblaaaProg
set_option linter.unusedVariables false
set_option linter.unusedSimpArgs false
namespace Go.Proofs.Ytcneoonhdfblaaa.Q
open Go.RowKit Go.Proofs.YtcneoonhdfblaaaW.PrintWords
/-- Texts, sorted. -/
def sortB (xs : List ByteArray) : List ByteArray := xs.mergeSort fun x y => decide (x.data.toList ≤ y.data.toList)
theorem sortB_perm (xs : List ByteArray) : (sortB xs).Perm xs := List.mergeSort_perm xs _
theorem sortB_map (xs : List ByteArray) : (sortB xs).map (·.data.toList) = (xs.map (·.data.toList)).mergeSort fun x y => decide (x ≤ y) :=
  List.map_mergeSort fun _ _ _ _ => rfl
theorem enc_map (xs : List ByteArray) : (xs.map (·.data.toList)).map encStr = encs Value.string xs := by
  simp [encs, encStr]
/-- Block b of w is the set of labels m. -/
abbrev LSet (w : World) (b n : Nat) (m : MapsS.SM) : Prop := MapsS.IsSM Try.prog 65 80 w b n m
theorem sub_len {α : Type} [DecidableEq α] : ∀ {l1 l2 : List α}, l1.Nodup → (∀ p ∈ l1, p ∈ l2) → l1.length ≤ l2.length
  | [], _, _, _ => Nat.zero_le _
  | x :: r, l2, hn, hs => by
    obtain ⟨h1, h2⟩ := List.nodup_cons.1 hn
    have hx := hs x List.mem_cons_self
    have ih := sub_len (l1 := r) (l2 := l2.erase x) h2 (fun p hp => (List.mem_erase_of_ne (fun e => h1 (by rw [← e]; exact hp))).2 (hs p (List.mem_cons_of_mem _ hp)))
    rw [List.length_erase_of_mem hx] at ih
    have := List.length_pos_of_mem hx
    rw [List.length_cons]
    omega
theorem lastV_mem {k v : ByteArray} : ∀ {l : List (ByteArray × ByteArray)}, MapsS.lastV k l = some v → (k, v) ∈ l
  | [], h => by cases h
  | x :: r, h => by
    rw [MapsS.lastV_cons] at h
    cases hr : MapsS.lastV k r with
    | some u =>
      rw [hr] at h
      obtain rfl := Option.some.inj h
      exact List.mem_cons_of_mem _ (lastV_mem hr)
    | none =>
      rw [hr] at h
      by_cases e : k = x.1
      · simp only [if_pos e, Option.some.injEq] at h
        rw [e, ← h]
        exact List.mem_cons_self
      · simp [e] at h
theorem fill_perm {m : MapsS.SM} (hm : MapsS.Rises m) {r : MapsS.SM} (hp : r.Perm m) : MapsS.fill r [] = m := by
  refine MapsS.sm_ext (MapsS.rises_fill r List.Pairwise.nil) hm fun k => ?_
  rw [MapsS.look_fill]
  cases h : MapsS.lastV k r with
  | some v => exact ((MapsS.look_mem hm).2 (hp.mem_iff.1 (lastV_mem h))).symm
  | none =>
    cases g : MapsS.look k m with
    | none => rfl
    | some v => exact absurd rfl (MapsS.lastV_none.1 h _ (hp.mem_iff.2 ((MapsS.look_mem hm).1 g)))
theorem fill_snoc (l : MapsS.SM) (x c : ByteArray) : MapsS.fill (l ++ [(x, c)]) [] = MapsS.ins x c (MapsS.fill l []) := by simp [MapsS.fill, List.foldl_append]
theorem rangeLeft_kept {w w' : World} {b r : Nat} {row : Option Nat} (hg : w.grownBy w' row) (hb : b < w.heap.size) (hr : r < w.heap.size) (h1 : some b ≠ row) (h2 : some r ≠ row) : w'.rangeLeft b r = w.rangeLeft b r := by
  unfold World.rangeLeft
  rw [hg.block b hb h1, hg.block r hr h2]
theorem run_makeMap_hint (n : Int) (w : World) : (Instr.makeMap 81 (some (.int .i64 n))).run Try.prog w = .ok (.map (some w.heap.size)) (w.alloc (.map #[] 0)) := by
  have hu := run_underlying (w := w) Try.underlying81
  simp [Instr.makeMap, hu, asInt]
  rfl
end Go.Proofs.Ytcneoonhdfblaaa.Q
