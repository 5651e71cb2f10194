/- A set of labels in memory. -/
import Derived.Test.YtbffcmiabcmjcaaMaps
import Derived.Test.YtbffcmiabcmjcaaProg
set_option linter.unusedVariables false
set_option linter.unusedSimpArgs false
namespace Go.Proofs.Ytbffcmiabcmjcaa.Q
open Go.RowKit
/-- Block b of w is the set of labels m. -/
abbrev LSet (w : World) (b n : Nat) (m : MapsS.SM) : Prop := MapsS.IsSM Try.prog 79 91 w b n m
theorem sub_len {α : Type} [DecidableEq α] : ∀ {l1 l2 : List α}, l1.Nodup → (∀ p ∈ l1, p ∈ l2) → l1.length ≤ l2.length
  | [], _, _, _ => Nat.zero_le _
  | x :: r, l2, hn, hs => by
    obtain ⟨h1, h2⟩ := List.nodup_cons.1 hn
    have hx := hs x List.mem_cons_self
    have ih := sub_len (l1 := r) (l2 := l2.erase x) h2 (fun p hp => (List.mem_erase_of_ne (fun e => h1 (by rw [← e]; exact hp))).2 (hs p (List.mem_cons_of_mem _ hp)))
    rw [List.length_erase_of_mem hx] at ih
    have := List.length_pos_of_mem hx
    rw [List.length_cons]
    omega
end Go.Proofs.Ytbffcmiabcmjcaa.Q
