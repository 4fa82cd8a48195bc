/-
  The code and the reference leave the same of the line of a chunk. No condition.
-/
import Derived.Test.YtjajhpgodijeoaaDoorMem2
import Derived.Outline
import Derived.Deep.LoopGhost
import Derived.Deep.RegionWith
import Derived.Handy
namespace Go.Proofs.YtjajhpgodijeoaaDoor
open Go.RowKit

/-- How many elements stand before the first semicolon. -/
def bef : List Int → Nat
  | [] => 0
  | c :: r => if c = 59 then 0 else bef r + 1
theorem bef_le : ∀ xs, bef xs ≤ xs.length
  | [] => Nat.le_refl _
  | c :: r => by
    unfold bef
    have := bef_le r
    split <;> simp <;> omega
theorem bef_hit : ∀ {xs : List Int} {k : Nat}, k < bef xs → xs.getD k 0 ≠ 59
  | [], _, h => by simp [bef] at h
  | c :: r, k, h => by
    unfold bef at h
    split at h
    · omega
    · cases k with
      | zero => simpa using ‹¬ c = 59›
      | succ k => have := bef_hit (xs := r) (k := k) (by omega); simpa using this
theorem bef_at : ∀ {xs : List Int}, bef xs < xs.length → xs.getD (bef xs) 0 = 59
  | [], h => by simp [bef] at h
  | c :: r, h => by
    unfold bef at h ⊢
    split
    · simpa using ‹c = 59›
    · rename_i hc
      rw [if_neg hc] at h
      have := bef_at (xs := r) (by simpa using h)
      simpa using this

end Go.Proofs.YtjajhpgodijeoaaDoor
