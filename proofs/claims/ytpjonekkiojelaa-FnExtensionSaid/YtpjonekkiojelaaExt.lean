/-
  The code and the reference leave the same of the line of a chunk. No condition.
-/
import Derived.Test.YtpjonekkiojelaaMem2
import Derived.Outline
import Derived.Deep.LoopGhost
import Derived.Deep.RegionWith
import Derived.Handy
namespace Go.Proofs.Ytpjonekkiojelaa
open Go.RowKit

/-- How many elements stand before the first semicolon. -/
def bef : List Int → Nat
  | [] => 0
  | c :: r => if c = 59 then 0 else bef r + 1
theorem bef_le : ∀ xs, bef xs ≤ xs.length
  | [] => Nat.le_refl _
  | c :: r => by
    unfold bef
    have := bef_le r
    split <;> simp <;> omega
theorem bef_hit : ∀ {xs : List Int} {k : Nat}, k < bef xs → xs.getD k 0 ≠ 59
  | [], _, h => by simp [bef] at h
  | c :: r, k, h => by
    unfold bef at h
    split at h
    · omega
    · cases k with
      | zero => simpa using ‹¬ c = 59›
      | succ k => have := bef_hit (xs := r) (k := k) (by omega); simpa using this
theorem bef_at : ∀ {xs : List Int}, bef xs < xs.length → xs.getD (bef xs) 0 = 59
  | [], h => by simp [bef] at h
  | c :: r, h => by
    unfold bef at h ⊢
    split
    · simpa using ‹c = 59›
    · rename_i hc
      rw [if_neg hc] at h
      have := bef_at (xs := r) (by simpa using h)
      simpa using this

theorem before_any (a : Option Addr) (len cap : Nat) (xs : List Int) (w : World) (h : SL w a len cap xs) :
    Calls Try.prog 15 #[.slice a len cap] w fun e w' => e = .returned (.slice a (bef xs) cap) ∧ w = w' := by
  obtain ⟨h1, h2, h3, h4, h5, h6⟩ := h
  unfold maxLen at h3
  have hb := bef_le xs
  rw [h1] at hb
  have hbh := Lib.hid (fun k => bef_hit (xs := xs) (k := k))
  have hba := Lib.hid (bef_at (xs := xs))
  generalize bef xs = B at hb hbh hba ⊢
  have H1 := Lib.hid h1
  clear h1
  go_enter Try.func15, Try.ntmps15
  go_wp2
  go_loop [7] (fun v => ∃ k : Nat, k ≤ B ∧ v = .int .i64 k) (fun v => len - (intOf v).toNat)
  case atStart => exact ⟨0, Nat.zero_le _, rfl⟩
  case round =>
    obtain ⟨k, hk, rfl⟩ := hrel
    by_cases hlt : k < len
    · obtain ⟨b, off, rfl, hc⟩ := h6 (by omega)
      have hcell := hc k hlt
      clear hc h6 h5
      by_cases hB : k < B
      · have hne := hbh.out k hB
        generalize xs.getD k 0 = c at hcell hne
        have hcb : (c == 59) = false := by simpa using hne
        go_wp2
        go_round
        case rel => exact ⟨k + 1, by omega, by go_num⟩
        case measure => simp [intOf]; omega
      · obtain rfl : k = B := by omega
        have hne := hba.out (by rw [H1.out]; exact hlt)
        rw [hne] at hcell
        clear hne
        go_wp2
        go_ret
        exact ⟨rfl, rfl⟩
    · obtain rfl : k = len := by omega
      obtain rfl : k = B := by omega
      go_wp2
      go_ret
      exact ⟨rfl, rfl⟩
end Go.Proofs.Ytpjonekkiojelaa
