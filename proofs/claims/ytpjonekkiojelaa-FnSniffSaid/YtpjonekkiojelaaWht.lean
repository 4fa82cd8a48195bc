/-
  White space at the beginning of some bytes, as the code and as the reference count it. No condition.
-/
import Derived.Test.YtpjonekkiojelaaMat
namespace Go.Proofs.Ytpjonekkiojelaa
open Go.RowKit Go.PlainAid

def isWSb (c : Int) : Bool := decide (c = 9) || decide (c = 10) || decide (c = 12) || decide (c = 13) || decide (c = 32)
theorem isWSb_cases (c : Int) : (isWSb c = true ∧ (c = 9 ∨ c = 10 ∨ c = 12 ∨ c = 13 ∨ c = 32)) ∨ (isWSb c = false ∧ (c == 9) = false ∧ (c == 10) = false ∧ (c == 12) = false ∧ (c == 13) = false ∧ (c == 32) = false) := by
  have h : isWSb c = true ↔ (c = 9 ∨ c = 10 ∨ c = 12 ∨ c = 13 ∨ c = 32) := by unfold isWSb; simp; omega
  by_cases hc : isWSb c = true
  · exact .inl ⟨hc, h.1 hc⟩
  · have hn : ¬ (c = 9 ∨ c = 10 ∨ c = 12 ∨ c = 13 ∨ c = 32) := fun h' => hc (h.2 h')
    exact .inr ⟨by simpa using hc, beq_eq_false_iff_ne.2 (by omega), beq_eq_false_iff_ne.2 (by omega), beq_eq_false_iff_ne.2 (by omega), beq_eq_false_iff_ne.2 (by omega), beq_eq_false_iff_ne.2 (by omega)⟩
/-- How many bytes of white space stand at the beginning. -/
def wsn : List Int → Nat
  | [] => 0
  | c :: r => if isWSb c then wsn r + 1 else 0
theorem wsn_le : ∀ xs, wsn xs ≤ xs.length
  | [] => Nat.le_refl _
  | c :: r => by
    unfold wsn
    have := wsn_le r
    split <;> simp <;> omega
theorem wsn_hit : ∀ {xs : List Int} {k : Nat}, k < wsn xs → isWSb (xs.getD k 0) = true
  | [], _, h => by simp [wsn] at h
  | c :: r, k, h => by
    unfold wsn at h
    split at h
    · cases k with
      | zero => simpa using ‹isWSb c = true›
      | succ k => have := wsn_hit (xs := r) (k := k) (by omega); simpa using this
    · omega
theorem wsn_at : ∀ {xs : List Int}, wsn xs < xs.length → isWSb (xs.getD (wsn xs) 0) = false
  | [], h => by simp [wsn] at h
  | c :: r, h => by
    unfold wsn at h ⊢
    split
    · rename_i hc
      rw [if_pos hc] at h
      have := wsn_at (xs := r) (by simpa using h)
      simpa using this
    · rename_i hc
      simpa using hc

theorem ws_any (c : Int) (w : World) : Calls Try.prog 42 #[.int .u8 c] w fun e w' => e = .returned (.bool (isWSb c)) ∧ w = w' := by
  rcases isWSb_cases c with ⟨hb, h⟩ | ⟨hb, q1, q2, q3, q4, q5⟩
  · have H := Lib.hid hb
    clear hb
    rcases h with rfl | rfl | rfl | rfl | rfl
    all_goals
      go_enter Try.func42, Try.ntmps42
      go_wp2
      go_ret
      exact ⟨rfl, rfl⟩
  · have H := Lib.hid hb
    clear hb
    go_enter Try.func42, Try.ntmps42
    go_wp2
    go_ret
    exact ⟨by rw [H.out]; rfl, rfl⟩
theorem white_any (c : Int) (w : World) : Calls Try.prog 34 #[.int .u8 c] w fun e w' => e = .returned (.bool (isWSb c)) ∧ w = w' := by
  rcases isWSb_cases c with ⟨hb, h⟩ | ⟨hb, q1, q2, q3, q4, q5⟩
  · have H := Lib.hid hb
    clear hb
    rcases h with rfl | rfl | rfl | rfl | rfl
    all_goals
      go_enter Try.func34, Try.ntmps34
      go_wp2
      go_ret
      exact ⟨rfl, rfl⟩
  · have H := Lib.hid hb
    clear hb
    go_enter Try.func34, Try.ntmps34
    go_wp2
    go_ret
    exact ⟨by rw [H.out]; rfl, rfl⟩
end Go.Proofs.Ytpjonekkiojelaa
