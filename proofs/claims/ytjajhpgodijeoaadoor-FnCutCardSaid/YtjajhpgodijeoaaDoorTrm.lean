/-
  The two functions that leave out blanks and tabs at the end of a line return the same. No condition.
-/
import Derived.Test.YtjajhpgodijeoaaDoorMem
import Derived.Outline
namespace Go.Proofs.YtjajhpgodijeoaaDoor
open Go.RowKit

theorem ows_any (c : Int) (w : World) : Calls Tryd.prog 65 #[.int .u8 c] w fun e w' => e = .returned (.bool (c == 32 || c == 9)) ∧ w = w' := by
  go_enter Tryd.func65, Tryd.ntmps65
  go_wp2
  all_goals go_ret
  all_goals exact ⟨by simp [*], rfl⟩

theorem tl_stop {xs : List Int} {n : Nat} {c : Int} (hc : xs.getD n 0 = c) (h : ¬ (c = 32 ∨ c = 9)) : tl xs (n + 1) = n + 1 := by
  unfold tl; rw [hc, if_neg h]
theorem tl_go {xs : List Int} {n : Nat} {c : Int} (hc : xs.getD n 0 = c) (h : c = 32 ∨ c = 9) : tl xs (n + 1) = tl xs n := by
  conv => lhs; unfold tl
  rw [hc, if_pos h]

theorem trim_any (a : Option Addr) (len cap : Nat) (xs : List Int) (w : World) (h : SL w a len cap xs) :
    Calls Tryd.prog 58 #[.slice a len cap] w fun e w' => e = .returned (.slice a (tl xs len) cap) ∧ w = w' := by
  obtain ⟨h1, h2, h3, h4, h5, h6⟩ := h
  unfold maxLen at h3
  go_enter Tryd.func58, Tryd.ntmps58
  go_wp2
  go_loop [0] (fun v => ∃ k : Nat, k ≤ len ∧ v = .slice a k cap ∧ Hid (tl xs len = tl xs k)) (fun v => match v with | .slice _ n _ => n | _ => 0)
  case atStart => exact ⟨len, Nat.le_refl _, rfl, rfl⟩
  case round =>
    obtain ⟨k, hk, rfl, he⟩ := hrel
    cases k with
    | zero =>
      go_wp2
      go_ret
      exact ⟨by rw [he.out]; rfl, rfl⟩
    | succ k =>
      obtain ⟨b, off, rfl, hc⟩ := h6 (by omega)
      have hcell := hc k (by omega)
      have h5' := h5 k
      clear hc h6 h5
      have hcv : ∃ c, xs.getD k 0 = c := ⟨_, rfl⟩
      obtain ⟨c, hcv⟩ := hcv
      rw [hcv] at hcell h5'
      by_cases hy : c = 32 ∨ c = 9
      · have ht := Lib.hid (tl_go hcv hy)
        have hb : (c == 32 || c == 9) = true := by simpa using hy
        clear hy hcv
        go_wp2_with (go_at_call 65; refine (ows_any _ _).mono ?_; rintro e w' ⟨rfl, rfl⟩)
        go_round
        case rel => exact ⟨k, by omega, rfl, he.out.trans ht.out⟩
        case measure => simp
      · have ht := Lib.hid (tl_stop hcv hy)
        have hb : (c == 32 || c == 9) = false := by simpa using hy
        clear hy hcv
        go_wp2_with (go_at_call 65; refine (ows_any _ _).mono ?_; rintro e w' ⟨rfl, rfl⟩)
        go_ret
        exact ⟨by rw [he.out, ht.out]; rfl, rfl⟩

end Go.Proofs.YtjajhpgodijeoaaDoor
