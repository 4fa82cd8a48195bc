/-
  The law on trimmed lines returns true. No condition.
-/
import Derived.Test.YtpjonekkiojelaaTrim
import Derived.Deep.RegionWith
import Derived.Handy
import Derived.Lib.SlBytesConst
namespace Go.Proofs.Ytpjonekkiojelaa
open Go.RowKit

theorem zztrim_any (a : Option Addr) (len cap : Nat) (xs : List Int) (w : World) (h : SL w a len cap xs) :
    Calls Try.prog 24 #[.slice a len cap] w fun e w' => e = .returned (.slice a (tl xs len) cap) ∧ w = w' := by
  go_enter Try.func24, Try.ntmps24
  go_wp2_with (go_at_call 37; refine (trim_any _ _ _ xs _ ?_).mono ?_; exact h; rintro e w' ⟨rfl, rfl⟩)
  go_ret
  exact ⟨rfl, rfl⟩
theorem impltrim_any (a : Option Addr) (len cap : Nat) (xs : List Int) (w : World) (h : SL w a len cap xs) :
    Calls Try.prog 10 #[.slice a len cap] w fun e w' => e = .returned (.slice a (tl xs len) cap) ∧ w = w' := by
  go_enter Try.func10, Try.ntmps10
  go_wp2_with (go_at_call 24; refine (zztrim_any _ _ _ xs _ ?_).mono ?_; exact h; rintro e w' ⟨rfl, rfl⟩)
  go_ret
  exact ⟨rfl, rfl⟩

set_option maxHeartbeats 4000000 in
theorem law_trim (a : Option Addr) (len cap : Nat) (xs : List Int) (w : World) (h : SL w a len cap xs) :
    Calls Try.prog 3 #[.slice a len cap] w fun e w' => e = .returned (.bool true) ∧ Below w.heap.size w w' := by
  by_cases hbig : 2147483647 < len
  · go_enter Try.func3, Try.ntmps3
    go_wp2
    go_ret
    exact ⟨rfl, Below.refl _ _⟩
  · have kc := kd
    have hst := (h.take (tl_le xs len)).drew.conv
    have hs : ∀ o : Nat × Nat, SL (w.alloc (.cells #[.int .u8 97, .int .u8 32] 5 o)).drew (some ⟨w.heap.size, 0, none⟩) 2 2 [97, 32] := fun o => SL.drew (SL.made w #[.int .u8 97, .int .u8 32] 5 o [97, 32] 2 2 rfl (by omega) (by decide) (by decide) (by intro i hi; match i, hi with | 0, _ => rfl | 1, _ => rfl))
    have hst2 : ∀ o : Nat × Nat, (convert 22 9 (.slice (some ⟨w.heap.size, 0, none⟩) (tl [97, 32] 2) 2)).run Try.prog (w.alloc (.cells #[.int .u8 97, .int .u8 32] 5 o)).drew = .ok (.string ⟨#[97]⟩) (w.alloc (.cells #[.int .u8 97, .int .u8 32] 5 o)).drew := fun o => ((hs o).take (tl_le _ 2)).conv
    go_enter Try.func3, Try.ntmps3
    go_wp2
    go_region_with (first | (go_at_call 11; refine (spectrim_any _ _ _ xs _ ?_).mono ?_; exact h.drew; rintro e w' ⟨rfl, rfl⟩) | (go_at_call_of 10 (Value.slice a len cap); refine (impltrim_any _ _ _ xs _ ?_).mono ?_; exact h.drew; rintro e w' ⟨rfl, rfl⟩) | (go_at_call 10; refine (impltrim_any _ _ _ [97, 32] _ ?_).mono ?_; exact hs _; rintro e w' ⟨rfl, rfl⟩))
    all_goals
      go_wp2
      go_ret
      exact ⟨rfl, ((Below.refl _ _).alloc (Nat.le_refl _) _).drew⟩
end Go.Proofs.Ytpjonekkiojelaa
