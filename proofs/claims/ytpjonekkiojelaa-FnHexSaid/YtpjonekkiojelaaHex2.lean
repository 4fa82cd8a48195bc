/-
  The law on hexadecimal digits returns true. No condition.
-/
import Derived.Test.YtpjonekkiojelaaHex
namespace Go.Proofs.Ytpjonekkiojelaa
open Go.RowKit

theorem hex_split (xs : List Int) (len : Nat) : (0 < len ∧ len ≤ 16 ∧ Hid (∀ i, i < len → isHex (xs.getD i 0) = true)) ∨ badHex xs len := by
  by_cases h0 : len = 0
  · exact .inr (.inl h0)
  by_cases h16 : 16 < len
  · exact .inr (.inr (.inl h16))
  by_cases hx : ∃ i, i < len ∧ isHex (xs.getD i 0) = false
  · exact .inr (.inr (.inr hx))
  · refine .inl ⟨by omega, by omega, fun i hi => ?_⟩
    rcases Bool.eq_false_or_eq_true (isHex (xs.getD i 0)) with h | h
    · exact h
    · exact absurd ⟨i, hi, h⟩ hx

theorem zzhex_yes (a : Option Addr) (len cap : Nat) (xs : List Int) (w : World) (h : SL w a len cap xs) (hl0 : 0 < len) (hl : len ≤ 16) (hh : Hid (∀ i, i < len → isHex (xs.getD i 0) = true)) :
    Calls Try.prog 29 #[.slice a len cap] w fun e w' => e = .returned (.tuple #[.int .u64 (hv xs len), .nilIface]) ∧ w = w' := by
  go_enter Try.func29, Try.ntmps29
  go_wp2_with (go_at_call 40; refine (hex_yes a len cap xs _ h hl0 hl hh).mono ?_; rintro e w' ⟨rfl, rfl⟩)
  go_ret2
  exact ⟨rfl, rfl⟩
theorem zzhex_no (a : Option Addr) (len cap : Nat) (xs : List Int) (w : World) (h : SL w a len cap xs) (hh : badHex xs len) :
    Calls Try.prog 29 #[.slice a len cap] w (HexNo w) := by
  go_enter Try.func29, Try.ntmps29
  go_wp2_with (go_at_call 40; refine (hex_no a len cap xs _ h hh).mono ?_; rintro e w' ⟨⟨p, rfl⟩, hb⟩)
  go_ret2
  exact ⟨⟨_, rfl⟩, hb⟩
theorem implhex_yes (a : Option Addr) (len cap : Nat) (xs : List Int) (w : World) (h : SL w a len cap xs) (hl0 : 0 < len) (hl : len ≤ 16) (hh : Hid (∀ i, i < len → isHex (xs.getD i 0) = true)) :
    Calls Try.prog 17 #[.slice a len cap] w fun e w' => e = .returned (.tuple #[.int .u64 (hv xs len), .bool true]) ∧ Below w.heap.size w w' := by
  go_enter Try.func17, Try.ntmps17
  go_wp2_with (go_at_call 29; refine (zzhex_yes a len cap xs _ h hl0 hl hh).mono ?_; rintro e w' ⟨rfl, rfl⟩)
  clear h hl0 hl hh
  go_quiet (fail)
  go_wp2
  go_ret2
  exact ⟨rfl, below_drewN (Below.refl _ _) _⟩
theorem implhex_no (a : Option Addr) (len cap : Nat) (xs : List Int) (w : World) (h : SL w a len cap xs) (hh : badHex xs len) :
    Calls Try.prog 17 #[.slice a len cap] w fun e w' => e = .returned (.tuple #[.int .u64 0, .bool false]) ∧ Below w.heap.size w w' := by
  go_enter Try.func17, Try.ntmps17
  go_wp2_with (go_at_call 29; refine (zzhex_no a len cap xs _ h hh).mono ?_; rintro e w' ⟨⟨p, rfl⟩, hb⟩)
  clear h hh
  go_quiet (fail)
  go_wp2
  go_ret2
  exact ⟨rfl, below_drewN hb _⟩

theorem hs1 (w : World) (o : Nat × Nat) : SL (w.alloc (.cells #[.int .u8 49] 5 o)) (some ⟨w.heap.size, 0, none⟩) 1 1 [49] := SL.const w [49] o 1 rfl (by omega) (by decide)
theorem hh1 : Hid (∀ i, i < 1 → isHex (([49] : List Int).getD i 0) = true) := by
  intro i hi
  obtain rfl : i = 0 := by omega
  decide
theorem hv1 : hv [49] 1 = 1 := by decide

theorem law_hex (a : Option Addr) (len cap : Nat) (xs : List Int) (w : World) (h : SL w a len cap xs) :
    Calls Try.prog 6 #[.slice a len cap] w fun e w' => e = .returned (.bool true) ∧ Below w.heap.size w w' := by
  by_cases hbig : 2147483647 < len
  · go_enter Try.func6, Try.ntmps6
    go_wp2
    go_ret
    exact ⟨rfl, Below.refl _ _⟩
  have kc := fun (w : World) (C : Array Value) (n c : Nat) => Lib.run_convert_bytes_const (P := Try.prog) w 22 5 C n c Try.underlying22 Try.underlying5
  rcases hex_split xs len with ⟨hl0, hl, hh⟩ | hh
  · generalize hV : hv xs len = V
    have HV := Lib.hid hV
    clear hV
    go_enter Try.func6, Try.ntmps6
    go_wp2_with fail
    refine (spechex_yes a len cap xs _ h hl0 hl hh).mono ?_
    rw [HV.out]
    rintro e w1 ⟨rfl, rfl⟩
    go_wp2_with fail
    refine (implhex_yes a len cap xs _ h hl0 hl hh).mono ?_
    rw [HV.out]
    rintro e w1 ⟨rfl, hb1⟩
    go_wp2_with fail
    refine (implhex_yes _ 1 1 [49] _ (hs1 _ _) (by omega) (by omega) hh1).mono ?_
    rw [hv1]
    rintro e w2 ⟨rfl, hb2⟩
    clear h
    go_wp2
    go_ret
    exact ⟨rfl, (hb1.alloc hb1.size _).trans (hb2.mono (by have := hb1.size; simp; omega))⟩
  · go_enter Try.func6, Try.ntmps6
    go_wp2_with fail
    refine (spechex_no a len cap xs _ h hh).mono ?_
    rintro e w1 ⟨rfl, rfl⟩
    go_wp2_with fail
    refine (implhex_no a len cap xs _ h hh).mono ?_
    rintro e w1 ⟨rfl, hb1⟩
    go_wp2_with fail
    refine (implhex_yes _ 1 1 [49] _ (hs1 _ _) (by omega) (by omega) hh1).mono ?_
    rw [hv1]
    rintro e w2 ⟨rfl, hb2⟩
    clear h
    go_wp2
    go_ret
    exact ⟨rfl, (hb1.alloc hb1.size _).trans (hb2.mono (by have := hb1.size; simp; omega))⟩
end Go.Proofs.Ytpjonekkiojelaa
