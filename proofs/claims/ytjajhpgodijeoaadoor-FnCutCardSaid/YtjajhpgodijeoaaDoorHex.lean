/-
  Hexadecimal digits and their value. No condition.
-/
import Derived.Test.YtjajhpgodijeoaaDoorMem2
import Derived.Outline
import Derived.Handy
import Derived.Laws.BitsAllLaws
import Derived.Laws.BitsLemmas
namespace Go.Proofs.YtjajhpgodijeoaaDoor
open Go.RowKit

/-- A hexadecimal digit; its value. -/
def isHex (c : Int) : Bool := (decide (48 ≤ c) && decide (c ≤ 57)) || (decide (97 ≤ c) && decide (c ≤ 102)) || (decide (65 ≤ c) && decide (c ≤ 70))
def hexd (c : Int) : Int := if 48 ≤ c ∧ c ≤ 57 then c - 48 else if 97 ≤ c ∧ c ≤ 102 then c - 97 + 10 else if 65 ≤ c ∧ c ≤ 70 then c - 65 + 10 else 0
theorem isHex_cases (c : Int) : (isHex c = true ∧ ((48 ≤ c ∧ c ≤ 57 ∧ hexd c = c - 48) ∨ (97 ≤ c ∧ c ≤ 102 ∧ hexd c = c - 97 + 10) ∨ (65 ≤ c ∧ c ≤ 70 ∧ hexd c = c - 65 + 10))) ∨
    (isHex c = false ∧ hexd c = 0 ∧ (c < 48 ∨ (57 < c ∧ c < 65) ∨ (70 < c ∧ c < 97) ∨ 102 < c)) := by
  have h : isHex c = true ↔ ((48 ≤ c ∧ c ≤ 57) ∨ (97 ≤ c ∧ c ≤ 102) ∨ (65 ≤ c ∧ c ≤ 70)) := by unfold isHex; simp; omega
  by_cases hc : isHex c = true
  · refine .inl ⟨hc, ?_⟩
    unfold hexd
    rcases h.1 hc with h | h | h
    · exact .inl ⟨h.1, h.2, by rw [if_pos h]⟩
    · exact .inr (.inl ⟨h.1, h.2, by rw [if_neg (by omega), if_pos h]⟩)
    · exact .inr (.inr ⟨h.1, h.2, by rw [if_neg (by omega), if_neg (by omega), if_pos h]⟩)
  · have hn : ¬ ((48 ≤ c ∧ c ≤ 57) ∨ (97 ≤ c ∧ c ≤ 102) ∨ (65 ≤ c ∧ c ≤ 70)) := fun h' => hc (h.2 h')
    refine .inr ⟨by simpa using hc, ?_, by omega⟩
    unfold hexd
    rw [if_neg (by omega), if_neg (by omega), if_neg (by omega)]
theorem hexd_bd (c : Int) : 0 ≤ hexd c ∧ hexd c ≤ 15 := by
  unfold hexd
  repeat' split
  all_goals omega
/-- The value of the first k digits. -/
def hv (xs : List Int) : Nat → Int
  | 0 => 0
  | k + 1 => hv xs k * 16 + hexd (xs.getD k 0)
theorem hv_bd (xs : List Int) : ∀ k, 0 ≤ hv xs k ∧ hv xs k < 16 ^ k
  | 0 => by simp [hv]
  | k + 1 => by
    have h := hv_bd xs k
    have hd := hexd_bd (xs.getD k 0)
    unfold hv
    rw [Int.pow_succ]
    omega
theorem hv_small (xs : List Int) (k : Nat) (hk : k ≤ 15) : 0 ≤ hv xs k ∧ hv xs k < 1152921504606846976 := by
  have h := hv_bd xs k
  have : (16 : Int) ^ k ≤ 16 ^ 15 := by exact_mod_cast Nat.pow_le_pow_right (by omega) hk
  have e : (16 : Int) ^ 15 = 1152921504606846976 := by decide
  omega

theorem digit_any (c : Int) (w : World) (h0 : 0 ≤ c) (h1 : c ≤ 255) : Calls Tryd.prog 24 #[.int .u8 c] w fun e w' => e = .returned (.tuple #[.int .u64 (hexd c), .bool (isHex c)]) ∧ w = w' := by
  rcases isHex_cases c with ⟨hb, h⟩ | ⟨hb, hd, h⟩
  · have H := Lib.hid hb
    clear hb
    rcases h with ⟨h, h', hd⟩ | ⟨h, h', hd⟩ | ⟨h, h', hd⟩
    all_goals
      have HD := Lib.hid hd
      clear hd
      go_enter Tryd.func24, Tryd.ntmps24
      go_wp2
      go_ret2
      exact ⟨by rw [H.out, HD.out]; rfl, rfl⟩
  · have H := Lib.hid hb
    have HD := Lib.hid hd
    clear hb hd
    rcases h with h | ⟨h, h'⟩ | ⟨h, h'⟩ | h
    all_goals
      go_enter Tryd.func24, Tryd.ntmps24
      go_wp2
      go_ret2
      exact ⟨by rw [H.out, HD.out]; rfl, rfl⟩

theorem u64_wraps (n : Int) (h₀ : 0 ≤ n) (h₁ : n < 2 ^ 64) : IntKind.u64.wrap n = n := by
  simp [IntKind.wrap, IntKind.bits, IntKind.signed]
  omega
theorem or_digit {n d : Int} (h0 : 0 ≤ n) (h1 : n < 1152921504606846976) (h2 : 0 ≤ d) (h3 : d ≤ 15) : bits .or .u64 (n * 16) d = n * 16 + d := by
  obtain ⟨a, rfl⟩ := Int.eq_ofNat_of_zero_le h0
  obtain ⟨b, rfl⟩ := Int.eq_ofNat_of_zero_le h2
  have e : ((a : Int) * 16) = ((a * 16 : Nat) : Int) := by simp
  have hor : a * 16 ||| b = a * 16 + b := by
    have := Nat.shiftLeft_add_eq_or_of_lt (i := 4) (b := b) (by omega) a
    simp [Nat.shiftLeft_eq] at this
    exact this.symm
  rw [e, (bits_nat .u64 64 (Nat.le_refl _) u64_wraps (a * 16) b (by omega) (by omega)).2, hor]
  simp

set_option maxHeartbeats 1000000 in
theorem spechex_yes (a : Option Addr) (len cap : Nat) (xs : List Int) (w : World) (h : SL w a len cap xs) (hl0 : 0 < len) (hl : len ≤ 16) (hh : Hid (∀ i, i < len → isHex (xs.getD i 0) = true)) :
    Calls Tryd.prog 23 #[.slice a len cap] w fun e w' => e = .returned (.tuple #[.int .u64 (hv xs len), .bool true]) ∧ w = w' := by
  obtain ⟨h1, h2, h3, h4, h5, h6⟩ := h
  unfold maxLen at h3
  obtain ⟨b, off, rfl, hc⟩ := h6 hl0
  have hlb : ((len : Int) == 0) = false := beq_eq_false_iff_ne.2 (by omega)
  clear h1 h6
  go_enter Tryd.func23, Tryd.ntmps23
  go_wp2
  go_loop [4, 19] (fun u v => ∃ k : Nat, k ≤ len ∧ v = .int .i64 k ∧ u = .int .u64 (hv xs k)) (fun _ v => len - (intOf v).toNat)
  case atStart => exact ⟨0, Nat.zero_le _, rfl, rfl⟩
  case round =>
    obtain ⟨k, hk, rfl, rfl⟩ := hrel
    by_cases hlt : k < len
    · have hcell := hc k hlt
      have h5' := h5 k
      have hix := hh.out k hlt
      have hn := hv_small xs k (by omega)
      have hs := Lib.hid (show hv xs (k + 1) = hv xs k * 16 + hexd (xs.getD k 0) from rfl)
      clear hc h5
      generalize xs.getD k 0 = c at hcell h5' hix hs
      have hd := hexd_bd c
      generalize hv xs k = n at hn hs ⊢
      obtain ⟨h50, h51⟩ := h5'
      go_wp2_with (go_at_call 24; refine (digit_any _ _ h50 h51).mono ?_; rintro e w' ⟨rfl, rfl⟩)
      go_round
      case rel => exact ⟨k + 1, by omega, by go_num, by rw [hs.out, or_digit hn.1 hn.2 hd.1 hd.2]⟩
      case measure => simp [intOf]; omega
    · obtain rfl : k = len := by omega
      go_wp2
      go_ret2
      exact ⟨rfl, rfl⟩

/-- Not 1 to 16 hexadecimal digits. -/
def badHex (xs : List Int) (len : Nat) : Prop := len = 0 ∨ 16 < len ∨ ∃ i, i < len ∧ isHex (xs.getD i 0) = false

set_option maxHeartbeats 1000000 in
theorem new_any (s : ByteArray) (w : World) : Calls Tryd.prog 55 #[.string s] w fun e w' => (e = .returned (.iface 102 (.pointer (some ⟨w.heap.size, 0, none⟩)))) ∧ w' = w.alloc (.cells #[.string s] 129) := by
  go_enter Tryd.func55, Tryd.ntmps55
  go_wp2
  go_ret
  exact ⟨rfl, rfl⟩

theorem hex_yes (a : Option Addr) (len cap : Nat) (xs : List Int) (w : World) (h : SL w a len cap xs) (hl0 : 0 < len) (hl : len ≤ 16) (hh : Hid (∀ i, i < len → isHex (xs.getD i 0) = true)) :
    Calls Tryd.prog 60 #[.slice a len cap] w fun e w' => e = .returned (.tuple #[.int .u64 (hv xs len), .nilIface]) ∧ w = w' := by
  obtain ⟨h1, h2, h3, h4, h5, h6⟩ := h
  unfold maxLen at h3
  obtain ⟨b, off, rfl, hc⟩ := h6 hl0
  have hlb : ((len : Int) == 0) = false := beq_eq_false_iff_ne.2 (by omega)
  clear h1 h6
  go_enter Tryd.func60, Tryd.ntmps60
  go_wp2
  go_loop [2, 3, 12] (fun u f v => ∃ k : Nat, k ≤ len ∧ v = .int .i64 k ∧ u = .int .u64 (hv xs k) ∧ f = .nilIface) (fun _ _ v => len - (intOf v).toNat)
  case atStart => exact ⟨0, Nat.zero_le _, rfl, rfl, rfl⟩
  case round =>
    obtain ⟨k, hk, rfl, rfl, rfl⟩ := hrel
    by_cases hlt : k < len
    · have hcell := hc k hlt
      have h5' := h5 k
      have hix := hh.out k hlt
      have hn := hv_small xs k (by omega)
      have hs := Lib.hid (show hv xs (k + 1) = hv xs k * 16 + hexd (xs.getD k 0) from rfl)
      clear hc h5
      generalize xs.getD k 0 = c at hcell h5' hix hs
      have hd := hexd_bd c
      generalize hv xs k = n at hn hs ⊢
      obtain ⟨h50, h51⟩ := h5'
      rcases isHex_cases c with ⟨_, hq⟩ | ⟨hb, _⟩
      · rcases hq with ⟨hq, hq', hd'⟩ | ⟨hq, hq', hd'⟩ | ⟨hq, hq', hd'⟩
        all_goals
          have HD := Lib.hid hd'
          clear hix hd'
          go_wp2
          go_round
          case rel => exact ⟨k + 1, by omega, by go_num, by rw [hs.out, HD.out, or_digit hn.1 hn.2 (by omega) (by omega)], rfl⟩
          case measure => simp [intOf]; omega
      · rw [hix] at hb; cases hb
    · obtain rfl : k = len := by omega
      go_wp2
      go_ret2
      exact ⟨rfl, rfl⟩

end Go.Proofs.YtjajhpgodijeoaaDoor
