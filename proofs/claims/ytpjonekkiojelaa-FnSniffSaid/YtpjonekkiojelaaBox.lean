/-
  The size of the first box, as the code and as the reference reckon it. No condition.
-/
import Derived.Test.YtpjonekkiojelaaBeg
import Derived.Lib.EndianBits
import Derived.Laws.BitsAllLaws
import Derived.RegionTactic
namespace Go.Proofs.Ytpjonekkiojelaa
open Go.RowKit Go.PlainAid

/-- The number that the first four bytes spell. -/
def bx (xs : List Int) : Int := xs.getD 0 0 * 16777216 + xs.getD 1 0 * 65536 + xs.getD 2 0 * 256 + xs.getD 3 0

theorem i64_wraps (n : Int) (h₀ : 0 ≤ n) (h₁ : n < 2 ^ 63) : IntKind.i64.wrap n = n := by rw [IntKind.wrap_i64]; omega
theorem i64_or_low (i : Nat) (hi : i ≤ 62) {x y : Int} (hx₀ : 0 ≤ x) (hx : x % 2 ^ i = 0) (hx₁ : x < 2 ^ 62) (hy₀ : 0 ≤ y) (hy : y < 2 ^ i) : bits .or .i64 x y = x + y := by
  obtain ⟨a, rfl⟩ := Int.eq_ofNat_of_zero_le hx₀
  obtain ⟨b, rfl⟩ := Int.eq_ofNat_of_zero_le hy₀
  have hb : b < 2 ^ i := by exact_mod_cast hy
  have ha : a < 2 ^ 62 := by exact_mod_cast hx₁
  have hm : a % 2 ^ i = 0 := by exact_mod_cast hx
  have hp : 2 ^ i ≤ 2 ^ 62 := Nat.pow_le_pow_right (by decide) hi
  have hor : a ||| b = a + b := by
    obtain ⟨q, rfl⟩ := Nat.dvd_of_mod_eq_zero hm
    have := Nat.shiftLeft_add_eq_or_of_lt (i := i) (b := b) hb q
    rw [Nat.shiftLeft_eq, Nat.mul_comm] at this
    exact this.symm
  rw [(bits_nat .i64 63 (by decide) i64_wraps a b (by omega) (by omega)).2, hor]
  simp

set_option maxHeartbeats 2000000 in
theorem box_any (a : Option Addr) (len cap : Nat) (xs : List Int) (w : World) (h : SL w a len cap xs) (h4 : 4 ≤ len) :
    Calls Try.prog 31 #[.slice a len cap] w fun e w' => e = .returned (.int .i64 (bx xs)) ∧ ∃ n, w' = w.drewN n := by
  obtain ⟨h1, h2, h3, _, h5, h6⟩ := h
  obtain ⟨b, off, rfl, hc⟩ := h6 (by omega)
  have c0 := hc 0 (by omega)
  have c1 := hc 1 (by omega)
  have c2 := hc 2 (by omega)
  have c3 := hc 3 (by omega)
  have b0 := h5 0
  have b1 := h5 1
  have b2 := h5 2
  have b3 := h5 3
  have HB : Hid (bx xs = xs.getD 0 0 * 16777216 + xs.getD 1 0 * 65536 + xs.getD 2 0 * 256 + xs.getD 3 0) := rfl
  clear h1 hc h5 h6
  generalize xs.getD 0 0 = x0 at c0 b0 HB
  generalize xs.getD 1 0 = x1 at c1 b1 HB
  generalize xs.getD 2 0 = x2 at c2 b2 HB
  generalize xs.getD 3 0 = x3 at c3 b3 HB
  obtain ⟨b00, b01⟩ := b0
  obtain ⟨b10, b11⟩ := b1
  obtain ⟨b20, b21⟩ := b2
  obtain ⟨b30, b31⟩ := b3
  rw [Nat.add_zero] at c0
  have p0 : (0 : Int) < (len : Int) := by omega
  have p1 : (1 : Int) < (len : Int) := by omega
  have p2 : (2 : Int) < (len : Int) := by omega
  have p3 : (3 : Int) < (len : Int) := by omega
  go_enter Try.func31, Try.ntmps31
  go_wp2
  go_quiet (fail)
  go_wp2
  go_ret
  refine ⟨?_, _, rfl⟩
  rw [HB.out]
  refine congrArg (fun v => Ending.returned (.int .i64 v)) ?_
  show bits .or .i64 (bits .or .i64 (bits .or .i64 (x0 * 16777216) (x1 * 65536)) (x2 * 256)) x3 = _
  rw [i64_or_low 24 (x := x0 * 16777216) (y := x1 * 65536) (by omega) (by omega) (by omega) (by omega) (by omega) (by omega), i64_or_low 16 (x := x0 * 16777216 + x1 * 65536) (y := x2 * 256) (by omega) (by omega) (by omega) (by omega) (by omega) (by omega),
    i64_or_low 8 (x := x0 * 16777216 + x1 * 65536 + x2 * 256) (y := x3) (by omega) (by omega) (by omega) (by omega) (by omega) (by omega)]

set_option maxHeartbeats 2000000 in
theorem be32_any (a : Option Addr) (cap : Nat) (xs : List Int) (w : World) (h : SL w a 4 cap xs) :
    Calls Try.prog 48 #[.agg #[], .slice a 4 cap] w fun e w' => e = .returned (.int .u32 (bx xs)) ∧ Below w.heap.size w w' := by
  obtain ⟨h1, h2, h3, _, h5, h6⟩ := h
  obtain ⟨b, off, rfl, hc⟩ := h6 (by omega)
  have c0 := Lib.cell?_alloc_marked (.cells #[] 58) (hc 0 (by omega))
  have c1 := Lib.cell?_alloc_marked (.cells #[] 58) (hc 1 (by omega))
  have c2 := Lib.cell?_alloc_marked (.cells #[] 58) (hc 2 (by omega))
  have c3 := Lib.cell?_alloc_marked (.cells #[] 58) (hc 3 (by omega))
  have b0 := h5 0
  have b1 := h5 1
  have b2 := h5 2
  have b3 := h5 3
  have HB : Hid (bx xs = xs.getD 0 0 * 16777216 + xs.getD 1 0 * 65536 + xs.getD 2 0 * 256 + xs.getD 3 0) := rfl
  clear h1 hc h5 h6
  generalize xs.getD 0 0 = x0 at c0 b0 HB
  generalize xs.getD 1 0 = x1 at c1 b1 HB
  generalize xs.getD 2 0 = x2 at c2 b2 HB
  generalize xs.getD 3 0 = x3 at c3 b3 HB
  obtain ⟨b00, b01⟩ := b0
  obtain ⟨b10, b11⟩ := b1
  obtain ⟨b20, b21⟩ := b2
  obtain ⟨b30, b31⟩ := b3
  rw [Nat.add_zero] at c0
  go_enter Try.func48, Try.ntmps48
  go_wp2
  go_quiet (fail)
  go_wp2
  go_ret
  refine ⟨?_, below_drewN ((Below.refl _ _).alloc (Nat.le_refl _) _) _⟩
  rw [HB.out]
  refine congrArg (fun v => Ending.returned (.int .u32 v)) ?_
  show bits .or .u32 (bits .or .u32 (bits .or .u32 x3 (x2 * 256)) (x1 * 65536)) (x0 * 16777216) = _
  simp (disch := omega) only [u32_or8, u32_or16, u32_or24]
  omega
end Go.Proofs.Ytpjonekkiojelaa
