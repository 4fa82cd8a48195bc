/-
  The reference's test for a pattern at the beginning of some bytes. No condition.
-/
import Derived.Test.YtpjonekkiojelaaMem2
import Derived.Outline
import Derived.Handy
import Derived.PlainAid
namespace Go.Proofs.Ytpjonekkiojelaa
open Go.RowKit Go.PlainAid

/-- Does the pattern p stand at the beginning of xs? A question mark in p is any byte. -/
def begAt (xs : List Int) (p : ByteArray) (i : Nat) : Bool := bt p i == 63 || xs.getD i 0 == bt p i
def begB (xs : List Int) (p : ByteArray) : Bool := decide (p.size ≤ xs.length) && (List.range p.size).all (begAt xs p)
theorem begB_short {xs : List Int} {p : ByteArray} (h : xs.length < p.size) : begB xs p = false := by
  unfold begB
  rw [decide_eq_false (by omega)]
  rfl
theorem begB_yes {xs : List Int} {p : ByteArray} (h : p.size ≤ xs.length) (hh : ∀ i, i < p.size → begAt xs p i = true) : begB xs p = true := by
  unfold begB
  rw [decide_eq_true h, Bool.true_and, List.all_eq_true]
  exact fun i hi => hh i (List.mem_range.1 hi)
theorem begB_no {xs : List Int} {p : ByteArray} {i : Nat} (hi : i < p.size) (hh : begAt xs p i = false) : begB xs p = false := by
  unfold begB
  rw [Bool.and_eq_false_iff]
  exact .inr (List.all_eq_false.2 ⟨i, List.mem_range.2 hi, by simp [hh]⟩)

set_option maxHeartbeats 1000000 in
theorem begins_any (a : Option Addr) (len cap : Nat) (xs : List Int) (p : ByteArray) (w : World) (h : SL w a len cap xs) (_hp : p.size ≤ 1000) :
    Calls Try.prog 30 #[.slice a len cap, .string p] w fun e w' => e = .returned (.bool (begB xs p)) ∧ ∃ n, w' = w.drewN n := by
  obtain ⟨h1, h2, h3, h4, h5, h6⟩ := h
  unfold maxLen at h3
  have hb := get_bt p
  by_cases hsh : len < p.size
  · have H := Lib.hid (begB_short (xs := xs) (p := p) (by omega))
    clear h1
    go_enter Try.func30, Try.ntmps30
    go_wp2
    go_ret
    exact ⟨by rw [H.out]; rfl, 0, rfl⟩
  have H1 := Lib.hid h1
  clear h1
  go_enter Try.func30, Try.ntmps30
  go_wp2
  go_loopw [13] (fun v wr => ∃ k : Nat, k ≤ p.size ∧ v = .int .i64 k ∧ Hid (∀ i, i < k → begAt xs p i = true) ∧ ∃ n, wr = w.drewN n) (fun v _ => p.size - (intOf v).toNat)
  case atStart => exact ⟨0, Nat.zero_le _, rfl, fun i hi => absurd hi (by omega), 0, rfl⟩
  case round =>
    obtain ⟨k, hk, rfl, he, n, rfl⟩ := hrel
    by_cases hlt : k < p.size
    · obtain ⟨b, off, rfl, hc⟩ := h6 (by omega)
      have hcell := hc k (by omega)
      have h5' := h5 k
      have hbk := hb k hlt
      have HA := Lib.hid (show begAt xs p k = (bt p k == 63 || xs.getD k 0 == bt p k) from rfl)
      have hq0 := bt_nonneg p k
      have hq1 := bt_le p k
      clear hc h6 h5 hb
      generalize xs.getD k 0 = c at hcell h5' HA
      generalize bt p k = q at hbk HA hq0 hq1
      obtain ⟨h50, h51⟩ := h5'
      by_cases hq : q = 63
      · have hq2 : (q == 63) = true := beq_iff_eq.2 hq
        have hA := HA.out
        rw [hq2, Bool.true_or] at hA
        have HA' := Lib.hid hA
        have hq3 : (q != 63) = false := by rw [bne, hq2]; rfl
        clear hA HA hq hq2
        go_wp2
        go_quiet (fail)
        go_wp2
        go_roundw
        case rel =>
          refine ⟨k + 1, by omega, by go_num, fun i hi => ?_, _, rfl⟩
          rcases Nat.lt_or_eq_of_le (Nat.le_of_lt_succ hi) with hi | rfl
          · exact he.out i hi
          · exact HA'.out
        case measure => simp [intOf]; omega
      · have hq2 : (q == 63) = false := beq_eq_false_iff_ne.2 hq
        have hA := HA.out
        rw [hq2, Bool.false_or] at hA
        have hq3 : (q != 63) = true := by rw [bne, hq2]; rfl
        clear HA hq2 hq
        by_cases hcq : c = q
        · have hcq2 : (c == q) = true := beq_iff_eq.2 hcq
          rw [hcq2] at hA
          have HA' := Lib.hid hA
          have hcq3 : (c != q) = false := by rw [bne, hcq2]; rfl
          clear hA hcq hcq2
          go_wp2
          go_quiet (fail)
          go_wp2
          go_roundw
          case rel =>
            refine ⟨k + 1, by omega, by go_num, fun i hi => ?_, _, rfl⟩
            rcases Nat.lt_or_eq_of_le (Nat.le_of_lt_succ hi) with hi | rfl
            · exact he.out i hi
            · exact HA'.out
          case measure => simp [intOf]; omega
        · have hcq2 : (c == q) = false := beq_eq_false_iff_ne.2 hcq
          rw [hcq2] at hA
          have H := Lib.hid (begB_no hlt hA)
          have hcq3 : (c != q) = true := by rw [bne, hcq2]; rfl
          clear hA hcq hcq2
          go_wp2
          go_quiet (fail)
          go_wp2
          go_ret
          exact ⟨by rw [H.out]; rfl, _, World.drewN_drewN _ _ _⟩
    · obtain rfl : k = p.size := by omega
      have H := Lib.hid (begB_yes (by rw [H1.out]; omega) he.out)
      clear h5 h6 hb
      go_wp2
      go_ret
      exact ⟨by rw [H.out]; rfl, _, rfl⟩
end Go.Proofs.Ytpjonekkiojelaa
