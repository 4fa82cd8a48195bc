/-
  The reference's size of a chunk.
-/
import Derived.Test.YtjajhpgodijeoaaDoorLin
namespace Go.Proofs.YtjajhpgodijeoaaDoor
open Go.RowKit

/-- What size returns. -/
def SizeRet (xs : List Int) (e : Ending) : Prop := ∃ n : Nat, ∃ k : Int, e = .returned (.tuple #[.int .u64 n, .int .i64 k]) ∧ SizeAns xs n k
theorem SizeRet.un (xs : List Int) : SizeRet xs (.returned (.tuple #[.int .u64 0, .int .i64 3])) := ⟨0, 3, rfl, .inr (.inr rfl)⟩
theorem SizeRet.mal (xs : List Int) : SizeRet xs (.returned (.tuple #[.int .u64 0, .int .i64 1])) := ⟨0, 1, rfl, .inr (.inl rfl)⟩

theorem hex_part (a : Option Addr) (len cap : Nat) (xs : List Int) (w : World) (h : SL w a len cap xs) (h1 : 1 ≤ dg xs) (h2 : dg xs ≤ 16) :
    ∃ n : Nat, hv xs (dg xs) = n ∧ n < 18446744073709551616 ∧ Calls Tryd.prog 23 #[.slice a (dg xs) cap] w fun e w' => e = .returned (.tuple #[.int .u64 n, .bool true]) ∧ w = w' := by
  have hd := dg_le xs
  rw [h.hlen] at hd
  obtain ⟨n, hn⟩ := Int.eq_ofNat_of_zero_le (hv_nonneg xs (dg xs))
  have hb := (hv_bd xs (dg xs)).2
  have hp : (16 : Int) ^ (dg xs) ≤ 16 ^ 16 := by exact_mod_cast Nat.pow_le_pow_right (by omega) h2
  have e16 : (16 : Int) ^ 16 = 18446744073709551616 := by decide
  refine ⟨n, hn, by omega, ?_⟩
  have := spechex_yes a (dg xs) cap (xs.take (dg xs)) w (h.take hd) h1 h2 (fun i hi => by rw [getD_take hi]; exact dg_hit hi)
  rwa [hv_take _ _ _ (Nat.le_refl _), hn] at this

set_option maxHeartbeats 1000000 in
set_option maxRecDepth 100000 in
theorem size_any (a : Option Addr) (len cap : Nat) (xs : List Int) (w : World) (h : SL w a len cap xs) (hl : len ≤ 2147483647) :
    Calls Tryd.prog 19 #[.slice a len cap] w fun e w' => SizeRet xs e ∧ w = w' := by
  have H := Lib.hid h
  obtain ⟨h1, h2, h3, h4, h5, h6⟩ := h
  have h1' := Lib.hid h1
  have hi := dg_le xs
  rw [h1] at hi
  clear h1 h3
  go_enter Tryd.func19, Tryd.ntmps19
  go_wp2
  go_loop [4] (fun v => ∃ k : Nat, k ≤ dg xs ∧ v = .int .i64 k) (fun v => len - (intOf v).toNat)
  case atStart => exact ⟨0, Nat.zero_le _, rfl⟩
  case round =>
    obtain ⟨k, hk, rfl⟩ := hrel
    by_cases hlt : k < len
    · obtain ⟨b, off, rfl, hc⟩ := h6 (by omega)
      have hcell := hc k hlt
      have h5' := h5 k
      obtain ⟨c, hcv⟩ : ∃ c, xs.getD k 0 = c := ⟨_, rfl⟩
      rw [hcv] at hcell h5'
      have CV := Lib.hid hcv
      have hdig := digit_any c
      clear hcv hc h5
      obtain ⟨h50, h51⟩ := h5'
      by_cases hy : isHex c = true
      · have hk' : k + 1 ≤ dg xs := by
          rcases Nat.eq_or_lt_of_le hk with e | e
          · have := dg_at (xs := xs) (by rw [← e, h1'.out]; exact hlt)
            rw [← e, CV.out, hy] at this
            cases this
          · exact e
        have HK := Lib.hid hk'
        have HD : Hid (∀ w, Calls Tryd.prog 24 #[.int .u8 c] w fun e w' => e = .returned (.tuple #[.int .u64 (hexd c), .bool true]) ∧ w = w') := fun w => by
          have := digit_any c w h50 h51
          rwa [hy] at this
        clear hk' hy hi hdig
        go_wp2_with fail
        refine (HD.out _).mono ?_
        rintro e w' ⟨rfl, rfl⟩
        go_wp2_with fail
        go_round
        case rel => exact ⟨k + 1, HK.out, by go_num⟩
        case measure => simp [intOf]; omega
      · have hy' : isHex c = false := by simpa using hy
        have hm : dg xs = k := by
          rcases Nat.eq_or_lt_of_le hk with e | e
          · exact e.symm
          · have := dg_hit e
            rw [CV.out] at this
            exact absurd this hy
        have HM := Lib.hid hm
        have HD : Hid (∀ w, Calls Tryd.prog 24 #[.int .u8 c] w fun e w' => e = .returned (.tuple #[.int .u64 (hexd c), .bool false]) ∧ w = w') := fun w => by
          have := digit_any c w h50 h51
          rwa [hy'] at this
        have hsl : ∀ W, (Instr.slice 22 (.slice (some ⟨b, off, none⟩) len cap) (some (.int .i64 k)) none none).run Tryd.prog W = .ok (.slice (some ⟨b, off + k, none⟩) (len - k) (cap - k)) W := fun W => by
          rw [run_from W _ len cap k (by omega) rfl]
          simp only [cutAt, if_neg (by omega : ¬ cap = k), Option.map_some, Nat.mul_one, Addr.add_lit]
        obtain ⟨m, hm2⟩ : ∃ m, m = len - k := ⟨_, rfl⟩
        rw [← hm2] at hsl
        have hm0 : (0 : Int) < (m : Int) := by omega
        have hsh : ∀ W, (Instr.slice 22 (.slice (some ⟨b, off, none⟩) len cap) none (some (.int .i64 k)) none).run Tryd.prog W = .ok (.slice (some ⟨b, off, none⟩) k cap) W := fun W => run_to W _ len cap k (by omega) rfl
        clear hm hk hi hdig hy hy' hm2
        go_wp2_with fail
        refine (HD.out _).mono ?_
        rintro e w' ⟨rfl, rfl⟩
        by_cases hc1 : c = 32
        · subst hc1
          go_wp2_with fail
          go_ret2
          exact ⟨SizeRet.un xs, rfl⟩
        have hc1' : (c == 32) = false := beq_eq_false_iff_ne.2 hc1
        by_cases hc2 : c = 9
        · subst hc2
          go_wp2_with fail
          go_ret2
          exact ⟨SizeRet.un xs, rfl⟩
        have hc2' : (c == 9) = false := beq_eq_false_iff_ne.2 hc2
        by_cases hk16 : 16 < k
        · have hk16' : (16 : Int) < (k : Int) := by omega
          go_wp2_with fail
          go_ret2
          exact ⟨SizeRet.un xs, rfl⟩
        have hk16' : ¬ (16 : Int) < (k : Int) := by omega
        rcases Nat.eq_zero_or_pos k with hk0 | hk0
        · have hk1 : ((k : Int) == 0) = true := by rw [hk0]; rfl
          clear hk0
          go_wp2_with fail
          go_ret2
          exact ⟨SizeRet.mal xs, rfl⟩
        have hk1 : ((k : Int) == 0) = false := beq_eq_false_iff_ne.2 (by omega)
        by_cases hc3 : c = 59
        · obtain ⟨n, hn, hn64, hx⟩ := hex_part _ _ _ _ _ H.out (by rw [HM.out]; exact hk0) (by rw [HM.out]; omega)
          rw [HM.out] at hn hx
          have HX := Lib.hid hx
          have HN := Lib.hid hn
          have HC3 := Lib.hid hc3
          have hc3' : (c == 59) = true := beq_iff_eq.2 hc3
          clear hx hn hc3
          go_wp2_with fail
          refine HX.out.mono ?_
          rintro e w' ⟨rfl, rfl⟩
          by_cases hn61 : n < 2305843009213693952
          · have hn61' : ((n : Int) ≥ 2305843009213693952) = False := eq_false (by omega)
            have H61 := Lib.hid hn61
            clear hn61 hn64
            go_wp2_with fail
            go_ret2
            have SA : SizeAns xs n 0 := .inl ⟨rfl, by rw [HM.out]; exact hk0, by rw [HM.out]; omega, .inr (by rw [HM.out, CV.out, HC3.out]), by rw [HM.out]; exact HN.out, H61.out⟩
            refine ⟨⟨n, 0, ?_, SA⟩, rfl⟩
            rfl
          · have hn61' : (2305843009213693952 : Int) ≤ (n : Int) := by omega
            clear hn61 hn64
            go_wp2_with fail
            go_ret2
            exact ⟨SizeRet.un xs, rfl⟩
        · have hc3' : (c == 59) = false := beq_eq_false_iff_ne.2 hc3
          go_wp2_with fail
          go_ret2
          exact ⟨SizeRet.mal xs, rfl⟩
    · have hkl : k = len := by omega
      have hm : dg xs = k := by omega
      have HM := Lib.hid hm
      have KL := Lib.hid hkl
      have hsl : ∀ W, (Instr.slice 22 (.slice a len cap) (some (.int .i64 k)) none none).run Tryd.prog W = .ok (.slice (cutAt a cap k) 0 (cap - k)) W := fun W => by
        rw [run_from W _ len cap k (by omega) rfl, hkl, Nat.sub_self]
      have hsh : ∀ W, (Instr.slice 22 (.slice a len cap) none (some (.int .i64 k)) none).run Tryd.prog W = .ok (.slice a k cap) W := fun W => run_to W _ len cap k (by omega) rfl
      have hnlt : ¬ (k : Int) < (len : Int) := by omega
      clear hm hi h5 h6 hk hkl
      by_cases hk16 : 16 < k
      · have hk16' : (16 : Int) < (k : Int) := by omega
        go_wp2_with fail
        go_ret2
        exact ⟨SizeRet.un xs, rfl⟩
      have hk16' : ¬ (16 : Int) < (k : Int) := by omega
      rcases Nat.eq_zero_or_pos k with hk0 | hk0
      · have hk1 : ((k : Int) == 0) = true := by rw [hk0]; rfl
        clear hk0
        go_wp2_with fail
        go_ret2
        exact ⟨SizeRet.mal xs, rfl⟩
      have hk1 : ((k : Int) == 0) = false := beq_eq_false_iff_ne.2 (by omega)
      obtain ⟨n, hn, hn64, hx⟩ := hex_part _ _ _ _ _ H.out (by rw [HM.out]; exact hk0) (by rw [HM.out]; omega)
      rw [HM.out] at hn hx
      have HX := Lib.hid hx
      have HN := Lib.hid hn
      clear hx hn
      go_wp2_with fail
      refine HX.out.mono ?_
      rintro e w' ⟨rfl, rfl⟩
      by_cases hn61 : n < 2305843009213693952
      · have hn61' : ((n : Int) ≥ 2305843009213693952) = False := eq_false (by omega)
        have H61 := Lib.hid hn61
        clear hn61 hn64
        go_wp2_with fail
        go_ret2
        have SA : SizeAns xs n 0 := .inl ⟨rfl, by rw [HM.out]; exact hk0, by rw [HM.out]; omega, .inl (by rw [HM.out, h1'.out]; exact KL.out), by rw [HM.out]; exact HN.out, H61.out⟩
        refine ⟨⟨n, 0, ?_, SA⟩, rfl⟩
        rfl
      · have hn61' : (2305843009213693952 : Int) ≤ (n : Int) := by omega
        clear hn61 hn64
        go_wp2_with fail
        go_ret2
        exact ⟨SizeRet.un xs, rfl⟩
end Go.Proofs.YtjajhpgodijeoaaDoor
