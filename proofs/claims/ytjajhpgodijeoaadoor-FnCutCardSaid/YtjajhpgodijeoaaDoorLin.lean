/-
  The reference's line and size.
-/
import Derived.Test.YtjajhpgodijeoaaDoorDec
import Derived.Test.YtjajhpgodijeoaaDoorBlk
import Derived.Outline
import Derived.Handy
namespace Go.Proofs.YtjajhpgodijeoaaDoor
open Go.RowKit

/-- What line returns. -/
def LineRet (xs : List Int) (e : Ending) : Prop := ∃ n : Nat, ∃ k : Int, e = .returned (.tuple #[.int .i64 n, .int .i64 k]) ∧ LineAns xs n k
theorem LineRet.un (xs : List Int) : LineRet xs (.returned (.tuple #[.int .i64 0, .int .i64 3])) := ⟨0, 3, rfl, lineAns_else xs⟩

set_option maxHeartbeats 1000000 in
theorem line_any (a : Option Addr) (len cap : Nat) (xs : List Int) (w : World) (h : SL w a len cap xs) (hl : len ≤ 2147483647) :
    Calls Tryd.prog 18 #[.slice a len cap] w fun e w' => LineRet xs e ∧ w = w' := by
  obtain ⟨h1, h2, h3, h4, h5, h6⟩ := h
  have h1' := Lib.hid h1
  have hi := ix_le xs 10
  rw [h1] at hi
  clear h1 h3
  go_enter Tryd.func18, Tryd.ntmps18
  go_wp2
  go_loop [2] (fun v => ∃ k : Nat, k ≤ ix xs 10 ∧ v = .int .i64 k) (fun v => len - (intOf v).toNat)
  case atStart => exact ⟨0, Nat.zero_le _, rfl⟩
  case round =>
    obtain ⟨k, hk, rfl⟩ := hrel
    by_cases hlt : k < len
    · obtain ⟨b, off, rfl, hc⟩ := h6 (by omega)
      have hcell := hc k hlt
      have h5' := h5 k
      obtain ⟨c, hcv⟩ : ∃ c, xs.getD k 0 = c := ⟨_, rfl⟩
      rw [hcv] at hcell h5'
      have CV := Lib.hid hcv
      clear hcv
      by_cases hy : c = 10
      · subst hy
        have hm : ix xs 10 = k := by
          rcases Nat.eq_or_lt_of_le hk with e | e
          · exact e.symm
          · exact absurd CV.out (ix_lt e)
        have HM := Lib.hid hm
        have HC := Lib.hid hc
        clear hm hk hc h5 hi
        by_cases hb : 4000 < k
        · have hb' : (4000 : Int) < (k : Int) := by omega
          go_wp2_with fail
          go_ret2
          exact ⟨LineRet.un xs, rfl⟩
        · have hb' : ¬ (4000 : Int) < (k : Int) := by omega
          have hkl : ((k : Int) == (len : Int)) = false := beq_eq_false_iff_ne.2 (by omega)
          have hnil : (k : Int) < (len : Int) := by omega
          rcases Nat.eq_zero_or_pos k with hk0 | hk0
          · have hk1 : ((k : Int) == 0) = true := by rw [hk0]; rfl
            clear hk0
            go_wp2_with fail
            go_ret2
            exact ⟨LineRet.un xs, rfl⟩
          · have hk1 : ((k : Int) == 0) = false := beq_eq_false_iff_ne.2 (by omega)
            obtain ⟨n, hn⟩ : ∃ n, k = n + 1 := ⟨k - 1, by omega⟩
            have hkn : (k : Int) - 1 = (n : Int) := by omega
            have hcn := HC.out n (by omega)
            have hnl : (n : Int) < (len : Int) := by omega
            have hnc : n ≤ cap := by omega
            obtain ⟨d, hd⟩ : ∃ d, xs.getD n 0 = d := ⟨_, rfl⟩
            rw [hd] at hcn
            have DV := Lib.hid hd
            have HN := Lib.hid hn
            have hsl : ∀ W, (Instr.slice 22 (.slice (some ⟨b, off, none⟩) len cap) none (some (.int .i64 n)) none).run Tryd.prog W = .ok (.slice (some ⟨b, off, none⟩) n cap) W := fun W => run_to W _ len cap n hnc rfl
            clear hd hn
            by_cases h13 : d = 13
            · subst h13
              go_wp2_with fail
              go_loop [2, 44] (fun u v => ∃ j : Nat, j ≤ n ∧ v = .int .i64 j ∧ u = .int .i64 n ∧ Hid (13 ∉ xs.take j)) (fun _ v => n - (intOf v).toNat)
              case atStart => exact ⟨0, Nat.zero_le _, rfl, rfl, by show 13 ∉ xs.take 0; simp⟩
              case round =>
                obtain ⟨j, hj, rfl, rfl, hno⟩ := hrel
                by_cases hjn : j < n
                · have hcj := HC.out j (by omega)
                  obtain ⟨f, hf⟩ : ∃ f, xs.getD j 0 = f := ⟨_, rfl⟩
                  rw [hf] at hcj
                  have HFj := Lib.hid hf
                  clear hf
                  by_cases hf13 : f = 13
                  · have hf1 : (f == 13) = true := beq_iff_eq.2 hf13
                    clear hf13
                    go_wp2_with fail
                    go_ret2
                    exact ⟨LineRet.un xs, rfl⟩
                  · have hf1 : (f == 13) = false := beq_eq_false_iff_ne.2 hf13
                    have hno' : Hid (13 ∉ xs.take (j + 1)) := by
                      show 13 ∉ xs.take (j + 1)
                      have hjx : j < xs.length := by rw [h1'.out]; omega
                      rw [List.take_succ_eq_append_getElem hjx, List.mem_append]
                      rintro (h | h)
                      · exact hno.out h
                      · have := HFj.out
                        rw [List.getD, List.getElem?_eq_getElem hjx, Option.getD_some] at this
                        simp at h
                        rw [← h] at this
                        exact hf13 this.symm
                    clear hf13
                    go_wp2_with fail
                    go_round
                    case rel => exact ⟨j + 1, by omega, by go_num, rfl, hno'⟩
                    case measure => simp [intOf]; omega
                · obtain rfl : j = n := by omega
                  go_wp2_with fail
                  go_ret2
                  have LA := lineAns_whole HM.out (by omega) (by rw [h1'.out]; exact hlt) HN.out DV.out hno.out
                  refine ⟨⟨j, 0, ?_, LA⟩, rfl⟩
                  rfl
            · have h13' : (d == 13) = false := beq_eq_false_iff_ne.2 h13
              go_wp2_with fail
              go_ret2
              exact ⟨LineRet.un xs, rfl⟩
      · have hk' : k + 1 ≤ ix xs 10 := by
          rcases Nat.eq_or_lt_of_le hk with e | e
          · have := ix_at (xs := xs) (c := 10) (by rw [← e, h1'.out]; exact hlt)
            rw [← e, CV.out] at this
            exact absurd this hy
          · exact e
        have hy1 : (c == 10) = false := beq_eq_false_iff_ne.2 hy
        have HK := Lib.hid hk'
        clear hk' hy hc h5 hi
        go_wp2_with fail
        go_round
        case rel => exact ⟨k + 1, HK.out, by go_num⟩
        case measure => simp [intOf]; omega
    · have hkl : k = len := by omega
      have hm : ix xs 10 = xs.length := by rw [h1'.out]; omega
      have HM := Lib.hid hm
      have hke : ((k : Int) == (len : Int)) = true := by rw [hkl]; simp
      have KL := Lib.hid hkl
      clear hm hi h5 h6 hk
      by_cases hb : 4000 < k
      · have hb' : (4000 : Int) < (k : Int) := by omega
        clear hkl
        go_wp2_with fail
        go_ret2
        exact ⟨LineRet.un xs, rfl⟩
      · have hb' : ¬ (4000 : Int) < (k : Int) := by omega
        clear hkl
        go_wp2_with fail
        go_ret2
        exact ⟨⟨0, 2, rfl, lineAns_cut HM.out (by rw [h1'.out]; have := KL.out; omega)⟩, rfl⟩
end Go.Proofs.YtjajhpgodijeoaaDoor
