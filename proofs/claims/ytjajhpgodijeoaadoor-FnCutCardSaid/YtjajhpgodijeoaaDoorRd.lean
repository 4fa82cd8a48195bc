/-
  The reader of the thin package, called with a buffer.
-/
import Derived.Test.YtjajhpgodijeoaaDoorBlk
import Derived.Outline
import Derived.Deep.RegionWith
import Derived.Deep.RegionLaw
import Derived.Handy
import Derived.BigRegion
namespace Go.Proofs.YtjajhpgodijeoaaDoor
open Go.RowKit

theorem Tryd.size5 : (Tryd.prog.info? 5).map (·.size) = some 1 := by kernel_rfl

/-- Nothing is left. -/
theorem rd_end (A : Nat) (ra : Option Addr) (rc : Nat) (pa : Option Addr) (pl pc : Nat) (k : Int) (P : Value) (w : World) (base : Nat) (e0 e1 : Addr) (hG : Gl w base e0 e1)
    (hA : Blk w A [.slice ra 0 rc, .slice pa pl pc, .int .i64 k, .bool false] 52) :
    Calls Tryd.prog 46 #[.pointer (some ⟨A, 0, none⟩), P] w fun e w' => e = .returned (.tuple #[.int .i64 0, .iface 102 (.pointer (some e0))]) ∧ ∃ n, w' = w.drewN n := by
  have hA0 := hA.cell (i := 0) rfl
  have hA3 := hA.cell (i := 3) rfl
  have hg0 := hG.g0
  clear hA hG
  go_enter Tryd.func46, Tryd.ntmps46
  go_wp2_with fail
  go_quiet (fail)
  all_goals go_wp2
  go_ret2
  exact ⟨rfl, _, rfl⟩
set_option maxHeartbeats 1000000 in
/-- Something is left. -/
theorem rd_more (A Pb : Nat) (ra : Option Addr) (rl rc : Nat) (xs : List Int) (pa : Option Addr) (pl pc : Nat) (k : Nat) (off len cap : Nat) (ps : List Value) (tP : TypeId) (w : World)
    (hA : Blk w A [.slice ra rl rc, .slice pa pl pc, .int .i64 k, .bool false] 52) (hS : SL w ra rl rc xs) (hI : IL w pa pl pc) (hr0 : 0 < rl) (hl0 : 0 < len) (hP : Blk w Pb ps tP) (hfit : off + len ≤ ps.length)
    (hcap : len ≤ cap) (hPA : Pb ≠ A) (hk : k + rl ≤ 2147483648) (hra : ∀ x, ra = some x → x.block ≠ A ∧ x.block ≠ Pb) :
    Calls Tryd.prog 46 #[.pointer (some ⟨A, 0, none⟩), .slice (some ⟨Pb, off, none⟩) len cap] w fun e w' =>
      ∃ n k' : Nat, 1 ≤ n ∧ n ≤ len ∧ n ≤ rl ∧ k' ≤ k + 1 ∧ e = .returned (.tuple #[.int .i64 n, .nilIface]) ∧
        Blk w' A [.slice (cutAt ra rc n) (rl - n) (rc - n), .slice pa pl pc, .int .i64 k', .bool false] 52 ∧ Blk w' Pb (splice ps off (cells (xs.take n))) tP ∧ Fr [A, Pb] w w' := by
  have hA0 := hA.cell (i := 0) rfl
  have hA1 := hA.cell (i := 1) rfl
  have hA2 := hA.cell (i := 2) rfl
  have fA0 := hA.frozen 0
  have fA2 := hA.frozen 2
  have hrl : ((rl : Int) == 0) = false := beq_eq_false_iff_ne.2 (by omega)
  obtain ⟨hrc, hrm⟩ := And.intro hS.hle hS.hmx
  obtain ⟨hpc, hpm⟩ := And.intro hI.hle hI.hmx
  unfold maxLen at hrm hpm
  rcases Nat.eq_zero_or_pos pl with h0 | h0
  · subst h0
    have HA := Lib.hid hA
    have HP := Lib.hid hP
    have HS := Lib.hid hS
    obtain ⟨n, hn⟩ : ∃ n, n = Nat.min rl len := ⟨_, rfl⟩
    have hnr : n ≤ rl := by rw [hn]; exact Nat.min_le_left _ _
    have hnl : n ≤ len := by rw [hn]; exact Nat.min_le_right _ _
    have hn1 : 1 ≤ n := by rw [hn]; exact Nat.le_min.2 ⟨hr0, hl0⟩
    have hcl : (cells (xs.take n)).length = n := by rw [cells_len]; simp [hS.hlen, hnr]
    have HN := Lib.hid (hcl.trans hn)
    have HCL := Lib.hid hcl
    have hfr : ∀ W, (Instr.slice 22 (.slice ra rl rc) (some (.int .i64 n)) none none).run Tryd.prog W = .ok (.slice (cutAt ra rc n) (rl - n) (rc - n)) W := fun W => run_from W ra rl rc n hnr rfl
    clear hA hI hP hS hn hcl
    go_enter Tryd.func46, Tryd.ntmps46
    go_wp2_with fail
    go_region_law (refine step_copy_blk rfl (.tmp 56) (.tmp 60) 22 22 rfl 5 Tryd.underlying22 Tryd.size5 (some ⟨Pb, off, none⟩) ra len cap rl rc (by simp [Act.eval]) (by simp [Act.eval]) Pb off ps tP (by exact HP.out) (cells (xs.take n)) HN.out (fun h => ⟨rfl, (HS.out.drewN _).src _ h⟩) (by rw [HCL.out]; omega) (cells_one _) ?_; intro w4 hg4 hf4; rw [HCL.out])
    have hA4 := hf4.blk (Blk.drewN HA.out _) (by simp; exact fun e => hPA e.symm)
    have hB0 := hA4.cell (i := 0) rfl
    have gB0 := hA4.frozen 0
    have HA4 := Lib.hid hA4
    have HF4 := Lib.hid hf4
    clear hA4 hf4 hA0 hA1 hA2 fA0 fA2
    go_wp2
    go_ret2
    exact ⟨n, k, hn1, hnl, hnr, by omega, rfl, HA4.out.set 0 _, hg4.out.other hPA _ _, ((HF4.out.of_drewN).mono (by simp)).setCell (by simp) _⟩
  · obtain ⟨hI1, hI2, hI3, hI4⟩ := hI
    obtain ⟨pb, po, rfl, hc⟩ := hI4 h0
    obtain ⟨j, hj⟩ : ∃ j, j = k % pl := ⟨_, rfl⟩
    have hjl : j < pl := by rw [hj]; exact Nat.mod_lt _ h0
    obtain ⟨z, hz⟩ := hc j hjl
    have hpl : ((pl : Int) == 0) = false := beq_eq_false_iff_ne.2 (by omega)
    have hkm : (k : Int) % (pl : Int) = (j : Int) := by rw [hj]; exact (Int.natCast_emod k pl).symm
    have hkt : (k : Int).tmod (pl : Int) = (j : Int) := by rw [hj]; exact (Int.ofNat_tmod k pl).symm
    have hp0 : ¬ pl = 0 := by omega
    have HA := Lib.hid hA
    have HP := Lib.hid hP
    have HS := Lib.hid hS
    clear hA hI1 hI2 hI3 hI4 hc hP hS hj
    have key : ∃ (q : Int) (m : Nat), q = m ∧ 1 ≤ m ∧ m ≤ len ∧ ((1 < z ∧ z < len ∧ z = q) ∨ (1 < z ∧ ¬ z < len ∧ (len : Int) = q) ∨ (¬ 1 < z ∧ 1 < len ∧ 1 = q) ∨ (¬ 1 < z ∧ ¬ 1 < len ∧ (len : Int) = q)) := by
      by_cases h1 : 1 < z
      · by_cases h2 : z < len
        · exact ⟨z, z.toNat, by omega, by omega, by omega, .inl ⟨h1, h2, rfl⟩⟩
        · exact ⟨len, len, by omega, by omega, by omega, .inr (.inl ⟨h1, h2, rfl⟩)⟩
      · by_cases h2 : 1 < len
        · exact ⟨1, 1, by omega, by omega, by omega, .inr (.inr (.inl ⟨h1, h2, rfl⟩))⟩
        · exact ⟨len, len, by omega, by omega, by omega, .inr (.inr (.inr ⟨h1, h2, rfl⟩))⟩
    obtain ⟨q, m, hq, hm1, hml, hcase⟩ := key
    have hhi : ∀ W, (Instr.slice 22 (.slice (some ⟨Pb, off, none⟩) len cap) none (some (.int .i64 q)) none).run Tryd.prog W = .ok (.slice (some ⟨Pb, off, none⟩) m cap) W := fun W => run_to W _ len cap m (by omega) hq
    clear hq
    obtain ⟨n, hn⟩ : ∃ n, n = Nat.min rl m := ⟨_, rfl⟩
    have hnr : n ≤ rl := by rw [hn]; exact Nat.min_le_left _ _
    have hnm : n ≤ m := by rw [hn]; exact Nat.min_le_right _ _
    have hn1 : 1 ≤ n := by rw [hn]; exact Nat.le_min.2 ⟨hr0, hm1⟩
    have hcl : (cells (xs.take n)).length = n := by rw [cells_len]; simp [HS.out.hlen, hnr]
    have HN := Lib.hid (hcl.trans hn)
    have HCL := Lib.hid hcl
    have hfr : ∀ W, (Instr.slice 22 (.slice ra rl rc) (some (.int .i64 n)) none none).run Tryd.prog W = .ok (.slice (cutAt ra rc n) (rl - n) (rc - n)) W := fun W => run_from W ra rl rc n hnr rfl
    clear hn hcl
    go_enter Tryd.func46, Tryd.ntmps46
    go_wp2_with fail
    have HSK := Lib.hid (HS.out.fr ((Fr.refl [A] w).setCell (b := A) (i := 2) (by simp) (.int .i64 ((k : Int) + 1))) (fun x hx => by simpa using (hra x hx).1))
    have HPK := Lib.hid (HP.out.other hPA 2 (.int .i64 ((k : Int) + 1)))
    have HAK := Lib.hid (HA.out.set 2 (.int .i64 ((k : Int) + 1)))
    have HFK := Lib.hid ((Fr.refl [A, Pb] w).setCell (b := A) (i := 2) (by simp) (.int .i64 ((k : Int) + 1)))
    rcases hcase with ⟨hz1, hz2, rfl⟩ | ⟨hz1, hz2, rfl⟩ | ⟨hz1, hz2, rfl⟩ | ⟨hz1, hz2, rfl⟩
    all_goals
      go_region
      go_wp2_with fail
      go_region_law (refine step_copy_blk rfl (.tmp 56) (.tmp 60) 22 22 rfl 5 Tryd.underlying22 Tryd.size5 (some ⟨Pb, off, none⟩) ra _ cap rl rc (by simp [Act.eval]) (by simp [Act.eval]) Pb off ps tP (by exact HPK.out) (cells (xs.take n)) HN.out (fun h => ⟨rfl, (HSK.out.heq rfl).src _ h⟩) (by rw [HCL.out]; omega) (cells_one _) ?_; intro w4 hg4 hf4; rw [HCL.out])
      have hA4 := hf4.blk (by exact HAK.out) (by simp; exact fun e => hPA e.symm)
      have hB0 := hA4.cell (i := 0) rfl
      have gB0 := hA4.frozen 0
      have HA4 := Lib.hid hA4
      have HF4 := Lib.hid hf4
      clear hA4 hf4 hA0 hA1 hA2 fA0 fA2
      go_wp2
      go_ret2
      exact ⟨n, k + 1, hn1, by omega, hnr, by omega, rfl, HA4.out.set 0 _, hg4.out.other hPA _ _, (HFK.out.trans ((HF4.out.mono (S' := [A, Pb]) (by simp)).ofEq rfl rfl rfl rfl)).setCell (by simp) _⟩
end Go.Proofs.YtjajhpgodijeoaaDoor
