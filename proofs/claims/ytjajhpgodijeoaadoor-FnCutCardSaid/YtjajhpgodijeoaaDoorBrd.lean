/-
  Reading from the buffered reader.
-/
import Derived.Test.YtjajhpgodijeoaaDoorFil
namespace Go.Proofs.YtjajhpgodijeoaaDoor
open Go.RowKit

theorem Blk.heq {w w' : World} {b : Nat} {cs : List Value} {t : TypeId} (h : Blk w b cs t) (e : w'.heap = w.heap) : Blk w' b cs t := by
  unfold Blk at h ⊢
  rw [e, h]
theorem cells_take (xs : List Int) (n : Nat) : cells (xs.take n) = (cells xs).take n := by simp [cells, List.map_take]
theorem cells_drop (xs : List Int) (n : Nat) : cells (xs.drop n) = (cells xs).drop n := by simp [cells, List.map_drop]
theorem take_cells {cs : List Value} {r n : Nat} {ys : List Int} (h : (cs.drop r).take ys.length = cells ys) (hn : n ≤ ys.length) : (cs.drop r).take n = cells (ys.take n) := by
  rw [cells_take, ← h, List.take_take, Nat.min_eq_left hn]
theorem drop_cells {cs : List Value} {r n : Nat} {ys : List Int} (h : (cs.drop r).take ys.length = cells ys) : (cs.drop (r + n)).take (ys.drop n).length = cells (ys.drop n) := by
  rw [cells_drop, ← h, List.drop_take, List.drop_drop, List.length_drop]
theorem cell_of {cs : List Value} {r j : Nat} {ys : List Int} (h : (cs.drop r).take ys.length = cells ys) (hj : j < ys.length) : cs[r + j]? = some (.int .u8 (ys.getD j 0)) := by
  have : (cells ys)[j]? = some (.int .u8 (ys.getD j 0)) := by
    simp [cells, List.getElem?_map, List.getD, List.getElem?_eq_getElem hj]
  have h1 := take_getElem? h this
  rwa [List.getElem?_drop] at h1

/-- What reading gives. -/
def Got (A B C base Pb : Nat) (ps : List Value) (tP : TypeId) (off len : Nat) (s : List Int) (e0 : Addr) (e : Ending) (w' : World) : Prop :=
  (s = [] ∧ e = .returned (.tuple #[.int .i64 0, .iface 102 (.pointer (some e0))]) ∧ (∃ r v, St w' A B C base r v .nilIface [] []) ∧ Blk w' Pb ps tP) ∨
  ∃ n r v ys zs, 1 ≤ n ∧ n ≤ len ∧ n ≤ s.length ∧ e = .returned (.tuple #[.int .i64 (n : Nat), .nilIface]) ∧ St w' A B C base r v .nilIface ys zs ∧ ys ++ zs = s.drop n ∧ Blk w' Pb (splice ps off (cells (s.take n))) tP

set_option maxHeartbeats 1000000 in
set_option maxRecDepth 100000 in
/-- Out of the buffer. -/
theorem read_buf {w : World} {A B C base r v Pb off len cap : Nat} {ps : List Value} {tP : TypeId} {ys zs : List Int} {e0 : Addr} (h : St w A B C base r v .nilIface ys zs) (hy : 0 < ys.length)
    (hP : Blk w Pb ps tP) (hfit : off + len ≤ ps.length) (hl0 : 0 < len) (hPA : Pb ≠ A) (hPB : Pb ≠ B) (hPC : Pb ≠ C) (hPb : base ≤ Pb) :
    Calls Tryd.prog 48 #[.pointer (some ⟨B, 0, none⟩), .slice (some ⟨Pb, off, none⟩) len cap] w fun e w' => Got A B C base Pb ps tP off len (ys ++ zs) e0 e w' ∧ Fr [A, B, C, Pb] w w' := by
  obtain ⟨⟨lb, lr, b⟩, ⟨cs, c, c2, c3⟩, ⟨ra, rl, rc, pa, pl, pc, k, un⟩, h1, h2, h3, h4, h5, h6, h7, h8, h9⟩ := h
  obtain ⟨n, hn⟩ : ∃ n, n = Nat.min (v - r) len := ⟨_, rfl⟩
  have hvr : v - r = ys.length := by omega
  have hnr : n ≤ ys.length := by rw [hn, hvr]; exact Nat.min_le_left _ _
  have hnl : n ≤ len := by rw [hn]; exact Nat.min_le_right _ _
  have hn1 : 1 ≤ n := by rw [hn, hvr]; exact Nat.le_min.2 ⟨hy, hl0⟩
  obtain ⟨q, hq⟩ : ∃ q, r + n = q + 1 := ⟨r + n - 1, by omega⟩
  have HQ := Lib.hid hq
  have hq4 : (q : Int) < 4096 := by omega
  have hq0 : (0 : Int) ≤ (q : Int) := by omega
  obtain ⟨m, hm⟩ : ∃ m, m = r + n := ⟨_, rfl⟩
  have HM := Lib.hid hm
  have hrn : (r : Int) + (n : Int) = (m : Int) := by omega
  have hmq : (m : Int) - 1 = (q : Int) := by omega
  obtain ⟨y, hcq⟩ : ∃ y : Int, cs[q]? = some (.int .u8 y) := ⟨_, by have := cell_of c3 (j := n - 1) (by omega); rwa [show r + (n - 1) = q by omega] at this⟩
  have hcl : (cells (ys.take n)).length = n := by rw [cells_len, List.length_take]; omega
  have HN : Hid ((cells (ys.take n)).length = Nat.min (v - r) len) := hcl.trans hn
  have HL := Lib.hid hcl
  have hB0 := b.cell (i := 0) rfl
  have hB2 := b.cell (i := 2) rfl
  have hB3 := b.cell (i := 3) rfl
  have hrv : ((r : Int) == (v : Int)) = false := beq_eq_false_iff_ne.2 (by omega)
  have hlen0 : ((len : Int) == 0) = false := beq_eq_false_iff_ne.2 (by omega)
  have hsl : ∀ W, (Instr.slice 22 (.slice (some ⟨C, 0, none⟩) 4096 4096) (some (.int .i64 r)) (some (.int .i64 v)) none).run Tryd.prog W = .ok (.slice (cutAt (some ⟨C, 0, none⟩) 4096 r) (v - r) (4096 - r)) W := fun W => run_sub W _ 4096 4096 r v (by omega) h2 rfl rfl
  have HST : Hid (St w A B C base r v .nilIface ys zs) := ⟨⟨lb, lr, b⟩, ⟨cs, c, c2, c3⟩, ⟨ra, rl, rc, pa, pl, pc, k, un⟩, h1, h2, h3, h4, h5, h6, h7, h8, h9⟩
  have HC := Lib.hid c
  have HC2 := Lib.hid c2
  have HC3 := Lib.hid c3
  have HCQ := Lib.hid hcq
  have HB := Lib.hid b
  have HU := Lib.hid un
  have HP := Lib.hid hP
  have h6' := Ne.symm h6
  clear b c c2 c3 un hP h3 hn hvr hcl h1 hcq hm hq
  go_enter Tryd.func48, Tryd.ntmps48
  go_wp2_with fail
  go_quiet (fail)
  all_goals go_wp2_with fail
  go_region_held3 (fun w' => w'.cell? ⟨B, 0, none⟩ = some (.slice (some ⟨C, 0, none⟩) 4096 4096) ∧ w'.cell? ⟨B, 2, none⟩ = some (.int .i64 r) ∧ w'.cell? ⟨B, 3, none⟩ = some (.int .i64 v)) (go_keep)
    ((refine step_copy_blk rfl (.tmp 109) (.tmp 122) 22 22 rfl 5 Tryd.underlying22 Tryd.size5 (some ⟨Pb, off, none⟩) (cutAt (some ⟨C, 0, none⟩) 4096 r) len cap (v - r) (4096 - r) (by simp [Act.eval]) (by simp [Act.eval]) Pb off ps tP (by exact HP.out) (cells (ys.take n)) HN.out (fun h => ⟨rfl, buf_src (by exact HC.out) HC2.out (take_cells HC3.out hnr) h⟩) (by rw [HL.out]; omega) (cells_one _) ?_; intro w4 hg4 hf4; rw [HL.out]; have b4 := hf4.blk (Blk.heq HB.out rfl) (by simpa using Ne.symm hPB); have hB0 := b4.cell (i := 0) rfl; have hB2 := b4.cell (i := 2) rfl; have hB3 := b4.cell (i := 3) rfl; have hB5 := b4.cell (i := 5) rfl; have hB6 := b4.cell (i := 6) rfl; have fB2 := b4.frozen 2; have fB5 := b4.frozen 5; have fB6 := b4.frozen 6; have hCq := (hf4.blk (Blk.heq HC.out rfl) (by simpa using Ne.symm hPC)).cell HCQ.out; have HB4 := Lib.hid b4; have HF4 := Lib.hid hf4; clear b4 hf4))
  go_wp2_with fail
  have b5 := HB4.out.set 2 (.int .i64 m)
  have F5 := Lib.hid ((Fr.refl [B] w4).setCell (b := B) (i := 2) (by simp) (.int .i64 m))
  have hC5 := F5.out.cell hCq (by simpa using h6')
  clear hB0 hB2 hB3 hB5 hB6 fB2 fB5 fB6 hCq
  generalize w4.setCell ⟨B, 2, none⟩ (.int .i64 m) = w5 at b5 F5 hC5 ⊢
  have hB0 := b5.cell (i := 0) rfl
  have hB2 := b5.cell (i := 2) rfl
  have hB5 := b5.cell (i := 5) rfl
  have hB6 := b5.cell (i := 6) rfl
  have fB5 := b5.frozen 5
  have fB6 := b5.frozen 6
  have HB5 := Lib.hid b5
  clear b5
  go_region
  go_wp2
  go_ret2
  have FF : ∀ u x, Fr [B] w5 (((w5.drew).setCell ⟨B, 5, none⟩ u).setCell ⟨B, 6, none⟩ x) := fun u x => (((Fr.refl [B] _).drew).setCell (by simp) _).setCell (by simp) _
  have G4 : Fr [Pb] w w4 := HF4.out.ofEq rfl rfl rfl rfl
  have G5 : Fr [B, Pb] w w5 := (G4.mono (by simp)).trans (F5.out.mono (by simp))
  refine ⟨.inr ⟨n, m, v, ys.drop n, zs, hn1, hnl, by simp; omega, rfl, ?_, by rw [List.drop_append_of_le_length hnr], ?_⟩, ?_⟩
  · refine ⟨⟨_, _, (HB5.out.set 5 _).set 6 _⟩, ⟨cs, (FF _ _).blk (G5.blk HC.out (by simp [h6', Ne.symm hPC])) (by simpa using h6'), HC2.out, ?_⟩, ⟨ra, rl, rc, pa, pl, pc, k, (HU.out.fr G5 (by simp [h4, Ne.symm hPA]) (by simp [h8, hPb])).fr (FF _ _) (by simpa using h4) (by simpa using h8)⟩, ?_, h2, ?_, h4, h5, h6, h7, h8, h9⟩
    · rw [HM.out]
      exact drop_cells HC3.out
    · have := HST.out.len
      rw [HM.out, List.length_drop]
      omega
    · exact fun y hy => HST.out.bd y (List.mem_of_mem_drop hy)
  · rw [List.take_append_of_le_length hnr]
    exact (FF _ _).blk (F5.out.blk hg4.out (by simpa using hPB)) (by simpa using hPB)
  · exact (G5.mono (by simp)).trans ((FF _ _).mono (by simp))
end Go.Proofs.YtjajhpgodijeoaaDoor
