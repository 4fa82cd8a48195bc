/-
  Reading from the buffered reader where its buffer is empty: the buffer is filled.
-/
import Derived.Test.YtjajhpgodijeoaaDoorBrd2
namespace Go.Proofs.YtjajhpgodijeoaaDoor
open Go.RowKit

set_option maxHeartbeats 1000000 in
set_option maxRecDepth 100000 in
/-- By way of the buffer. -/
theorem read_fill {w : World} {A B C base r Pb off len cap : Nat} {ps : List Value} {tP : TypeId} {zs : List Int} {e0 e1 : Addr} (hG : Gl w base e0 e1) (h : St w A B C base r r .nilIface [] zs)
    (hP : Blk w Pb ps tP) (hfit : off + len ≤ ps.length) (hl0 : 0 < len) (hl1 : len < 4096) (hPA : Pb ≠ A) (hPB : Pb ≠ B) (hPC : Pb ≠ C) (hPb : base ≤ Pb) :
    Calls Tryd.prog 48 #[.pointer (some ⟨B, 0, none⟩), .slice (some ⟨Pb, off, none⟩) len cap] w fun e w' => Got A B C base Pb ps tP off len zs e0 e w' ∧ Fr [A, B, C, Pb] w w' := by
  obtain ⟨⟨lb, lr, b⟩, ⟨cs, c, c2, c3⟩, ⟨ra, rl, rc, pa, pl, pc, k, un⟩, h1, h2, h3, h4, h5, h6, h7, h8, h9⟩ := h
  have hB0 := b.cell (i := 0) rfl
  have hB1 := b.cell (i := 1) rfl
  have hB2 := b.cell (i := 2) rfl
  have hB3 := b.cell (i := 3) rfl
  have hB4 := b.cell (i := 4) rfl
  have fB2 := b.frozen 2
  have fB3 := b.frozen 3
  have hlen0 : ((len : Int) == 0) = false := beq_eq_false_iff_ne.2 (by omega)
  have hlen1 : ((len : Int) ≥ 4096) = False := by simp; omega
  have HST : Hid (St w A B C base r r .nilIface [] zs) := ⟨⟨lb, lr, b⟩, ⟨cs, c, c2, c3⟩, ⟨ra, rl, rc, pa, pl, pc, k, un⟩, h1, h2, h3, h4, h5, h6, h7, h8, h9⟩
  have HC := Lib.hid c
  have HC2 := Lib.hid c2
  have HB := Lib.hid b
  have HU := Lib.hid un
  have HP := Lib.hid hP
  have HG := Lib.hid hG
  have h6' := Ne.symm h6
  clear b c c2 c3 un hP h3 h1 hG
  go_enter Tryd.func48, Tryd.ntmps48
  go_wp2_with fail
  go_quiet (fail)
  all_goals go_wp2_with fail
  have b5 := ((HB.out.drewN nq).set 2 (.int .i64 0)).set 3 (.int .i64 0)
  have F5 := Lib.hid ((((Fr.refl [B] w).drewN nq).setCell (b := B) (i := 2) (by simp) (.int .i64 0)).setCell (b := B) (i := 3) (by simp) (.int .i64 0))
  clear hB0 hB1 hB2 hB3 hB4 fB2 fB3
  generalize (((w.drewN nq).setCell ⟨B, 2, none⟩ (.int .i64 0)).setCell ⟨B, 3, none⟩ (.int .i64 0)) = w5 at b5 F5 ⊢
  have hB0 := b5.cell (i := 0) rfl
  have hB1 := b5.cell (i := 1) rfl
  have hB3 := b5.cell (i := 3) rfl
  have hB4 := b5.cell (i := 4) rfl
  have fB4 := b5.frozen 4
  have HB5 := Lib.hid b5
  have G5 := Lib.hid (HG.out.below (F5.out.below (B := base) (by have := HU.out.blk.lt; omega) (by simp [h8])))
  have U5 := Lib.hid (HU.out.fr F5.out (by simpa using h4) (by simpa using h8))
  clear b5
  rcases Nat.eq_zero_or_pos rl with r0 | r0
  · subst r0
    obtain rfl : zs = [] := List.eq_nil_of_length_eq_zero HU.out.sl.hlen
    go_region_held3 (fun w' => w'.cell? ⟨B, 0, none⟩ = some (.slice (some ⟨C, 0, none⟩) 4096 4096) ∧ w'.cell? ⟨B, 1, none⟩ = some (.iface 50 (.pointer (some ⟨A, 0, none⟩)))) (first | go_keep | simp [World.cell?_setCell_other, *]) ((go_at_call 46; refine (rd_end A ra rc pa pl pc k _ _ base e0 e1 ?_ ?_).mono ?_; exact G5.out.below (below_drewN (Below.refl _ _) _); exact U5.out.blk.heq rfl; rintro e w6 ⟨rfl, n6, rfl⟩))
    have S5 : Hid (St w5 A B C base 0 0 .nilIface [] []) := ⟨⟨lb, lr, HB5.out⟩, ⟨cs, F5.out.blk HC.out (by simpa using h6'), HC2.out, by simp [cells]⟩, ⟨_, _, _, _, _, _, _, U5.out⟩, rfl, by omega, by simp, h4, h5, h6, h7, h8, h9⟩
    go_wp2_with fail
    refine (readErr_any (A := A) (B := B) (C := C) (base := base) (r := 0) (v := 0) (err := .iface 102 (.pointer (some e0))) (ys := []) (zs := []) ?_).mono ?_
    · exact S5.out.reB (((Fr.refl [B] w5).drewN _).setCell (by simp) _) ⟨lb, lr, ((HB5.out.drewN _).set 4 _)⟩
    rintro e w7 ⟨rfl, hs7, hf7⟩
    go_wp2_with fail
    go_ret2
    have F7 : Fr [B] w5 w7 := (((Fr.refl [B] w5).drewN _).setCell (by simp) _).trans hf7
    have F8 : Fr [B] w w7 := F5.out.trans F7
    exact ⟨.inl ⟨rfl, rfl, ⟨_, _, hs7⟩, F8.blk HP.out (by simpa using hPB)⟩, F8.mono (by simp)⟩
  · obtain ⟨hu1, hu2, hu3, hu4, hu5, hu6⟩ := U5.out
    have UB := Lib.hid hu1
    have CB := Lib.hid (F5.out.blk HC.out (by simpa using h6'))
    have R5 : Hid (∀ x, ra = some x → x.block ≠ A ∧ x.block ≠ C) := fun x hx => by have := hu5 r0 x hx; omega
    have UC : Hid (C = A → False) := fun e => h5 e.symm
    have HLE : Hid (4096 ≤ cs.length) := Nat.le_of_eq HC2.out.symm
    clear hu1
    go_region_held3 (fun w' => w'.cell? ⟨B, 0, none⟩ = some (.slice (some ⟨C, 0, none⟩) 4096 4096) ∧ w'.cell? ⟨B, 1, none⟩ = some (.iface 50 (.pointer (some ⟨A, 0, none⟩)))) (first | go_keep | simp [World.cell?_setCell_other, *]) ((go_at_call 46; refine (rd_more A C ra rl rc zs pa pl pc k 0 4096 4096 cs 5 _ ?_ ?_ ?_ r0 (by omega) ?_ (by rw [Nat.zero_add]; exact HLE.out) (Nat.le_refl _) UC.out hu4 R5.out).mono ?_; exact UB.out.heq rfl; exact hu2.heq rfl; exact hu3.fr ((Fr.refl [] w5).heq rfl rfl rfl rfl) (by simp); exact CB.out.heq rfl; rintro e w6 ⟨n, k6, hm1, hm2, hm3, hm4, rfl, hm5, hm6, hm7⟩; have b6 := hm7.blk (HB5.out.heq rfl) (by simp [Ne.symm h4, h6]); have hB0 := b6.cell (i := 0) rfl; have hB1 := b6.cell (i := 1) rfl; have hB3 := b6.cell (i := 3) rfl; have hB4 := b6.cell (i := 4) rfl; have fB3 := b6.frozen 3; have fB4 := b6.frozen 4; have HB6 := Lib.hid b6; have HM5 := Lib.hid hm5; have HM6 := Lib.hid hm6; have HM7 := Lib.hid hm7; have hn0 : ((n : Int) == 0) = false := beq_eq_false_iff_ne.2 (by omega); clear b6 hm5 hm6 hm7))
    go_wp2_with fail
    have b7 := (HB6.out.set 4 .nilIface).set 3 (.int .i64 (n : Int))
    have F7 := Lib.hid (((Fr.refl [B] w6).setCell (b := B) (i := 4) (by simp) .nilIface).setCell (b := B) (i := 3) (by simp) (.int .i64 (n : Int)))
    clear hB0 hB1 hB3 hB4 fB3 fB4
    generalize ((w6.setCell ⟨B, 4, none⟩ .nilIface).setCell ⟨B, 3, none⟩ (.int .i64 (n : Int))) = w7 at b7 F7 ⊢
    have F6 : Fr [A, C] w5 w6 := HM7.out.ofEq rfl rfl rfl rfl
    have FR : Hid (Fr [A, B, C] w w7) := ((F5.out.mono (by simp)).trans (F6.mono (by simp))).trans (F7.out.mono (by simp))
    have hlz : (zs.take n).length = n := by rw [List.length_take, hu2.hlen]; omega
    have S7 : Hid (St w7 A B C base 0 n .nilIface (zs.take n) (zs.drop n)) := by
      refine ⟨⟨lb, lr, b7⟩, ⟨_, F7.out.blk HM6.out (by simpa using h6'), ?_, ?_⟩, ⟨_, _, _, _, _, _, k6, F7.out.blk HM5.out (by simpa using h4), ((hu2.cut hm3).fr F6 (fun x hx hm => ?_)).fr F7.out (fun x hx hm => ?_), (hu3.fr0 F6 (fun hp x hx hm => ?_)).fr0 F7.out (fun hp x hx hm => ?_), by omega, ?_, hu6⟩, by rw [hlz, Nat.zero_add], hm2, ?_, h4, h5, h6, h7, h8, h9⟩
      · rw [length_splice _ _ _ (by rw [cells_len, hlz, HC2.out]; omega), HC2.out]
      · simp only [splice, List.take_zero, List.nil_append, List.drop_zero]
        exact List.take_left' (cells_len _)
      · obtain ⟨y, hy, hxy⟩ := cutAt_block hx
        have := hu5 r0 y hy
        simp at hm
        omega
      · obtain ⟨y, hy, hxy⟩ := cutAt_block hx
        have := hu5 r0 y hy
        simp at hm
        omega
      · have := hu6 hp x hx
        simp at hm
        omega
      · have := hu6 hp x hx
        simp at hm
        omega
      · intro _ x hx
        obtain ⟨y, hy, hxy⟩ := cutAt_block hx
        have := hu5 r0 y hy
        omega
      · exact fun y hy => hu2.mem (List.mem_of_mem_take hy)
    have PB := Lib.hid (FR.out.blk HP.out (by simp [hPA, hPB, hPC]))
    clear b7
    obtain ⟨ys, hys⟩ : ∃ ys, ys = zs.take n := ⟨_, rfl⟩
    have YS := Lib.hid hys
    rw [← hys] at S7 hlz
    obtain ⟨⟨lb7, lr7, b7⟩, ⟨cs7, c7, d7, d8⟩, ⟨ra7, rl7, rc7, pa7, pl7, pc7, k7, un7⟩, _⟩ := S7.out
    obtain ⟨m, hm⟩ : ∃ m, m = Nat.min n len := ⟨_, rfl⟩
    have hmn : m ≤ n := by rw [hm]; exact Nat.min_le_left _ _
    have hml : m ≤ len := by rw [hm]; exact Nat.min_le_right _ _
    have hm0 : 1 ≤ m := by rw [hm]; exact Nat.le_min.2 ⟨hm1, hl0⟩
    obtain ⟨q, hq⟩ : ∃ q, m = q + 1 := ⟨m - 1, by omega⟩
    have hmq : (m : Int) - 1 = (q : Int) := by omega
    have hq4 : (q : Int) < 4096 := by omega
    have hq0 : (0 : Int) ≤ (q : Int) := by omega
    obtain ⟨y, hcq⟩ : ∃ y : Int, cs7[q]? = some (.int .u8 y) := ⟨_, by have := cell_of d8 (j := q) (by omega); rwa [Nat.zero_add] at this⟩
    have hcl : (cells (ys.take m)).length = m := by rw [cells_len, List.length_take]; omega
    have HN : Hid ((cells (ys.take m)).length = Nat.min n len) := hcl.trans hm
    have HL := Lib.hid hcl
    have c0 : cutAt (some ⟨C, 0, none⟩) 4096 0 = some ⟨C, 0, none⟩ := by simp [cutAt, Addr.add]
    have C0 := Lib.hid c0
    have hsl : ∀ W, (Instr.slice 22 (.slice (some ⟨C, 0, none⟩) 4096 4096) (some (.int .i64 0)) (some (.int .i64 n)) none).run Tryd.prog W = .ok (.slice (some ⟨C, 0, none⟩) n 4096) W := fun W => by
      rw [run_sub W _ 4096 4096 0 n (by omega) (by omega) (lo := 0) rfl rfl, c0, Nat.sub_zero, Nat.sub_zero]
    have hB0 := b7.cell (i := 0) rfl
    have hB2 := b7.cell (i := 2) rfl
    have hB3 := b7.cell (i := 3) rfl
    have HC7 := Lib.hid c7
    have HD7 := Lib.hid d7
    have HD8 := Lib.hid d8
    have HCQ := Lib.hid hcq
    have HB7 := Lib.hid b7
    have HU7 := Lib.hid un7
    have HMN := Lib.hid hm
    have HQ := Lib.hid hq
    have HLZ := Lib.hid hlz
    clear c7 d7 d8 hcq b7 un7 hm hq hcl c0 hlz hys
    go_region_held3 (fun w' => w'.cell? ⟨B, 0, none⟩ = some (.slice (some ⟨C, 0, none⟩) 4096 4096) ∧ w'.cell? ⟨B, 2, none⟩ = some (.int .i64 0) ∧ w'.cell? ⟨B, 3, none⟩ = some (.int .i64 n)) (go_keep)
      ((refine step_copy_blk rfl (.tmp 109) (.tmp 122) 22 22 rfl 5 Tryd.underlying22 Tryd.size5 (some ⟨Pb, off, none⟩) (some ⟨C, 0, none⟩) len cap n 4096 (by simp [Act.eval]) (by simp [Act.eval]) Pb off ps tP (by exact PB.out) (cells (ys.take m)) HN.out (fun h => ⟨rfl, C0.out ▸ buf_src (by exact HC7.out) HD7.out (take_cells HD8.out (by rw [HLZ.out]; exact hmn)) h⟩) (by rw [HL.out]; omega) (cells_one _) ?_; intro w8 hg8 hf8; rw [HL.out]; have b8 := hf8.blk (Blk.heq HB7.out rfl) (by simpa using Ne.symm hPB); have hB0 := b8.cell (i := 0) rfl; have hB2 := b8.cell (i := 2) rfl; have hB3 := b8.cell (i := 3) rfl; have hB5 := b8.cell (i := 5) rfl; have hB6 := b8.cell (i := 6) rfl; have fB2 := b8.frozen 2; have fB5 := b8.frozen 5; have fB6 := b8.frozen 6; have hCq := (hf8.blk (Blk.heq HC7.out rfl) (by simpa using Ne.symm hPC)).cell HCQ.out; have HB8 := Lib.hid b8; have HF8 := Lib.hid hf8; clear b8 hf8))
    go_wp2_with fail
    have b9 := HB8.out.set 2 (.int .i64 (m : Int))
    have F9 := Lib.hid ((Fr.refl [B] w8).setCell (b := B) (i := 2) (by simp) (.int .i64 (m : Int)))
    have hC9 := F9.out.cell hCq (by simpa using h6')
    clear hB0 hB2 hB3 hB5 hB6 fB2 fB5 fB6 hCq
    generalize w8.setCell ⟨B, 2, none⟩ (.int .i64 (m : Int)) = w9 at b9 F9 hC9 ⊢
    have hB0 := b9.cell (i := 0) rfl
    have hB2 := b9.cell (i := 2) rfl
    have hB5 := b9.cell (i := 5) rfl
    have hB6 := b9.cell (i := 6) rfl
    have fB5 := b9.frozen 5
    have fB6 := b9.frozen 6
    have HB9 := Lib.hid b9
    clear b9
    go_region
    go_wp2
    go_ret2
    have FF : ∀ u x, Fr [B] w9 (((w9.drew).setCell ⟨B, 5, none⟩ u).setCell ⟨B, 6, none⟩ x) := fun u x => (((Fr.refl [B] _).drew).setCell (by simp) _).setCell (by simp) _
    have K8 : Fr [Pb] w7 w8 := HF8.out.ofEq rfl rfl rfl rfl
    have K9 : Fr [B, Pb] w7 w9 := (K8.mono (by simp)).trans (F9.out.mono (by simp))
    have hyl : ys.length = n := HLZ.out
    have hs : ys ++ zs.drop n = zs := by rw [YS.out, List.take_append_drop]
    refine ⟨.inr ⟨m, m, n, ys.drop m, zs.drop n, hm0, hml, by have := hu2.hlen; omega, rfl, ?_, ?_, ?_⟩, ?_⟩
    · refine ⟨⟨_, _, (HB9.out.set 5 _).set 6 _⟩, ⟨cs7, (FF _ _).blk (K9.blk HC7.out (by simp [h6', Ne.symm hPC])) (by simpa using h6'), HD7.out, ?_⟩, ⟨_, _, _, _, _, _, _, (HU7.out.fr K9 (by simp [h4, Ne.symm hPA]) (by simp [h8, hPb])).fr (FF _ _) (by simpa using h4) (by simpa using h8)⟩, ?_, hm2, ?_, h4, h5, h6, h7, h8, h9⟩
      · have := drop_cells (n := m) HD8.out
        rwa [Nat.zero_add] at this
      · rw [List.length_drop]
        omega
      · exact fun y hy => S7.out.bd y (List.mem_of_mem_drop hy)
    · rw [← List.drop_append_of_le_length (by omega), hs]
    · have ht : zs.take m = ys.take m := by rw [← hs, List.take_append_of_le_length (by omega)]
      rw [ht]
      exact (FF _ _).blk (F9.out.blk hg8.out (by simpa using hPB)) (by simpa using hPB)
    · exact ((FR.out.mono (by simp)).trans (K9.mono (by simp))).trans ((FF _ _).mono (by simp))
end Go.Proofs.YtjajhpgodijeoaaDoor
