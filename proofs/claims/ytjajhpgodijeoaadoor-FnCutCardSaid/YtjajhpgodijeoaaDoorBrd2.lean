/-
  Reading from the buffered reader where its buffer is empty: straight from beneath.
-/
import Derived.Test.YtjajhpgodijeoaaDoorBrd
namespace Go.Proofs.YtjajhpgodijeoaaDoor
open Go.RowKit

theorem splice_at {ps : List Value} {off j : Nat} {xs : List Int} (ho : off ≤ ps.length) (hj : j < xs.length) : (splice ps off (cells xs))[off + j]? = some (.int .u8 (xs.getD j 0)) := by
  unfold splice
  rw [List.getElem?_append_right (by simp; omega), List.getElem?_append_left (by simp [cells]; omega)]
  simp only [List.length_take, Nat.min_eq_left ho, Nat.add_sub_cancel_left]
  simp [cells, List.getElem?_map, List.getD, List.getElem?_eq_getElem hj]

set_option maxHeartbeats 1000000 in
set_option maxRecDepth 100000 in
/-- Straight from beneath. -/
theorem read_straight {w : World} {A B C base r Pb off len cap : Nat} {ps : List Value} {tP : TypeId} {zs : List Int} {e0 e1 : Addr} (hG : Gl w base e0 e1) (h : St w A B C base r r .nilIface [] zs)
    (hP : Blk w Pb ps tP) (hfit : off + len ≤ ps.length) (hl0 : 4096 ≤ len) (hcap : len ≤ cap) (hPA : Pb ≠ A) (hPB : Pb ≠ B) (hPC : Pb ≠ C) (hPb : base ≤ Pb) :
    Calls Tryd.prog 48 #[.pointer (some ⟨B, 0, none⟩), .slice (some ⟨Pb, off, none⟩) len cap] w fun e w' => Got A B C base Pb ps tP off len zs e0 e w' ∧ Fr [A, B, C, Pb] w w' := by
  obtain ⟨⟨lb, lr, b⟩, ⟨cs, c, c2, c3⟩, ⟨ra, rl, rc, pa, pl, pc, k, un⟩, h1, h2, h3, h4, h5, h6, h7, h8, h9⟩ := h
  have hB0 := b.cell (i := 0) rfl
  have hB1 := b.cell (i := 1) rfl
  have hB2 := b.cell (i := 2) rfl
  have hB3 := b.cell (i := 3) rfl
  have hB4 := b.cell (i := 4) rfl
  have fB4 := b.frozen 4
  have hlen0 : ((len : Int) == 0) = false := beq_eq_false_iff_ne.2 (by omega)
  have hlen1 : ((len : Int) ≥ 4096) = True := by simp; omega
  have HST : Hid (St w A B C base r r .nilIface [] zs) := ⟨⟨lb, lr, b⟩, ⟨cs, c, c2, c3⟩, ⟨ra, rl, rc, pa, pl, pc, k, un⟩, h1, h2, h3, h4, h5, h6, h7, h8, h9⟩
  have HC := Lib.hid c
  have HC2 := Lib.hid c2
  have HB := Lib.hid b
  have HU := Lib.hid un
  have HP := Lib.hid hP
  have HG := Lib.hid hG
  have h6' := Ne.symm h6
  clear b c c2 c3 un hP h3 h1 hG
  rcases Nat.eq_zero_or_pos rl with r0 | r0
  · subst r0
    obtain rfl : zs = [] := List.eq_nil_of_length_eq_zero HU.out.sl.hlen
    go_enter Tryd.func48, Tryd.ntmps48
    go_wp2_with fail
    go_quiet (fail)
    all_goals go_wp2_with (first | (go_at_call 46; refine (rd_end A ra rc pa pl pc k _ _ base e0 e1 ?_ ?_).mono ?_; exact HG.out.below (below_drewN (Below.refl _ _) _); exact HU.out.blk.drewN _; rintro e w6 ⟨rfl, n6, rfl⟩) | (go_at_call 51; refine (readErr_any (A := A) (B := B) (C := C) (base := base) (r := r) (v := r) (err := .iface 102 (.pointer (some e0))) (ys := []) (zs := []) ?_).mono ?_; exact HST.out.reB (((Fr.refl [B] w).drewN _).setCell (by simp) _) ⟨lb, lr, (HB.out.drewN _).set 4 _⟩; rintro e w7 ⟨rfl, hs7, hf7⟩))
    go_ret2
    have F0 : Fr [B] w _ := (((Fr.refl [B] w).drewN _).setCell (by simp) _).trans hf7
    exact ⟨.inl ⟨rfl, rfl, ⟨_, _, hs7⟩, F0.blk HP.out (by simpa using hPB)⟩, F0.mono (by simp)⟩
  · obtain ⟨hu1, hu2, hu3, hu4, hu5, hu6⟩ := HU.out
    have UB := Lib.hid hu1
    clear hu1
    have hq : ∀ n : Nat, 1 ≤ n → n ≤ len → ∃ q : Nat, n = q + 1 ∧ (q : Int) < len := fun n h1 _ => ⟨n - 1, by omega, by omega⟩
    have HQ := Lib.hid hq
    have LT : Hid (∀ q n : Nat, q < n → n ≤ rl → q < (zs.take n).length) := fun q n h1 h2 => by rw [List.length_take, hu2.hlen]; omega
    have R5 : Hid (∀ x, ra = some x → x.block ≠ A ∧ x.block ≠ Pb) := fun x hx => by have := hu5 r0 x hx; omega
    clear hq
    go_enter Tryd.func48, Tryd.ntmps48
    go_wp2_with fail
    go_quiet (fail)
    all_goals go_wp2_with fail
    go_at_call 46
    refine (rd_more A Pb ra rl rc zs pa pl pc k off len cap ps tP _ (UB.out.drewN _) (hu2.drewN _) (hu3.fr ((Fr.refl [] _).drewN _) (by simp)) r0 (by omega) (HP.out.drewN _) hfit hcap hPA hu4 R5.out).mono ?_
    rintro e w6 ⟨n, k6, hm1, hm2, hm3, hm4, rfl, hm5, hm6, hm7⟩
    have b6 := hm7.blk (HB.out.drewN _) (by simp [Ne.symm h4, Ne.symm hPB])
    have hB0 := b6.cell (i := 0) rfl
    have hB4 := b6.cell (i := 4) rfl
    have hB5 := b6.cell (i := 5) rfl
    have hB6 := b6.cell (i := 6) rfl
    have fB4 := b6.frozen 4
    have fB5 := b6.frozen 5
    have fB6 := b6.frozen 6
    obtain ⟨q, hq, hq1⟩ := HQ.out n hm1 hm2
    have hpq := hm6.cell (splice_at (by omega) (j := q) (LT.out q n (by omega) (by omega)))
    have HB6 := Lib.hid b6
    have HM5 := Lib.hid hm5
    have HM6 := Lib.hid hm6
    have HM7 := Lib.hid hm7
    have hnq : (n : Int) - 1 = (q : Int) := by omega
    have hn0 : (0 : Int) < (n : Int) := by omega
    have HQE := Lib.hid hq
    clear b6 hm5 hm6 hm7 hq
    have F6 : Fr [A, Pb] w w6 := HM7.out.of_drewN
    have S6 : Hid (St w6 A B C base r r .nilIface [] (zs.drop n)) := by
      refine ⟨⟨lb, lr, HB6.out⟩, ⟨cs, F6.blk HC.out (by simp [Ne.symm h5, Ne.symm hPC]), HC2.out, by simp [cells]⟩, ⟨_, _, _, _, _, _, k6, HM5.out, (hu2.cut hm3).fr F6 (fun x hx hm => ?_), hu3.fr0 F6 (fun hp x hx hm => ?_), by omega, ?_, hu6⟩, HST.out.len, h2, by simp, h4, h5, h6, h7, h8, h9⟩
      · obtain ⟨y, hy, hxy⟩ := cutAt_block hx
        have := hu5 r0 y hy
        simp at hm
        omega
      · have := hu6 hp x hx
        simp at hm
        omega
      · intro _ x hx
        obtain ⟨y, hy, hxy⟩ := cutAt_block hx
        have := hu5 r0 y hy
        omega
    go_wp2_with (go_at_call 51; refine (readErr_any (A := A) (B := B) (C := C) (base := base) (r := r) (v := r) (err := .nilIface) (ys := []) (zs := zs.drop n) ?_).mono ?_; exact S6.out.reB ((((Fr.refl [B] w6).setCell (by simp) _).setCell (by simp) _).setCell (by simp) _) ⟨_, _, ((HB6.out.set 4 _).set 5 _).set 6 _⟩; rintro e w7 ⟨rfl, hs7, hf7⟩)
    go_ret2
    have F7 : Fr [B] w6 w7 := ((((Fr.refl [B] w6).setCell (by simp) _).setCell (by simp) _).setCell (by simp) _).trans hf7
    exact ⟨.inr ⟨n, r, r, [], zs.drop n, hm1, hm2, by rw [hu2.hlen]; exact hm3, rfl, hs7, rfl, F7.blk HM6.out (by simpa using hPB)⟩, (F6.mono (by simp)).trans (F7.mono (by simp))⟩
end Go.Proofs.YtjajhpgodijeoaaDoor
