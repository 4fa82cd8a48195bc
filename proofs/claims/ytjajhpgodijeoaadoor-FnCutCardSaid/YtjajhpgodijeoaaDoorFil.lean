/-
  Filling the buffer.
-/
import Derived.Test.YtjajhpgodijeoaaDoorSt
import Derived.Test.YtjajhpgodijeoaaDoorRd
import Derived.Deep.RegionHeld3
namespace Go.Proofs.YtjajhpgodijeoaaDoor
open Go.RowKit

theorem take_getElem? {α : Type} {l m : List α} {n j : Nat} {x : α} (h : l.take n = m) (hx : m[j]? = some x) : l[j]? = some x := by
  subst h
  rw [List.getElem?_take] at hx
  split at hx
  · exact hx
  · cases hx

/-- The cells that copy takes of the buffer. -/
theorem buf_src {w : World} {C r n : Nat} {cs : List Value} {ys : List Int} (hc : Blk w C cs 5) (hl : cs.length = 4096) (h : (cs.drop r).take n = cells ys) (hp : 0 < (cells ys).length) :
    ∃ ad, cutAt (some ⟨C, 0, none⟩) 4096 r = some ad ∧ ∀ j v, (cells ys)[j]? = some v → w.cell? (ad.add j) = some v := by
  have hr : r < 4096 := by
    have h0 := congrArg List.length h
    simp only [List.length_take, List.length_drop] at h0
    omega
  refine ⟨⟨C, r, none⟩, ?_, fun j v hv => ?_⟩
  · simp only [cutAt, if_neg (by omega : ¬ 4096 = r), Option.map_some, Nat.mul_one, Addr.add_lit, Nat.zero_add]
  · rw [Addr.add_lit]
    have := take_getElem? h hv
    rw [List.getElem?_drop] at this
    exact hc.cell this

theorem St.reB {w w' : World} {A B C base r v : Nat} {err err' : Value} {ys zs : List Int} (h : St w A B C base r v err ys zs) (hf : Fr [B] w w') (hb : ∃ lb lr, Blk w' B (bB A C r v err' lb lr) 90) : St w' A B C base r v err' ys zs := by
  obtain ⟨_, ⟨cs, c, c2, c3⟩, ⟨ra, rl, rc, pa, pl, pc, k, un⟩, h1, h2, h3, h4, h5, h6, h7, h8, h9⟩ := h
  exact ⟨hb, ⟨cs, hf.blk c (by simpa using Ne.symm h6), c2, c3⟩, ⟨ra, rl, rc, pa, pl, pc, k, un.fr hf (by simpa using h4) (by simpa using h8)⟩, h1, h2, h3, h4, h5, h6, h7, h8, h9⟩

/-- What the buffer holds behind it. -/
def Filled (A B C base : Nat) (ys zs : List Int) (e0 : Addr) (w' : World) : Prop :=
  (zs = [] ∧ St w' A B C base 0 ys.length (.iface 102 (.pointer (some e0))) ys []) ∨
  ∃ n, 1 ≤ n ∧ n ≤ zs.length ∧ ys.length + n ≤ 4096 ∧ St w' A B C base 0 (ys.length + n) .nilIface (ys ++ zs.take n) (zs.drop n)

theorem cells_append (xs ys : List Int) : cells (xs ++ ys) = cells xs ++ cells ys := by simp [cells]
theorem splice_take {cs : List Value} {ys zs : List Int} {nb : Nat} (hn : nb = ys.length) (h : (cs.drop 0).take ys.length = cells ys) :
    ((splice cs nb (cells zs)).drop 0).take (ys ++ zs).length = cells (ys ++ zs) := by
  subst hn
  rw [List.drop_zero] at h
  rw [List.drop_zero, splice, h, cells_append, ← List.append_assoc]
  exact List.take_left' (by simp [cells])
theorem SL.mem {w : World} {a : Option Addr} {len cap : Nat} {xs : List Int} (h : SL w a len cap xs) {y : Int} (hy : y ∈ xs) : 0 ≤ y ∧ y ≤ 255 := by
  obtain ⟨i, hi, rfl⟩ := List.mem_iff_getElem.1 hy
  have := h.hbd i
  rwa [List.getD, List.getElem?_eq_getElem hi] at this

set_option maxHeartbeats 1000000 in
set_option maxRecDepth 100000 in
theorem fill_any {w : World} {A B C base r v : Nat} {ys zs : List Int} {e0 e1 : Addr} (hG : Gl w base e0 e1) (h : St w A B C base r v .nilIface ys zs) (hn : ys.length < 4096) :
    Calls Tryd.prog 49 #[.pointer (some ⟨B, 0, none⟩)] w fun e w' => e = .returned (.tuple #[]) ∧ Filled A B C base ys zs e0 w' ∧ Fr [A, B, C] w w' := by
  obtain ⟨⟨lb, lr, b⟩, ⟨cs, c, c2, c3⟩, ⟨ra, rl, rc, pa, pl, pc, k, un⟩, h1, h2, h3, h4, h5, h6, h7, h8, h9⟩ := h
  have hB0 := b.cell (i := 0) rfl
  have hB1 := b.cell (i := 1) rfl
  have hB2 := b.cell (i := 2) rfl
  have hB3 := b.cell (i := 3) rfl
  have fB2 := b.frozen 2
  have fB3 := b.frozen 3
  have fB4 := b.frozen 4
  obtain ⟨nb, hnb⟩ : ∃ nb, nb = ys.length := ⟨_, rfl⟩
  rw [← hnb] at hn h1
  have HNB := Lib.hid hnb
  have hbs : base ≤ w.heap.size := by have := un.blk.lt; omega
  rcases Nat.eq_zero_or_pos r with h0 | h0
  · subst h0
    obtain rfl : nb = v := by omega
    have H4 : St w A B C base 0 nb .nilIface ys zs := ⟨⟨lb, lr, b⟩, ⟨cs, c, c2, c3⟩, ⟨ra, rl, rc, pa, pl, pc, k, un⟩, by omega, h2, h3, h4, h5, h6, h7, h8, h9⟩
    have H5 := Lib.hid H4
    have HF := Lib.hid (Fr.refl [A, B, C] w)
    have HG := Lib.hid hG
    clear b c c2 c3 un hG h3 hnb H4
    go_enter Tryd.func49, Tryd.ntmps49
    go_wp2_with fail
    obtain ⟨⟨lb5, lr5, b5⟩, ⟨cs5, c5, d5, d6⟩, ⟨ra5, rl5, rc5, pa5, pl5, pc5, k5, un5⟩, _⟩ := H5.out
    have hB0 := b5.cell (i := 0) rfl
    have hB1 := b5.cell (i := 1) rfl
    have hB3 := b5.cell (i := 3) rfl
    have hB4 := b5.cell (i := 4) rfl
    have fB3 := b5.frozen 3
    have fB4 := b5.frozen 4
    have B5 := Lib.hid b5
    have C5 := Lib.hid c5
    have U5 := Lib.hid un5
    have D5 := Lib.hid d5
    have D6 := Lib.hid d6
    have hn' : ((nb : Int) ≥ 4096) = False := by simp; omega
    clear b5 c5 un5 d5 d6
    have hfr : ∀ W, (Instr.slice 22 (.slice (some ⟨C, 0, none⟩) 4096 4096) (some (.int .i64 nb)) none none).run Tryd.prog W = .ok (.slice (some ⟨C, nb, none⟩) (4096 - nb) (4096 - nb)) W := fun W => by
      rw [run_from W _ 4096 4096 nb (by omega) rfl]
      simp only [cutAt, if_neg (by omega : ¬ 4096 = nb), Option.map_some, Nat.mul_one, Addr.add_lit, Nat.zero_add]
    have G5 : Hid (∀ n, Gl (w.drewN n) base e0 e1) := fun n => HG.out.below (below_drewN (HF.out.below hbs (by simp [h7, h8, h9])) n)
    rcases Nat.eq_zero_or_pos rl5 with r0 | r0
    · subst r0
      obtain rfl : zs = [] := List.eq_nil_of_length_eq_zero U5.out.sl.hlen
      go_quiet (fail)
      all_goals go_wp2_with fail
      go_loop [2] (fun v => v = .int .i64 100) (fun _ => 0)
      case atStart => rfl
      case round =>
        subst hrel
        go_wp2_with fail
        go_region_held3 (fun w' => w'.cell? ⟨B, 0, none⟩ = some (.slice (some ⟨C, 0, none⟩) 4096 4096) ∧ w'.cell? ⟨B, 1, none⟩ = some (.iface 50 (.pointer (some ⟨A, 0, none⟩))) ∧ w'.cell? ⟨B, 3, none⟩ = some (.int .i64 nb)) (go_keep) ((go_at_call 46; refine (rd_end A ra5 rc5 pa5 pl5 pc5 k5 _ _ base e0 e1 ?_ ?_).mono ?_; exact G5.out _; exact U5.out.blk.drewN _; rintro e w6 ⟨rfl, n6, rfl⟩))
        go_wp2
        refine bodyPost_ret (results_none rfl _ _ _) rfl ?_
        refine ⟨rfl, .inl ⟨rfl, ?_⟩, ?_⟩
        · rw [← HNB.out]
          exact H5.out.reB (((Fr.refl [B] _).drewN _).setCell (by simp) _ |>.setCell (by simp) _) ⟨lb5, lr5, ((B5.out.drewN _).set 3 _).set 4 _⟩
        · exact ((HF.out.drewN _).setCell (by simp) _).setCell (by simp) _
    · obtain ⟨hu1, hu2, hu3, hu4, hu5, hu6⟩ := U5.out
      have UB := Lib.hid hu1
      have UC : Hid ((C = A → False)) := fun e => h5 e.symm
      clear hu1
      have HCL : Hid (4096 - nb = 4096 - nb) := rfl
      go_quiet (fail)
      all_goals go_wp2_with fail
      go_loop [2] (fun v => v = .int .i64 100) (fun _ => 0)
      case atStart => rfl
      case round =>
        subst hrel
        go_wp2_with fail
        go_region_held3 (fun w' => w'.cell? ⟨B, 0, none⟩ = some (.slice (some ⟨C, 0, none⟩) 4096 4096) ∧ w'.cell? ⟨B, 1, none⟩ = some (.iface 50 (.pointer (some ⟨A, 0, none⟩))) ∧ w'.cell? ⟨B, 3, none⟩ = some (.int .i64 nb)) (go_keep) ((go_at_call 46; refine (rd_more A C ra5 rl5 rc5 zs pa5 pl5 pc5 k5 nb (4096 - nb) (4096 - nb) cs5 5 _ (UB.out.drewN _) (hu2.drewN _) (hu3.fr ((Fr.refl [] _).drewN _) (by simp)) r0 (by omega) (C5.out.drewN _) (by rw [D5.out]; omega) (Nat.le_refl _) UC.out hu4 (fun x hx => by have := hu5 r0 x hx; omega)).mono ?_; rintro e w6 ⟨n, k6, hm1, hm2, hm3, hm4, rfl, hm5, hm6, hm7⟩; have b6 := hm7.blk (B5.out.drewN _) (by simp [Ne.symm h4, h6]); have hB0 := b6.cell (i := 0) rfl; have hB1 := b6.cell (i := 1) rfl; have hB3 := b6.cell (i := 3) rfl; have hB4 := b6.cell (i := 4) rfl; have fB3 := b6.frozen 3; have fB4 := b6.frozen 4; have HB6 := Lib.hid b6; have HM5 := Lib.hid hm5; have HM6 := Lib.hid hm6; have HM7 := Lib.hid hm7; clear b6 hm5 hm6 hm7))
        go_wp2
        refine bodyPost_ret (results_none rfl _ _ _) rfl ?_
        have F6 : Fr [A, C] w w6 := (HM7.out.of_drewN)
        have FB : ∀ v, Fr [B] w6 (w6.setCell ⟨B, 3, none⟩ v) := fun v => (Fr.refl [B] _).setCell (by simp) _
        refine ⟨rfl, .inr ⟨n, hm1, by rw [hu2.hlen]; exact hm3, by rw [← HNB.out]; omega, ?_⟩, (HF.out.trans (F6.mono (by simp))).trans ((FB _).mono (by simp))⟩
        rw [← HNB.out]
        refine ⟨⟨lb5, lr5, HB6.out.set 3 _⟩, ⟨_, (FB _).blk HM6.out (by simpa using Ne.symm h6), ?_, splice_take HNB.out (by rw [← HNB.out]; rw [← HNB.out] at D6; exact D6.out)⟩, ⟨_, _, _, _, _, _, k6, (FB _).blk HM5.out (by simpa using h4), ?_, ?_, by omega, ?_, hu6⟩, ?_, by omega, ?_, h4, h5, h6, h7, h8, h9⟩
        · have hlz : (cells (zs.take n)).length = n := by rw [cells_len, List.length_take, hu2.hlen]; omega
          rw [length_splice _ _ _ (by rw [hlz, D5.out]; omega), D5.out]
        · exact ((hu2.cut hm3).fr F6 (fun x hx hm => by obtain ⟨y, hy, hxy⟩ := cutAt_block hx; have := hu5 r0 y hy; simp at hm; omega)).fr (FB _) (fun x hx hm => by obtain ⟨y, hy, hxy⟩ := cutAt_block hx; have := hu5 r0 y hy; simp at hm; omega)
        · exact (hu3.fr0 F6 (fun hp x hx hm => by have := hu6 hp x hx; simp at hm; omega)).fr0 (FB _) (fun hp x hx hm => by have := hu6 hp x hx; simp at hm; omega)
        · intro _ x hx
          obtain ⟨y, hy, hxy⟩ := cutAt_block hx
          have := hu5 r0 y hy
          omega
        · rw [List.length_append, List.length_take, hu2.hlen, ← HNB.out]
          omega
        · intro y hy
          rcases List.mem_append.1 hy with hy | hy
          · exact H5.out.bd y hy
          · exact hu2.mem (List.mem_of_mem_take hy)
  · have hr0 : (0 : Int) < (r : Int) := by omega
    have hsl : ∀ W, (Instr.slice 22 (.slice (some ⟨C, 0, none⟩) 4096 4096) (some (.int .i64 r)) (some (.int .i64 v)) none).run Tryd.prog W = .ok (.slice (cutAt (some ⟨C, 0, none⟩) 4096 r) (v - r) (4096 - r)) W := fun W => run_sub W _ 4096 4096 r v (by omega) h2 rfl rfl
    have hsub : (v : Int) - (r : Int) = (nb : Int) := by omega
    have HC := Lib.hid c
    have HC2 := Lib.hid c2
    have HC3 := Lib.hid c3
    have HB := Lib.hid b
    have HU := Lib.hid un
    have HG := Lib.hid hG
    have HB3 := Lib.hid h3
    have HN : Hid ((cells ys).length = Nat.min (v - r) 4096) := by
      show _ = _
      rw [cells_len, ← hnb]
      show nb = min (v - r) 4096
      omega
    have HL : Hid ((cells ys).length = nb) := (cells_len ys).trans hnb.symm
    clear b c c2 c3 un hG h3 hnb
    go_enter Tryd.func49, Tryd.ntmps49
    go_wp2_with fail
    go_region_held3 (fun w' => w'.cell? ⟨B, 0, none⟩ = some (.slice (some ⟨C, 0, none⟩) 4096 4096) ∧ w'.cell? ⟨B, 2, none⟩ = some (.int .i64 r) ∧ w'.cell? ⟨B, 3, none⟩ = some (.int .i64 v)) (go_keep)
      ((refine step_copy_blk rfl (.tmp 13) (.tmp 26) 22 22 rfl 5 Tryd.underlying22 Tryd.size5 (some ⟨C, 0, none⟩) (cutAt (some ⟨C, 0, none⟩) 4096 r) 4096 4096 (v - r) (4096 - r) (by simp [Act.eval]) (by simp [Act.eval]) C 0 cs 5 (by exact HC.out) (cells ys) HN.out (fun h => ⟨rfl, buf_src (by exact HC.out) HC2.out HC3.out h⟩) (by rw [HL.out, HC2.out]; omega) (cells_one _) ?_; intro w4 hg4 hf4; rw [HL.out]; have b4 := hf4.blk (Blk.drewN HB.out _) (by simpa using h6); have hB0 := b4.cell (i := 0) rfl; have hB1 := b4.cell (i := 1) rfl; have hB2 := b4.cell (i := 2) rfl; have hB3 := b4.cell (i := 3) rfl; have fB2 := b4.frozen 2; have fB3 := b4.frozen 3; have fB4 := b4.frozen 4; have HB4 := Lib.hid b4; have HF4 := Lib.hid hf4; clear b4 hf4))
    go_wp2_with fail
    go_region
    go_wp2_with fail
    have H5 : Hid (St (((w4.setCell ⟨B, 3, none⟩ (.int .i64 nb)).setCell ⟨B, 2, none⟩ (.int .i64 ((0 : Nat) : Int))).drew) A B C base 0 nb .nilIface ys zs) := by
      have b5 := ((HB4.out.set 3 (.int .i64 nb)).set 2 (.int .i64 ((0 : Nat) : Int)))
      have f5 : Fr [B] w4 (((w4.setCell ⟨B, 3, none⟩ (.int .i64 nb)).setCell ⟨B, 2, none⟩ (.int .i64 ((0 : Nat) : Int))).drew) := (((Fr.refl _ _).setCell (by simp) _).setCell (by simp) _).drew
      have hl : (splice cs 0 (cells ys)).length = 4096 := by rw [length_splice _ _ _ (by rw [HL.out, HC2.out]; omega), HC2.out]
      refine ⟨⟨lb, lr, b5⟩, ⟨_, f5.blk hg4.out (by simpa using Ne.symm h6), hl, ?_⟩, ⟨ra, rl, rc, pa, pl, pc, k, HU.out.fr (S := [C, B]) ((HF4.out.of_drewN.mono (by simp)).trans (f5.mono (by simp))) (by simp [h4, h5]) (by simp [h8, h9])⟩, by rw [Nat.zero_add]; exact HNB.out.symm, by omega, HB3.out, h4, h5, h6, h7, h8, h9⟩
      simp only [splice, List.take_zero, List.nil_append, List.drop_zero, Nat.zero_add]
      exact List.take_left' (cells_len ys)
    have HF : Hid (Fr [A, B, C] w (((w4.setCell ⟨B, 3, none⟩ (.int .i64 nb)).setCell ⟨B, 2, none⟩ (.int .i64 ((0 : Nat) : Int))).drew)) := ((((HF4.out.of_drewN).mono (by simp)).setCell (by simp) _).setCell (by simp) _).drew
    simp only [Int.ofNat_zero] at H5 HF
    generalize (((w4.setCell ⟨B, 3, none⟩ (.int .i64 nb)).setCell ⟨B, 2, none⟩ (.int .i64 0)).drew) = w5 at H5 HF ⊢
    clear hB0 hB1 hB2 hB3 fB2 fB3 fB4
    obtain ⟨⟨lb5, lr5, b5⟩, ⟨cs5, c5, d5, d6⟩, ⟨ra5, rl5, rc5, pa5, pl5, pc5, k5, un5⟩, _⟩ := H5.out
    have hB0 := b5.cell (i := 0) rfl
    have hB1 := b5.cell (i := 1) rfl
    have hB3 := b5.cell (i := 3) rfl
    have hB4 := b5.cell (i := 4) rfl
    have fB3 := b5.frozen 3
    have fB4 := b5.frozen 4
    have B5 := Lib.hid b5
    have C5 := Lib.hid c5
    have U5 := Lib.hid un5
    have D5 := Lib.hid d5
    have D6 := Lib.hid d6
    have hn' : ((nb : Int) ≥ 4096) = False := by simp; omega
    clear b5 c5 un5 d5 d6
    have hfr : ∀ W, (Instr.slice 22 (.slice (some ⟨C, 0, none⟩) 4096 4096) (some (.int .i64 nb)) none none).run Tryd.prog W = .ok (.slice (some ⟨C, nb, none⟩) (4096 - nb) (4096 - nb)) W := fun W => by
      rw [run_from W _ 4096 4096 nb (by omega) rfl]
      simp only [cutAt, if_neg (by omega : ¬ 4096 = nb), Option.map_some, Nat.mul_one, Addr.add_lit, Nat.zero_add]
    have G5 : Hid (∀ n, Gl (w5.drewN n) base e0 e1) := fun n => HG.out.below (below_drewN (HF.out.below hbs (by simp [h7, h8, h9])) n)
    rcases Nat.eq_zero_or_pos rl5 with r0 | r0
    · subst r0
      obtain rfl : zs = [] := List.eq_nil_of_length_eq_zero U5.out.sl.hlen
      go_quiet (fail)
      all_goals go_wp2_with fail
      go_loop [2] (fun v => v = .int .i64 100) (fun _ => 0)
      case atStart => rfl
      case round =>
        subst hrel
        go_wp2_with fail
        go_region_held3 (fun w' => w'.cell? ⟨B, 0, none⟩ = some (.slice (some ⟨C, 0, none⟩) 4096 4096) ∧ w'.cell? ⟨B, 1, none⟩ = some (.iface 50 (.pointer (some ⟨A, 0, none⟩))) ∧ w'.cell? ⟨B, 3, none⟩ = some (.int .i64 nb)) (go_keep) ((go_at_call 46; refine (rd_end A ra5 rc5 pa5 pl5 pc5 k5 _ _ base e0 e1 ?_ ?_).mono ?_; exact G5.out _; exact U5.out.blk.drewN _; rintro e w6 ⟨rfl, n6, rfl⟩))
        go_wp2
        refine bodyPost_ret (results_none rfl _ _ _) rfl ?_
        refine ⟨rfl, .inl ⟨rfl, ?_⟩, ?_⟩
        · rw [← HNB.out]
          exact H5.out.reB (((Fr.refl [B] _).drewN _).setCell (by simp) _ |>.setCell (by simp) _) ⟨lb5, lr5, ((B5.out.drewN _).set 3 _).set 4 _⟩
        · exact ((HF.out.drewN _).setCell (by simp) _).setCell (by simp) _
    · obtain ⟨hu1, hu2, hu3, hu4, hu5, hu6⟩ := U5.out
      have UB := Lib.hid hu1
      have UC : Hid ((C = A → False)) := fun e => h5 e.symm
      clear hu1
      have HCL : Hid (4096 - nb = 4096 - nb) := rfl
      go_quiet (fail)
      all_goals go_wp2_with fail
      go_loop [2] (fun v => v = .int .i64 100) (fun _ => 0)
      case atStart => rfl
      case round =>
        subst hrel
        go_wp2_with fail
        go_region_held3 (fun w' => w'.cell? ⟨B, 0, none⟩ = some (.slice (some ⟨C, 0, none⟩) 4096 4096) ∧ w'.cell? ⟨B, 1, none⟩ = some (.iface 50 (.pointer (some ⟨A, 0, none⟩))) ∧ w'.cell? ⟨B, 3, none⟩ = some (.int .i64 nb)) (go_keep) ((go_at_call 46; refine (rd_more A C ra5 rl5 rc5 zs pa5 pl5 pc5 k5 nb (4096 - nb) (4096 - nb) cs5 5 _ (UB.out.drewN _) (hu2.drewN _) (hu3.fr ((Fr.refl [] _).drewN _) (by simp)) r0 (by omega) (C5.out.drewN _) (by rw [D5.out]; omega) (Nat.le_refl _) UC.out hu4 (fun x hx => by have := hu5 r0 x hx; omega)).mono ?_; rintro e w6 ⟨n, k6, hm1, hm2, hm3, hm4, rfl, hm5, hm6, hm7⟩; have b6 := hm7.blk (B5.out.drewN _) (by simp [Ne.symm h4, h6]); have hB0 := b6.cell (i := 0) rfl; have hB1 := b6.cell (i := 1) rfl; have hB3 := b6.cell (i := 3) rfl; have hB4 := b6.cell (i := 4) rfl; have fB3 := b6.frozen 3; have fB4 := b6.frozen 4; have HB6 := Lib.hid b6; have HM5 := Lib.hid hm5; have HM6 := Lib.hid hm6; have HM7 := Lib.hid hm7; clear b6 hm5 hm6 hm7))
        go_wp2
        refine bodyPost_ret (results_none rfl _ _ _) rfl ?_
        have F6 : Fr [A, C] w5 w6 := (HM7.out.of_drewN)
        have FB : ∀ v, Fr [B] w6 (w6.setCell ⟨B, 3, none⟩ v) := fun v => (Fr.refl [B] _).setCell (by simp) _
        refine ⟨rfl, .inr ⟨n, hm1, by rw [hu2.hlen]; exact hm3, by rw [← HNB.out]; omega, ?_⟩, (HF.out.trans (F6.mono (by simp))).trans ((FB _).mono (by simp))⟩
        rw [← HNB.out]
        refine ⟨⟨lb5, lr5, HB6.out.set 3 _⟩, ⟨_, (FB _).blk HM6.out (by simpa using Ne.symm h6), ?_, splice_take HNB.out (by rw [← HNB.out]; rw [← HNB.out] at D6; exact D6.out)⟩, ⟨_, _, _, _, _, _, k6, (FB _).blk HM5.out (by simpa using h4), ?_, ?_, by omega, ?_, hu6⟩, ?_, by omega, ?_, h4, h5, h6, h7, h8, h9⟩
        · have hlz : (cells (zs.take n)).length = n := by rw [cells_len, List.length_take, hu2.hlen]; omega
          rw [length_splice _ _ _ (by rw [hlz, D5.out]; omega), D5.out]
        · exact ((hu2.cut hm3).fr F6 (fun x hx hm => by obtain ⟨y, hy, hxy⟩ := cutAt_block hx; have := hu5 r0 y hy; simp at hm; omega)).fr (FB _) (fun x hx hm => by obtain ⟨y, hy, hxy⟩ := cutAt_block hx; have := hu5 r0 y hy; simp at hm; omega)
        · exact (hu3.fr0 F6 (fun hp x hx hm => by have := hu6 hp x hx; simp at hm; omega)).fr0 (FB _) (fun hp x hx hm => by have := hu6 hp x hx; simp at hm; omega)
        · intro _ x hx
          obtain ⟨y, hy, hxy⟩ := cutAt_block hx
          have := hu5 r0 y hy
          omega
        · rw [List.length_append, List.length_take, hu2.hlen, ← HNB.out]
          omega
        · intro y hy
          rcases List.mem_append.1 hy with hy | hy
          · exact H5.out.bd y hy
          · exact hu2.mem (List.mem_of_mem_take hy)
end Go.Proofs.YtjajhpgodijeoaaDoor
