/-
  Reading a line from the buffered reader.
-/
import Derived.Test.YtjajhpgodijeoaaDoorBrd
import Derived.Test.YtjajhpgodijeoaaDoorDec
import Derived.Deep.LoopGhost
import Derived.IntWalk
namespace Go.Proofs.YtjajhpgodijeoaaDoor
open Go.RowKit

/-- What reading a line gives. -/
def Sliced (A B C base : Nat) (s : List Int) (e0 : Addr) (e : Ending) (w' : World) : Prop :=
  (∃ l t r v o cap ys zs, s = l ++ 10 :: t ∧ 10 ∉ l ∧ e = .returned (.tuple #[.slice (some ⟨C, o, none⟩) (l.length + 1) cap, .nilIface]) ∧ SL w' (some ⟨C, o, none⟩) (l.length + 1) cap (l ++ [10]) ∧ St w' A B C base r v .nilIface ys zs ∧ ys ++ zs = t) ∨
  (10 ∉ s ∧ ∃ x, e = .returned (.tuple #[x, .iface 102 (.pointer (some e0))]))

/-- A part of the buffer as a slice of bytes. -/
theorem St.part {w : World} {A B C base r v : Nat} {err : Value} {ys zs : List Int} (h : St w A B C base r v err ys zs) {k m cap : Nat} (hk : k + m ≤ ys.length) (hc : m ≤ cap) (hc2 : cap ≤ 4096) :
    SL w (some ⟨C, r + k, none⟩) m cap ((ys.drop k).take m) := by
  obtain ⟨_, ⟨cs, c, c2, c3⟩, _, h1, h2, h3, _⟩ := h
  refine ⟨by simp; omega, hc, by unfold maxLen; omega, by simp, fun i => ?_, fun hp => ⟨C, r + k, rfl, fun i hi => ?_⟩⟩
  · rcases Nat.lt_or_ge i ((ys.drop k).take m).length with hi | hi
    · rw [List.getD, List.getElem?_eq_getElem hi, Option.getD_some]
      exact h3 _ (List.mem_of_mem_drop (List.mem_of_mem_take (List.getElem_mem hi)))
    · rw [List.getD, List.getElem?_eq_none hi]
      simp
  · have hcell := cell_of c3 (j := k + i) (by omega)
    rw [Nat.add_assoc]
    refine c.cell ?_
    rw [hcell]
    simp only [List.getD, List.getElem?_take, List.getElem?_drop, if_pos hi]

def RslRel (A B C base : Nat) (w : World) (S : List Int) (e0 : Addr) (g : Nat) (s5 s6 : Value) (wr : World) : Prop :=
  ∃ k r v err ys zs, s6 = .int .i64 (k : Nat) ∧ s5 = .nilIface ∧ k ≤ ys.length ∧ ys ++ zs = S ∧ 10 ∉ ys.take k ∧ Fr [A, B, C] w wr ∧ St wr A B C base r v err ys zs ∧
    ((err = .nilIface ∧ g = zs.length + 1) ∨ (err = .iface 102 (.pointer (some e0)) ∧ zs = [] ∧ k = ys.length ∧ g = 0))

set_option maxHeartbeats 1000000 in
set_option maxRecDepth 100000 in
theorem rsl_any {w : World} {A B C base r v : Nat} {ys zs S : List Int} {e0 e1 : Addr} (hG : Gl w base e0 e1) (h : St w A B C base r v .nilIface ys zs) (hS : ys ++ zs = S) (hx : ix S 10 < 4096) :
    Calls Tryd.prog 64 #[.pointer (some ⟨B, 0, none⟩), .int .u8 10] w fun e w' => Sliced A B C base S e0 e w' ∧ Fr [A, B, C] w w' := by
  have HS := Lib.hid hS
  have HX := Lib.hid hx
  have HG := Lib.hid hG
  have H := Lib.hid h
  have hbs : base ≤ w.heap.size := by obtain ⟨ra, rl, rc, pa, pl, pc, k, un⟩ := h.un; have := un.blk.lt; have := h.hA; omega
  have HB := Lib.hid hbs
  obtain ⟨_, _, _, _, _, _, hAB, hAC, hBC, hA, hB, hC⟩ := h
  have HH := Lib.hid (show base ≤ A ∧ base ≤ B ∧ base ≤ C from ⟨hA, hB, hC⟩)
  clear hS hx hG hbs
  go_enter Tryd.func64, Tryd.ntmps64
  go_wp2_with fail
  go_loopg [5, 6] (zs.length + 1) (RslRel A B C base w S e0)
  case atStart => exact ⟨0, r, v, .nilIface, ys, zs, rfl, rfl, Nat.zero_le _, HS.out, by simp, Fr.refl _ _, H.out, .inl ⟨rfl, rfl⟩⟩
  case round =>
    obtain ⟨k, r, v, err, ys, zs, rfl, rfl, hk, hS, h10, hF, hSt, hg⟩ := hrel
    have H1 := Lib.hid hSt
    have F1 := Lib.hid hF
    have E1 := Lib.hid hS
    have N1 := Lib.hid h10
    have G1 := Lib.hid hg
    obtain ⟨lb, lr, b⟩ := hSt.b
    have hB0 := b.cell (i := 0) rfl
    have hB2 := b.cell (i := 2) rfl
    have hB3 := b.cell (i := 3) rfl
    have hB4 := b.cell (i := 4) rfl
    have B1 := Lib.hid b
    have hlen := hSt.len
    have hv := hSt.hv
    obtain ⟨p, hp⟩ : ∃ p, p = r + k := ⟨_, rfl⟩
    obtain ⟨o, ho⟩ : ∃ o, o = (if 4096 = p then 0 else p) := ⟨_, rfl⟩
    have hpv : p ≤ v := by omega
    have hsl : ∀ W, (Instr.slice 22 (.slice (some ⟨C, 0, none⟩) 4096 4096) (some (.int .i64 p)) (some (.int .i64 v)) none).run Tryd.prog W = .ok (.slice (some ⟨C, o, none⟩) (v - p) (4096 - p)) W := fun W => by
      rw [run_sub W _ 4096 4096 p v (by omega) (by omega) rfl rfl, ho]
      unfold cutAt
      split <;> simp [Addr.add]
      rintro rfl; rfl
    have hSL : SL wr (some ⟨C, o, none⟩) (v - p) (4096 - p) (ys.drop k) := by
      by_cases h4 : 4096 = p
      · have : ys.drop k = [] := List.drop_of_length_le (by omega)
        rw [this, show v - p = 0 by omega]
        exact ⟨rfl, Nat.zero_le _, by unfold maxLen; omega, by simp, by simp, fun h => absurd h (by omega)⟩
      · rw [ho, if_neg h4, hp]
        have := hSt.part (k := k) (m := ys.length - k) (cap := 4096 - (r + k)) (by omega) (by omega) (by omega)
        rw [List.take_of_length_le (by simp)] at this
        rwa [show v - (r + k) = ys.length - k by omega]
    obtain ⟨xs, hxs⟩ : ∃ xs, xs = ys.drop k := ⟨_, rfl⟩
    rw [← hxs] at hSL
    have X1 := Lib.hid hxs
    have L1 := Lib.hid hlen
    have P1 := Lib.hid hp
    have hrk : (r : Int) + (k : Int) = (p : Int) := by omega
    have hwp : IntKind.i64.wrap (p : Int) = (p : Int) := IntWalk.i64_in _ (by omega)
    rcases Nat.lt_or_ge (ix xs 10) xs.length with hlt | hge
    · obtain ⟨j, hj⟩ : ∃ j, j = ix xs 10 := ⟨_, rfl⟩
      have hq : ixi xs 10 = (j : Int) := by rw [hj]; unfold ixi; rw [if_pos hlt]
      have hix : ∀ n, Calls Tryd.prog 63 #[.slice (some ⟨C, o, none⟩) (v - p) (4096 - p), .int .u8 10] (wr.drewN n) fun e w'' => e = .returned (.int .i64 (j : Int)) ∧ ∃ m, w'' = wr.drewN m := fun n =>
        Calls.quiet_of_same ((ixb_any C o (v - p) (4096 - p) xs 10 (by omega) _ (hSL.drewN n)).mono fun _ _ h => ⟨by rw [h.1, hq], h.2.symm⟩)
      obtain ⟨m, hm⟩ : ∃ m, m = j + k := ⟨_, rfl⟩
      obtain ⟨n1, hn1⟩ : ∃ n1, n1 = m + 1 := ⟨_, rfl⟩
      obtain ⟨p2, hp2⟩ : ∃ p2, p2 = r + m := ⟨_, rfl⟩
      obtain ⟨q, hq2⟩ : ∃ q, q = p2 + 1 := ⟨_, rfl⟩
      have hxl : xs.length = ys.length - k := by rw [hxs]; simp
      have hqv : q ≤ v := by omega
      have hsl2 : ∀ W, (Instr.slice 22 (.slice (some ⟨C, 0, none⟩) 4096 4096) (some (.int .i64 r)) (some (.int .i64 q)) none).run Tryd.prog W = .ok (.slice (some ⟨C, r, none⟩) n1 (4096 - r)) W := fun W => by
        rw [run_sub W _ 4096 4096 r q (by omega) (by omega) rfl rfl]
        simp only [cutAt, if_neg (by omega : ¬ 4096 = r), Option.map_some, Nat.mul_one, Addr.add_lit, Nat.zero_add, show q - r = n1 by omega]
      have hjk : (j : Int) + (k : Int) = (m : Int) := by omega
      have hrm : (r : Int) + (m : Int) = (p2 : Int) := by omega
      have hwp2 : IntKind.i64.wrap (p2 : Int) = (p2 : Int) := IntWalk.i64_in _ (by omega)
      have hwq : IntKind.i64.wrap (q : Int) = (q : Int) := IntWalk.i64_in _ (by omega)
      have hp2q : (p2 : Int) + 1 = (q : Int) := by omega
      have hmn : (m : Int) + 1 = (n1 : Int) := by omega
      have hrn : (r : Int) + (n1 : Int) = (q : Int) := by omega
      have hnm : (n1 : Int) - 1 = (m : Int) := by omega
      have hget0 : ys.getD m 0 = 10 := by
        have h1 := ix_at hlt
        rw [← hj, hxs] at h1
        rw [hm, Nat.add_comm]
        simpa [List.getD, List.getElem?_drop] using h1
      have hget := Lib.hid hget0
      clear hget0
      have J1 := Lib.hid hj
      have M1 := Lib.hid hm
      have M2 := Lib.hid hn1
      have M3 := Lib.hid hp2
      have M4 := Lib.hid hq2
      have XL := Lib.hid hxl
      clear hSt hF hS h10 hg b hxs hlen hp hq hSL ho hj hm hn1 hp2 hq2 hxl
      go_wp2_with fail
      go_quiet ((go_at_call 63; exact hix _))
      all_goals go_wp2_with fail
      have F2 := Lib.hid (F1.out.drewN nq)
      have H2 := Lib.hid (H1.out.drewN nq)
      have b2 := B1.out.drewN nq
      clear hB0 hB2 hB3 hB4 hix
      generalize wr.drewN nq = w2 at F2 H2 b2 ⊢
      have hB0 := b2.cell (i := 0) rfl
      have hB2 := b2.cell (i := 2) rfl
      have fB2 := b2.frozen 2
      have hB3 := b2.cell (i := 3) rfl
      have fB5 := b2.frozen 5
      have fB6 := b2.frozen 6
      have hB5 := b2.cell (i := 5) rfl
      have hB6 := b2.cell (i := 6) rfl
      have B2 := Lib.hid b2
      clear b2
      have hCm : w2.cell? ⟨C, r + m, none⟩ = some (.int .u8 10) := by
        obtain ⟨_, ⟨cs, c, c2, c3⟩, _⟩ := H2.out
        refine c.cell ?_
        rw [cell_of c3 (j := m) (by have := M1.out; have := J1.out; have := XL.out; omega), hget.out]
      have hCB : ¬ C = B := fun e => hBC e.symm
      have hmn1 : (m : Int) < (n1 : Int) := by omega
      go_quiet (fail)
      all_goals go_wp2_with fail
      go_ret2
      have e2 : err = .nilIface := by
        rcases G1.out with h | h
        · exact h.1
        · have := XL.out; have := h.2.2.1; omega
      subst e2
      have hml : m < ys.length := by have := M1.out; have := J1.out; have := XL.out; omega
      have hys : ys = ys.take m ++ 10 :: ys.drop (m + 1) := split_at hml hget.out
      have hno : 10 ∉ ys.take m := by
        have : ys.take m = ys.take k ++ xs.take j := by
          rw [M1.out, Nat.add_comm, List.take_add, X1.out]
        rw [this, List.mem_append]
        rintro (h | h)
        · exact N1.out h
        · exact not_mem_take_ix (Nat.le_of_eq J1.out) h
      have hl1 : (ys.take m).length + 1 = n1 := by rw [List.length_take, M2.out]; omega
      have S3 : St (((w2.drewN nq).setCell ⟨B, 2, none⟩ (.int .i64 (q : Int)))) A B C base q v .nilIface (ys.drop (m + 1)) zs := by
        refine (H2.out.drewN nq).put (fun lb lr => ⟨lb, lr, rfl⟩) (fun cs _ hc => ?_) ?_ H2.out.hv (fun y hy => H2.out.bd y (List.mem_of_mem_drop hy))
        · have := drop_cells (n := m + 1) hc
          rwa [show r + (m + 1) = q by have := M3.out; have := M4.out; omega] at this
        · have := H2.out.len
          have := M3.out
          have := M4.out
          simp
          omega
      have S4 := fun x y => (S3.put (i := 5) (x := .int .i64 x) (fun lb lr => ⟨_, lr, rfl⟩) (fun _ _ h => h) S3.len S3.hv S3.bd).put (i := 6) (x := .int .i64 y) (fun lb lr => ⟨lb, _, rfl⟩) (fun _ _ h => h) S3.len S3.hv S3.bd
      have FF : ∀ x y, Fr [B] w2 ((((w2.drewN nq).setCell ⟨B, 2, none⟩ (.int .i64 (q : Int))).setCell ⟨B, 5, none⟩ x).setCell ⟨B, 6, none⟩ y) := fun x y => ((((Fr.refl [B] _).drewN nq).setCell (by simp) _).setCell (by simp) _).setCell (by simp) _
      refine ⟨.inl ⟨ys.take m, ys.drop (m + 1) ++ zs, q, v, r, 4096 - r, _, zs, ?_, hno, by rw [hl1]; rfl, ?_, S4 _ _, rfl⟩, F2.out.trans ((FF _ _).mono (by simp))⟩
      · rw [← E1.out]
        conv => lhs; rw [hys]
        simp
      · rw [hl1]
        have := H2.out.part (k := 0) (m := n1) (cap := 4096 - r) (by omega) (by omega) (by omega)
        rw [List.drop_zero, Nat.add_zero, M2.out, List.take_succ_eq_append_getElem hml] at this
        have hg := hget.out
        rw [List.getD, List.getElem?_eq_getElem hml, Option.getD_some] at hg
        rw [hg] at this
        rw [M2.out]
        exact this.fr (FF _ _) (fun x hx => by injection hx with hx; subst hx; simpa using hCB)
    · have hq : ixi xs 10 = -1 := by unfold ixi; rw [if_neg (by omega)]
      have hix : ∀ n, Calls Tryd.prog 63 #[.slice (some ⟨C, o, none⟩) (v - p) (4096 - p), .int .u8 10] (wr.drewN n) fun e w'' => e = .returned (.int .i64 (-1)) ∧ ∃ m, w'' = wr.drewN m := fun n =>
        Calls.quiet_of_same ((ixb_any C o (v - p) (4096 - p) xs 10 (by omega) _ (hSL.drewN n)).mono fun _ _ h => ⟨by rw [h.1, hq], h.2.symm⟩)
      have hno : 10 ∉ ys := by
        rw [← List.take_append_drop k ys, List.mem_append, ← hxs]
        rintro (h | h)
        · exact h10 h
        · exact ix_none.1 (Nat.le_antisymm (ix_le _ _) hge) h
      obtain ⟨nb, hnb⟩ : ∃ nb, nb = ys.length := ⟨_, rfl⟩
      have hvr : v - r = nb := by omega
      have hvri : (v : Int) - (r : Int) = (nb : Int) := by omega
      have hrv : r ≤ v := by omega
      rcases hg with ⟨rfl, hg⟩ | ⟨rfl, rfl, hkl, hg⟩
      · have h96 : nb < 4096 := by
          have h1 := HX.out
          have h2 : nb ≤ ix S 10 := by
            rw [hnb, ← hS]
            rcases Nat.lt_or_ge (ix (ys ++ zs) 10) ys.length with h | h
            · have h3 := ix_at (xs := ys ++ zs) (c := 10) (by simp; omega)
              rw [List.getD, List.getElem?_append_left h, List.getElem?_eq_getElem h, Option.getD_some] at h3
              exact absurd (h3 ▸ List.getElem_mem h) hno
            · exact h
          omega
        have hn' : ((nb : Int) ≥ 4096) = False := by simp; omega
        have hwn : IntKind.i64.wrap (nb : Int) = (nb : Int) := IntWalk.i64_in _ (by omega)
        have NO := Lib.hid hno
        have GG := Lib.hid hg
        have NB := Lib.hid hnb
        have VR := Lib.hid hvr
        clear hSt hF hS h10 hg b hxs hlen hp hq hSL ho hno hnb hvr
        go_wp2_with fail
        go_quiet ((go_at_call 63; exact hix _))
        all_goals go_wp2_with fail
        have F2 := Lib.hid (F1.out.drewN nq)
        have H2 := Lib.hid (H1.out.drewN nq)
        have b2 := B1.out.drewN nq
        clear hB0 hB2 hB3 hB4 hix
        generalize wr.drewN nq = w2 at F2 H2 b2 ⊢
        have hB0 := b2.cell (i := 0) rfl
        have hB2 := b2.cell (i := 2) rfl
        have hB3 := b2.cell (i := 3) rfl
        have hB4 := b2.cell (i := 4) rfl
        clear b2
        have hbuf : ∀ n, Calls Tryd.prog 50 #[.pointer (some ⟨B, 0, none⟩)] (w2.drewN n) fun e w'' => e = .returned (.int .i64 (nb : Int)) ∧ ∃ m, w'' = w2.drewN m := fun n => by
          have := Calls.quiet_of (buffered_any (H2.out.drewN n))
          rwa [← NB.out] at this
        go_quiet ((go_at_call 50; exact hbuf _))
        all_goals go_wp2_with fail
        have F3 := Lib.hid (F2.out.drewN nq)
        have H3 := Lib.hid (H2.out.drewN nq)
        clear hbuf
        have hB2 : (w2.drewN nq).cell? ⟨B, 2, none⟩ = some (.int .i64 r) := hB2
        have hB3 : (w2.drewN nq).cell? ⟨B, 3, none⟩ = some (.int .i64 v) := hB3
        generalize w2.drewN nq = w3 at F3 H3 hB2 hB3 ⊢
        go_quiet (fail)
        all_goals go_wp2_with fail
        have G3 : Gl (w3.drewN nq) base e0 e1 := HG.out.below ((F3.out.drewN nq).below HB.out (by have := HH.out; simp; omega))
        refine (fill_any G3 (H3.out.drewN nq) (by rw [← NB.out]; exact h96)).mono ?_
        rintro e w4 ⟨rfl, hf4, hF4⟩
        have F4 := Lib.hid ((F3.out.drewN nq).trans hF4)
        have X4 := Lib.hid hf4
        clear hf4 hF4 G3
        go_wp2_with fail
        obtain ⟨g', hg', hr'⟩ : ∃ g', g' < gk ∧ RslRel A B C base w S e0 g' .nilIface (.int .i64 (nb : Int)) w4 := by
          have hgg := GG.out
          have hn := NB.out
          rcases X4.out with ⟨rfl, hs4⟩ | ⟨n, h1, h2, h3, hs4⟩
          · exact ⟨0, by omega, nb, 0, ys.length, _, ys, [], rfl, rfl, by omega, E1.out, fun h => NO.out (List.mem_of_mem_take h), F4.out, hs4, .inr ⟨rfl, rfl, hn, rfl⟩⟩
          · refine ⟨(zs.drop n).length + 1, by rw [List.length_drop]; omega, nb, 0, ys.length + n, _, ys ++ zs.take n, zs.drop n, rfl, rfl, by simp; omega, ?_, ?_, F4.out, hs4, .inl ⟨rfl, rfl⟩⟩
            · rw [List.append_assoc, List.take_append_drop]
              exact E1.out
            · rw [hn, List.take_append_of_le_length (Nat.le_refl _), List.take_length]
              exact NO.out
        go_roundg g'
        case measure => exact hg'
        case rel => exact hr'
      · have E0 : S = ys := by rw [← hS, List.append_nil]
        have hno' : 10 ∉ S := by rw [E0]; exact hno
        have NO := Lib.hid hno'
        have hsl2 : ∀ W, (Instr.slice 22 (.slice (some ⟨C, 0, none⟩) 4096 4096) (some (.int .i64 r)) (some (.int .i64 v)) none).run Tryd.prog W = .ok (.slice (cutAt (some ⟨C, 0, none⟩) 4096 r) nb (4096 - r)) W := fun W => by
          rw [run_sub W _ 4096 4096 r v hrv (by omega) rfl rfl, hvr]
        have NB := Lib.hid hnb
        have VR := Lib.hid hvr
        clear hSt hF hS h10 hg b hxs hlen hp hq hSL ho hno hnb hvr hno' E0 hkl
        rcases Nat.eq_zero_or_pos nb with h0 | h0
        · subst h0
          go_wp2_with fail
          go_quiet ((go_at_call 63; exact hix _))
          all_goals go_wp2_with fail
          have F2 := Lib.hid (F1.out.drewN nq)
          have H2 := Lib.hid (H1.out.drewN nq)
          have b2 := B1.out.drewN nq
          clear hB0 hB2 hB3 hB4 hix
          generalize wr.drewN nq = w2 at F2 H2 b2 ⊢
          have hB0 := b2.cell (i := 0) rfl
          have hB2 := b2.cell (i := 2) rfl
          have hB3 := b2.cell (i := 3) rfl
          have hB4 := b2.cell (i := 4) rfl
          have fB2 := b2.frozen 2
          clear b2
          go_quiet (fail)
          all_goals go_wp2_with fail
          refine (readErr_any (r := v) (v := v) (ys := []) ((H2.out.drewN nq).put (fun lb lr => ⟨lb, lr, rfl⟩) (fun cs _ _ => by simp [cells]) (by simp) H2.out.hv (by simp))).mono ?_
          rintro e w4 ⟨rfl, hs4, hF4⟩
          have F4 := Lib.hid ((((F2.out.drewN nq).setCell (by simp) _).trans (hF4.mono (by simp))))
          clear hs4 hF4
          go_wp2_with fail
          go_ret2
          exact ⟨.inr ⟨NO.out, _, rfl⟩, F4.out⟩
        · obtain ⟨nl, hnl⟩ : ∃ nl, nb = nl + 1 := ⟨nb - 1, by omega⟩
          have hnli : (nb : Int) - 1 = (nl : Int) := by omega
          have hnlt : (nl : Int) < (nb : Int) := by omega
          have hcut : cutAt (some ⟨C, 0, none⟩) 4096 r = some ⟨C, r, none⟩ := by
            have := VR.out
            simp only [cutAt, if_neg (by omega : ¬ 4096 = r), Option.map_some, Nat.mul_one, Addr.add_lit, Nat.zero_add]
          rw [hcut] at hsl2
          have NL := Lib.hid hnl
          clear hcut hnl
          go_wp2_with fail
          go_quiet ((go_at_call 63; exact hix _))
          all_goals go_wp2_with fail
          have F2 := Lib.hid (F1.out.drewN nq)
          have H2 := Lib.hid (H1.out.drewN nq)
          have b2 := B1.out.drewN nq
          clear hB0 hB2 hB3 hB4 hix
          generalize wr.drewN nq = w2 at F2 H2 b2 ⊢
          have hB0 := b2.cell (i := 0) rfl
          have hB2 := b2.cell (i := 2) rfl
          have hB3 := b2.cell (i := 3) rfl
          have hB4 := b2.cell (i := 4) rfl
          have fB2 := b2.frozen 2
          have BB := Lib.hid b2
          clear b2
          go_quiet (fail)
          all_goals go_wp2_with fail
          refine (readErr_any (r := v) (v := v) (ys := []) ((H2.out.drewN nq).put (fun lb lr => ⟨lb, lr, rfl⟩) (fun cs _ _ => by simp [cells]) (by simp) H2.out.hv (by simp))).mono ?_
          rintro e w4 ⟨rfl, hs4, hF4⟩
          have F4 := Lib.hid ((((F2.out.drewN nq).setCell (by simp) _).trans (hF4.mono (by simp))))
          obtain ⟨lb5, lr5, b5⟩ := hs4.b
          have hB5 := b5.cell (i := 5) rfl
          have hB6 := b5.cell (i := 6) rfl
          have fB5 := b5.frozen 5
          have fB6 := b5.frozen 6
          have hCm : ∃ z : Int, w4.cell? ⟨C, r + nl, none⟩ = some (.int .u8 z) := by
            obtain ⟨_, ⟨cs, c, c2, c3⟩, _⟩ := H2.out
            have c5 := hF4.blk (((Fr.refl [B] w2).drewN nq |>.setCell (i := 2) (by simp) (.int .i64 (v : Int))).blk c (by simpa using Ne.symm hBC)) (by simpa using Ne.symm hBC)
            exact ⟨_, c5.cell (cell_of c3 (j := nl) (by have := NB.out; have := NL.out; omega))⟩
          obtain ⟨z, hCm⟩ := hCm
          have hCB : ¬ C = B := fun e => hBC e.symm
          clear hs4 hF4 b5
          go_wp2_with fail
          go_ret2
          exact ⟨.inr ⟨NO.out, _, rfl⟩, (F4.out.setCell (by simp) _).setCell (by simp) _⟩
end Go.Proofs.YtjajhpgodijeoaaDoor
