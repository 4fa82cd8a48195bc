/-
  The beginning of a chunk.
-/
import Derived.Test.YtjajhpgodijeoaaDoorRcl
import Derived.Test.YtjajhpgodijeoaaDoorTrm
import Derived.Test.YtjajhpgodijeoaaDoorExt2
namespace Go.Proofs.YtjajhpgodijeoaaDoor
open Go.RowKit

/-- The cells of a reader of chunks. -/
def cB (B n : Nat) (err : Value) (b0 b1 : Int) (ce : Bool) (ex : Nat) : List Value := [.pointer (some ⟨B, 0, none⟩), .int .u64 n, err, .int .u8 b0, .int .u8 b1, .bool ce, .int .i64 ex]
/-- A reader of chunks. -/
def Cr (w : World) (D B n : Nat) (err : Value) (ce : Bool) (ex : Nat) : Prop := ∃ b0 b1, Blk w D (cB B n err b0 b1 ce ex) 74

set_option maxHeartbeats 1000000 in
set_option maxRecDepth 100000 in
theorem begin_yes {w : World} {A B C D base r v n ex : Nat} {ys zs l t : List Int} {e0 e1 : Addr} (hG : Gl w base e0 e1) (h : St w A B C base r v .nilIface ys zs) (hD : Cr w D B 0 .nilIface false ex)
    (hDA : D ≠ A) (hDB : D ≠ B) (hDC : D ≠ C) (hDb : base ≤ D) (hex : ex ≤ 16384) (hS : ys ++ zs = l ++ 13 :: 10 :: t) (hl : LineOk l n) (hx : nx ex l.length n ≤ 16384) (hn : 0 < n) :
    Calls Tryd.prog 53 #[.pointer (some ⟨D, 0, none⟩)] w fun e w' => e = .returned (.tuple #[]) ∧ (∃ r v ys zs, St w' A B C base r v .nilIface ys zs ∧ ys ++ zs = t) ∧ Cr w' D B n .nilIface false (nx ex l.length n) ∧ Fr [A, B, C, D] w w' := by
  obtain ⟨b0, b1, hD⟩ := hD
  have R := Lib.hid (line_yes hG h hS hl.h10 hl.h13 hl.hl)
  have LO := Lib.hid hl
  have HD := Lib.hid hD
  have HX := Lib.hid hx
  have HH := Lib.hid (And.intro h.hA (And.intro h.hB h.hC))
  have hD0 := hD.cell (i := 0) rfl
  have hDC' : ¬ C = D := fun e => hDC e.symm
  clear hG h hS hl hD hx
  go_enter Tryd.func53, Tryd.ntmps53
  go_wp2_with fail
  refine R.out.mono ?_
  rintro e w1 ⟨⟨r1, v1, o, cap, ys1, zs1, rfl, hsl, hst, hy⟩, hF⟩
  obtain ⟨ln, hln⟩ : ∃ ln, ln = l.length := ⟨_, rfl⟩
  rw [← hln] at hsl ⊢
  have d1 := hF.blk HD.out (by simp [hDA, hDB, hDC])
  have hD0 := d1.cell (i := 0) rfl
  have hD2 := d1.cell (i := 2) rfl
  have hD6 := d1.cell (i := 6) rfl
  have fD2 := d1.frozen 2
  have fD6 := d1.frozen 6
  have ST1 := Lib.hid hst
  have SL1 := Lib.hid hsl
  have FR1 := Lib.hid hF
  have Y1 := Lib.hid hy
  have D1 := Lib.hid d1
  obtain ⟨ln2, hln2⟩ : ∃ k, k = ln + 2 := ⟨_, rfl⟩
  obtain ⟨x1, hx1⟩ : ∃ k, k = ex + ln2 := ⟨_, rfl⟩
  have hlb : ln ≤ 4000 := by rw [hln]; exact LO.out.hl
  have hl2 : (ln : Int) + 2 = (ln2 : Int) := by omega
  have hxe : (ex : Int) + (ln2 : Int) = (x1 : Int) := by omega
  have hxb : x1 ≤ 20386 := by omega
  have LN := Lib.hid hln
  have LN2 := Lib.hid hln2
  have X1 := Lib.hid hx1
  clear hsl hst hF hy d1 hln hln2 hx1
  go_wp2_with fail
  have b2 := (D1.out.set 2 .nilIface).set 6 (.int .i64 (x1 : Int))
  have F2 := Lib.hid (((Fr.refl [D] w1).setCell (b := D) (i := 2) (by simp) .nilIface).setCell (b := D) (i := 6) (by simp) (.int .i64 (x1 : Int)))
  clear hD0 hD2 hD6 fD2 fD6
  generalize (w1.setCell ⟨D, 2, none⟩ .nilIface).setCell ⟨D, 6, none⟩ (.int .i64 (x1 : Int)) = w2 at b2 F2 ⊢
  have SL2 := Lib.hid (SL1.out.fr F2.out (fun x hx => by injection hx with hx; subst hx; simpa using hDC'))
  have D2 := Lib.hid b2
  clear b2
  obtain ⟨T, hT⟩ : ∃ T, T = tl l ln := ⟨_, rfl⟩
  have hTl : T ≤ ln := by rw [hT]; exact tl_le _ _
  obtain ⟨P, hP⟩ : ∃ P, P = bef (l.take T) := ⟨_, rfl⟩
  have hPT : P ≤ T := by rw [hP]; have := bef_le (l.take T); rw [List.length_take] at this; omega
  have hPd : P = pd l := by rw [hP, hT, LN.out]; rfl
  have hP1 : 0 < P := by rw [hPd]; exact LO.out.hp
  have hP2 : P ≤ 16 := by rw [hPd]; exact LO.out.hq
  have hval : hv ((l.take T).take P) P = (n : Int) := by rw [hv_take _ _ _ (Nat.le_refl _), hv_take _ _ _ hPT, hPd]; exact LO.out.hv
  have HH2 : Hid (∀ i, i < P → isHex (((l.take T).take P).getD i 0) = true) := fun i hi => by
    rw [getD_take hi, getD_take (by omega)]
    exact LO.out.hx i (by omega)
  have hn61 := LO.out.hn
  have K58 := Lib.hid (trim_any (some ⟨C, o, none⟩) ln cap l w2 SL2.out)
  have SLT := Lib.hid (SL2.out.take (n := T) hTl)
  have K59 := Lib.hid (rem_any (some ⟨C, o, none⟩) T cap (l.take T) w2 SLT.out (by omega))
  rw [← hT] at K58
  rw [← hP] at K59
  have SLP := Lib.hid (SLT.out.take (n := P) hPT)
  have HT := Lib.hid hT
  have HP := Lib.hid hPd
  have HV := Lib.hid hval
  clear hT hP hPd hval
  refine K58.out.mono ?_
  rintro e w' ⟨rfl, rfl⟩
  go_wp2_with fail
  refine K59.out.mono ?_
  rintro e w3 ⟨rfl, hb3⟩
  have F3 := Lib.hid (Fr.of_below (S := []) hb3)
  have d3 := F3.out.blk D2.out (by simp)
  have hD0 := d3.cell (i := 0) rfl
  have hD2 := d3.cell (i := 2) rfl
  have fD2 := d3.frozen 2
  have D3 := Lib.hid d3
  clear d3 hb3
  go_wp2_with fail
  have b4 := D3.out.set 2 .nilIface
  have F4 := Lib.hid ((Fr.refl [D] w3).setCell (b := D) (i := 2) (by simp) .nilIface)
  clear hD0 hD2 fD2
  generalize w3.setCell ⟨D, 2, none⟩ .nilIface = w4 at b4 F4 ⊢
  have SL4 := Lib.hid ((SLP.out.fr F3.out (fun _ _ => by simp)).fr F4.out (fun x hx => by injection hx with hx; subst hx; simpa using hDC'))
  have hD1 := b4.cell (i := 1) rfl
  have hD2 := b4.cell (i := 2) rfl
  have hD6 := b4.cell (i := 6) rfl
  have fD1 := b4.frozen 1
  have fD2 := b4.frozen 2
  have fD6 := b4.frozen 6
  have D4 := Lib.hid b4
  have K60 := Lib.hid (hex_yes (some ⟨C, o, none⟩) P cap _ w4 SL4.out hP1 hP2 HH2)
  rw [HV.out] at K60
  clear b4
  refine K60.out.mono ?_
  rintro e w' ⟨rfl, rfl⟩
  go_wp2_with fail
  have b5 := (D4.out.set 1 (.int .u64 (n : Int))).set 2 .nilIface
  have F5 := Lib.hid (((Fr.refl [D] w4).setCell (b := D) (i := 1) (by simp) (.int .u64 (n : Int))).setCell (b := D) (i := 2) (by simp) .nilIface)
  clear hD1 hD2 hD6 fD1 fD2 fD6
  generalize (w4.setCell ⟨D, 1, none⟩ (.int .u64 (n : Int))).setCell ⟨D, 2, none⟩ .nilIface = w5 at b5 F5 ⊢
  have hD1 := b5.cell (i := 1) rfl
  have hD6 := b5.cell (i := 6) rfl
  have fD6 := b5.frozen 6
  have D5 := Lib.hid b5
  clear b5
  obtain ⟨n2, hn2⟩ : ∃ k, k = 2 * n := ⟨_, rfl⟩
  obtain ⟨n3, hn3⟩ : ∃ k, k = 16 + n2 := ⟨_, rfl⟩
  obtain ⟨y, hy⟩ : ∃ y : Int, y = x1 - n3 := ⟨_, rfl⟩
  have hn2i : 2 * (n : Int) = (n2 : Int) := by omega
  have hn3i : 16 + (n2 : Int) = (n3 : Int) := by omega
  have hyi : (x1 : Int) - (n3 : Int) = y := hy.symm
  have hn2b : n2 ≤ 4611686018427387904 := by omega
  have hn3b : n3 ≤ 4611686018427387920 := by omega
  have hyb : -4611686018427387920 ≤ y := by omega
  have hyc : y ≤ 20386 := by omega
  obtain ⟨z, hz⟩ : ∃ z, z = nx ex l.length n := ⟨_, rfl⟩
  have hzy : (if y < 0 then 0 else y) = (z : Int) := by
    have := LN2.out
    have := X1.out
    have := LN.out
    rw [hz]
    unfold nx
    split <;> omega
  have hzb : z ≤ 16384 := by rw [hz]; exact HX.out
  have hzc : ¬ 16384 < (z : Int) := by omega
  have hn0 : ((n : Int) == 0) = false := beq_eq_false_iff_ne.2 (by omega)
  have HZ := Lib.hid hz
  clear hz
  have N2 := Lib.hid hn2
  have N3 := Lib.hid hn3
  have Y2 := Lib.hid hy
  clear hn2 hn3 hy
  go_region
  go_wp2_with fail
  refine bodyPost_end (results_none rfl _ _ _) rfl ?_
  have F6 : ∀ a b : Value, Fr [D] w5 ((w5.setCell ⟨D, 6, none⟩ a).setCell ⟨D, 6, none⟩ b).drew := fun a b => (((Fr.refl [D] w5).setCell (by simp) _).setCell (by simp) _).drew
  have FF : ∀ a b : Value, Fr [D] w1 ((w5.setCell ⟨D, 6, none⟩ a).setCell ⟨D, 6, none⟩ b).drew := fun a b => (((F2.out.trans (F3.out.mono (by simp))).trans F4.out).trans F5.out).trans (F6 a b)
  rw [← HZ.out]
  refine ⟨rfl, ⟨r1, v1, ys1, zs1, ST1.out.fr (FF _ _) ?_ ?_ ?_ ?_, Y1.out⟩, ⟨b0, b1, (D5.out.set 6 _).set 6 _⟩, (FR1.out.mono (by simp)).trans ((FF _ _).mono (by simp))⟩
  · simpa using Ne.symm hDA
  · simpa using Ne.symm hDB
  · simpa using Ne.symm hDC
  · simpa using hDb

set_option maxHeartbeats 1000000 in
set_option maxRecDepth 100000 in
/-- The last chunk. -/
theorem begin_last {w : World} {A B C D base r v n ex : Nat} {ys zs l t : List Int} {e0 e1 : Addr} (hG : Gl w base e0 e1) (h : St w A B C base r v .nilIface ys zs) (hD : Cr w D B 0 .nilIface false ex)
    (hDA : D ≠ A) (hDB : D ≠ B) (hDC : D ≠ C) (hDb : base ≤ D) (hex : ex ≤ 16384) (hS : ys ++ zs = l ++ 13 :: 10 :: t) (hl : LineOk l n) (hx : nx ex l.length n ≤ 16384) (hn : n = 0) :
    Calls Tryd.prog 53 #[.pointer (some ⟨D, 0, none⟩)] w fun e w' => e = .returned (.tuple #[]) ∧ Cr w' D B n (.iface 102 (.pointer (some e0))) false (nx ex l.length n) ∧ Fr [A, B, C, D] w w' := by
  obtain ⟨b0, b1, hD⟩ := hD
  have HG := Lib.hid hG
  have hbs : base ≤ w.heap.size := by obtain ⟨ra, rl, rc, pa, pl, pc, k, un⟩ := h.un; have := un.blk.lt; have := h.hA; omega
  have HB := Lib.hid hbs
  have hND : ¬ 0 = D := by have := hG.h2; omega
  have NN := Lib.hid hn
  clear hbs hn
  have R := Lib.hid (line_yes hG h hS hl.h10 hl.h13 hl.hl)
  have LO := Lib.hid hl
  have HD := Lib.hid hD
  have HX := Lib.hid hx
  have HH := Lib.hid (And.intro h.hA (And.intro h.hB h.hC))
  have hD0 := hD.cell (i := 0) rfl
  have hDC' : ¬ C = D := fun e => hDC e.symm
  clear hG h hS hl hD hx
  go_enter Tryd.func53, Tryd.ntmps53
  go_wp2_with fail
  refine R.out.mono ?_
  rintro e w1 ⟨⟨r1, v1, o, cap, ys1, zs1, rfl, hsl, hst, hy⟩, hF⟩
  obtain ⟨ln, hln⟩ : ∃ ln, ln = l.length := ⟨_, rfl⟩
  rw [← hln] at hsl ⊢
  have d1 := hF.blk HD.out (by simp [hDA, hDB, hDC])
  have hD0 := d1.cell (i := 0) rfl
  have hD2 := d1.cell (i := 2) rfl
  have hD6 := d1.cell (i := 6) rfl
  have fD2 := d1.frozen 2
  have fD6 := d1.frozen 6
  have ST1 := Lib.hid hst
  have SL1 := Lib.hid hsl
  have FR1 := Lib.hid hF
  have Y1 := Lib.hid hy
  have D1 := Lib.hid d1
  obtain ⟨ln2, hln2⟩ : ∃ k, k = ln + 2 := ⟨_, rfl⟩
  obtain ⟨x1, hx1⟩ : ∃ k, k = ex + ln2 := ⟨_, rfl⟩
  have hlb : ln ≤ 4000 := by rw [hln]; exact LO.out.hl
  have hl2 : (ln : Int) + 2 = (ln2 : Int) := by omega
  have hxe : (ex : Int) + (ln2 : Int) = (x1 : Int) := by omega
  have hxb : x1 ≤ 20386 := by omega
  have LN := Lib.hid hln
  have LN2 := Lib.hid hln2
  have X1 := Lib.hid hx1
  clear hsl hst hF hy d1 hln hln2 hx1
  go_wp2_with fail
  have b2 := (D1.out.set 2 .nilIface).set 6 (.int .i64 (x1 : Int))
  have F2 := Lib.hid (((Fr.refl [D] w1).setCell (b := D) (i := 2) (by simp) .nilIface).setCell (b := D) (i := 6) (by simp) (.int .i64 (x1 : Int)))
  clear hD0 hD2 hD6 fD2 fD6
  generalize (w1.setCell ⟨D, 2, none⟩ .nilIface).setCell ⟨D, 6, none⟩ (.int .i64 (x1 : Int)) = w2 at b2 F2 ⊢
  have SL2 := Lib.hid (SL1.out.fr F2.out (fun x hx => by injection hx with hx; subst hx; simpa using hDC'))
  have D2 := Lib.hid b2
  clear b2
  obtain ⟨T, hT⟩ : ∃ T, T = tl l ln := ⟨_, rfl⟩
  have hTl : T ≤ ln := by rw [hT]; exact tl_le _ _
  obtain ⟨P, hP⟩ : ∃ P, P = bef (l.take T) := ⟨_, rfl⟩
  have hPT : P ≤ T := by rw [hP]; have := bef_le (l.take T); rw [List.length_take] at this; omega
  have hPd : P = pd l := by rw [hP, hT, LN.out]; rfl
  have hP1 : 0 < P := by rw [hPd]; exact LO.out.hp
  have hP2 : P ≤ 16 := by rw [hPd]; exact LO.out.hq
  have hval : hv ((l.take T).take P) P = (n : Int) := by rw [hv_take _ _ _ (Nat.le_refl _), hv_take _ _ _ hPT, hPd]; exact LO.out.hv
  have HH2 : Hid (∀ i, i < P → isHex (((l.take T).take P).getD i 0) = true) := fun i hi => by
    rw [getD_take hi, getD_take (by omega)]
    exact LO.out.hx i (by omega)
  have hn61 := LO.out.hn
  have K58 := Lib.hid (trim_any (some ⟨C, o, none⟩) ln cap l w2 SL2.out)
  have SLT := Lib.hid (SL2.out.take (n := T) hTl)
  have K59 := Lib.hid (rem_any (some ⟨C, o, none⟩) T cap (l.take T) w2 SLT.out (by omega))
  rw [← hT] at K58
  rw [← hP] at K59
  have SLP := Lib.hid (SLT.out.take (n := P) hPT)
  have HT := Lib.hid hT
  have HP := Lib.hid hPd
  have HV := Lib.hid hval
  clear hT hP hPd hval
  refine K58.out.mono ?_
  rintro e w' ⟨rfl, rfl⟩
  go_wp2_with fail
  refine K59.out.mono ?_
  rintro e w3 ⟨rfl, hb3⟩
  have F3 := Lib.hid (Fr.of_below (S := []) hb3)
  have d3 := F3.out.blk D2.out (by simp)
  have hD0 := d3.cell (i := 0) rfl
  have hD2 := d3.cell (i := 2) rfl
  have fD2 := d3.frozen 2
  have D3 := Lib.hid d3
  clear d3 hb3
  go_wp2_with fail
  have b4 := D3.out.set 2 .nilIface
  have F4 := Lib.hid ((Fr.refl [D] w3).setCell (b := D) (i := 2) (by simp) .nilIface)
  clear hD0 hD2 fD2
  generalize w3.setCell ⟨D, 2, none⟩ .nilIface = w4 at b4 F4 ⊢
  have SL4 := Lib.hid ((SLP.out.fr F3.out (fun _ _ => by simp)).fr F4.out (fun x hx => by injection hx with hx; subst hx; simpa using hDC'))
  have hD1 := b4.cell (i := 1) rfl
  have hD2 := b4.cell (i := 2) rfl
  have hD6 := b4.cell (i := 6) rfl
  have fD1 := b4.frozen 1
  have fD2 := b4.frozen 2
  have fD6 := b4.frozen 6
  have D4 := Lib.hid b4
  have K60 := Lib.hid (hex_yes (some ⟨C, o, none⟩) P cap _ w4 SL4.out hP1 hP2 HH2)
  rw [HV.out] at K60
  clear b4
  refine K60.out.mono ?_
  rintro e w' ⟨rfl, rfl⟩
  go_wp2_with fail
  have b5 := (D4.out.set 1 (.int .u64 (n : Int))).set 2 .nilIface
  have F5 := Lib.hid (((Fr.refl [D] w4).setCell (b := D) (i := 1) (by simp) (.int .u64 (n : Int))).setCell (b := D) (i := 2) (by simp) .nilIface)
  clear hD1 hD2 hD6 fD1 fD2 fD6
  generalize (w4.setCell ⟨D, 1, none⟩ (.int .u64 (n : Int))).setCell ⟨D, 2, none⟩ .nilIface = w5 at b5 F5 ⊢
  have hD1 := b5.cell (i := 1) rfl
  have hD2 := b5.cell (i := 2) rfl
  have hD6 := b5.cell (i := 6) rfl
  have fD2 := b5.frozen 2
  have fD6 := b5.frozen 6
  have D5 := Lib.hid b5
  clear b5
  obtain ⟨n2, hn2⟩ : ∃ k, k = 2 * n := ⟨_, rfl⟩
  obtain ⟨n3, hn3⟩ : ∃ k, k = 16 + n2 := ⟨_, rfl⟩
  obtain ⟨y, hy⟩ : ∃ y : Int, y = x1 - n3 := ⟨_, rfl⟩
  have hn2i : 2 * (n : Int) = (n2 : Int) := by omega
  have hn3i : 16 + (n2 : Int) = (n3 : Int) := by omega
  have hyi : (x1 : Int) - (n3 : Int) = y := hy.symm
  have hn2b : n2 ≤ 4611686018427387904 := by omega
  have hn3b : n3 ≤ 4611686018427387920 := by omega
  have hyb : -4611686018427387920 ≤ y := by omega
  have hyc : y ≤ 20386 := by omega
  obtain ⟨z, hz⟩ : ∃ z, z = nx ex l.length n := ⟨_, rfl⟩
  have hzy : (if y < 0 then 0 else y) = (z : Int) := by
    have := LN2.out
    have := X1.out
    have := LN.out
    rw [hz]
    unfold nx
    split <;> omega
  have hzb : z ≤ 16384 := by rw [hz]; exact HX.out
  have hzc : ¬ 16384 < (z : Int) := by omega
  have hn0 : ((n : Int) == 0) = true := by rw [NN.out]; rfl
  have hg0 : w5.cell? ⟨0, 0, none⟩ = some (.iface 102 (.pointer (some e0))) := (HG.out.below (((FR1.out.mono (by simp)).trans ((((F2.out.trans (F3.out.mono (by simp))).trans F4.out).trans F5.out).mono (by simp)) : Fr [A, B, C, D] w w5).below HB.out (by have := HH.out; simp; omega))).g0
  have HZ := Lib.hid hz
  clear hz
  have N2 := Lib.hid hn2
  have N3 := Lib.hid hn3
  have Y2 := Lib.hid hy
  clear hn2 hn3 hy
  go_region
  go_wp2_with fail
  refine bodyPost_end (results_none rfl _ _ _) rfl ?_
  have F6 : ∀ a b c : Value, Fr [D] w5 (((w5.setCell ⟨D, 6, none⟩ a).setCell ⟨D, 6, none⟩ b).drew.setCell ⟨D, 2, none⟩ c) := fun a b c => ((((Fr.refl [D] w5).setCell (by simp) _).setCell (by simp) _).drew).setCell (by simp) _
  have FF : ∀ a b c : Value, Fr [D] w1 (((w5.setCell ⟨D, 6, none⟩ a).setCell ⟨D, 6, none⟩ b).drew.setCell ⟨D, 2, none⟩ c) := fun a b c => (((F2.out.trans (F3.out.mono (by simp))).trans F4.out).trans F5.out).trans (F6 a b c)
  rw [← HZ.out]
  exact ⟨rfl, ⟨b0, b1, ((D5.out.set 6 _).set 6 _).set 2 _⟩, (FR1.out.mono (by simp)).trans ((FF _ _ _).mono (by simp))⟩

set_option maxHeartbeats 1000000 in
set_option maxRecDepth 100000 in
/-- No line is there. -/
theorem begin_cut {w : World} {A B C D base r v ex : Nat} {ys zs : List Int} {e0 e1 : Addr} (hG : Gl w base e0 e1) (h : St w A B C base r v .nilIface ys zs) (hD : Cr w D B 0 .nilIface false ex)
    (hDA : D ≠ A) (hDB : D ≠ B) (hDC : D ≠ C) (hS : 10 ∉ ys ++ zs) (hl : (ys ++ zs).length ≤ 4000) :
    Calls Tryd.prog 53 #[.pointer (some ⟨D, 0, none⟩)] w fun e w' => e = .returned (.tuple #[]) ∧ Cr w' D B 0 (.iface 102 (.pointer (some e1))) false ex ∧ Fr [A, B, C, D] w w' := by
  obtain ⟨b0, b1, hD⟩ := hD
  have R := Lib.hid (line_cut hG h hS hl)
  have HD := Lib.hid hD
  have hD0 := hD.cell (i := 0) rfl
  clear hG h hS hl hD
  go_enter Tryd.func53, Tryd.ntmps53
  go_wp2_with fail
  refine R.out.mono ?_
  rintro e w1 ⟨rfl, hF⟩
  have d1 := hF.blk HD.out (by simp [hDA, hDB, hDC])
  have hD2 := d1.cell (i := 2) rfl
  have fD2 := d1.frozen 2
  have FR1 := Lib.hid hF
  have D1 := Lib.hid d1
  clear hF d1
  go_wp2_with fail
  refine bodyPost_ret (results_none rfl _ _ _) rfl ?_
  exact ⟨rfl, ⟨b0, b1, D1.out.set 2 _⟩, (FR1.out.mono (by simp)).setCell (by simp) _⟩
end Go.Proofs.YtjajhpgodijeoaaDoor
