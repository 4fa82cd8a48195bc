/-
  Reading chunks.
-/
import Derived.Test.YtjajhpgodijeoaaDoorRdp
import Derived.Deep.Cut
namespace Go.Proofs.YtjajhpgodijeoaaDoor
open Go.RowKit

/-- What one reading gives: k bytes. -/
def Rdd (A B C D base Pb : Nat) (ps : List Value) (tP : TypeId) (off len : Nat) (o : List Int) (e : Bool) (e0 e1 : Addr) (e' : Ending) (w' : World) : Prop :=
  ∃ k err, e' = .returned (.tuple #[.int .i64 (k : Nat), err]) ∧ k ≤ len ∧ k ≤ o.length ∧ Blk w' Pb (splice ps off (cells (o.take k))) tP ∧
    ((err = .nilIface ∧ 1 ≤ k ∧ ∃ g, Live A B C D base (o.drop k) e g w') ∨ (err = eE e0 e1 e ∧ o.drop k = []))

/-- What holds at the head of its loop. -/
def RdcRel (A B C D base Pb : Nat) (ps : List Value) (tP : TypeId) (off len cap : Nat) (o : List Int) (e : Bool) (e0 e1 : Addr) (w : World) (g : Nat) (s1 s4 : Value) (wr : World) : Prop :=
  ∃ k a, k ≤ len ∧ k ≤ o.length ∧ s4 = .int .i64 (k : Nat) ∧ s1 = .slice a (len - k) (cap - k) ∧ (k < len → a = some ⟨Pb, off + k, none⟩) ∧ Blk wr Pb (splice ps off (cells (o.take k))) tP ∧ Fr [A, B, C, D, Pb] w wr ∧
    (Live A B C D base (o.drop k) e g wr ∨ (g = 0 ∧ Dead B D e0 e1 (o.drop k) e wr))

/-- Blocks that are not one another. -/
structure Ap (A B C D Pb base : Nat) : Prop where
  DA : D ≠ A
  DB : D ≠ B
  DC : D ≠ C
  Db : base ≤ D
  PA : Pb ≠ A
  PB : Pb ≠ B
  PC : Pb ≠ C
  PD : Pb ≠ D
  Pb' : base ≤ Pb

section
variable {A B C D base Pb off len cap k gk : Nat} {ps : List Value} {tP : TypeId} {o s : List Int} {e : Bool} {e0 e1 : Addr} {w wr w2 : World} {a : Option Addr}

theorem rel_begun (ap : Ap A B C D Pb base) (h1 : k ≤ len) (h2 : k ≤ o.length) (h3 : k < len → a = some ⟨Pb, off + k, none⟩) (h4 : Blk wr Pb (splice ps off (cells (o.take k))) tP) (h5 : Fr [A, B, C, D, Pb] w wr)
    (hF : Fr [A, B, C, D] wr w2) (hb : Begun A B C D base s e0 e1 (o.drop k) e w2) (hg : s.length + 1 ≤ gk) :
    ∃ g', g' < gk ∧ RdcRel A B C D base Pb ps tP off len cap o e e0 e1 w g' (.slice a (len - k) (cap - k)) (.int .i64 (k : Nat)) w2 := by
  have hB := hF.blk h4 (by simp [ap.PA, ap.PB, ap.PC, ap.PD])
  have hFr := h5.trans (hF.mono (by simp))
  rcases hb with ⟨n, ex', s', hn, hn61, hc, hl, hr, hx, hs⟩ | ⟨n, ex', hc, hr⟩
  · exact ⟨s'.length + 1, by omega, k, a, h1, h2, rfl, rfl, h3, hB, hFr, .inl ⟨n, false, ex', s', hn61, hc, hl, hr, hx, rfl⟩⟩
  · exact ⟨0, by omega, k, a, h1, h2, rfl, rfl, h3, hB, hFr, .inr ⟨rfl, n, false, ex', hc, hr⟩⟩

theorem rel_read {L Cp m n n0 n2 ex : Nat} {ce : Bool} {err err' : Value} {w4 w5 : World} (ap : Ap A B C D Pb base) (h1 : k < len) (h2 : k ≤ o.length) (hL : L = len - k) (hCp : Cp = cap - k) (ha : a = some ⟨Pb, off + k, none⟩) (hcap : len ≤ cap) (hfit : off + len ≤ ps.length)
    (h5 : Fr [A, B, C, D, Pb] w wr) (hm : m ≤ L) (hmn : m ≤ n) (hn61 : n < 2305843009213693952) (hR : Run n false ex s (o.drop k) e) (hgot : Got1 A B C base Pb (splice ps off (cells (o.take k))) tP (off + k) m s e0 n0 err w4) (hF4 : Fr [A, B, C, Pb] wr w4) (hF5 : Fr [D] w4 w5) (hn : 0 < n) (hex : ex ≤ 16384)
    (hg : s.length + 1 ≤ gk) (hD : Cr w5 D B n2 err' ce ex) (hc : (err = .nilIface ∧ err' = .nilIface ∧ n2 = n - n0 ∧ ce = decide (n - n0 = 0)) ∨ (err = .iface 102 (.pointer (some e0)) ∧ err' = .iface 102 (.pointer (some e1)))) :
    ∃ g', g' < gk ∧ RdcRel A B C D base Pb ps tP off len cap o e e0 e1 w g' (.slice (cutAt a Cp n0) (L - n0) (Cp - n0)) (.int .i64 ((k + n0 : Nat) : Int)) w5 := by
  obtain ⟨g1, g2, g3, g4, g5⟩ := hgot
  have hFr : Fr [A, B, C, D, Pb] w w5 := h5.trans ((hF4.mono (by simp)).trans (hF5.mono (by simp)))
  have hb := hF5.blk g4 (by simpa using ap.PD)
  have hl : Left w5 A B C base (s.drop n0) := g3.fr hF5 (by simpa using Ne.symm ap.DA) (by simpa using Ne.symm ap.DB) (by simpa using Ne.symm ap.DC) (by simpa using ap.Db)
  have hkl : (cells (o.take k)).length = k := by rw [cells_len, List.length_take]; omega
  have e2 : splice (splice ps off (cells (o.take k))) (off + k) (cells (s.take n0)) = splice ps off (cells (o.take k ++ s.take n0)) := by
    have := splice_splice ps off (cells (o.take k)) (cells (s.take n0)) (by rw [hkl, cells_len, List.length_take]; omega)
    rw [hkl] at this
    rw [this, ← cells_append]
  have hcut : k + n0 < len → cutAt a Cp n0 = some ⟨Pb, off + (k + n0), none⟩ := fun h => by
    rw [ha]
    simp only [cutAt, if_neg (by omega : ¬ Cp = n0), Option.map_some, Nat.mul_one, Addr.add_lit, Nat.add_assoc]
  have hs1 : Value.slice (cutAt a Cp n0) (L - n0) (Cp - n0) = .slice (cutAt a Cp n0) (len - (k + n0)) (cap - (k + n0)) := by
    rw [hL, hCp, Nat.sub_sub, Nat.sub_sub]
  rcases hc with ⟨rfl, rfl, rfl, rfl⟩ | ⟨rfl, rfl⟩
  · rcases g5 with ⟨_, g5⟩ | ⟨g5, _⟩
    · obtain ⟨r1, r2, r3⟩ := hR.take g5 (by omega) g2
      rw [List.length_drop] at r2
      rw [List.drop_drop] at r3
      rw [e2, ← r1, ← List.take_add] at hb
      exact ⟨(s.drop n0).length + 1, by rw [List.length_drop]; omega, k + n0, _, by omega, by omega, rfl, hs1, hcut, hb, hFr, .inl ⟨_, _, ex, _, by omega, hD, hl, r3, hex, rfl⟩⟩
    · cases g5
  · rcases g5 with ⟨g5, _⟩ | ⟨_, rfl, rfl⟩
    · cases g5
    · obtain ⟨r1, rfl⟩ := hR.dry hn
      refine ⟨0, by omega, k + 0, _, by omega, by omega, rfl, hs1, hcut, ?_, hFr, .inr ⟨rfl, _, _, _, hD, by rw [Nat.add_zero]; exact r1⟩⟩
      rw [e2] at hb
      simpa using hb
end

theorem SL.crlf {w : World} {D B n ex : Nat} {err : Value} {ce : Bool} (h : Blk w D (cB B n err 13 10 ce ex) 74) : SL w (some ⟨D, 3, none⟩) 2 2 [13, 10] := by
  refine ⟨rfl, Nat.le_refl _, by unfold maxLen; omega, by simp, fun i => ?_, fun _ => ⟨D, 3, rfl, fun i hi => ?_⟩⟩
  · match i with
    | 0 => simp
    | 1 => simp
    | i + 2 => simp
  · match i, hi with
    | 0, _ => exact h.cell (i := 3) rfl
    | 1, _ => exact h.cell (i := 4) rfl

set_option maxHeartbeats 4000000 in
set_option maxRecDepth 100000 in
theorem rdc_any {w : World} {A B C D base Pb off len cap g0 : Nat} {ps : List Value} {tP : TypeId} {o : List Int} {e : Bool} {e0 e1 : Addr} (hG : Gl w base e0 e1) (hw : base ≤ w.heap.size) (ap : Ap A B C D Pb base) (hbA : base ≤ A ∧ base ≤ B ∧ base ≤ C)
    (hL : Live A B C D base o e g0 w) (hP : Blk w Pb ps tP) (hfit : off + len ≤ ps.length) (hl0 : 0 < len) (hcap : len ≤ cap) (hlen : cap ≤ 2147483647) :
    Calls Tryd.prog 52 #[.pointer (some ⟨D, 0, none⟩), .slice (some ⟨Pb, off, none⟩) len cap] w fun e' w' => Rdd A B C D base Pb ps tP off len o e e0 e1 e' w' ∧ Fr [A, B, C, D, Pb] w w' := by
  have HG := Lib.hid hG
  have HL := Lib.hid hL
  have HP := Lib.hid hP
  have HW := Lib.hid hw
  have AP := Lib.hid ap
  have HB := Lib.hid hbA
  have HFIT := Lib.hid hfit
  have GW : Hid (∀ w', Fr [A, B, C, D, Pb] w w' → Gl w' base e0 e1) := fun w' hF => HG.out.below (hF.below HW.out (by have := HB.out; have := AP.out.Db; have := AP.out.Pb'; simp; omega))
  have N0D : ¬ 0 = D := by have := hG.h2; have := ap.Db; omega
  have N1D : ¬ 1 = D := by have := hG.h2; have := ap.Db; omega
  clear hG hL hP hw ap hbA hfit
  go_enter Tryd.func52, Tryd.ntmps52
  go_wp2_with fail
  go_loopg [1, 4] g0 (RdcRel A B C D base Pb ps tP off len cap o e e0 e1 w)
  case atStart => exact ⟨0, some ⟨Pb, off, none⟩, Nat.zero_le _, Nat.zero_le _, rfl, rfl, fun _ => rfl, by simpa [cells, splice] using HP.out, Fr.refl _ _, .inl HL.out⟩
  case round =>
    obtain ⟨k, a, hk, hko, rfl, rfl, ha, hPk, hF, hc⟩ := hrel
    have HK := Lib.hid ha
    have HPk := Lib.hid hPk
    have HF := Lib.hid hF
    have HKO := Lib.hid hko
    clear ha hPk hF hko
    rcases hc with ⟨n, ce, ex, s, hn61, ⟨b0, b1, d⟩, hL, hR, hex, hg⟩ | ⟨hg, n, ce, ex, ⟨b0, b1, d⟩, hR⟩
    · have hD0 := d.cell (i := 0) rfl
      have hD1 := d.cell (i := 1) rfl
      have hD2 := d.cell (i := 2) rfl
      have hD5 := d.cell (i := 5) rfl
      have fD2 := d.frozen 2
      have HD := Lib.hid d
      have HL := Lib.hid hL
      have HR := Lib.hid hR
      have HG2 := Lib.hid hg
      clear hL hR hg d
      cases ce
      · rcases Nat.eq_zero_or_pos n with hn | hn
        · subst hn
          have dT := HD
          have LT := HL
          have FT := HF
          have PT := HPk
          have RT := HR
          have GT := Lib.hid (Nat.le_of_eq HG2.out.symm)
          clear fD2
          rcases Nat.eq_zero_or_pos k with hk0 | hk1
          · have hk2 : ¬ 0 < k := by omega
            have hk3 : ¬ 0 < (k : Int) := by omega
            have HK0 := Lib.hid hk0
            clear hk0
            go_wp2_with fail
            refine (begin_any (GW.out _ FT.out) LT.out ⟨_, _, dT.out⟩ AP.out.DA AP.out.DB AP.out.DC AP.out.Db hex RT.out).mono ?_
            rintro e' w5 ⟨rfl, hb5, hF5⟩
            obtain ⟨g', hg', hr'⟩ := rel_begun (cap := cap) AP.out hk HKO.out HK.out PT.out FT.out hF5 hb5 GT.out
            have HG' := Lib.hid hg'
            have HR' := Lib.hid hr'
            clear hb5 hF5 hg' hr'
            go_wp2_with fail
            go_roundg g'
            case measure => exact HG'.out
            case rel => exact HR'.out
          · have hk3 : 0 < (k : Int) := by omega
            go_wp2_with fail
            refine (avail_left LT.out ⟨_, _, dT.out⟩).mono ?_
            rintro e' w4 ⟨f, rfl, hL4, hF4⟩
            have d4 := Lib.hid (hF4.blk dT.out (by simpa using AP.out.DB))
            have P4 := Lib.hid (hF4.blk PT.out (by simpa using AP.out.PB))
            have L4 := Lib.hid hL4
            have F4 := Lib.hid (FT.out.trans (hF4.mono (by simp)))
            clear hL4 hF4
            cases f
            · have hD2 := d4.out.cell (i := 2) rfl
              go_wp2_with fail
              go_quiet (fail)
              all_goals go_wp2_with fail
              go_ret2
              exact ⟨⟨k, _, rfl, hk, HKO.out, P4.out.drewN _, .inl ⟨rfl, hk1, _, _, _, _, _, hn61, ⟨_, _, d4.out.drewN _⟩, L4.out.drewN _, RT.out, hex, rfl⟩⟩, F4.out.drewN _⟩
            · go_wp2_with fail
              refine (begin_any (GW.out _ F4.out) L4.out ⟨_, _, d4.out⟩ AP.out.DA AP.out.DB AP.out.DC AP.out.Db hex RT.out).mono ?_
              rintro e' w5 ⟨rfl, hb5, hF5⟩
              obtain ⟨g', hg', hr'⟩ := rel_begun (cap := cap) AP.out hk HKO.out HK.out P4.out F4.out hF5 hb5 GT.out
              have HG' := Lib.hid hg'
              have HR' := Lib.hid hr'
              clear hb5 hF5 hg' hr'
              go_wp2_with fail
              go_roundg g'
              case measure => exact HG'.out
              case rel => exact HR'.out
        · clear fD2
          have hn0 : ((n : Int) == 0) = false := beq_eq_false_iff_ne.2 (by omega)
          obtain ⟨L, hLk⟩ : ∃ L, L = len - k := ⟨_, rfl⟩
          obtain ⟨Cp, hCp⟩ : ∃ Cp, Cp = cap - k := ⟨_, rfl⟩
          rw [← hLk, ← hCp]
          have LK := Lib.hid hLk
          have CP := Lib.hid hCp
          rcases Nat.eq_zero_or_pos L with hL0 | hL0
          · have hLL : ((L : Int) == 0) = true := by rw [hL0]; rfl
            have hk1 := Lib.hid (show 1 ≤ k by omega)
            clear hLk hCp hL0
            go_wp2_with fail
            go_quiet (fail)
            all_goals go_wp2_with fail
            go_ret2
            exact ⟨⟨k, _, rfl, hk, HKO.out, HPk.out.drewN _, .inl ⟨rfl, hk1.out, _, _, _, _, _, hn61, ⟨_, _, HD.out.drewN _⟩, HL.out.drewN _, HR.out, hex, rfl⟩⟩, HF.out.drewN _⟩
          · have hkl : k < len := by omega
            have hLL : ((L : Int) == 0) = false := beq_eq_false_iff_ne.2 (by omega)
            have hLb : L ≤ 2147483647 := by omega
            have HA := Lib.hid (HK.out hkl)
            have hLC : L ≤ Cp := by omega
            have ha' := HK.out hkl
            subst ha'
            obtain ⟨oo, hoo⟩ : ∃ oo, oo = off + k := ⟨_, rfl⟩
            rw [← hoo]
            have OO := Lib.hid hoo
            have hol : oo + L ≤ (splice ps off (cells (o.take k))).length := by
              rw [length_splice _ _ _ (by have := HFIT.out; rw [cells_len, List.length_take]; omega)]
              have := HFIT.out
              omega
            have OL := Lib.hid hol
            have GT := Lib.hid (Nat.le_of_eq HG2.out.symm)
            clear hLk hCp hoo hol HA
            have KR : Hid (∀ m, 0 < m → m ≤ L → Calls Tryd.prog 48 #[.pointer (some ⟨B, 0, none⟩), .slice (some ⟨Pb, oo, none⟩) m Cp] wr fun e' w' => ∃ n0 err, e' = .returned (.tuple #[.int .i64 (n0 : Nat), err]) ∧ Got1 A B C base Pb (splice ps off (cells (o.take k))) tP oo m s e0 n0 err w' ∧ Fr [A, B, C, Pb] wr w') := fun m h0 h1 => by
              have := OL.out
              exact ral_read HL.out HPk.out (by omega) h0 (by omega) AP.out.PA AP.out.PB AP.out.PC AP.out.Pb' (GW.out _ HF.out) _ ⟨0, rfl⟩
            rcases Nat.lt_or_ge n L with hnL | hnL
            · have hcmp : (n : Int) < (L : Int) := by omega
              have hsl : ∀ W, (Instr.slice 22 (.slice (some ⟨Pb, oo, none⟩) L Cp) none (some (.int .u64 n)) none).run Tryd.prog W = .ok (.slice (some ⟨Pb, oo, none⟩) n Cp) W := fun W => by
                rw [run_slice_h W 22 _ L Cp slice22 .u64 n (by omega) (by omega), size22]
                simp only [Result.andThen, sliced, Int.toNat_natCast]
                simp [Addr.add]
              go_wp2_with fail
              refine (KR.out n (by omega) (by omega)).mono ?_
              rintro e' w4 ⟨n0, err, rfl, hgot, hF4⟩
              have GOT := Lib.hid hgot
              have F4 := Lib.hid hF4
              have d4 := hF4.blk HD.out (by simp [AP.out.DA, AP.out.DB, AP.out.DC, Ne.symm AP.out.PD])
              have hD1 := d4.cell (i := 1) rfl
              have hD2 := d4.cell (i := 2) rfl
              have hD5 := d4.cell (i := 5) rfl
              have fD1 := d4.frozen 1
              have fD2 := d4.frozen 2
              have fD5 := d4.frozen 5
              have D4 := Lib.hid d4
              obtain ⟨n2, hn2⟩ : ∃ n2, n2 = n - n0 := ⟨_, rfl⟩
              obtain ⟨k2, hk2⟩ : ∃ k2, k2 = k + n0 := ⟨_, rfl⟩
              have hn0m : n0 ≤ n := hgot.1
              have hn2i : (n : Int) - (n0 : Int) = (n2 : Int) := by omega
              have hk2i : (k : Int) + (n0 : Int) = (k2 : Int) := by omega
              have hs2 : ∀ W, (Instr.slice 22 (.slice (some ⟨Pb, oo, none⟩) L Cp) (some (.int .i64 n0)) none none).run Tryd.prog W = .ok (.slice (cutAt (some ⟨Pb, oo, none⟩) Cp n0) (L - n0) (Cp - n0)) W := fun W => run_from W _ L Cp n0 (by omega) rfl
              have N2 := Lib.hid hn2
              have K2 := Lib.hid hk2
              have GG := GW.out w4 (HF.out.trans (hF4.mono (by simp)))
              have hg0 := GG.g0
              have hg1 := GG.g1
              have he := fun W => eql_same W e0
              have hcs := hgot.2.2.2.2
              clear hgot hF4 d4 hn2 hk2 GG hD0
              rcases hcs with ⟨rfl, hp⟩ | ⟨rfl, hs0, hn00⟩
              · rcases Nat.eq_zero_or_pos n2 with hz | hz
                · have hzz : ((n2 : Int) == 0) = true := by rw [hz]; rfl
                  have HZ := Lib.hid hz
                  clear hz
                  go_wp2_with fail
                  obtain ⟨g', hg', hr'⟩ := rel_read (cap := cap) (a := some ⟨Pb, oo, none⟩) (ce := true) (n2 := n2) (w5 := ((w4.setCell ⟨D, 2, none⟩ .nilIface).setCell ⟨D, 1, none⟩ (.int .u64 (n2 : Int))).setCell ⟨D, 5, none⟩ (.bool true)) AP.out hkl HKO.out LK.out CP.out (by rw [OO.out]) hcap HFIT.out HF.out (by omega) (Nat.le_refl _) hn61 HR.out (by rw [← OO.out]; exact GOT.out) F4.out ((((Fr.refl [D] w4).setCell (by simp) _).setCell (by simp) _).setCell (by simp) _) hn hex GT.out ⟨b0, b1, ((D4.out.set 2 _).set 1 _).set 5 _⟩ (.inl ⟨rfl, rfl, N2.out, by rw [← N2.out, HZ.out]; rfl⟩)
                  rw [← K2.out] at hr'
                  have HG' := Lib.hid hg'
                  have HR' := Lib.hid hr'
                  clear hg' hr'
                  go_roundg g'
                  case measure => exact HG'.out
                  case rel => exact HR'.out
                · have hzz : ((n2 : Int) == 0) = false := beq_eq_false_iff_ne.2 (by omega)
                  go_wp2_with fail
                  have d5 := (D4.out.set 2 .nilIface).set 1 (.int .u64 (n2 : Int))
                  have F5 := Lib.hid (((Fr.refl [D] w4).setCell (b := D) (i := 2) (by simp) .nilIface).setCell (b := D) (i := 1) (by simp) (.int .u64 (n2 : Int)))
                  have hg0 := F5.out.cell hg0 (by simpa using N0D)
                  generalize (w4.setCell ⟨D, 2, none⟩ .nilIface).setCell ⟨D, 1, none⟩ (.int .u64 (n2 : Int)) = w5 at d5 F5 hg0 ⊢
                  have hD2 := d5.cell (i := 2) rfl
                  have D5 := Lib.hid d5
                  clear d5
                  have hen := fun W => eql_nil e0 W
                  go_quiet (fail)
                  all_goals go_wp2_with fail
                  obtain ⟨g', hg', hr'⟩ := rel_read (cap := cap) (a := some ⟨Pb, oo, none⟩) (ce := false) (n2 := n2) (w5 := w5.drewN nq) AP.out hkl HKO.out LK.out CP.out (by rw [OO.out]) hcap HFIT.out HF.out (by omega) (Nat.le_refl _) hn61 HR.out (by rw [← OO.out]; exact GOT.out) F4.out (F5.out.drewN nq) hn hex GT.out ⟨b0, b1, D5.out.drewN nq⟩ (.inl ⟨rfl, rfl, N2.out, by rw [← N2.out]; symm; rw [decide_eq_false_iff_not]; omega⟩)
                  rw [← K2.out] at hr'
                  have HG' := Lib.hid hg'
                  have HR' := Lib.hid hr'
                  clear hg' hr'
                  go_roundg g'
                  case measure => exact HG'.out
                  case rel => exact HR'.out
              · have hzz : ((n2 : Int) == 0) = false := beq_eq_false_iff_ne.2 (by have := N2.out; omega)
                have S0 := Lib.hid hs0
                clear hs0 hn00
                go_wp2_with fail
                have d5 := (D4.out.set 2 (.iface 102 (.pointer (some e0)))).set 1 (.int .u64 (n2 : Int))
                have F5 := Lib.hid (((Fr.refl [D] w4).setCell (b := D) (i := 2) (by simp) (.iface 102 (.pointer (some e0)))).setCell (b := D) (i := 1) (by simp) (.int .u64 (n2 : Int)))
                have hg0 := F5.out.cell hg0 (by simpa using N0D)
                have hg1 := F5.out.cell hg1 (by simpa using N1D)
                generalize (w4.setCell ⟨D, 2, none⟩ (.iface 102 (.pointer (some e0)))).setCell ⟨D, 1, none⟩ (.int .u64 (n2 : Int)) = w5 at d5 F5 hg0 hg1 ⊢
                have hD2 := d5.cell (i := 2) rfl
                have fD2 := d5.frozen 2
                have D5 := Lib.hid d5
                clear d5
                go_quiet (fail)
                all_goals go_wp2_with fail
                obtain ⟨g', hg', hr'⟩ := rel_read (cap := cap) (a := some ⟨Pb, oo, none⟩) (ce := false) (n2 := n2) (w5 := (w5.drewN nq).setCell ⟨D, 2, none⟩ (.iface 102 (.pointer (some e1)))) AP.out hkl HKO.out LK.out CP.out (by rw [OO.out]) hcap HFIT.out HF.out (by omega) (Nat.le_refl _) hn61 HR.out (by rw [← OO.out]; exact GOT.out) F4.out ((F5.out.drewN nq).setCell (by simp) _) hn hex GT.out ⟨b0, b1, (D5.out.drewN nq).set 2 _⟩ (.inr ⟨rfl, rfl⟩)
                rw [← K2.out] at hr'
                have HG' := Lib.hid hg'
                have HR' := Lib.hid hr'
                clear hg' hr'
                go_roundg g'
                case measure => exact HG'.out
                case rel => exact HR'.out
            · have hcmp : ¬ (n : Int) < (L : Int) := by omega
              go_wp2_with fail
              refine (KR.out L (by omega) (by omega)).mono ?_
              rintro e' w4 ⟨n0, err, rfl, hgot, hF4⟩
              have GOT := Lib.hid hgot
              have F4 := Lib.hid hF4
              have d4 := hF4.blk HD.out (by simp [AP.out.DA, AP.out.DB, AP.out.DC, Ne.symm AP.out.PD])
              have hD1 := d4.cell (i := 1) rfl
              have hD2 := d4.cell (i := 2) rfl
              have hD5 := d4.cell (i := 5) rfl
              have fD1 := d4.frozen 1
              have fD2 := d4.frozen 2
              have fD5 := d4.frozen 5
              have D4 := Lib.hid d4
              obtain ⟨n2, hn2⟩ : ∃ n2, n2 = n - n0 := ⟨_, rfl⟩
              obtain ⟨k2, hk2⟩ : ∃ k2, k2 = k + n0 := ⟨_, rfl⟩
              have hn0m : n0 ≤ L := hgot.1
              have hn2i : (n : Int) - (n0 : Int) = (n2 : Int) := by omega
              have hk2i : (k : Int) + (n0 : Int) = (k2 : Int) := by omega
              have hs2 : ∀ W, (Instr.slice 22 (.slice (some ⟨Pb, oo, none⟩) L Cp) (some (.int .i64 n0)) none none).run Tryd.prog W = .ok (.slice (cutAt (some ⟨Pb, oo, none⟩) Cp n0) (L - n0) (Cp - n0)) W := fun W => run_from W _ L Cp n0 (by omega) rfl
              have N2 := Lib.hid hn2
              have K2 := Lib.hid hk2
              have GG := GW.out w4 (HF.out.trans (hF4.mono (by simp)))
              have hg0 := GG.g0
              have hg1 := GG.g1
              have he := fun W => eql_same W e0
              have hcs := hgot.2.2.2.2
              clear hgot hF4 d4 hn2 hk2 GG hD0
              rcases hcs with ⟨rfl, hp⟩ | ⟨rfl, hs0, hn00⟩
              · rcases Nat.eq_zero_or_pos n2 with hz | hz
                · have hzz : ((n2 : Int) == 0) = true := by rw [hz]; rfl
                  have HZ := Lib.hid hz
                  clear hz
                  go_wp2_with fail
                  obtain ⟨g', hg', hr'⟩ := rel_read (cap := cap) (a := some ⟨Pb, oo, none⟩) (ce := true) (n2 := n2) (w5 := ((w4.setCell ⟨D, 2, none⟩ .nilIface).setCell ⟨D, 1, none⟩ (.int .u64 (n2 : Int))).setCell ⟨D, 5, none⟩ (.bool true)) AP.out hkl HKO.out LK.out CP.out (by rw [OO.out]) hcap HFIT.out HF.out (Nat.le_refl _) (hnL) hn61 HR.out (by rw [← OO.out]; exact GOT.out) F4.out ((((Fr.refl [D] w4).setCell (by simp) _).setCell (by simp) _).setCell (by simp) _) hn hex GT.out ⟨b0, b1, ((D4.out.set 2 _).set 1 _).set 5 _⟩ (.inl ⟨rfl, rfl, N2.out, by rw [← N2.out, HZ.out]; rfl⟩)
                  rw [← K2.out] at hr'
                  have HG' := Lib.hid hg'
                  have HR' := Lib.hid hr'
                  clear hg' hr'
                  go_roundg g'
                  case measure => exact HG'.out
                  case rel => exact HR'.out
                · have hzz : ((n2 : Int) == 0) = false := beq_eq_false_iff_ne.2 (by omega)
                  go_wp2_with fail
                  have d5 := (D4.out.set 2 .nilIface).set 1 (.int .u64 (n2 : Int))
                  have F5 := Lib.hid (((Fr.refl [D] w4).setCell (b := D) (i := 2) (by simp) .nilIface).setCell (b := D) (i := 1) (by simp) (.int .u64 (n2 : Int)))
                  have hg0 := F5.out.cell hg0 (by simpa using N0D)
                  generalize (w4.setCell ⟨D, 2, none⟩ .nilIface).setCell ⟨D, 1, none⟩ (.int .u64 (n2 : Int)) = w5 at d5 F5 hg0 ⊢
                  have hD2 := d5.cell (i := 2) rfl
                  have D5 := Lib.hid d5
                  clear d5
                  have hen := fun W => eql_nil e0 W
                  go_quiet (fail)
                  all_goals go_wp2_with fail
                  obtain ⟨g', hg', hr'⟩ := rel_read (cap := cap) (a := some ⟨Pb, oo, none⟩) (ce := false) (n2 := n2) (w5 := w5.drewN nq) AP.out hkl HKO.out LK.out CP.out (by rw [OO.out]) hcap HFIT.out HF.out (Nat.le_refl _) (hnL) hn61 HR.out (by rw [← OO.out]; exact GOT.out) F4.out (F5.out.drewN nq) hn hex GT.out ⟨b0, b1, D5.out.drewN nq⟩ (.inl ⟨rfl, rfl, N2.out, by rw [← N2.out]; symm; rw [decide_eq_false_iff_not]; omega⟩)
                  rw [← K2.out] at hr'
                  have HG' := Lib.hid hg'
                  have HR' := Lib.hid hr'
                  clear hg' hr'
                  go_roundg g'
                  case measure => exact HG'.out
                  case rel => exact HR'.out
              · have hzz : ((n2 : Int) == 0) = false := beq_eq_false_iff_ne.2 (by have := N2.out; omega)
                have S0 := Lib.hid hs0
                clear hs0 hn00
                go_wp2_with fail
                have d5 := (D4.out.set 2 (.iface 102 (.pointer (some e0)))).set 1 (.int .u64 (n2 : Int))
                have F5 := Lib.hid (((Fr.refl [D] w4).setCell (b := D) (i := 2) (by simp) (.iface 102 (.pointer (some e0)))).setCell (b := D) (i := 1) (by simp) (.int .u64 (n2 : Int)))
                have hg0 := F5.out.cell hg0 (by simpa using N0D)
                have hg1 := F5.out.cell hg1 (by simpa using N1D)
                generalize (w4.setCell ⟨D, 2, none⟩ (.iface 102 (.pointer (some e0)))).setCell ⟨D, 1, none⟩ (.int .u64 (n2 : Int)) = w5 at d5 F5 hg0 hg1 ⊢
                have hD2 := d5.cell (i := 2) rfl
                have fD2 := d5.frozen 2
                have D5 := Lib.hid d5
                clear d5
                go_quiet (fail)
                all_goals go_wp2_with fail
                obtain ⟨g', hg', hr'⟩ := rel_read (cap := cap) (a := some ⟨Pb, oo, none⟩) (ce := false) (n2 := n2) (w5 := (w5.drewN nq).setCell ⟨D, 2, none⟩ (.iface 102 (.pointer (some e1)))) AP.out hkl HKO.out LK.out CP.out (by rw [OO.out]) hcap HFIT.out HF.out (Nat.le_refl _) (hnL) hn61 HR.out (by rw [← OO.out]; exact GOT.out) F4.out ((F5.out.drewN nq).setCell (by simp) _) hn hex GT.out ⟨b0, b1, (D5.out.drewN nq).set 2 _⟩ (.inr ⟨rfl, rfl⟩)
                rw [← K2.out] at hr'
                have HG' := Lib.hid hg'
                have HR' := Lib.hid hr'
                clear hg' hr'
                go_roundg g'
                case measure => exact HG'.out
                case rel => exact HR'.out
      · obtain ⟨rfl, hfoot⟩ := HR.out.foot
        have HFT := Lib.hid hfoot
        clear hfoot
        rcases Nat.eq_zero_or_pos k with hk0 | hk1
        · have hk2 : ¬ 0 < k := by omega
          have hk3 : ¬ 0 < (k : Int) := by omega
          have HK0 := Lib.hid hk0
          clear hk0
          go_wp2_with fail
          have D1 := HD
          have L1 := HL
          have F1 := HF
          have P1 := HPk
          rcases HFT.out with ⟨hs2, ho, rfl⟩ | ⟨t, rfl, hR2⟩
          · have HO := Lib.hid ho
            have HS := Lib.hid hs2
            clear ho hs2
            go_region_held3 (fun w' => w'.cell? ⟨D, 0, none⟩ = some (.pointer (some ⟨B, 0, none⟩))) (first | go_keep | simp [World.cell?_setCell_other, *]) ((go_at_call 54; refine (foot_no (GW.out _ F1.out) L1.out ⟨_, _, D1.out⟩ AP.out.DA AP.out.DB AP.out.DC AP.out.Db HS.out _ ?_).mono ?_; (first | exact ⟨1, rfl⟩ | exact ⟨_, rfl⟩); rintro e' w4 ⟨nn, x, c0, c1, rfl, d4, hx, hF4⟩; have F4 := Lib.hid hF4; have hD0 := d4.cell (i := 0) rfl; have hD1 := d4.cell (i := 1) rfl; have hD2 := d4.cell (i := 2) rfl; have hD3 := d4.cell (i := 3) rfl; have hD4 := d4.cell (i := 4) rfl; have hD5 := d4.cell (i := 5) rfl; have fD2 := d4.frozen 2; have fD5 := d4.frozen 5; have D4 := Lib.hid d4; have HX := Lib.hid hx; clear d4 hF4 hx))
            go_wp2_with fail
            have d5 := Lib.hid (D4.out.set 2 (.iface 102 (.pointer (some x))))
            have F5 := Lib.hid ((F4.out.mono (S' := [A, B, C, D]) (by simp)).setCell (b := D) (i := 2) (by simp) (.iface 102 (.pointer (some x))))
            clear hD0 hD1 hD2 hD3 hD4 hD5 fD2 fD5
            generalize w4.setCell ⟨D, 2, none⟩ (.iface 102 (.pointer (some x))) = w5 at d5 F5 ⊢
            have FF := Lib.hid (F1.out.trans (F5.out.mono (by simp)))
            have PP := Lib.hid (F5.out.blk P1.out (by simp [AP.out.PA, AP.out.PB, AP.out.PC, AP.out.PD]))
            have GG := GW.out _ FF.out
            have hg0 := GG.g0
            have hg1 := GG.g1
            have hD2 := d5.out.cell (i := 2) rfl
            have fD2 := d5.out.frozen 2
            rcases HX.out with rfl | rfl
            · have he := fun W => eql_same W x
              clear GG
              go_quiet (fail)
              all_goals go_wp2_with fail
              have d6 := Lib.hid ((d5.out.drewN nq).set 2 (.iface 102 (.pointer (some e1))))
              have F6 := Lib.hid (((Fr.refl [D] w5).drewN nq).setCell (b := D) (i := 2) (by simp) (.iface 102 (.pointer (some e1))))
              clear hD2 fD2 hg0 hg1
              generalize (w5.drewN nq).setCell ⟨D, 2, none⟩ (.iface 102 (.pointer (some e1))) = w6 at d6 F6 ⊢
              have hD2 := d6.out.cell (i := 2) rfl
              go_quiet (fail)
              all_goals go_wp2_with fail
              go_ret2
              exact ⟨⟨k, _, rfl, hk, HKO.out, (F6.out.blk PP.out (by simpa using AP.out.PD)).drewN _, .inr ⟨rfl, HO.out⟩⟩, (FF.out.trans (F6.out.mono (by simp))).drewN _⟩
            · have he : ∀ n, (binOp .eql 54 (.iface 102 (.pointer (some x))) (.iface 102 (.pointer (some e0)))).run Tryd.prog (w5.drewN n) = .ok (.bool false) (w5.drewN n) := fun n => (GG.below (below_drewN (Below.refl _ _) n)).eql10
              clear GG
              go_quiet (fail)
              all_goals go_wp2_with fail
              have d6 := Lib.hid (d5.out.drewN nq)
              have F6 := Lib.hid ((Fr.refl [D] w5).drewN nq)
              clear hD2 fD2 hg0 hg1 he
              generalize w5.drewN nq = w6 at d6 F6 ⊢
              have hD2 := d6.out.cell (i := 2) rfl
              go_quiet (fail)
              all_goals go_wp2_with fail
              go_ret2
              exact ⟨⟨k, _, rfl, hk, HKO.out, (F6.out.blk PP.out (by simpa using AP.out.PD)).drewN _, .inr ⟨rfl, HO.out⟩⟩, (FF.out.trans (F6.out.mono (by simp))).drewN _⟩
          · have R2 := Lib.hid hR2
            clear hR2
            go_region_held3 (fun w' => w'.cell? ⟨D, 0, none⟩ = some (.pointer (some ⟨B, 0, none⟩))) (first | go_keep | simp [World.cell?_setCell_other, *]) ((go_at_call 54; refine (foot_yes (GW.out _ F1.out) L1.out ⟨_, _, D1.out⟩ AP.out.DA AP.out.DB AP.out.DC AP.out.Db _ ?_).mono ?_; (first | exact ⟨1, rfl⟩ | exact ⟨_, rfl⟩); rintro e' w4 ⟨nn, rfl, d4, hL4, hF4⟩; have F4 := Lib.hid hF4; have hD0 := d4.cell (i := 0) rfl; have hD1 := d4.cell (i := 1) rfl; have hD2 := d4.cell (i := 2) rfl; have hD3 := d4.cell (i := 3) rfl; have hD4 := d4.cell (i := 4) rfl; have hD5 := d4.cell (i := 5) rfl; have fD2 := d4.frozen 2; have fD5 := d4.frozen 5; have D4 := Lib.hid d4; have L4 := Lib.hid hL4; clear d4 hF4 hL4))
            go_upto_region 6 with (fail)
            have d5 := Lib.hid (D4.out.set 2 .nilIface)
            have F5 := Lib.hid ((F4.out.mono (S' := [A, B, C, D]) (by simp)).setCell (b := D) (i := 2) (by simp) .nilIface)
            have L5 := Lib.hid (L4.out.fr ((Fr.refl [D] w4).setCell (b := D) (i := 2) (by simp) .nilIface) (by simpa using Ne.symm AP.out.DA) (by simpa using Ne.symm AP.out.DB) (by simpa using Ne.symm AP.out.DC) (by simpa using AP.out.Db))
            clear hD0 hD1 hD2 hD3 hD4 hD5 fD2 fD5
            generalize w4.setCell ⟨D, 2, none⟩ .nilIface = w5 at d5 F5 L5 ⊢
            have hD0 := d5.out.cell (i := 0) rfl
            have hD1 := d5.out.cell (i := 1) rfl
            have hD5 := d5.out.cell (i := 5) rfl
            have fD5 := d5.out.frozen 5
            have hconv : (convert 22 9 (.slice (some ⟨D, 3, none⟩) 2 2)).run Tryd.prog w5 = .ok (.string { data := #[13, 10] }) w5 := (SL.crlf d5.out).conv
            go_wp2_with fail
            have dT := Lib.hid (d5.out.set 5 (.bool false))
            have FD := Lib.hid ((Fr.refl [D] w5).setCell (b := D) (i := 5) (by simp) (.bool false))
            clear hD0 hD1 hD5 fD5 hconv
            generalize w5.setCell ⟨D, 5, none⟩ (.bool false) = wT at dT FD ⊢
            have LT := Lib.hid (L5.out.fr FD.out (by simpa using Ne.symm AP.out.DA) (by simpa using Ne.symm AP.out.DB) (by simpa using Ne.symm AP.out.DC) (by simpa using AP.out.Db))
            have FT := Lib.hid (F1.out.trans ((F5.out.trans (FD.out.mono (by simp))).mono (by simp)))
            have PT := Lib.hid ((F5.out.trans (FD.out.mono (by simp))).blk P1.out (by simp [AP.out.PA, AP.out.PB, AP.out.PC, AP.out.PD]))
            have RT := R2
            have GT := Lib.hid (show t.length + 1 ≤ gk by rw [HG2.out]; simp only [List.length_cons]; omega)
            have hD1 := dT.out.cell (i := 1) rfl
            refine (begin_any (GW.out _ FT.out) LT.out ⟨_, _, dT.out⟩ AP.out.DA AP.out.DB AP.out.DC AP.out.Db hex RT.out).mono ?_
            rintro e' w5 ⟨rfl, hb5, hF5⟩
            obtain ⟨g', hg', hr'⟩ := rel_begun (cap := cap) AP.out hk HKO.out HK.out PT.out FT.out hF5 hb5 GT.out
            have HG' := Lib.hid hg'
            have HR' := Lib.hid hr'
            clear hb5 hF5 hg' hr'
            go_wp2_with fail
            go_roundg g'
            case measure => exact HG'.out
            case rel => exact HR'.out
        · have hk3 : 0 < (k : Int) := by omega
          go_wp2_with fail
          refine (buf_left HL.out).mono ?_
          rintro e' w1 ⟨nb, rfl, nd, rfl⟩
          have hD0 : (wr.drewN nd).cell? ⟨D, 0, none⟩ = _ := hD0
          have hD1 : (wr.drewN nd).cell? ⟨D, 1, none⟩ = _ := hD1
          have hD2 : (wr.drewN nd).cell? ⟨D, 2, none⟩ = _ := hD2
          have hD5 : (wr.drewN nd).cell? ⟨D, 5, none⟩ = _ := hD5
          have fD2 : (wr.drewN nd).frozen? ⟨D, 2, none⟩ = _ := fD2
          have D1 := Lib.hid (HD.out.drewN nd)
          have L1 := Lib.hid (HL.out.drewN nd)
          have F1 := Lib.hid (HF.out.drewN nd)
          have P1 := Lib.hid (HPk.out.drewN nd)
          generalize wr.drewN nd = w1 at hD0 hD1 hD2 hD5 fD2 D1 L1 F1 P1 ⊢
          rcases Nat.lt_or_ge nb 2 with hnb | hnb
          · have hnb' : (nb : Int) < 2 := by omega
            go_wp2_with fail
            go_quiet (fail)
            all_goals go_wp2_with fail
            go_ret2
            exact ⟨⟨k, _, rfl, hk, HKO.out, P1.out.drewN _, .inl ⟨rfl, hk1, _, _, _, _, _, hn61, ⟨_, _, D1.out.drewN _⟩, L1.out.drewN _, HR.out, hex, rfl⟩⟩, F1.out.drewN _⟩
          have hnb' : ¬ (nb : Int) < 2 := by omega
          go_wp2_with fail
          rcases HFT.out with ⟨hs2, ho, rfl⟩ | ⟨t, rfl, hR2⟩
          · have HO := Lib.hid ho
            have HS := Lib.hid hs2
            clear ho hs2
            go_region_held3 (fun w' => w'.cell? ⟨D, 0, none⟩ = some (.pointer (some ⟨B, 0, none⟩))) (first | go_keep | simp [World.cell?_setCell_other, *]) ((go_at_call 54; refine (foot_no (GW.out _ F1.out) L1.out ⟨_, _, D1.out⟩ AP.out.DA AP.out.DB AP.out.DC AP.out.Db HS.out _ ?_).mono ?_; (first | exact ⟨1, rfl⟩ | exact ⟨_, rfl⟩); rintro e' w4 ⟨nn, x, c0, c1, rfl, d4, hx, hF4⟩; have F4 := Lib.hid hF4; have hD0 := d4.cell (i := 0) rfl; have hD1 := d4.cell (i := 1) rfl; have hD2 := d4.cell (i := 2) rfl; have hD3 := d4.cell (i := 3) rfl; have hD4 := d4.cell (i := 4) rfl; have hD5 := d4.cell (i := 5) rfl; have fD2 := d4.frozen 2; have fD5 := d4.frozen 5; have D4 := Lib.hid d4; have HX := Lib.hid hx; clear d4 hF4 hx))
            go_wp2_with fail
            have d5 := Lib.hid (D4.out.set 2 (.iface 102 (.pointer (some x))))
            have F5 := Lib.hid ((F4.out.mono (S' := [A, B, C, D]) (by simp)).setCell (b := D) (i := 2) (by simp) (.iface 102 (.pointer (some x))))
            clear hD0 hD1 hD2 hD3 hD4 hD5 fD2 fD5
            generalize w4.setCell ⟨D, 2, none⟩ (.iface 102 (.pointer (some x))) = w5 at d5 F5 ⊢
            have FF := Lib.hid (F1.out.trans (F5.out.mono (by simp)))
            have PP := Lib.hid (F5.out.blk P1.out (by simp [AP.out.PA, AP.out.PB, AP.out.PC, AP.out.PD]))
            have GG := GW.out _ FF.out
            have hg0 := GG.g0
            have hg1 := GG.g1
            have hD2 := d5.out.cell (i := 2) rfl
            have fD2 := d5.out.frozen 2
            rcases HX.out with rfl | rfl
            · have he := fun W => eql_same W x
              clear GG
              go_quiet (fail)
              all_goals go_wp2_with fail
              have d6 := Lib.hid ((d5.out.drewN nq).set 2 (.iface 102 (.pointer (some e1))))
              have F6 := Lib.hid (((Fr.refl [D] w5).drewN nq).setCell (b := D) (i := 2) (by simp) (.iface 102 (.pointer (some e1))))
              clear hD2 fD2 hg0 hg1
              generalize (w5.drewN nq).setCell ⟨D, 2, none⟩ (.iface 102 (.pointer (some e1))) = w6 at d6 F6 ⊢
              have hD2 := d6.out.cell (i := 2) rfl
              go_quiet (fail)
              all_goals go_wp2_with fail
              go_ret2
              exact ⟨⟨k, _, rfl, hk, HKO.out, (F6.out.blk PP.out (by simpa using AP.out.PD)).drewN _, .inr ⟨rfl, HO.out⟩⟩, (FF.out.trans (F6.out.mono (by simp))).drewN _⟩
            · have he : ∀ n, (binOp .eql 54 (.iface 102 (.pointer (some x))) (.iface 102 (.pointer (some e0)))).run Tryd.prog (w5.drewN n) = .ok (.bool false) (w5.drewN n) := fun n => (GG.below (below_drewN (Below.refl _ _) n)).eql10
              clear GG
              go_quiet (fail)
              all_goals go_wp2_with fail
              have d6 := Lib.hid (d5.out.drewN nq)
              have F6 := Lib.hid ((Fr.refl [D] w5).drewN nq)
              clear hD2 fD2 hg0 hg1 he
              generalize w5.drewN nq = w6 at d6 F6 ⊢
              have hD2 := d6.out.cell (i := 2) rfl
              go_quiet (fail)
              all_goals go_wp2_with fail
              go_ret2
              exact ⟨⟨k, _, rfl, hk, HKO.out, (F6.out.blk PP.out (by simpa using AP.out.PD)).drewN _, .inr ⟨rfl, HO.out⟩⟩, (FF.out.trans (F6.out.mono (by simp))).drewN _⟩
          · have R2 := Lib.hid hR2
            clear hR2
            go_region_held3 (fun w' => w'.cell? ⟨D, 0, none⟩ = some (.pointer (some ⟨B, 0, none⟩))) (first | go_keep | simp [World.cell?_setCell_other, *]) ((go_at_call 54; refine (foot_yes (GW.out _ F1.out) L1.out ⟨_, _, D1.out⟩ AP.out.DA AP.out.DB AP.out.DC AP.out.Db _ ?_).mono ?_; (first | exact ⟨1, rfl⟩ | exact ⟨_, rfl⟩); rintro e' w4 ⟨nn, rfl, d4, hL4, hF4⟩; have F4 := Lib.hid hF4; have hD0 := d4.cell (i := 0) rfl; have hD1 := d4.cell (i := 1) rfl; have hD2 := d4.cell (i := 2) rfl; have hD3 := d4.cell (i := 3) rfl; have hD4 := d4.cell (i := 4) rfl; have hD5 := d4.cell (i := 5) rfl; have fD2 := d4.frozen 2; have fD5 := d4.frozen 5; have D4 := Lib.hid d4; have L4 := Lib.hid hL4; clear d4 hF4 hL4))
            go_upto_region 6 with (fail)
            have d5 := Lib.hid (D4.out.set 2 .nilIface)
            have F5 := Lib.hid ((F4.out.mono (S' := [A, B, C, D]) (by simp)).setCell (b := D) (i := 2) (by simp) .nilIface)
            have L5 := Lib.hid (L4.out.fr ((Fr.refl [D] w4).setCell (b := D) (i := 2) (by simp) .nilIface) (by simpa using Ne.symm AP.out.DA) (by simpa using Ne.symm AP.out.DB) (by simpa using Ne.symm AP.out.DC) (by simpa using AP.out.Db))
            clear hD0 hD1 hD2 hD3 hD4 hD5 fD2 fD5
            generalize w4.setCell ⟨D, 2, none⟩ .nilIface = w5 at d5 F5 L5 ⊢
            have hD0 := d5.out.cell (i := 0) rfl
            have hD1 := d5.out.cell (i := 1) rfl
            have hD5 := d5.out.cell (i := 5) rfl
            have fD5 := d5.out.frozen 5
            have hconv : (convert 22 9 (.slice (some ⟨D, 3, none⟩) 2 2)).run Tryd.prog w5 = .ok (.string { data := #[13, 10] }) w5 := (SL.crlf d5.out).conv
            go_wp2_with fail
            have dT := Lib.hid (d5.out.set 5 (.bool false))
            have FD := Lib.hid ((Fr.refl [D] w5).setCell (b := D) (i := 5) (by simp) (.bool false))
            clear hD0 hD1 hD5 fD5 hconv
            generalize w5.setCell ⟨D, 5, none⟩ (.bool false) = wT at dT FD ⊢
            have LT := Lib.hid (L5.out.fr FD.out (by simpa using Ne.symm AP.out.DA) (by simpa using Ne.symm AP.out.DB) (by simpa using Ne.symm AP.out.DC) (by simpa using AP.out.Db))
            have FT := Lib.hid (F1.out.trans ((F5.out.trans (FD.out.mono (by simp))).mono (by simp)))
            have PT := Lib.hid ((F5.out.trans (FD.out.mono (by simp))).blk P1.out (by simp [AP.out.PA, AP.out.PB, AP.out.PC, AP.out.PD]))
            have RT := R2
            have GT := Lib.hid (show t.length + 1 ≤ gk by rw [HG2.out]; simp only [List.length_cons]; omega)
            refine (avail_left LT.out ⟨_, _, dT.out⟩).mono ?_
            rintro e' w4 ⟨f, rfl, hL4, hF4⟩
            have d4 := Lib.hid (hF4.blk dT.out (by simpa using AP.out.DB))
            have P4 := Lib.hid (hF4.blk PT.out (by simpa using AP.out.PB))
            have L4 := Lib.hid hL4
            have F4 := Lib.hid (FT.out.trans (hF4.mono (by simp)))
            clear hL4 hF4
            cases f
            · have hD2 := d4.out.cell (i := 2) rfl
              go_wp2_with fail
              go_quiet (fail)
              all_goals go_wp2_with fail
              go_ret2
              exact ⟨⟨k, _, rfl, hk, HKO.out, P4.out.drewN _, .inl ⟨rfl, hk1, _, _, _, _, _, hn61, ⟨_, _, d4.out.drewN _⟩, L4.out.drewN _, RT.out, hex, rfl⟩⟩, F4.out.drewN _⟩
            · go_wp2_with fail
              refine (begin_any (GW.out _ F4.out) L4.out ⟨_, _, d4.out⟩ AP.out.DA AP.out.DB AP.out.DC AP.out.Db hex RT.out).mono ?_
              rintro e' w5 ⟨rfl, hb5, hF5⟩
              obtain ⟨g', hg', hr'⟩ := rel_begun (cap := cap) AP.out hk HKO.out HK.out P4.out F4.out hF5 hb5 GT.out
              have HG' := Lib.hid hg'
              have HR' := Lib.hid hr'
              clear hb5 hF5 hg' hr'
              go_wp2_with fail
              go_roundg g'
              case measure => exact HG'.out
              case rel => exact HR'.out
    · obtain ⟨x, hx⟩ : ∃ x, x = (if e then e0 else e1) := ⟨_, rfl⟩
      have hD2 : wr.cell? ⟨D, 2, none⟩ = some (.iface 102 (.pointer (some x))) := by rw [hx]; exact d.cell (i := 2) rfl
      have HX := Lib.hid hx
      have HR := Lib.hid hR
      clear hx hR d hg
      go_wp2_with fail
      go_quiet (fail)
      all_goals go_wp2_with fail
      go_ret2
      exact ⟨⟨k, _, rfl, hk, HKO.out, HPk.out.drewN _, .inr ⟨by unfold eE; rw [HX.out]; rfl, HR.out⟩⟩, HF.out.drewN _⟩
end Go.Proofs.YtjajhpgodijeoaaDoor
