/-
  The thin package's Read.
-/
import Derived.Test.YtjajhpgodijeoaaDoorRdc
import Derived.Test.YtjajhpgodijeoaaDoorNew
import Derived.Maps.AppendAt
namespace Go.Proofs.YtjajhpgodijeoaaDoor
open Go.RowKit

theorem code_eof {w : World} {base : Nat} {e0 e1 : Addr} (hG : Gl w base e0 e1) : Calls Tryd.prog 21 #[.iface 102 (.pointer (some e0))] w fun e w' => e = .returned (.int .i64 0) ∧ w = w' := by
  have hg0 := hG.g0
  have he := fun W => eql_same W e0
  clear hG
  go_enter Tryd.func21, Tryd.ntmps21
  go_wp2_with fail
  go_ret
  exact ⟨rfl, rfl⟩
theorem code_un {w : World} {base : Nat} {e0 e1 : Addr} (hG : Gl w base e0 e1) : Calls Tryd.prog 21 #[.iface 102 (.pointer (some e1))] w fun e w' => e = .returned (.int .i64 1) ∧ w = w' := by
  have hg0 := hG.g0
  have hg1 := hG.g1
  have he := fun W => eql_same W e1
  have hd := hG.eql10
  clear hG
  go_enter Tryd.func21, Tryd.ntmps21
  go_wp2_with fail
  go_ret
  exact ⟨rfl, rfl⟩
/-- The number of the error. -/
def cd (e : Bool) : Int := if e then 0 else 1
theorem code_any {w : World} {base : Nat} {e0 e1 : Addr} (hG : Gl w base e0 e1) (e : Bool) : Calls Tryd.prog 21 #[eE e0 e1 e] w fun e' w' => e' = .returned (.int .i64 (cd e)) ∧ w = w' := by
  cases e
  · exact code_un hG
  · exact code_eof hG

/-- The slice value (a, len, cap) is one of numbers of at most 10000. -/
structure ZL (w : World) (base : Nat) (a : Option Addr) (len cap : Nat) : Prop where
  hle : len ≤ cap
  hmx : cap ≤ maxLen
  hat : 0 < len → ∃ b off, a = some ⟨b, off, none⟩ ∧ b < base ∧ ∀ i, i < len → ∃ z : Int, z ≤ 10000 ∧ w.cell? ⟨b, off + i, none⟩ = some (.int .i64 z)
theorem ZL.fr {w w' : World} {base : Nat} {a : Option Addr} {len cap : Nat} (h : ZL w base a len cap) {S : List Nat} (hf : Fr S w w') (hS : ∀ b ∈ S, base ≤ b) : ZL w' base a len cap := by
  obtain ⟨h1, h2, h3⟩ := h
  refine ⟨h1, h2, fun hp => ?_⟩
  obtain ⟨b, off, rfl, hb, hc⟩ := h3 hp
  refine ⟨b, off, rfl, hb, fun i hi => ?_⟩
  obtain ⟨z, hz, hc⟩ := hc i hi
  exact ⟨z, hz, hf.cell hc (fun hm => by have := hS _ hm; simp at this; omega)⟩
theorem own_fr {w w' : World} {base : Nat} {v : Value} {n : Nat} {xs : List Value} (h : w.ownsRow base 5 1 v n xs) {S : List Nat} (hf : Fr S w w') (hS : ∀ b ∈ S, b < base ∨ w.heap.size ≤ b) : w'.ownsRow base 5 1 v n xs := by
  refine ⟨h.1, ?_⟩
  rcases h.2 with h2 | ⟨g, cap, cur, h1, h2, h3, h4⟩
  · exact .inl h2
  · refine .inr ⟨g, cap, cur, h1, h2, ?_, h4⟩
    have hlt : g < w.heap.size := (Array.getElem?_eq_some_iff.1 h3).1
    rw [hf.block g hlt (fun hm => by have := hS g hm; omega)]
    exact h3
theorem Fr.grown {w w' : World} {row : Option Nat} (h : w.grownBy w' row) {S : List Nat} (hS : ∀ g, row = some g → g ∈ S) : Fr S w w' :=
  ⟨h.os, h.tape, h.output, h.size, fun k hk hs => h.block k hk (fun e => hs (hS k e.symm))⟩
/-- A slice of n bytes. -/
def SlN (v : Value) (n : Nat) : Prop := ∃ a c, v = .slice a n c
theorem own_sl {w : World} {base : Nat} {v : Value} {n : Nat} {xs : List Value} (h : w.ownsRow base 5 1 v n xs) : SlN v n := by
  rcases h.2 with ⟨rfl, rfl⟩ | ⟨g, cap, cur, rfl, _⟩
  · exact ⟨_, _, rfl⟩
  · exact ⟨_, _, rfl⟩

def ImrRel (A B C D base W0 : Nat) (o : List Int) (e : Bool) (w1 : World) (g : Nat) (s8 s11 : Value) (wr : World) : Prop :=
  ∃ k i : Nat, ∃ xs g', i ≤ k ∧ k ≤ o.length ∧ s11 = .int .i64 (i : Nat) ∧ wr.ownsRow W0 5 1 s8 k xs ∧ (∀ u ∈ xs, u.oneCell' = true) ∧ Live A B C D base (o.drop k) e g' wr ∧ Fr [A, B, C, D] w1 wr ∧ g = o.length - k

theorem Un.new {w w1 : World} {ba pa : Option Addr} {bl bc pl pc A : Nat} {xs : List Int} (hS : SL w ba bl bc xs) (hI : IL w pa pl pc) (hl : bl ≤ 2147483647) (hF : Fr [] w w1) (hA : Blk w1 A [.slice ba bl bc, .slice pa pl pc, .int .i64 0, .bool false] 52) :
    Un w1 A w.heap.size xs ba bl bc pa pl pc 0 := by
  refine ⟨hA, hS.fr hF (fun _ _ => by simp), hI.fr hF (fun _ _ => by simp), by omega, fun hp x hx => ?_, fun hp x hx => ?_⟩
  · obtain ⟨b, off, rfl, hc⟩ := hS.hat hp
    injection hx with hx
    subst hx
    exact World.block_lt_of_cell? w _ (hc 0 hp)
  · obtain ⟨b, off, rfl, hc⟩ := hI.hat hp
    injection hx with hx
    subst hx
    obtain ⟨z, hz⟩ := hc 0 hp
    exact World.block_lt_of_cell? w _ hz

theorem Live.fr {A B C D base : Nat} {o : List Int} {e : Bool} {g : Nat} {w w' : World} (h : Live A B C D base o e g w) {S : List Nat} (hf : Fr S w w') (hA : A ∉ S) (hB : B ∉ S) (hC : C ∉ S) (hD : D ∉ S) (hS : ∀ b ∈ S, base ≤ b) : Live A B C D base o e g w' := by
  obtain ⟨n, ce, ex, s, h1, h2, h3, h4, h5, h6⟩ := h
  exact ⟨n, ce, ex, s, h1, h2.fr hf hD, h3.fr hf hA hB hC hS, h4, h5, h6⟩
theorem own_row {w : World} {base n : Nat} {v : Value} {xs : List Value} (h : w.ownsRow base 5 1 v n xs) : ∀ g ∈ v.ownBlock.toList, base ≤ g := by
  intro g hg
  rcases h.2 with ⟨rfl, _⟩ | ⟨g', cap, cur, rfl, h2, _⟩
  · simp [Value.ownBlock] at hg
  · simp [Value.ownBlock] at hg
    omega
theorem blk_news {w : World} {Pb q : Nat} {ys : List Int} (h : Blk w Pb (splice (zc q) 0 (cells ys)) 5) : ∀ j u, (cells ys)[j]? = some u → w.cell? ((⟨Pb, 0, none⟩ : Addr).add j) = some u := by
  intro j u hj
  rw [Addr.add_lit, Nat.zero_add]
  refine h.cell ?_
  unfold splice
  rw [List.take_zero, List.nil_append, List.getElem?_append_left (List.getElem?_eq_some_iff.1 hj).1]
  exact hj

set_option maxHeartbeats 1000000 in
set_option maxRecDepth 100000 in
theorem imr_any {w : World} {ba pa sa : Option Addr} {bl bc pl pc sl sc : Nat} {xs o : List Int} {e : Bool} {e0 e1 : Addr} (hG : Gl w w.heap.size e0 e1) (hS : SL w ba bl bc xs) (hI : IL w pa pl pc) (hZ : ZL w w.heap.size sa sl sc) (hl : bl ≤ 2147483647) (hsl : sl ≤ 2147483647) (hr : Run 0 false 0 xs o e) :
    Calls Tryd.prog 12 #[.slice ba bl bc, .slice pa pl pc, .slice sa sl sc, .bool false] w fun e' w' => (∃ v, e' = .returned (.tuple #[v, .int .i64 (cd e)]) ∧ SlN v o.length) ∧ Below w.heap.size w w' := by
  have HG := Lib.hid hG
  have HS := Lib.hid hS
  have HI := Lib.hid hI
  have HZ := Lib.hid hZ
  have HR := Lib.hid hr
  clear hG hS hI hZ hr
  go_enter Tryd.func12, Tryd.ntmps12
  go_wp2_with fail
  have hA0 := Blk.new w [.slice ba bl bc, .slice pa pl pc, .int .i64 0, .bool false] 52
  have hF0 := (Fr.refl [] w).alloc (.cells #[.slice ba bl bc, .slice pa pl pc, .int .i64 0, .bool false] 52)
  have hz0 : (w.alloc (.cells #[.slice ba bl bc, .slice pa pl pc, .int .i64 0, .bool false] 52)).heap.size = w.heap.size + 1 := by simp
  generalize (w.alloc (.cells #[.slice ba bl bc, .slice pa pl pc, .int .i64 0, .bool false] 52)) = w0 at hA0 hF0 hz0 ⊢
  have HA0 := Lib.hid hA0
  have HF0 := Lib.hid hF0
  have K := Lib.hid (newChunked_any w.heap.size w0)
  rw [hz0] at K
  obtain ⟨A, hA⟩ : ∃ A, A = w.heap.size := ⟨_, rfl⟩
  rw [← hA] at HA0 K ⊢
  clear hA0 hF0 hz0
  refine K.out.mono ?_
  rintro e' w1 ⟨rfl, hb1, hc1, hd1, hf1, hs1⟩
  obtain ⟨B, hB⟩ : ∃ B, B = A + 1 := ⟨_, rfl⟩
  obtain ⟨C, hC⟩ : ∃ C, C = A + 1 + 1 := ⟨_, rfl⟩
  obtain ⟨D, hD⟩ : ∃ D, D = A + 1 + 2 := ⟨_, rfl⟩
  rw [← hC, ← hB] at hb1
  rw [← hC] at hc1
  rw [← hD, ← hB] at hd1
  rw [← hD]
  have HLT := Lib.hid (show A < w1.heap.size ∧ B < w1.heap.size ∧ C < w1.heap.size ∧ D < w1.heap.size from ⟨by omega, by omega, by omega, by omega⟩)
  have HAB := Lib.hid (show A < B ∧ B < C ∧ C < D from ⟨by omega, by omega, by omega⟩)
  have hFw : Fr [] w w1 := HF0.out.trans hf1
  have hun := Un.new HS.out HI.out hl hFw (hf1.blk HA0.out (by simp))
  have hst : St w1 A B C w.heap.size 0 0 .nilIface [] xs := ⟨⟨_, _, hb1⟩, ⟨_, hc1, zc_len _, by simp [cells]⟩, ⟨_, _, _, _, _, _, _, hun⟩, rfl, by omega, by simp, by omega, by omega, by omega, by omega, by omega, by omega⟩
  have LV : Hid (∃ g, Live A B C D w.heap.size (o.drop 0) e g w1) := ⟨_, 0, false, 0, xs, by omega, ⟨0, 0, hd1⟩, ⟨0, 0, [], xs, hst, rfl⟩, by rw [List.drop_zero]; exact HR.out, by omega, rfl⟩
  have HFW := Lib.hid hFw
  have HAA := Lib.hid hA
  have GW : Hid (∀ w', Fr [A, B, C, D] w1 w' → Gl w' w.heap.size e0 e1) := fun w' hF => HG.out.below ((hFw.mono (S' := [A, B, C, D]) (by simp)).trans hF |>.below (Nat.le_refl _) (by have := HAB.out; have := HAA.out; simp; omega))
  have HZ1 := Lib.hid (HZ.out.fr hFw (by simp))
  have hol : o.length ≤ 2147483647 := by have := HR.out.len; have := HS.out.hlen; omega
  have I5 := Lib.hid (info_parts Tryd.info5)
  clear hb1 hc1 hd1 hf1 hs1 hFw hun hst hA hB hC hD
  go_wp2_with fail
  go_loopg [8, 11] o.length (ImrRel A B C D w.heap.size w1.heap.size o e w1)
  case atStart =>
    obtain ⟨g', hg'⟩ := LV.out
    exact ⟨0, 0, [], g', Nat.le_refl _, Nat.zero_le _, rfl, World.ownsRow_nil _ _ _ _, by simp, hg', Fr.refl _ _, rfl⟩
  case round =>
    obtain ⟨k, i, ys, g', hik, hko, rfl, hown, hone, hlv, hF, hgk⟩ := hrel
    have HOWN := Lib.hid hown
    have HONE := Lib.hid hone
    have HLV := Lib.hid hlv
    have HF := Lib.hid hF
    have HGK := Lib.hid hgk
    have hZr := HZ1.out.fr hF (fun b hb => by have := HAB.out; have := HAA.out; simp at hb; omega)
    clear hown hone hlv hF hgk
    rcases Nat.eq_zero_or_pos sl with h0 | h0
    · subst h0
      obtain ⟨q, hq⟩ : ∃ q : Nat, q = 512 := ⟨_, rfl⟩
      have hq0 : 0 < q := by omega
      have hq1 : q ≤ 10000 := by omega
      have hmk := fun W => make22 q (by omega) (l := 512) (by omega) W
      have HHQ := Lib.hid hq
      clear hq hZr
      go_wp2_with fail
      have hP := Blk.new wr (zc q) 5
      have hF2 := (Fr.refl [] wr).alloc (.cells (zc q).toArray 5)
      have hsz : (wr.alloc (.cells (zc q).toArray 5)).heap.size = wr.heap.size + 1 := by simp
      generalize (wr.alloc (.cells (zc q).toArray 5)) = w2 at hP hF2 hsz ⊢
      obtain ⟨Pb, hPb⟩ : ∃ Pb, Pb = wr.heap.size := ⟨_, rfl⟩
      rw [← hPb] at hP ⊢
      have hsw := HF.out.size
      have PB1 := Lib.hid (show w1.heap.size ≤ Pb by omega)
      have PB2 := Lib.hid hPb
      have ap : Ap A B C D Pb w.heap.size := by
        have := HLT.out; have := HAB.out; have := HAA.out; have := PB1.out
        exact ⟨by omega, by omega, by omega, by omega, by omega, by omega, by omega, by omega, by omega⟩
      have F12 := Lib.hid (HF.out.trans (hF2.mono (by simp)))
      have hL2 := HLV.out.fr hF2 (by simp) (by simp) (by simp) (by simp) (by simp)
      have HF2 := Lib.hid hF2
      have K52 := rdc_any (off := 0) (GW.out _ F12.out) (by have := HFW.out.size; omega) ap (by have := HAB.out; have := HAA.out; omega) hL2 hP (by rw [zc_len]; omega) hq0 (Nat.le_refl q) (by omega)
      clear hP hF2 hsz hPb hsw ap hL2 hmk HHQ
      refine K52.mono ?_
      clear K52
      rintro e' w3 ⟨⟨k', err, rfl, hk1, hk2, hb3, hc⟩, hF3⟩
      have hnl : (cells ((o.drop k).take k')).length = k' * 1 := by rw [cells_len, List.length_take]; omega
      have hkk : k + k' ≤ o.length := by rw [List.length_drop] at hk2; omega
      have hrun : ∀ W, (Instr.slice 22 (.slice (some ⟨Pb, 0, none⟩) q q) none (some (.int .i64 k')) none).run Tryd.prog W = .ok (.slice (some ⟨Pb, 0, none⟩) k' q) W := fun W => run_to W _ q q k' hk1 rfl
      have OWN3 := Lib.hid (own_fr HOWN.out ((HF2.out.mono (by simp)).trans hF3) (by have := HLT.out; have := PB1.out; have := PB2.out; intro b hb; simp at hb; omega))
      have NL := Lib.hid hnl
      have NEWS := Lib.hid (blk_news hb3)
      have HF3 := Lib.hid hF3
      have hW3 : w1.heap.size ≤ w3.heap.size := by have := F12.out.size; have := hF3.size; omega
      clear hnl hb3 hF3 hk2
      rcases hc with ⟨rfl, hk1', g2, hlv3⟩ | ⟨herr, hend⟩
      · have LV3 := Lib.hid hlv3
        clear hlv3
        go_wp2_with (at_builtin; refine wpList_append_own_at _ rfl (.tmp 44) (.tmp 47) 22 rfl w1.heap.size 5 I5.out.choose _ 1 1 Tryd.underlying22 I5.out.choose_spec.1 I5.out.choose_spec.2.1 I5.out.choose_spec.2.2.1 I5.out.choose_spec.2.2.2 rfl (by omega) u8 k ys rfl OWN3.out ⟨Pb, 0, none⟩ k' q (cells ((o.drop k).take k')) rfl NL.out NEWS.out (cells_one _) (by unfold maxLen; omega) (by omega) hW3 ?_; intro v4 w4 hown4 hgrow4 hnil4 hat4; have OWN4 := Lib.hid hown4; have FG := Lib.hid (Fr.grown hgrow4 (S := Value.ownBlock u8 |>.toList) (by simp)); clear hown4 hgrow4 hnil4 hat4)
        have FF : Hid (Fr [A, B, C, D] w1 w4) := by
          have h1 : Fr ([A, B, C, D, Pb] ++ (Value.ownBlock u8).toList) w1 w4 := ((F12.out.mono (by simp)).trans (HF3.out.mono (by simp))).trans (FG.out.mono (fun b hb => List.mem_append_right _ hb))
          refine h1.new (fun b hb => ?_)
          rcases List.mem_append.1 hb with hb | hb
          · simp only [List.mem_cons, List.not_mem_nil, or_false] at hb
            rcases hb with rfl | rfl | rfl | rfl | rfl
            · simp
            · simp
            · simp
            · simp
            · exact .inr PB1.out
          · exact .inr (own_row OWN3.out _ hb)
        obtain ⟨g3, hg3, hr3⟩ : ∃ g3, g3 < gk ∧ ImrRel A B C D w.heap.size w1.heap.size o e w1 g3 v4 (.int .i64 ((i + 1 : Nat) : Int)) w4 := by
          have := HGK.out
          refine ⟨o.length - (k + k'), by omega, k + k', i + 1, ys ++ cells ((o.drop k).take k'), g2, by omega, hkk, rfl, OWN4.out, ?_, ?_, FF.out, rfl⟩
          · intro u hu
            rcases List.mem_append.1 hu with hu | hu
            · exact HONE.out u hu
            · exact cells_one _ u hu
          · rw [← List.drop_drop]
            have := HLT.out
            exact LV3.out.fr FG.out (fun h => by have := own_row OWN3.out _ h; omega) (fun h => by have := own_row OWN3.out _ h; omega) (fun h => by have := own_row OWN3.out _ h; omega) (fun h => by have := own_row OWN3.out _ h; omega) (fun b hb => by have := own_row OWN3.out _ hb; have := HFW.out.size; omega)
        have HG3 := Lib.hid hg3
        have HR3 := Lib.hid hr3
        clear hg3 hr3
        go_wp2_with fail
        go_roundg g3
        case measure => exact HG3.out
        case rel => exact HR3.out
      · obtain ⟨x, hx⟩ : ∃ x, err = .iface 102 (.pointer (some x)) := ⟨_, herr⟩
        subst hx
        have HE := Lib.hid herr
        have HEND := Lib.hid hend
        clear herr hend
        go_wp2_with (at_builtin; refine wpList_append_own_at _ rfl (.tmp 44) (.tmp 47) 22 rfl w1.heap.size 5 I5.out.choose _ 1 1 Tryd.underlying22 I5.out.choose_spec.1 I5.out.choose_spec.2.1 I5.out.choose_spec.2.2.1 I5.out.choose_spec.2.2.2 rfl (by omega) u8 k ys rfl OWN3.out ⟨Pb, 0, none⟩ k' q (cells ((o.drop k).take k')) rfl NL.out NEWS.out (cells_one _) (by unfold maxLen; omega) (by omega) hW3 ?_; intro v4 w4 hown4 hgrow4 hnil4 hat4; have OWN4 := Lib.hid hown4; have FG := Lib.hid (Fr.grown hgrow4 (S := Value.ownBlock u8 |>.toList) (by simp)); clear hown4 hgrow4 hnil4 hat4)
        have FF : Hid (Fr [A, B, C, D] w1 w4) := by
          have h1 : Fr ([A, B, C, D, Pb] ++ (Value.ownBlock u8).toList) w1 w4 := ((F12.out.mono (by simp)).trans (HF3.out.mono (by simp))).trans (FG.out.mono (fun b hb => List.mem_append_right _ hb))
          refine h1.new (fun b hb => ?_)
          rcases List.mem_append.1 hb with hb | hb
          · simp only [List.mem_cons, List.not_mem_nil, or_false] at hb
            rcases hb with rfl | rfl | rfl | rfl | rfl
            · simp
            · simp
            · simp
            · simp
            · exact .inr PB1.out
          · exact .inr (own_row OWN3.out _ hb)
        have K21 := code_any (GW.out _ FF.out) e
        rw [← HE.out] at K21
        have HK21 := Lib.hid K21
        clear K21
        go_wp2_with fail
        refine HK21.out.mono ?_
        rintro e' w' ⟨rfl, rfl⟩
        go_wp2_with fail
        go_ret2
        refine ⟨⟨v4, rfl, ?_⟩, ((HFW.out.mono (by simp)).trans FF.out).below (Nat.le_refl _) (by have := HAB.out; have := HAA.out; simp; omega)⟩
        have hlen : k + k' = o.length := by
          have := congrArg List.length HEND.out
          simp at this
          omega
        rw [← hlen]
        exact own_sl OWN4.out
    · obtain ⟨z1, z2, z3⟩ := hZr
      obtain ⟨pb, po, rfl, hpb, hc⟩ := z3 h0
      obtain ⟨j, hj⟩ : ∃ j, j = i % sl := ⟨_, rfl⟩
      have hjl : j < sl := by rw [hj]; exact Nat.mod_lt _ h0
      obtain ⟨z, hz, hzc⟩ := hc j hjl
      have hpl : ((sl : Int) == 0) = false := beq_eq_false_iff_ne.2 (by omega)
      have hslp : (0 : Int) < (sl : Int) := by omega
      have hkm : (i : Int) % (sl : Int) = (j : Int) := by rw [hj]; exact (Int.natCast_emod i sl).symm
      have hkt : (i : Int).tmod (sl : Int) = (j : Int) := by rw [hj]; exact (Int.ofNat_tmod i sl).symm
      have hp0 : ¬ sl = 0 := by omega
      obtain ⟨q, hq⟩ : ∃ q : Nat, (if 1 < z then z else 1) = (q : Int) := ⟨(if 1 < z then z else 1).toNat, by split <;> omega⟩
      have hq0 : 0 < q := by split at hq <;> omega
      have hq1 : q ≤ 10000 := by split at hq <;> omega
      have hmk := fun W => make22 q (by omega) (l := (q : Int)) rfl W
      have HHQ := Lib.hid hj
      clear hj hc z3 hpb
      go_wp2_with fail
      have hP := Blk.new wr (zc q) 5
      have hF2 := (Fr.refl [] wr).alloc (.cells (zc q).toArray 5)
      have hsz : (wr.alloc (.cells (zc q).toArray 5)).heap.size = wr.heap.size + 1 := by simp
      generalize (wr.alloc (.cells (zc q).toArray 5)) = w2 at hP hF2 hsz ⊢
      obtain ⟨Pb, hPb⟩ : ∃ Pb, Pb = wr.heap.size := ⟨_, rfl⟩
      rw [← hPb] at hP ⊢
      have hsw := HF.out.size
      have PB1 := Lib.hid (show w1.heap.size ≤ Pb by omega)
      have PB2 := Lib.hid hPb
      have ap : Ap A B C D Pb w.heap.size := by
        have := HLT.out; have := HAB.out; have := HAA.out; have := PB1.out
        exact ⟨by omega, by omega, by omega, by omega, by omega, by omega, by omega, by omega, by omega⟩
      have F12 := Lib.hid (HF.out.trans (hF2.mono (by simp)))
      have hL2 := HLV.out.fr hF2 (by simp) (by simp) (by simp) (by simp) (by simp)
      have HF2 := Lib.hid hF2
      have K52 := rdc_any (off := 0) (GW.out _ F12.out) (by have := HFW.out.size; omega) ap (by have := HAB.out; have := HAA.out; omega) hL2 hP (by rw [zc_len]; omega) hq0 (Nat.le_refl q) (by omega)
      clear hP hF2 hsz hPb hsw ap hL2 hmk HHQ
      refine K52.mono ?_
      clear K52
      rintro e' w3 ⟨⟨k', err, rfl, hk1, hk2, hb3, hc⟩, hF3⟩
      have hnl : (cells ((o.drop k).take k')).length = k' * 1 := by rw [cells_len, List.length_take]; omega
      have hkk : k + k' ≤ o.length := by rw [List.length_drop] at hk2; omega
      have hrun : ∀ W, (Instr.slice 22 (.slice (some ⟨Pb, 0, none⟩) q q) none (some (.int .i64 k')) none).run Tryd.prog W = .ok (.slice (some ⟨Pb, 0, none⟩) k' q) W := fun W => run_to W _ q q k' hk1 rfl
      have OWN3 := Lib.hid (own_fr HOWN.out ((HF2.out.mono (by simp)).trans hF3) (by have := HLT.out; have := PB1.out; have := PB2.out; intro b hb; simp at hb; omega))
      have NL := Lib.hid hnl
      have NEWS := Lib.hid (blk_news hb3)
      have HF3 := Lib.hid hF3
      have hW3 : w1.heap.size ≤ w3.heap.size := by have := F12.out.size; have := hF3.size; omega
      clear hnl hb3 hF3 hk2
      rcases hc with ⟨rfl, hk1', g2, hlv3⟩ | ⟨herr, hend⟩
      · have LV3 := Lib.hid hlv3
        clear hlv3
        go_wp2_with (at_builtin; refine wpList_append_own_at _ rfl (.tmp 44) (.tmp 47) 22 rfl w1.heap.size 5 I5.out.choose _ 1 1 Tryd.underlying22 I5.out.choose_spec.1 I5.out.choose_spec.2.1 I5.out.choose_spec.2.2.1 I5.out.choose_spec.2.2.2 rfl (by omega) u8 k ys rfl OWN3.out ⟨Pb, 0, none⟩ k' q (cells ((o.drop k).take k')) rfl NL.out NEWS.out (cells_one _) (by unfold maxLen; omega) (by omega) hW3 ?_; intro v4 w4 hown4 hgrow4 hnil4 hat4; have OWN4 := Lib.hid hown4; have FG := Lib.hid (Fr.grown hgrow4 (S := Value.ownBlock u8 |>.toList) (by simp)); clear hown4 hgrow4 hnil4 hat4)
        have FF : Hid (Fr [A, B, C, D] w1 w4) := by
          have h1 : Fr ([A, B, C, D, Pb] ++ (Value.ownBlock u8).toList) w1 w4 := ((F12.out.mono (by simp)).trans (HF3.out.mono (by simp))).trans (FG.out.mono (fun b hb => List.mem_append_right _ hb))
          refine h1.new (fun b hb => ?_)
          rcases List.mem_append.1 hb with hb | hb
          · simp only [List.mem_cons, List.not_mem_nil, or_false] at hb
            rcases hb with rfl | rfl | rfl | rfl | rfl
            · simp
            · simp
            · simp
            · simp
            · exact .inr PB1.out
          · exact .inr (own_row OWN3.out _ hb)
        obtain ⟨g3, hg3, hr3⟩ : ∃ g3, g3 < gk ∧ ImrRel A B C D w.heap.size w1.heap.size o e w1 g3 v4 (.int .i64 ((i + 1 : Nat) : Int)) w4 := by
          have := HGK.out
          refine ⟨o.length - (k + k'), by omega, k + k', i + 1, ys ++ cells ((o.drop k).take k'), g2, by omega, hkk, rfl, OWN4.out, ?_, ?_, FF.out, rfl⟩
          · intro u hu
            rcases List.mem_append.1 hu with hu | hu
            · exact HONE.out u hu
            · exact cells_one _ u hu
          · rw [← List.drop_drop]
            have := HLT.out
            exact LV3.out.fr FG.out (fun h => by have := own_row OWN3.out _ h; omega) (fun h => by have := own_row OWN3.out _ h; omega) (fun h => by have := own_row OWN3.out _ h; omega) (fun h => by have := own_row OWN3.out _ h; omega) (fun b hb => by have := own_row OWN3.out _ hb; have := HFW.out.size; omega)
        have HG3 := Lib.hid hg3
        have HR3 := Lib.hid hr3
        clear hg3 hr3
        go_wp2_with fail
        go_roundg g3
        case measure => exact HG3.out
        case rel => exact HR3.out
      · obtain ⟨x, hx⟩ : ∃ x, err = .iface 102 (.pointer (some x)) := ⟨_, herr⟩
        subst hx
        have HE := Lib.hid herr
        have HEND := Lib.hid hend
        clear herr hend
        go_wp2_with (at_builtin; refine wpList_append_own_at _ rfl (.tmp 44) (.tmp 47) 22 rfl w1.heap.size 5 I5.out.choose _ 1 1 Tryd.underlying22 I5.out.choose_spec.1 I5.out.choose_spec.2.1 I5.out.choose_spec.2.2.1 I5.out.choose_spec.2.2.2 rfl (by omega) u8 k ys rfl OWN3.out ⟨Pb, 0, none⟩ k' q (cells ((o.drop k).take k')) rfl NL.out NEWS.out (cells_one _) (by unfold maxLen; omega) (by omega) hW3 ?_; intro v4 w4 hown4 hgrow4 hnil4 hat4; have OWN4 := Lib.hid hown4; have FG := Lib.hid (Fr.grown hgrow4 (S := Value.ownBlock u8 |>.toList) (by simp)); clear hown4 hgrow4 hnil4 hat4)
        have FF : Hid (Fr [A, B, C, D] w1 w4) := by
          have h1 : Fr ([A, B, C, D, Pb] ++ (Value.ownBlock u8).toList) w1 w4 := ((F12.out.mono (by simp)).trans (HF3.out.mono (by simp))).trans (FG.out.mono (fun b hb => List.mem_append_right _ hb))
          refine h1.new (fun b hb => ?_)
          rcases List.mem_append.1 hb with hb | hb
          · simp only [List.mem_cons, List.not_mem_nil, or_false] at hb
            rcases hb with rfl | rfl | rfl | rfl | rfl
            · simp
            · simp
            · simp
            · simp
            · exact .inr PB1.out
          · exact .inr (own_row OWN3.out _ hb)
        have K21 := code_any (GW.out _ FF.out) e
        rw [← HE.out] at K21
        have HK21 := Lib.hid K21
        clear K21
        go_wp2_with fail
        refine HK21.out.mono ?_
        rintro e' w' ⟨rfl, rfl⟩
        go_wp2_with fail
        go_ret2
        refine ⟨⟨v4, rfl, ?_⟩, ((HFW.out.mono (by simp)).trans FF.out).below (Nat.le_refl _) (by have := HAB.out; have := HAA.out; simp; omega)⟩
        have hlen : k + k' = o.length := by
          have := congrArg List.length HEND.out
          simp at this
          omega
        rw [← hlen]
        exact own_sl OWN4.out
end Go.Proofs.YtjajhpgodijeoaaDoor
