/-
  The reference's Decode.
-/
import Derived.Test.YtjajhpgodijeoaaDoorSiz
import Derived.Test.YtjajhpgodijeoaaDoorImr
namespace Go.Proofs.YtjajhpgodijeoaaDoor
open Go.RowKit

/-- What Decode returns. -/
def DecRet (body : List Int) (e : Ending) : Prop := ∃ v, ∃ k : Int, e = .returned (.tuple #[v, .int .i64 k]) ∧ (k = 2 → ∃ o, Run 0 false 0 body o false)
theorem DecRet.other (body : List Int) (v : Value) {k : Int} (hk : k ≠ 2) : DecRet body (.returned (.tuple #[v, .int .i64 k])) := ⟨v, k, rfl, fun h => absurd h hk⟩

theorem SL.news {w : World} {ad : Addr} {len cap : Nat} {xs : List Int} (h : SL w (some ad) len cap xs) : ∀ j u, (cells xs)[j]? = some u → w.cell? (ad.add j) = some u := by
  intro j u hj
  obtain ⟨rfl, hjl⟩ := cells_at hj
  have hl := h.hlen
  obtain ⟨b, off, he, hc⟩ := h.hat (by omega)
  injection he with he
  subst he
  rw [Addr.add_lit]
  exact hc j (by omega)
theorem SL.some_of {w : World} {a : Option Addr} {len cap : Nat} {xs : List Int} (h : SL w a len cap xs) (hp : 0 < len) : ∃ ad, a = some ad := by
  obtain ⟨b, off, he, _⟩ := h.hat hp
  exact ⟨_, he⟩
theorem cutAt_some (ad : Addr) (cap k : Nat) : ∃ ad', cutAt (some ad) cap k = some ad' := by
  unfold cutAt
  split
  · exact ⟨_, rfl⟩
  · exact ⟨_, rfl⟩

def DecRel (body : List Int) (w : World) (g : Nat) (s0 s2 s4 : Value) (wr : World) : Prop :=
  ∃ a l cp s kk extra ys, s0 = .slice a l cp ∧ SL wr a l cp s ∧ (0 < l → ∀ x, a = some x → x.block < w.heap.size) ∧ s4 = .int .i64 (extra : Nat) ∧ extra ≤ 10000 ∧ wr.ownsRow w.heap.size 5 1 s2 kk ys ∧ kk + l ≤ 2147483647 ∧
    Comes body s extra ∧ Fr [] w wr ∧ g = l

set_option maxHeartbeats 1000000 in
set_option maxRecDepth 100000 in
theorem dec_any (a : Option Addr) (len cap : Nat) (xs : List Int) (w : World) (h : SL w a len cap xs) (hl : len ≤ 2147483647) :
    Calls Tryd.prog 10 #[.slice a len cap] w fun e w' => DecRet xs e ∧ Below w.heap.size w w' := by
  have H := Lib.hid h
  have I5 := Lib.hid (info_parts Tryd.info5)
  have HW : Hid (0 < len → ∀ x, a = some x → x.block < w.heap.size) := fun hp x hx => by
    obtain ⟨b, off, he, hc⟩ := H.out.hat hp
    rw [he] at hx
    injection hx with hx
    subst hx
    exact World.block_lt_of_cell? w _ (hc 0 hp)
  clear h
  go_enter Tryd.func10, Tryd.ntmps10
  go_wp2_with fail
  go_loopg [0, 2, 4] len (DecRel xs w)
  case atStart => exact ⟨a, len, cap, xs, 0, 0, [], rfl, H.out, HW.out, rfl, by omega, World.ownsRow_nil _ _ _ _, by omega, Comes.start xs, Fr.refl _ _, rfl⟩
  case round =>
    obtain ⟨a, l, cp, s, kk, extra, ys, rfl, hs, hsw, rfl, hex, hown, hkl, hcm, hF, hgl⟩ := hrel
    have HS := Lib.hid hs
    have HSW := Lib.hid hsw
    have HOWN := Lib.hid hown
    have HCM := Lib.hid hcm
    have HF := Lib.hid hF
    have HGL := Lib.hid hgl
    have K18 := Lib.hid (line_any a l cp s wr hs (by omega))
    clear hs hsw hown hcm hF hgl
    go_wp2_with fail
    refine K18.out.mono ?_
    rintro e w' ⟨⟨n, k1, rfl, hla⟩, rfl⟩
    clear K18
    rcases hla with ⟨rfl, l0, t, hst, hl0, h10, h13, hn4⟩ | ⟨rfl, h10, h40⟩ | rfl
    · have hsl := HS.out.hlen
      have hll : l = n + 2 + t.length := by rw [← hsl, hst]; simp; omega
      obtain ⟨ad, rfl⟩ := HS.out.some_of (by omega)
      have hcp := HS.out.hle
      have hs1 : ∀ W, (Instr.slice 22 (.slice (some ad) l cp) none (some (.int .i64 n)) none).run Tryd.prog W = .ok (.slice (some ad) n cp) W := fun W => run_to W _ l cp n (by omega) rfl
      have htk : s.take n = l0 := by rw [hst, ← hl0]; exact List.take_left
      have hdr : s.drop (n + 2) = t := by rw [hst, ← hl0, List.drop_append]; simp
      have hSn := HS.out.take (n := n) (by omega)
      rw [htk] at hSn
      have K19 := Lib.hid (size_any (some ad) n cp l0 wr hSn (by omega))
      obtain ⟨ex2, hex2⟩ : ∃ k, k = extra + n := ⟨_, rfl⟩
      have hexi : (extra : Int) + (n : Int) = (ex2 : Int) := by omega
      have hexb : ex2 ≤ 14000 := by omega
      obtain ⟨ad1, had1⟩ := cutAt_some ad cp (n + 2)
      obtain ⟨l1, hl1⟩ : ∃ l1, l1 = t.length := ⟨_, rfl⟩
      obtain ⟨cp1, hcp1⟩ : ∃ c, c = cp - (n + 2) := ⟨_, rfl⟩
      obtain ⟨n4, hn4'⟩ : ∃ k, k = n + 2 := ⟨_, rfl⟩
      have hn4i : (n : Int) + 2 = (n4 : Int) := by omega
      have hs2 : ∀ W, (Instr.slice 22 (.slice (some ad) l cp) (some (.int .i64 n4)) none none).run Tryd.prog W = .ok (.slice (some ad1) l1 cp1) W := fun W => by
        rw [run_from W _ l cp n4 (by omega) rfl, hn4', had1, hcp1, show l - (n + 2) = l1 by omega]
      have hS1 : SL wr (some ad1) l1 cp1 t := by
        have := HS.out.cut (k := n + 2) (by omega)
        rw [had1, hdr, ← hcp1, show l - (n + 2) = l1 by omega] at this
        exact this
      have hSW1 : Hid (0 < l1 → ∀ x, some ad1 = some x → x.block < w.heap.size) := fun hp x hx => by
        obtain ⟨y, hy, hxy⟩ := cutAt_block (had1.trans hx)
        rw [hxy]
        exact HSW.out (by omega) y hy
      have hWr := HF.out.size
      have ST := Lib.hid hst
      have L0 := Lib.hid hl0
      have H10 := Lib.hid h10
      have H13 := Lib.hid h13
      have EX2 := Lib.hid hex2
      have L1 := Lib.hid hl1
      have HLL := Lib.hid hll
      have S1 := Lib.hid hS1
      have hl1b : l1 ≤ 2147483647 := by omega
      have hkl1 : kk + l1 ≤ 2147483647 := by omega
      have hc1 := hS1.hle
      have hgl1 : Hid (l1 < gk) := by have := HGL.out; show l1 < gk; omega
      clear hst hl0 h10 h13 hex2 hl1 hll hS1 hsl htk hdr hSn had1 hcp1 hn4' hcp
      go_wp2_with fail
      refine K19.out.mono ?_
      rintro e w' ⟨⟨n2, k2, rfl, hsa⟩, rfl⟩
      by_cases hov : 10000 < ex2
      · have hov' : (10000 : Int) < (ex2 : Int) := by omega
        clear hsa
        go_wp2_with fail
        go_ret2
        exact ⟨DecRet.other _ _ (by omega), HF.out.below (Nat.le_refl _) (by simp)⟩
      have hov' : ¬ (10000 : Int) < (ex2 : Int) := by omega
      rcases hsa with ⟨rfl, d1, d2, d3, d4, d5⟩ | rfl | rfl
      · have LO : Hid (LineOk l0 n2) := lineOk_of H10.out H13.out (by rw [L0.out]; exact hn4) d1 d2 d3 d4 d5
        have HOV : Hid (extra + l0.length ≤ 10000) := by have := EX2.out; have := L0.out; show extra + l0.length ≤ 10000; omega
        clear d1 d2 d3 d4
        rcases Nat.eq_zero_or_pos n2 with hz | hz
        · have hz1 : ((n2 : Int) == 0) = true := by rw [hz]; rfl
          clear hz
          go_wp2_with fail
          go_ret2
          exact ⟨DecRet.other _ _ (by omega), HF.out.below (Nat.le_refl _) (by simp)⟩
        have hz1 : ((n2 : Int) == 0) = false := beq_eq_false_iff_ne.2 (by omega)
        by_cases hlong : l1 < n2
        · have hlong' : (l1 : Int) < (n2 : Int) := by omega
          have X := Lib.hid (HCM.out.cutData ST.out LO.out HOV.out hz (by rw [← L1.out]; exact hlong))
          have NL := Lib.hid (show (cells t).length = l1 * 1 by rw [cells_len, L1.out, Nat.mul_one])
          have NEWS := Lib.hid S1.out.news
          go_wp2_with (at_builtin; refine wpList_append_own_at _ rfl (.tmp 46) (.tmp 47) 22 rfl w.heap.size 5 I5.out.choose _ 1 1 Tryd.underlying22 I5.out.choose_spec.1 I5.out.choose_spec.2.1 I5.out.choose_spec.2.2.1 I5.out.choose_spec.2.2.2 rfl (by omega) u2 kk ys rfl HOWN.out ad1 l1 cp1 (cells t) rfl NL.out NEWS.out (cells_one _) (by unfold maxLen; omega) (by omega) hWr ?_; intro v4 w4 hown4 hgrow4 hnil4 hat4; have OWN4 := Lib.hid hown4; have FG := Lib.hid (Fr.grown hgrow4 (S := Value.ownBlock u2 |>.toList) (by simp)); clear hown4 hgrow4 hnil4 hat4)
          have FF : Hid (Fr [] w w4) := ((HF.out.mono (S' := (Value.ownBlock u2).toList) (by simp)).trans FG.out).new (fun b hb => .inr (own_row HOWN.out _ hb))
          go_ret2
          exact ⟨⟨_, 2, rfl, fun _ => X.out⟩, FF.out.below (Nat.le_refl _) (by simp)⟩
        · have hlong' : ¬ (l1 : Int) < (n2 : Int) := by omega
          have hn2b : n2 ≤ 2147483647 := by omega
          have hs3 : ∀ W, (Instr.slice 22 (.slice (some ad1) l1 cp1) none (some (.int .u64 n2)) none).run Tryd.prog W = .ok (.slice (some ad1) n2 cp1) W := fun W => by
            rw [run_slice_h W 22 _ l1 cp1 slice22 .u64 n2 (by omega) (by omega), size22]
            simp only [Result.andThen, sliced, Int.toNat_natCast]
            simp [Addr.add]
          obtain ⟨ad2, had2⟩ := cutAt_some ad1 cp1 n2
          obtain ⟨l2, hl2⟩ : ∃ l2, l2 = l1 - n2 := ⟨_, rfl⟩
          obtain ⟨cp2, hcp2⟩ : ∃ c, c = cp1 - n2 := ⟨_, rfl⟩
          have hs4 : ∀ W, (Instr.slice 22 (.slice (some ad1) l1 cp1) (some (.int .u64 n2)) none none).run Tryd.prog W = .ok (.slice (some ad2) l2 cp2) W := fun W => by
            rw [run_slice_l W 22 _ l1 cp1 slice22 .u64 n2 (by omega) (by omega), size22, hl2, hcp2, ← had2]
            simp only [Result.andThen, sliced, Int.toNat_natCast, cutAt]
          have NL := Lib.hid (show (cells (t.take n2)).length = n2 * 1 by rw [cells_len, List.length_take, ← L1.out, Nat.mul_one]; omega)
          have NEWS := Lib.hid (S1.out.take (n := n2) (by omega)).news
          have S2 : Hid (SL wr (some ad2) l2 cp2 (t.drop n2)) := by
            have := S1.out.cut (k := n2) (by omega)
            rw [had2, ← hl2, ← hcp2] at this
            exact this
          have SW2 : Hid (0 < l2 → ∀ x, some ad2 = some x → x.block < w.heap.size) := fun hp x hx => by
            obtain ⟨y, hy, hxy⟩ := cutAt_block (had2.trans hx)
            rw [hxy]
            exact hSW1.out (by omega) y hy
          have HL2 := Lib.hid hl2
          have hl2b : l2 ≤ 2147483647 := by omega
          have hkl2 : kk + n2 + l2 ≤ 2147483647 := by omega
          clear had2 hl2 hcp2
          rcases Nat.eq_zero_or_pos l2 with hl20 | hl20
          · have X := Lib.hid (HCM.out.cutEnd ST.out LO.out HOV.out hz (by rw [← L1.out]; omega) (by rw [← L1.out]; have := HL2.out; omega))
            subst hl20
            go_wp2_with (at_builtin; refine wpList_append_own_at _ rfl (.tmp 49) (.tmp 52) 22 rfl w.heap.size 5 I5.out.choose _ 1 1 Tryd.underlying22 I5.out.choose_spec.1 I5.out.choose_spec.2.1 I5.out.choose_spec.2.2.1 I5.out.choose_spec.2.2.2 rfl (by omega) u2 kk ys rfl HOWN.out ad1 n2 cp1 (cells (t.take n2)) rfl NL.out NEWS.out (cells_one _) (by unfold maxLen; omega) (by omega) hWr ?_; intro v4 w4 hown4 hgrow4 hnil4 hat4; have OWN4 := Lib.hid hown4; have FG := Lib.hid (Fr.grown hgrow4 (S := Value.ownBlock u2 |>.toList) (by simp)); clear hown4 hgrow4 hnil4 hat4)
            have FF : Hid (Fr [] w w4) := ((HF.out.mono (S' := (Value.ownBlock u2).toList) (by simp)).trans FG.out).new (fun b hb => .inr (own_row HOWN.out _ hb))
            go_ret2
            exact ⟨⟨_, 2, rfl, fun _ => X.out⟩, FF.out.below (Nat.le_refl _) (by simp)⟩
          obtain ⟨b2, o2, had, hc4⟩ := S2.out.hat hl20
          injection had with had
          subst had
          have hcw0 := hc4 0 hl20
          rw [Nat.add_zero] at hcw0
          obtain ⟨c0, hc0⟩ : ∃ c, (t.drop n2).getD 0 0 = c := ⟨_, rfl⟩
          rw [hc0] at hcw0
          have C0 := Lib.hid hc0
          have hl2i : (0 : Int) < (l2 : Int) := by omega
          have NB : Hid (b2 ∉ (Value.ownBlock u2).toList) := fun hm => by
            have h1 := SW2.out hl20 _ rfl
            have h2 := own_row HOWN.out _ hm
            simp at h1
            omega
          clear hc0
          by_cases h13' : c0 = 13
          · subst h13'
            by_cases hl21 : 1 < l2
            · have hl21i : (1 : Int) < (l2 : Int) := by omega
              have hcw1 := hc4 1 hl21
              obtain ⟨c1, hc1'⟩ : ∃ c, (t.drop n2).getD 1 0 = c := ⟨_, rfl⟩
              rw [hc1'] at hcw1
              have C1 := Lib.hid hc1'
              clear hc1' hc4
              by_cases h10' : c1 = 10
              · subst h10'
                have hl22 : ¬ (l2 : Int) < 2 := by omega
                obtain ⟨ad3, had3⟩ := cutAt_some ⟨b2, o2, none⟩ cp2 2
                obtain ⟨l3, hl3⟩ : ∃ l3, l3 = l2 - 2 := ⟨_, rfl⟩
                obtain ⟨cp3, hcp3⟩ : ∃ c, c = cp2 - 2 := ⟨_, rfl⟩
                have hs5 : ∀ W, (Instr.slice 22 (.slice (some ⟨b2, o2, none⟩) l2 cp2) (some (.int .i64 2)) none none).run Tryd.prog W = .ok (.slice (some ad3) l3 cp3) W := fun W => by
                  rw [run_from W _ l2 cp2 2 (by omega) (lo := 2) rfl, had3, hl3, hcp3]
                have HR0 : Hid (∀ v4 w4, w4.ownsRow w.heap.size 5 1 v4 (kk + n2) (ys ++ cells (t.take n2)) → Fr (Value.ownBlock u2).toList wr w4 → Fr [] w w4 → DecRel xs w l3 (.slice (some ad3) l3 cp3) v4 (.int .i64 (ex2 : Nat)) w4) := fun v4 w4 ho hg hf => by
                  have h5 := S2.out.fr0 hg (fun hp x hx hm => by injection hx with hx; subst hx; exact NB.out hm)
                  have h6 := h5.cut (k := 2) (by omega)
                  rw [had3, ← hl3, ← hcp3, List.drop_drop] at h6
                  have h7 := HCM.out.next ST.out LO.out HOV.out hz (by rw [← L1.out]; have := HL2.out; omega) (by have := C0.out; simpa [List.getD, List.getElem?_drop] using this) (by have := C1.out; simpa [List.getD, List.getElem?_drop] using this)
                  rw [L0.out, ← EX2.out] at h7
                  refine ⟨some ad3, l3, cp3, _, kk + n2, ex2, _, rfl, h6, fun hp x hx => ?_, rfl, by omega, ho, by omega, h7, hf, rfl⟩
                  obtain ⟨y, hy, hxy⟩ := cutAt_block (had3.trans hx)
                  rw [hxy]
                  exact SW2.out (by omega) y hy
                have HLT : Hid (l3 < gk) := by have := hgl1.out; have := HL2.out; show l3 < gk; omega
                clear had3 hl3 hcp3
                go_wp2_with (at_builtin; refine wpList_append_own_at _ rfl (.tmp 49) (.tmp 52) 22 rfl w.heap.size 5 I5.out.choose _ 1 1 Tryd.underlying22 I5.out.choose_spec.1 I5.out.choose_spec.2.1 I5.out.choose_spec.2.2.1 I5.out.choose_spec.2.2.2 rfl (by omega) u2 kk ys rfl HOWN.out ad1 n2 cp1 (cells (t.take n2)) rfl NL.out NEWS.out (cells_one _) (by unfold maxLen; omega) (by omega) hWr ?_; intro v4 w4 hown4 hgrow4 hnil4 hat4; have OWN4 := Lib.hid hown4; have FG := Lib.hid (Fr.grown hgrow4 (S := Value.ownBlock u2 |>.toList) (by simp)); clear hown4 hgrow4 hnil4 hat4; have hcell0 := FG.out.cell hcw0 NB.out; have hcell1 := FG.out.cell hcw1 NB.out; clear hcw0 hcw1)
                have FF : Hid (Fr [] w w4) := ((HF.out.mono (S' := (Value.ownBlock u2).toList) (by simp)).trans FG.out).new (fun b hb => .inr (own_row HOWN.out _ hb))
                go_roundg l3
                case measure => exact HLT.out
                case rel => exact HR0.out _ _ OWN4.out FG.out FF.out
              · have h10'' : (c1 == 10) = false := beq_eq_false_iff_ne.2 h10'
                go_wp2_with (at_builtin; refine wpList_append_own_at _ rfl (.tmp 49) (.tmp 52) 22 rfl w.heap.size 5 I5.out.choose _ 1 1 Tryd.underlying22 I5.out.choose_spec.1 I5.out.choose_spec.2.1 I5.out.choose_spec.2.2.1 I5.out.choose_spec.2.2.2 rfl (by omega) u2 kk ys rfl HOWN.out ad1 n2 cp1 (cells (t.take n2)) rfl NL.out NEWS.out (cells_one _) (by unfold maxLen; omega) (by omega) hWr ?_; intro v4 w4 hown4 hgrow4 hnil4 hat4; have OWN4 := Lib.hid hown4; have FG := Lib.hid (Fr.grown hgrow4 (S := Value.ownBlock u2 |>.toList) (by simp)); clear hown4 hgrow4 hnil4 hat4; have hcell0 := FG.out.cell hcw0 NB.out; have hcell1 := FG.out.cell hcw1 NB.out; clear hcw0 hcw1)
                have FF : Hid (Fr [] w w4) := ((HF.out.mono (S' := (Value.ownBlock u2).toList) (by simp)).trans FG.out).new (fun b hb => .inr (own_row HOWN.out _ hb))
                go_ret2
                exact ⟨DecRet.other _ _ (by omega), FF.out.below (Nat.le_refl _) (by simp)⟩
            · have hl21i : ¬ (1 : Int) < (l2 : Int) := by omega
              have hl22 : (l2 : Int) < 2 := by omega
              have X := Lib.hid (HCM.out.cutEnd ST.out LO.out HOV.out hz (by rw [← L1.out]; omega) (by rw [← L1.out]; have := HL2.out; omega))
              clear hc4
              go_wp2_with (at_builtin; refine wpList_append_own_at _ rfl (.tmp 49) (.tmp 52) 22 rfl w.heap.size 5 I5.out.choose _ 1 1 Tryd.underlying22 I5.out.choose_spec.1 I5.out.choose_spec.2.1 I5.out.choose_spec.2.2.1 I5.out.choose_spec.2.2.2 rfl (by omega) u2 kk ys rfl HOWN.out ad1 n2 cp1 (cells (t.take n2)) rfl NL.out NEWS.out (cells_one _) (by unfold maxLen; omega) (by omega) hWr ?_; intro v4 w4 hown4 hgrow4 hnil4 hat4; have OWN4 := Lib.hid hown4; have FG := Lib.hid (Fr.grown hgrow4 (S := Value.ownBlock u2 |>.toList) (by simp)); clear hown4 hgrow4 hnil4 hat4; have hcell0 := FG.out.cell hcw0 NB.out; clear hcw0)
              have FF : Hid (Fr [] w w4) := ((HF.out.mono (S' := (Value.ownBlock u2).toList) (by simp)).trans FG.out).new (fun b hb => .inr (own_row HOWN.out _ hb))
              go_ret2
              exact ⟨⟨_, 2, rfl, fun _ => X.out⟩, FF.out.below (Nat.le_refl _) (by simp)⟩
          · have h13'' : (c0 == 13) = false := beq_eq_false_iff_ne.2 h13'
            clear hc4
            go_wp2_with (at_builtin; refine wpList_append_own_at _ rfl (.tmp 49) (.tmp 52) 22 rfl w.heap.size 5 I5.out.choose _ 1 1 Tryd.underlying22 I5.out.choose_spec.1 I5.out.choose_spec.2.1 I5.out.choose_spec.2.2.1 I5.out.choose_spec.2.2.2 rfl (by omega) u2 kk ys rfl HOWN.out ad1 n2 cp1 (cells (t.take n2)) rfl NL.out NEWS.out (cells_one _) (by unfold maxLen; omega) (by omega) hWr ?_; intro v4 w4 hown4 hgrow4 hnil4 hat4; have OWN4 := Lib.hid hown4; have FG := Lib.hid (Fr.grown hgrow4 (S := Value.ownBlock u2 |>.toList) (by simp)); clear hown4 hgrow4 hnil4 hat4; have hcell0 := FG.out.cell hcw0 NB.out; clear hcw0)
            have FF : Hid (Fr [] w w4) := ((HF.out.mono (S' := (Value.ownBlock u2).toList) (by simp)).trans FG.out).new (fun b hb => .inr (own_row HOWN.out _ hb))
            go_ret2
            exact ⟨DecRet.other _ _ (by omega), FF.out.below (Nat.le_refl _) (by simp)⟩
      · go_wp2_with fail
        go_ret2
        exact ⟨DecRet.other _ _ (by omega), HF.out.below (Nat.le_refl _) (by simp)⟩
      · go_wp2_with fail
        go_ret2
        exact ⟨DecRet.other _ _ (by omega), HF.out.below (Nat.le_refl _) (by simp)⟩
    · have X := Lib.hid (HCM.out.cutLine h10 h40)
      clear h10 h40
      go_wp2_with fail
      go_ret2
      exact ⟨⟨_, 2, rfl, fun _ => X.out⟩, HF.out.below (Nat.le_refl _) (by simp)⟩
    · go_wp2_with fail
      go_ret2
      exact ⟨DecRet.other _ _ (by omega), HF.out.below (Nat.le_refl _) (by simp)⟩
end Go.Proofs.YtjajhpgodijeoaaDoor
