/-
  The code's signature of MP4. No condition.
-/
import Derived.Test.YtpjonekkiojelaaPre
import Derived.Deep.RegionWith
namespace Go.Proofs.Ytpjonekkiojelaa
open Go.RowKit Go.PlainAid

theorem bx_take (xs : List Int) : bx (xs.take 4) = bx xs := by
  unfold bx
  simp [List.getD]
def mp4Out : ByteArray := ⟨#[118, 105, 100, 101, 111, 47, 109, 112, 52]⟩
def outOf (b : Bool) : ByteArray := if b then mp4Out else ⟨#[]⟩

theorem start_below {w w1 : World} {o : Obj} (h : Below (w.alloc o).drew.heap.size (w.alloc o).drew w1) : Below w.heap.size w w1 :=
  (((Below.refl _ _).alloc (Nat.le_refl _) o).drew).trans (h.mono (by show _ ≤ (w.alloc o).heap.size; simp))
theorem ftyp_const (w : World) (o : Nat × Nat) : SL (w.alloc (.cells #[.int .u8 102, .int .u8 116, .int .u8 121, .int .u8 112] 5 o)) (some ⟨w.heap.size, 0, none⟩) 4 4 [102, 116, 121, 112] :=
  SL.const w [102, 116, 121, 112] o 4 rfl (by omega) (by decide)
theorem mp4_const (w : World) (o : Nat × Nat) : SL (w.alloc (.cells #[.int .u8 109, .int .u8 112, .int .u8 52] 5 o)) (some ⟨w.heap.size, 0, none⟩) 3 3 [109, 112, 52] :=
  SL.const w [109, 112, 52] o 3 rfl (by omega) (by decide)

theorem mp4B_loop {xs : List Int} {B : Nat} (h1 : 12 ≤ xs.length) (hB : bx xs = (B : Int)) (h3 : B ≤ xs.length) (h4 : B % 4 = 0) (h5 : begB (xs.drop 4) ftypS = true) : mp4B xs = brands xs B := by
  by_cases h2 : 12 ≤ B
  · rw [mp4B_yes h1 (by omega) (by omega) (by omega) h5, hB, Int.toNat_natCast]
  · rw [mp4B_no (.inr (.inl (by omega))), brands_none]
    intro st hst h8 h4' _
    omega

set_option maxHeartbeats 8000000 in
theorem sigmp4_any (a : Option Addr) (len cap : Nat) (xs : List Int) (i : Int) (w : World) (h : SL w a len cap xs) (hl : len ≤ 2147483647) :
    Calls Try.prog 41 #[.agg #[], .slice a len cap, .int .i64 i] w fun e w' => e = .returned (.string (outOf (mp4B xs))) ∧ Below w.heap.size w w' := by
  have h3 := h.hmx
  have h31 := h.hle
  unfold maxLen at h3
  have H1 := Lib.hid h.hlen
  by_cases h12 : len < 12
  · have H := Lib.hid (mp4B_no (xs := xs) (.inl (by rw [H1.out]; exact h12)))
    clear h
    go_enter Try.func41, Try.ntmps41
    go_wp2
    go_ret
    exact ⟨by rw [H.out]; rfl, (Below.refl _ _).alloc (Nat.le_refl _) _⟩
  obtain ⟨hb0, hb1⟩ := bx_bd h.hbd
  obtain ⟨B, hB⟩ := Int.eq_ofNat_of_zero_le hb0
  have HB := Lib.hid hB
  have hB1 : B ≤ 4294967295 := by omega
  clear hb0 hb1 hB
  have kc := fun (w : World) (C : Array Value) (n c : Nat) => Lib.run_convert_bytes_const (P := Try.prog) w 22 5 C n c Try.underlying22 Try.underlying5
  have hh := h.alloc (.cells #[] 49)
  have ht := hh.take (n := 4) (by omega)
  have HT := Lib.hid ht.drew
  have HH := Lib.hid h
  clear ht hh h
  by_cases hBl : len < B
  · have H := Lib.hid (mp4B_no (xs := xs) (.inr (.inr (.inl (by rw [HB.out, H1.out]; omega)))))
    clear kc
    go_enter Try.func41, Try.ntmps41
    go_wp2
    go_region_with (go_at_call 48; refine (be32_any a cap _ _ HT.out).mono ?_; rw [bx_take, HB.out]; rintro e w1 ⟨rfl, hb1⟩)
    all_goals
      have hb2 := start_below hb1
      clear hb1
      go_wp2
      go_ret
      exact ⟨by rw [H.out]; rfl, hb2⟩
  by_cases hB4 : B % 4 = 0
  · have hm : ((B : Int) % 4 == 0) = true := beq_iff_eq.2 (by omega)
    have hm2 : ((B : Int) % 4 != 0) = false := by rw [bne, hm]; rfl
    obtain ⟨a', hsl, hS4⟩ := HH.out.subRun (k := 4) (m := 8) (by omega) (by omega) (lo := 4) (hi := 8) rfl rfl
    have HS4 := Lib.hid hS4
    clear hS4
    have HF : Hid (begB (xs.drop 4) ftypS = decide ((xs.drop 4).take 4 = [102, 116, 121, 112])) := begB_pre (ys := [102, 116, 121, 112]) rfl (by decide)
    generalize hf : decide ((xs.drop 4).take 4 = [102, 116, 121, 112]) = F at HF
    have HF2 := Lib.hid hf
    clear hf
    rcases F with _ | _
    · have H := Lib.hid (mp4B_no (xs := xs) (.inr (.inr (.inr (.inr HF.out)))))
      go_enter Try.func41, Try.ntmps41
      go_wp2
      go_region_with (go_at_call 48; refine (be32_any a cap _ _ HT.out).mono ?_; rw [bx_take, HB.out]; rintro e w1 ⟨rfl, hb1⟩)
      all_goals
        have hb2 := start_below hb1
        clear hb1
        go_wp2_with fail
        refine (equal_any _ _ _ _ _ _ _ _ _ ((HS4.out.below hb2).alloc _) (ftyp_const _ _)).mono ?_
        rw [HF2.out]
        rintro e w2 ⟨rfl, rfl⟩
        go_wp2
        go_ret
        exact ⟨by rw [H.out]; rfl, hb2.alloc hb2.size _⟩
    · have H := Lib.hid (mp4B_loop (xs := xs) (by rw [H1.out]; omega) HB.out (by rw [H1.out]; omega) hB4 HF.out)
      go_enter Try.func41, Try.ntmps41
      go_wp2
      go_region_with (go_at_call 48; refine (be32_any a cap _ _ HT.out).mono ?_; rw [bx_take, HB.out]; rintro e w1 ⟨rfl, hb1⟩)
      all_goals
        have hb2 := start_below hb1
        clear hb1
        go_wp2_with fail
        refine (equal_any _ _ _ _ _ _ _ _ _ ((HS4.out.below hb2).alloc _) (ftyp_const _ _)).mono ?_
        rw [HF2.out]
        rintro e w2 ⟨rfl, rfl⟩
        go_wp2
        go_loopw [8] (fun v wr => ∃ st : Nat, 8 ≤ st ∧ st % 4 = 0 ∧ (st ≤ B ∨ st = 8) ∧ v = .int .i64 st ∧ Hid (∀ s, s < st → 8 ≤ s → s % 4 = 0 → s ≠ 12 → begB (xs.drop s) mp4S = false) ∧ Below w.heap.size w wr) (fun v _ => B - (intOf v).toNat)
        case atStart => exact ⟨8, Nat.le_refl _, rfl, .inr rfl, rfl, fun s h8 h8' => absurd h8 (by omega), hb2.alloc hb2.size _⟩
        case round =>
          obtain ⟨st, h8, hst4, hstB, rfl, he, hbr⟩ := hrel
          have hlB : B ≤ len := by omega
          clear hm hm2 hsl HS4
          by_cases hlt : st < B
          · obtain ⟨a2, hsl2, hS2⟩ := HH.out.subRun (k := st) (m := st + 3) (by omega) (by omega) (lo := (st : Int)) (hi := (st : Int) + 3) rfl (by omega)
            rw [show st + 3 - st = 3 from by omega] at hsl2 hS2
            have HS2 := Lib.hid hS2
            clear hS2
            by_cases h12' : st = 12
            · subst h12'
              go_wp2
              go_roundw
              case rel => exact ⟨16, by omega, by omega, by omega, by go_num, fun s hs h8s h4s h12s => he.out s (by omega) h8s h4s h12s, hbr⟩
              case measure => simp [intOf]; omega
            · have q12 : ((st : Int) == 12) = false := beq_eq_false_iff_ne.2 (by omega)
              have HG : Hid (begB (xs.drop st) mp4S = decide ((xs.drop st).take 3 = [109, 112, 52])) := begB_pre (ys := [109, 112, 52]) rfl (by decide)
              generalize hg : decide ((xs.drop st).take 3 = [109, 112, 52]) = G at HG
              have HG2 := Lib.hid hg
              clear hg
              rcases G with _ | _
              · go_wp2_with fail
                refine (equal_any _ _ _ _ _ _ _ _ _ ((HS2.out.below hbr).alloc _) (mp4_const _ _)).mono ?_
                rw [HG2.out]
                rintro e w2 ⟨rfl, rfl⟩
                go_wp2
                go_roundw
                case rel =>
                  refine ⟨st + 4, by omega, by omega, by omega, by go_num, fun s hs h8s h4s h12s => ?_, hbr.alloc hbr.size _⟩
                  rcases Nat.lt_or_ge s st with h | h
                  · exact he.out s h h8s h4s h12s
                  · obtain rfl : s = st := by omega
                    exact HG.out
                case measure => simp [intOf]; omega
              · have HH2 := Lib.hid (brands_hit hlt h8 hst4 h12' HG.out)
                go_wp2_with fail
                refine (equal_any _ _ _ _ _ _ _ _ _ ((HS2.out.below hbr).alloc _) (mp4_const _ _)).mono ?_
                rw [HG2.out]
                rintro e w2 ⟨rfl, rfl⟩
                go_wp2
                go_ret
                exact ⟨by rw [H.out, HH2.out]; rfl, hbr.alloc hbr.size _⟩
          · have HH2 := Lib.hid (brands_none (xs := xs) (B := B) (fun s hs => he.out s (by omega)))
            go_wp2
            go_ret
            exact ⟨by rw [H.out, HH2.out]; rfl, hbr⟩
  · have H := Lib.hid (mp4B_no (xs := xs) (.inr (.inr (.inr (.inl (by rw [HB.out]; omega))))))
    have hm : ((B : Int) % 4 == 0) = false := beq_eq_false_iff_ne.2 (by omega)
    have hm2 : ((B : Int) % 4 != 0) = true := by rw [bne, hm]; rfl
    clear kc
    go_enter Try.func41, Try.ntmps41
    go_wp2
    go_region_with (go_at_call 48; refine (be32_any a cap _ _ HT.out).mono ?_; rw [bx_take, HB.out]; rintro e w1 ⟨rfl, hb1⟩)
    all_goals
      have hb2 := start_below hb1
      clear hb1
      go_wp2
      go_ret
      exact ⟨by rw [H.out]; rfl, hb2⟩
end Go.Proofs.Ytpjonekkiojelaa
