/-
  The type that the code tells of more than 512 bytes is that of the first 512. No condition.
-/
import Derived.Test.YtpjonekkiojelaaDet
namespace Go.Proofs.Ytpjonekkiojelaa
open Go.RowKit Go.PlainAid

set_option maxRecDepth 100000 in
set_option maxHeartbeats 16000000 in
theorem detect_big (HSIG : Hid (∀ w, Calls Try.prog 43 #[] w (SigPost w))) (a : Option Addr) (len cap : Nat) (xs0 : List Int) (w : World) (h0 : SL w a len cap xs0) (hb : 512 < len) (hl : len ≤ 2147483647) :
    Calls Try.prog 33 #[.slice a len cap] w (MatchPost w (det (xs0.take 512))) := by
  have h := h0.take (n := 512) (by omega)
  have hle0 := h0.hle
  clear h0
  generalize xs0.take 512 = xs at h ⊢
  obtain ⟨K, hK⟩ : ∃ K, wsn xs = K := ⟨_, rfl⟩
  have hKl : K ≤ 512 := by rw [← hK, ← h.hlen]; exact wsn_le xs
  have HK := Lib.hid hK
  have H1 := Lib.hid h.hlen
  have hmx := h.hmx
  have hle := h.hle
  unfold maxLen at hmx
  have HS := Lib.hid h
  clear h hK
  have hd : decide ((512 : Int) < (len : Int)) = true := decide_eq_true (by omega)
  go_enter Try.func33, Try.ntmps33
  go_wp2
  go_loop [3] (fun v => ∃ k : Nat, k ≤ K ∧ v = .int .i64 k) (fun v => 512 - (intOf v).toNat)
  case atStart => exact ⟨0, Nat.zero_le _, rfl⟩
  case round =>
    obtain ⟨k, hk, rfl⟩ := hrel
    by_cases hlt : k < K
    · obtain ⟨b, off, rfl, hc⟩ := HS.out.hat (by omega)
      have hcell := hc k (by omega)
      have hw := Lib.hid (wsn_hit (xs := xs) (k := k) (by rw [HK.out]; exact hlt))
      generalize xs.getD k 0 = c at hcell hw
      clear hc
      go_wp2_with (go_at_call 42; refine (ws_any _ _).mono ?_; rw [hw.out]; rintro e w' ⟨rfl, rfl⟩)
      go_round
      case rel => exact ⟨k + 1, by omega, by go_num⟩
      case measure => simp [intOf]; omega
    · obtain rfl : k = K := by omega
      have hex : (k < 512 ∧ isWSb (xs.getD k 0) = false) ∨ 512 ≤ k := by
        by_cases hkl : k < 512
        · refine .inl ⟨hkl, ?_⟩
          have := wsn_at (xs := xs) (by rw [HK.out, H1.out]; exact hkl)
          rwa [HK.out] at this
        · exact .inr (by omega)
      have HE : Hid (det xs = firstOf (matchS xs k) sigs) := by show det xs = _; unfold det; rw [HK.out]
      clear hlt
      rcases hex with ⟨hkl, hw⟩ | hkl
      · obtain ⟨b, off, rfl, hc⟩ := HS.out.hat (by omega)
        have hcell := hc k (by omega)
        have hw' := Lib.hid hw
        clear hw
        generalize xs.getD k 0 = c at hcell hw'
        clear hc
        go_wp2_with (go_at_call 42; refine (ws_any _ _).mono ?_; rw [hw'.out]; rintro e w' ⟨rfl, rfl⟩)
        go_wp2_with fail
        refine (HSIG.out _).mono ?_
        rintro e w1 ⟨b, rfl, hL⟩
        have HL := Lib.hid hL
        clear hL
        go_wp2
        go_loopw [27] (fun v wr => ∃ i : Nat, i ≤ 51 ∧ v = .int .i64 i ∧ Hid (∀ j, j < i → (matchS xs k (sigs.getD j .text)).toList.isEmpty = true) ∧ Hid (Below w1.heap.size w1 wr)) (fun v _ => 51 - (intOf v).toNat)
        case atStart => exact ⟨0, Nat.zero_le _, rfl, fun i hi => absurd hi (by omega), Below.refl _ _⟩
        case round =>
          obtain ⟨i, hi, rfl, he, hbr⟩ := hrel
          by_cases hlt : i < 51
          · obtain ⟨v, hcv, hR⟩ := HL.out.at_ i hlt
            have hcell := (hbr.out.cell (p := ⟨b, i, none⟩) HL.out.lt).trans hcv
            have HR := Lib.hid (hR.below hbr.out)
            clear hcv hR
            have HSr := Lib.hid ((HS.out.below HL.out.bel).below hbr.out)
            obtain ⟨s, hs⟩ : ∃ s, sigs.getD i .text = s := ⟨_, rfl⟩
            have HF := Lib.hid (sigs_fit i hlt)
            rw [hs] at HR HF
            have Hs := Lib.hid hs
            clear hs
            generalize hr : matchS xs k s = r
            have Hr := Lib.hid hr
            clear hr
            cases s with
            | html p =>
              obtain ⟨b1, rfl, hp⟩ := HR.out
              have HP := Lib.hid hp
              have hf := of_decide_eq_true HF.out
              clear hp HR HF
              go_wp2_with fail
              refine (html_any _ _ _ b1 xs p _ _ HSr.out (by omega) (by omega) HP.out hf).mono ?_
              rw [show orNil (htmlB (xs.drop k) p) htmlOut = r from Hr.out]
              rintro e w2 ⟨rfl, hb2⟩
              rcases Bool.eq_false_or_eq_true r.toList.isEmpty with hE | hE
              · go_wp2
                go_roundw
                case rel =>
                  refine ⟨i + 1, by omega, by go_num, fun j hj => ?_, hbr.out.trans (hb2.mono hbr.out.size)⟩
                  rcases Nat.lt_or_eq_of_le (Nat.le_of_lt_succ hj) with hj | rfl
                  · exact he.out j hj
                  · rw [Hs.out, Hr.out]; exact hE
                case measure => simp [intOf]; omega
              · have H := Lib.hid (firstOf_hit (f := matchS xs k) (l := sigs) (i := i) (by rw [sigs_len]; exact hlt) he.out (by rw [Hs.out, Hr.out]; exact hE))
                go_wp2
                go_ret
                exact ⟨by rw [HE.out, H.out, Hs.out, Hr.out]; rfl, HL.out.bel.trans ((hbr.out.trans (hb2.mono hbr.out.size)).mono HL.out.bel.size)⟩
            | masked m p sk ct =>
              obtain ⟨b1, bm, bp, rfl, c0, c1, c2, c3, hM, hP⟩ := HR.out
              have hf := HF.out
              simp only [Sig.fits, Bool.and_eq_true, decide_eq_true_eq] at hf
              obtain ⟨⟨hf1, hf2⟩, hf3⟩ := hf
              have HF1 := Lib.hid hf1
              rw [hf1] at c0 hM
              have HM := Lib.hid hM
              have HP := Lib.hid hP
              clear hM hP HR HF hf1
              go_wp2_with fail
              refine (masked_any _ _ _ b1 bm bp xs m p _ sk ct _ p.length _ HSr.out (by omega) (by omega) rfl hf2 hf3 rfl c0 c1 c2 c3 HM.out HP.out).mono ?_
              rw [show orNil (maskB (if sk then xs.drop k else xs) m p) ct = r from Hr.out]
              rintro e w2 ⟨rfl, hb2⟩
              rcases Bool.eq_false_or_eq_true r.toList.isEmpty with hE | hE
              · go_wp2
                go_roundw
                case rel =>
                  refine ⟨i + 1, by omega, by go_num, fun j hj => ?_, hbr.out.trans (hb2.mono hbr.out.size)⟩
                  rcases Nat.lt_or_eq_of_le (Nat.le_of_lt_succ hj) with hj | rfl
                  · exact he.out j hj
                  · rw [Hs.out, Hr.out]; exact hE
                case measure => simp [intOf]; omega
              · have H := Lib.hid (firstOf_hit (f := matchS xs k) (l := sigs) (i := i) (by rw [sigs_len]; exact hlt) he.out (by rw [Hs.out, Hr.out]; exact hE))
                go_wp2
                go_ret
                exact ⟨by rw [HE.out, H.out, Hs.out, Hr.out]; rfl, HL.out.bel.trans ((hbr.out.trans (hb2.mono hbr.out.size)).mono HL.out.bel.size)⟩
            | fixd p ct =>
              obtain ⟨b1, bp, rfl, c0, c1, hP⟩ := HR.out
              have HP := Lib.hid hP
              clear hP HR HF
              go_wp2_with fail
              refine (exact_any _ _ _ b1 bp xs p ct _ _ HSr.out c0 c1 HP.out).mono ?_
              rw [show orNil (pre xs p) ct = r from Hr.out]
              rintro e w2 ⟨rfl, hb2⟩
              rcases Bool.eq_false_or_eq_true r.toList.isEmpty with hE | hE
              · go_wp2
                go_roundw
                case rel =>
                  refine ⟨i + 1, by omega, by go_num, fun j hj => ?_, hbr.out.trans (hb2.mono hbr.out.size)⟩
                  rcases Nat.lt_or_eq_of_le (Nat.le_of_lt_succ hj) with hj | rfl
                  · exact he.out j hj
                  · rw [Hs.out, Hr.out]; exact hE
                case measure => simp [intOf]; omega
              · have H := Lib.hid (firstOf_hit (f := matchS xs k) (l := sigs) (i := i) (by rw [sigs_len]; exact hlt) he.out (by rw [Hs.out, Hr.out]; exact hE))
                go_wp2
                go_ret
                exact ⟨by rw [HE.out, H.out, Hs.out, Hr.out]; rfl, HL.out.bel.trans ((hbr.out.trans (hb2.mono hbr.out.size)).mono HL.out.bel.size)⟩
            | mp4 =>
              obtain rfl := HR.out
              clear HR HF
              go_wp2_with fail
              refine (sigmp4_any _ _ _ xs _ _ HSr.out (by omega)).mono ?_
              rw [show outOf (mp4B xs) = r from Hr.out]
              rintro e w2 ⟨rfl, hb2⟩
              rcases Bool.eq_false_or_eq_true r.toList.isEmpty with hE | hE
              · go_wp2
                go_roundw
                case rel =>
                  refine ⟨i + 1, by omega, by go_num, fun j hj => ?_, hbr.out.trans (hb2.mono hbr.out.size)⟩
                  rcases Nat.lt_or_eq_of_le (Nat.le_of_lt_succ hj) with hj | rfl
                  · exact he.out j hj
                  · rw [Hs.out, Hr.out]; exact hE
                case measure => simp [intOf]; omega
              · have H := Lib.hid (firstOf_hit (f := matchS xs k) (l := sigs) (i := i) (by rw [sigs_len]; exact hlt) he.out (by rw [Hs.out, Hr.out]; exact hE))
                go_wp2
                go_ret
                exact ⟨by rw [HE.out, H.out, Hs.out, Hr.out]; rfl, HL.out.bel.trans ((hbr.out.trans (hb2.mono hbr.out.size)).mono HL.out.bel.size)⟩
            | text =>
              obtain rfl := HR.out
              clear HR HF
              go_wp2_with fail
              refine (text_any _ _ _ xs _ _ HSr.out (by omega)).mono ?_
              rw [show txt (hasBin (xs.drop k)) = r from Hr.out]
              rintro e w2 ⟨rfl, hb2⟩
              rcases Bool.eq_false_or_eq_true r.toList.isEmpty with hE | hE
              · go_wp2
                go_roundw
                case rel =>
                  refine ⟨i + 1, by omega, by go_num, fun j hj => ?_, hbr.out.trans (hb2.mono hbr.out.size)⟩
                  rcases Nat.lt_or_eq_of_le (Nat.le_of_lt_succ hj) with hj | rfl
                  · exact he.out j hj
                  · rw [Hs.out, Hr.out]; exact hE
                case measure => simp [intOf]; omega
              · have H := Lib.hid (firstOf_hit (f := matchS xs k) (l := sigs) (i := i) (by rw [sigs_len]; exact hlt) he.out (by rw [Hs.out, Hr.out]; exact hE))
                go_wp2
                go_ret
                exact ⟨by rw [HE.out, H.out, Hs.out, Hr.out]; rfl, HL.out.bel.trans ((hbr.out.trans (hb2.mono hbr.out.size)).mono HL.out.bel.size)⟩
          · obtain rfl : i = 51 := by omega
            have H := Lib.hid (firstOf_none (f := matchS xs k) (l := sigs) (by rw [sigs_len]; exact he.out))
            go_wp2
            go_ret
            exact ⟨by rw [HE.out, H.out]; rfl, HL.out.bel.trans (hbr.out.mono HL.out.bel.size)⟩
      · go_wp2_with fail
        refine (HSIG.out _).mono ?_
        rintro e w1 ⟨b, rfl, hL⟩
        have HL := Lib.hid hL
        clear hL
        go_wp2
        go_loopw [27] (fun v wr => ∃ i : Nat, i ≤ 51 ∧ v = .int .i64 i ∧ Hid (∀ j, j < i → (matchS xs k (sigs.getD j .text)).toList.isEmpty = true) ∧ Hid (Below w1.heap.size w1 wr)) (fun v _ => 51 - (intOf v).toNat)
        case atStart => exact ⟨0, Nat.zero_le _, rfl, fun i hi => absurd hi (by omega), Below.refl _ _⟩
        case round =>
          obtain ⟨i, hi, rfl, he, hbr⟩ := hrel
          by_cases hlt : i < 51
          · obtain ⟨v, hcv, hR⟩ := HL.out.at_ i hlt
            have hcell := (hbr.out.cell (p := ⟨b, i, none⟩) HL.out.lt).trans hcv
            have HR := Lib.hid (hR.below hbr.out)
            clear hcv hR
            have HSr := Lib.hid ((HS.out.below HL.out.bel).below hbr.out)
            obtain ⟨s, hs⟩ : ∃ s, sigs.getD i .text = s := ⟨_, rfl⟩
            have HF := Lib.hid (sigs_fit i hlt)
            rw [hs] at HR HF
            have Hs := Lib.hid hs
            clear hs
            generalize hr : matchS xs k s = r
            have Hr := Lib.hid hr
            clear hr
            cases s with
            | html p =>
              obtain ⟨b1, rfl, hp⟩ := HR.out
              have HP := Lib.hid hp
              have hf := of_decide_eq_true HF.out
              clear hp HR HF
              go_wp2_with fail
              refine (html_any _ _ _ b1 xs p _ _ HSr.out (by omega) (by omega) HP.out hf).mono ?_
              rw [show orNil (htmlB (xs.drop k) p) htmlOut = r from Hr.out]
              rintro e w2 ⟨rfl, hb2⟩
              rcases Bool.eq_false_or_eq_true r.toList.isEmpty with hE | hE
              · go_wp2
                go_roundw
                case rel =>
                  refine ⟨i + 1, by omega, by go_num, fun j hj => ?_, hbr.out.trans (hb2.mono hbr.out.size)⟩
                  rcases Nat.lt_or_eq_of_le (Nat.le_of_lt_succ hj) with hj | rfl
                  · exact he.out j hj
                  · rw [Hs.out, Hr.out]; exact hE
                case measure => simp [intOf]; omega
              · have H := Lib.hid (firstOf_hit (f := matchS xs k) (l := sigs) (i := i) (by rw [sigs_len]; exact hlt) he.out (by rw [Hs.out, Hr.out]; exact hE))
                go_wp2
                go_ret
                exact ⟨by rw [HE.out, H.out, Hs.out, Hr.out]; rfl, HL.out.bel.trans ((hbr.out.trans (hb2.mono hbr.out.size)).mono HL.out.bel.size)⟩
            | masked m p sk ct =>
              obtain ⟨b1, bm, bp, rfl, c0, c1, c2, c3, hM, hP⟩ := HR.out
              have hf := HF.out
              simp only [Sig.fits, Bool.and_eq_true, decide_eq_true_eq] at hf
              obtain ⟨⟨hf1, hf2⟩, hf3⟩ := hf
              have HF1 := Lib.hid hf1
              rw [hf1] at c0 hM
              have HM := Lib.hid hM
              have HP := Lib.hid hP
              clear hM hP HR HF hf1
              go_wp2_with fail
              refine (masked_any _ _ _ b1 bm bp xs m p _ sk ct _ p.length _ HSr.out (by omega) (by omega) rfl hf2 hf3 rfl c0 c1 c2 c3 HM.out HP.out).mono ?_
              rw [show orNil (maskB (if sk then xs.drop k else xs) m p) ct = r from Hr.out]
              rintro e w2 ⟨rfl, hb2⟩
              rcases Bool.eq_false_or_eq_true r.toList.isEmpty with hE | hE
              · go_wp2
                go_roundw
                case rel =>
                  refine ⟨i + 1, by omega, by go_num, fun j hj => ?_, hbr.out.trans (hb2.mono hbr.out.size)⟩
                  rcases Nat.lt_or_eq_of_le (Nat.le_of_lt_succ hj) with hj | rfl
                  · exact he.out j hj
                  · rw [Hs.out, Hr.out]; exact hE
                case measure => simp [intOf]; omega
              · have H := Lib.hid (firstOf_hit (f := matchS xs k) (l := sigs) (i := i) (by rw [sigs_len]; exact hlt) he.out (by rw [Hs.out, Hr.out]; exact hE))
                go_wp2
                go_ret
                exact ⟨by rw [HE.out, H.out, Hs.out, Hr.out]; rfl, HL.out.bel.trans ((hbr.out.trans (hb2.mono hbr.out.size)).mono HL.out.bel.size)⟩
            | fixd p ct =>
              obtain ⟨b1, bp, rfl, c0, c1, hP⟩ := HR.out
              have HP := Lib.hid hP
              clear hP HR HF
              go_wp2_with fail
              refine (exact_any _ _ _ b1 bp xs p ct _ _ HSr.out c0 c1 HP.out).mono ?_
              rw [show orNil (pre xs p) ct = r from Hr.out]
              rintro e w2 ⟨rfl, hb2⟩
              rcases Bool.eq_false_or_eq_true r.toList.isEmpty with hE | hE
              · go_wp2
                go_roundw
                case rel =>
                  refine ⟨i + 1, by omega, by go_num, fun j hj => ?_, hbr.out.trans (hb2.mono hbr.out.size)⟩
                  rcases Nat.lt_or_eq_of_le (Nat.le_of_lt_succ hj) with hj | rfl
                  · exact he.out j hj
                  · rw [Hs.out, Hr.out]; exact hE
                case measure => simp [intOf]; omega
              · have H := Lib.hid (firstOf_hit (f := matchS xs k) (l := sigs) (i := i) (by rw [sigs_len]; exact hlt) he.out (by rw [Hs.out, Hr.out]; exact hE))
                go_wp2
                go_ret
                exact ⟨by rw [HE.out, H.out, Hs.out, Hr.out]; rfl, HL.out.bel.trans ((hbr.out.trans (hb2.mono hbr.out.size)).mono HL.out.bel.size)⟩
            | mp4 =>
              obtain rfl := HR.out
              clear HR HF
              go_wp2_with fail
              refine (sigmp4_any _ _ _ xs _ _ HSr.out (by omega)).mono ?_
              rw [show outOf (mp4B xs) = r from Hr.out]
              rintro e w2 ⟨rfl, hb2⟩
              rcases Bool.eq_false_or_eq_true r.toList.isEmpty with hE | hE
              · go_wp2
                go_roundw
                case rel =>
                  refine ⟨i + 1, by omega, by go_num, fun j hj => ?_, hbr.out.trans (hb2.mono hbr.out.size)⟩
                  rcases Nat.lt_or_eq_of_le (Nat.le_of_lt_succ hj) with hj | rfl
                  · exact he.out j hj
                  · rw [Hs.out, Hr.out]; exact hE
                case measure => simp [intOf]; omega
              · have H := Lib.hid (firstOf_hit (f := matchS xs k) (l := sigs) (i := i) (by rw [sigs_len]; exact hlt) he.out (by rw [Hs.out, Hr.out]; exact hE))
                go_wp2
                go_ret
                exact ⟨by rw [HE.out, H.out, Hs.out, Hr.out]; rfl, HL.out.bel.trans ((hbr.out.trans (hb2.mono hbr.out.size)).mono HL.out.bel.size)⟩
            | text =>
              obtain rfl := HR.out
              clear HR HF
              go_wp2_with fail
              refine (text_any _ _ _ xs _ _ HSr.out (by omega)).mono ?_
              rw [show txt (hasBin (xs.drop k)) = r from Hr.out]
              rintro e w2 ⟨rfl, hb2⟩
              rcases Bool.eq_false_or_eq_true r.toList.isEmpty with hE | hE
              · go_wp2
                go_roundw
                case rel =>
                  refine ⟨i + 1, by omega, by go_num, fun j hj => ?_, hbr.out.trans (hb2.mono hbr.out.size)⟩
                  rcases Nat.lt_or_eq_of_le (Nat.le_of_lt_succ hj) with hj | rfl
                  · exact he.out j hj
                  · rw [Hs.out, Hr.out]; exact hE
                case measure => simp [intOf]; omega
              · have H := Lib.hid (firstOf_hit (f := matchS xs k) (l := sigs) (i := i) (by rw [sigs_len]; exact hlt) he.out (by rw [Hs.out, Hr.out]; exact hE))
                go_wp2
                go_ret
                exact ⟨by rw [HE.out, H.out, Hs.out, Hr.out]; rfl, HL.out.bel.trans ((hbr.out.trans (hb2.mono hbr.out.size)).mono HL.out.bel.size)⟩
          · obtain rfl : i = 51 := by omega
            have H := Lib.hid (firstOf_none (f := matchS xs k) (l := sigs) (by rw [sigs_len]; exact he.out))
            go_wp2
            go_ret
            exact ⟨by rw [HE.out, H.out]; rfl, HL.out.bel.trans (hbr.out.mono HL.out.bel.size)⟩
end Go.Proofs.Ytpjonekkiojelaa
