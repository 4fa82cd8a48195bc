/-
  The type that the code tells is that of the first signature that matches. No condition.
-/
import Derived.Test.YtpjonekkiojelaaHtm
import Derived.Test.YtpjonekkiojelaaMsk
import Derived.Test.YtpjonekkiojelaaWht
namespace Go.Proofs.Ytpjonekkiojelaa
open Go.RowKit Go.PlainAid

def matchS (xs : List Int) (k : Nat) : Sig → ByteArray
  | .html p => orNil (htmlB (xs.drop k) p) htmlOut
  | .masked m p skip ct => orNil (maskB (if skip then xs.drop k else xs) m p) ct
  | .fixd p ct => orNil (pre xs p) ct
  | .mp4 => outOf (mp4B xs)
  | .text => txt (hasBin (xs.drop k))
def octet : ByteArray := ⟨#[97, 112, 112, 108, 105, 99, 97, 116, 105, 111, 110, 47, 111, 99, 116, 101, 116, 45, 115, 116, 114, 101, 97, 109]⟩
/-- The type of the first signature that matches. -/
def firstOf (f : Sig → ByteArray) : List Sig → ByteArray
  | [] => octet
  | s :: r => if (f s).toList.isEmpty then firstOf f r else f s
theorem firstOf_hit {f : Sig → ByteArray} : ∀ {l : List Sig} {i : Nat}, i < l.length → (∀ j, j < i → (f (l.getD j .text)).toList.isEmpty = true) → (f (l.getD i .text)).toList.isEmpty = false → firstOf f l = f (l.getD i .text)
  | [], _, h, _, _ => absurd h (by simp)
  | s :: r, 0, _, _, h => by
    have h' : (f s).toList.isEmpty = false := h
    unfold firstOf
    rw [h']
    rfl
  | s :: r, i + 1, hi, hj, h => by
    have h0 : (f s).toList.isEmpty = true := hj 0 (by omega)
    unfold firstOf
    rw [h0]
    exact firstOf_hit (l := r) (i := i) (by simpa using hi) (fun j hj' => hj (j + 1) (by omega)) h
theorem firstOf_none {f : Sig → ByteArray} : ∀ {l : List Sig}, (∀ j, j < l.length → (f (l.getD j .text)).toList.isEmpty = true) → firstOf f l = octet
  | [], _ => rfl
  | s :: r, hj => by
    have h0 : (f s).toList.isEmpty = true := hj 0 (by simp)
    unfold firstOf
    rw [h0]
    exact firstOf_none (l := r) (fun j hj' => hj (j + 1) (by simpa using hj'))
def det (xs : List Int) : ByteArray := firstOf (matchS xs (wsn xs)) sigs

theorem sigs_len : sigs.length = 51 := by decide
/-- The sizes of what a signature holds. -/
def Sig.fits : Sig → Bool
  | .html p => decide (p.length ≤ 100)
  | .masked m p _ _ => decide (m.length = p.length) && decide (p.length ≤ 100) && decide (0 < p.length)
  | .fixd p _ => decide (p.length ≤ 100)
  | _ => true
theorem sigs_fit : ∀ k, k < 51 → (sigs.getD k .text).fits = true := by decide

/-- What is known behind the building of the list. -/
structure Listed (w w1 : World) (b : Nat) : Prop where
  bel : Below w.heap.size w w1
  lt : b < w1.heap.size
  at_ : ∀ k, k < 51 → ∃ v, w1.cell? ⟨b, k, none⟩ = some v ∧ Rep w1 v (sigs.getD k .text)
def SigPost (w : World) (e : Ending) (w1 : World) : Prop := ∃ b, e = .returned (.slice (some ⟨b, 0, none⟩) 51 51) ∧ Listed w w1 b

theorem Rep.below {w w' : World} {v : Value} {s : Sig} (h : Rep w v s) (hb : Below w.heap.size w w') : Rep w' v s := by
  have hc : ∀ {b o : Nat} {x : Value}, w.cell? ⟨b, o, none⟩ = some x → w'.cell? ⟨b, o, none⟩ = some x := fun {b o x} hx => by
    rw [hb.cell (p := ⟨b, o, none⟩) (World.block_lt_of_cell? w _ hx)]
    exact hx
  cases s with
  | html p => obtain ⟨b, h1, h2⟩ := h; exact ⟨b, h1, h2.below hb⟩
  | masked m p sk ct => obtain ⟨b, bm, bp, h1, h2, h3, h4, h5, h6, h7⟩ := h; exact ⟨b, bm, bp, h1, hc h2, hc h3, hc h4, hc h5, h6.below hb, h7.below hb⟩
  | fixd p ct => obtain ⟨b, bp, h1, h2, h3, h4⟩ := h; exact ⟨b, bp, h1, hc h2, hc h3, h4.below hb⟩
  | mp4 => exact h
  | text => exact h

/-- The signature s, asked of some bytes. -/
def MatchPost (w : World) (r : ByteArray) (e : Ending) (w' : World) : Prop := e = .returned (.string r) ∧ Below w.heap.size w w'

set_option maxHeartbeats 16000000 in
theorem detect_small (HSIG : Hid (∀ w, Calls Try.prog 43 #[] w (SigPost w))) (a : Option Addr) (len cap : Nat) (xs : List Int) (w : World) (h : SL w a len cap xs) (hl : len ≤ 512) :
    Calls Try.prog 33 #[.slice a len cap] w (MatchPost w (det xs)) := by
  obtain ⟨K, hK⟩ : ∃ K, wsn xs = K := ⟨_, rfl⟩
  have hKl : K ≤ len := by rw [← hK, ← h.hlen]; exact wsn_le xs
  have HK := Lib.hid hK
  have H1 := Lib.hid h.hlen
  have hmx := h.hmx
  have hle := h.hle
  unfold maxLen at hmx
  have HS := Lib.hid h
  clear h hK
  go_enter Try.func33, Try.ntmps33
  go_wp2
  go_loop [3] (fun v => ∃ k : Nat, k ≤ K ∧ v = .int .i64 k) (fun v => len - (intOf v).toNat)
  case atStart => exact ⟨0, Nat.zero_le _, rfl⟩
  case round =>
    obtain ⟨k, hk, rfl⟩ := hrel
    by_cases hlt : k < K
    · obtain ⟨b, off, rfl, hc⟩ := HS.out.hat (by omega)
      have hcell := hc k (by omega)
      have hw := Lib.hid (wsn_hit (xs := xs) (k := k) (by rw [HK.out]; exact hlt))
      generalize xs.getD k 0 = c at hcell hw
      clear hc
      go_wp2_with (go_at_call 42; refine (ws_any _ _).mono ?_; rw [hw.out]; rintro e w' ⟨rfl, rfl⟩)
      go_round
      case rel => exact ⟨k + 1, by omega, by go_num⟩
      case measure => simp [intOf]; omega
    · obtain rfl : k = K := by omega
      have hex : (k < len ∧ isWSb (xs.getD k 0) = false) ∨ k = len := by
        by_cases hkl : k < len
        · refine .inl ⟨hkl, ?_⟩
          have := wsn_at (xs := xs) (by rw [HK.out, H1.out]; exact hkl)
          rwa [HK.out] at this
        · exact .inr (by omega)
      have HE : Hid (det xs = firstOf (matchS xs k) sigs) := by show det xs = _; unfold det; rw [HK.out]
      clear hlt
      rcases hex with ⟨hkl, hw⟩ | hkl
      · obtain ⟨b, off, rfl, hc⟩ := HS.out.hat (by omega)
        have hcell := hc k (by omega)
        have hw' := Lib.hid hw
        clear hw
        generalize xs.getD k 0 = c at hcell hw'
        clear hc
        go_wp2_with (go_at_call 42; refine (ws_any _ _).mono ?_; rw [hw'.out]; rintro e w' ⟨rfl, rfl⟩)
        go_wp2_with fail
        refine (HSIG.out _).mono ?_
        rintro e w1 ⟨b, rfl, hL⟩
        have HL := Lib.hid hL
        clear hL
        go_wp2
        go_loopw [27] (fun v wr => ∃ i : Nat, i ≤ 51 ∧ v = .int .i64 i ∧ Hid (∀ j, j < i → (matchS xs k (sigs.getD j .text)).toList.isEmpty = true) ∧ Hid (Below w1.heap.size w1 wr)) (fun v _ => 51 - (intOf v).toNat)
        case atStart => exact ⟨0, Nat.zero_le _, rfl, fun i hi => absurd hi (by omega), Below.refl _ _⟩
        case round =>
          obtain ⟨i, hi, rfl, he, hbr⟩ := hrel
          by_cases hlt : i < 51
          · obtain ⟨v, hcv, hR⟩ := HL.out.at_ i hlt
            have hcell := (hbr.out.cell (p := ⟨b, i, none⟩) HL.out.lt).trans hcv
            have HR := Lib.hid (hR.below hbr.out)
            clear hcv hR
            have HSr := Lib.hid ((HS.out.below HL.out.bel).below hbr.out)
            obtain ⟨s, hs⟩ : ∃ s, sigs.getD i .text = s := ⟨_, rfl⟩
            have HF := Lib.hid (sigs_fit i hlt)
            rw [hs] at HR HF
            have Hs := Lib.hid hs
            clear hs
            generalize hr : matchS xs k s = r
            have Hr := Lib.hid hr
            clear hr
            cases s with
            | html p =>
              obtain ⟨b1, rfl, hp⟩ := HR.out
              have HP := Lib.hid hp
              have hf := of_decide_eq_true HF.out
              clear hp HR HF
              go_wp2_with fail
              refine (html_any _ _ _ b1 xs p _ _ HSr.out (by omega) (by omega) HP.out hf).mono ?_
              rw [show orNil (htmlB (xs.drop k) p) htmlOut = r from Hr.out]
              rintro e w2 ⟨rfl, hb2⟩
              rcases Bool.eq_false_or_eq_true r.toList.isEmpty with hE | hE
              · go_wp2
                go_roundw
                case rel =>
                  refine ⟨i + 1, by omega, by go_num, fun j hj => ?_, hbr.out.trans (hb2.mono hbr.out.size)⟩
                  rcases Nat.lt_or_eq_of_le (Nat.le_of_lt_succ hj) with hj | rfl
                  · exact he.out j hj
                  · rw [Hs.out, Hr.out]; exact hE
                case measure => simp [intOf]; omega
              · have H := Lib.hid (firstOf_hit (f := matchS xs k) (l := sigs) (i := i) (by rw [sigs_len]; exact hlt) he.out (by rw [Hs.out, Hr.out]; exact hE))
                go_wp2
                go_ret
                exact ⟨by rw [HE.out, H.out, Hs.out, Hr.out]; rfl, HL.out.bel.trans ((hbr.out.trans (hb2.mono hbr.out.size)).mono HL.out.bel.size)⟩
            | masked m p sk ct =>
              obtain ⟨b1, bm, bp, rfl, c0, c1, c2, c3, hM, hP⟩ := HR.out
              have hf := HF.out
              simp only [Sig.fits, Bool.and_eq_true, decide_eq_true_eq] at hf
              obtain ⟨⟨hf1, hf2⟩, hf3⟩ := hf
              have HF1 := Lib.hid hf1
              rw [hf1] at c0 hM
              have HM := Lib.hid hM
              have HP := Lib.hid hP
              clear hM hP HR HF hf1
              go_wp2_with fail
              refine (masked_any _ _ _ b1 bm bp xs m p _ sk ct _ p.length _ HSr.out (by omega) (by omega) rfl hf2 hf3 rfl c0 c1 c2 c3 HM.out HP.out).mono ?_
              rw [show orNil (maskB (if sk then xs.drop k else xs) m p) ct = r from Hr.out]
              rintro e w2 ⟨rfl, hb2⟩
              rcases Bool.eq_false_or_eq_true r.toList.isEmpty with hE | hE
              · go_wp2
                go_roundw
                case rel =>
                  refine ⟨i + 1, by omega, by go_num, fun j hj => ?_, hbr.out.trans (hb2.mono hbr.out.size)⟩
                  rcases Nat.lt_or_eq_of_le (Nat.le_of_lt_succ hj) with hj | rfl
                  · exact he.out j hj
                  · rw [Hs.out, Hr.out]; exact hE
                case measure => simp [intOf]; omega
              · have H := Lib.hid (firstOf_hit (f := matchS xs k) (l := sigs) (i := i) (by rw [sigs_len]; exact hlt) he.out (by rw [Hs.out, Hr.out]; exact hE))
                go_wp2
                go_ret
                exact ⟨by rw [HE.out, H.out, Hs.out, Hr.out]; rfl, HL.out.bel.trans ((hbr.out.trans (hb2.mono hbr.out.size)).mono HL.out.bel.size)⟩
            | fixd p ct =>
              obtain ⟨b1, bp, rfl, c0, c1, hP⟩ := HR.out
              have HP := Lib.hid hP
              clear hP HR HF
              go_wp2_with fail
              refine (exact_any _ _ _ b1 bp xs p ct _ _ HSr.out c0 c1 HP.out).mono ?_
              rw [show orNil (pre xs p) ct = r from Hr.out]
              rintro e w2 ⟨rfl, hb2⟩
              rcases Bool.eq_false_or_eq_true r.toList.isEmpty with hE | hE
              · go_wp2
                go_roundw
                case rel =>
                  refine ⟨i + 1, by omega, by go_num, fun j hj => ?_, hbr.out.trans (hb2.mono hbr.out.size)⟩
                  rcases Nat.lt_or_eq_of_le (Nat.le_of_lt_succ hj) with hj | rfl
                  · exact he.out j hj
                  · rw [Hs.out, Hr.out]; exact hE
                case measure => simp [intOf]; omega
              · have H := Lib.hid (firstOf_hit (f := matchS xs k) (l := sigs) (i := i) (by rw [sigs_len]; exact hlt) he.out (by rw [Hs.out, Hr.out]; exact hE))
                go_wp2
                go_ret
                exact ⟨by rw [HE.out, H.out, Hs.out, Hr.out]; rfl, HL.out.bel.trans ((hbr.out.trans (hb2.mono hbr.out.size)).mono HL.out.bel.size)⟩
            | mp4 =>
              obtain rfl := HR.out
              clear HR HF
              go_wp2_with fail
              refine (sigmp4_any _ _ _ xs _ _ HSr.out (by omega)).mono ?_
              rw [show outOf (mp4B xs) = r from Hr.out]
              rintro e w2 ⟨rfl, hb2⟩
              rcases Bool.eq_false_or_eq_true r.toList.isEmpty with hE | hE
              · go_wp2
                go_roundw
                case rel =>
                  refine ⟨i + 1, by omega, by go_num, fun j hj => ?_, hbr.out.trans (hb2.mono hbr.out.size)⟩
                  rcases Nat.lt_or_eq_of_le (Nat.le_of_lt_succ hj) with hj | rfl
                  · exact he.out j hj
                  · rw [Hs.out, Hr.out]; exact hE
                case measure => simp [intOf]; omega
              · have H := Lib.hid (firstOf_hit (f := matchS xs k) (l := sigs) (i := i) (by rw [sigs_len]; exact hlt) he.out (by rw [Hs.out, Hr.out]; exact hE))
                go_wp2
                go_ret
                exact ⟨by rw [HE.out, H.out, Hs.out, Hr.out]; rfl, HL.out.bel.trans ((hbr.out.trans (hb2.mono hbr.out.size)).mono HL.out.bel.size)⟩
            | text =>
              obtain rfl := HR.out
              clear HR HF
              go_wp2_with fail
              refine (text_any _ _ _ xs _ _ HSr.out (by omega)).mono ?_
              rw [show txt (hasBin (xs.drop k)) = r from Hr.out]
              rintro e w2 ⟨rfl, hb2⟩
              rcases Bool.eq_false_or_eq_true r.toList.isEmpty with hE | hE
              · go_wp2
                go_roundw
                case rel =>
                  refine ⟨i + 1, by omega, by go_num, fun j hj => ?_, hbr.out.trans (hb2.mono hbr.out.size)⟩
                  rcases Nat.lt_or_eq_of_le (Nat.le_of_lt_succ hj) with hj | rfl
                  · exact he.out j hj
                  · rw [Hs.out, Hr.out]; exact hE
                case measure => simp [intOf]; omega
              · have H := Lib.hid (firstOf_hit (f := matchS xs k) (l := sigs) (i := i) (by rw [sigs_len]; exact hlt) he.out (by rw [Hs.out, Hr.out]; exact hE))
                go_wp2
                go_ret
                exact ⟨by rw [HE.out, H.out, Hs.out, Hr.out]; rfl, HL.out.bel.trans ((hbr.out.trans (hb2.mono hbr.out.size)).mono HL.out.bel.size)⟩
          · obtain rfl : i = 51 := by omega
            have H := Lib.hid (firstOf_none (f := matchS xs k) (l := sigs) (by rw [sigs_len]; exact he.out))
            go_wp2
            go_ret
            exact ⟨by rw [HE.out, H.out]; rfl, HL.out.bel.trans (hbr.out.mono HL.out.bel.size)⟩
      · obtain rfl : k = len := hkl
        go_wp2_with fail
        refine (HSIG.out _).mono ?_
        rintro e w1 ⟨b, rfl, hL⟩
        have HL := Lib.hid hL
        clear hL
        go_wp2
        go_loopw [27] (fun v wr => ∃ i : Nat, i ≤ 51 ∧ v = .int .i64 i ∧ Hid (∀ j, j < i → (matchS xs k (sigs.getD j .text)).toList.isEmpty = true) ∧ Hid (Below w1.heap.size w1 wr)) (fun v _ => 51 - (intOf v).toNat)
        case atStart => exact ⟨0, Nat.zero_le _, rfl, fun i hi => absurd hi (by omega), Below.refl _ _⟩
        case round =>
          obtain ⟨i, hi, rfl, he, hbr⟩ := hrel
          by_cases hlt : i < 51
          · obtain ⟨v, hcv, hR⟩ := HL.out.at_ i hlt
            have hcell := (hbr.out.cell (p := ⟨b, i, none⟩) HL.out.lt).trans hcv
            have HR := Lib.hid (hR.below hbr.out)
            clear hcv hR
            have HSr := Lib.hid ((HS.out.below HL.out.bel).below hbr.out)
            obtain ⟨s, hs⟩ : ∃ s, sigs.getD i .text = s := ⟨_, rfl⟩
            have HF := Lib.hid (sigs_fit i hlt)
            rw [hs] at HR HF
            have Hs := Lib.hid hs
            clear hs
            generalize hr : matchS xs k s = r
            have Hr := Lib.hid hr
            clear hr
            cases s with
            | html p =>
              obtain ⟨b1, rfl, hp⟩ := HR.out
              have HP := Lib.hid hp
              have hf := of_decide_eq_true HF.out
              clear hp HR HF
              go_wp2_with fail
              refine (html_any _ _ _ b1 xs p _ _ HSr.out (by omega) (by omega) HP.out hf).mono ?_
              rw [show orNil (htmlB (xs.drop k) p) htmlOut = r from Hr.out]
              rintro e w2 ⟨rfl, hb2⟩
              rcases Bool.eq_false_or_eq_true r.toList.isEmpty with hE | hE
              · go_wp2
                go_roundw
                case rel =>
                  refine ⟨i + 1, by omega, by go_num, fun j hj => ?_, hbr.out.trans (hb2.mono hbr.out.size)⟩
                  rcases Nat.lt_or_eq_of_le (Nat.le_of_lt_succ hj) with hj | rfl
                  · exact he.out j hj
                  · rw [Hs.out, Hr.out]; exact hE
                case measure => simp [intOf]; omega
              · have H := Lib.hid (firstOf_hit (f := matchS xs k) (l := sigs) (i := i) (by rw [sigs_len]; exact hlt) he.out (by rw [Hs.out, Hr.out]; exact hE))
                go_wp2
                go_ret
                exact ⟨by rw [HE.out, H.out, Hs.out, Hr.out]; rfl, HL.out.bel.trans ((hbr.out.trans (hb2.mono hbr.out.size)).mono HL.out.bel.size)⟩
            | masked m p sk ct =>
              obtain ⟨b1, bm, bp, rfl, c0, c1, c2, c3, hM, hP⟩ := HR.out
              have hf := HF.out
              simp only [Sig.fits, Bool.and_eq_true, decide_eq_true_eq] at hf
              obtain ⟨⟨hf1, hf2⟩, hf3⟩ := hf
              have HF1 := Lib.hid hf1
              rw [hf1] at c0 hM
              have HM := Lib.hid hM
              have HP := Lib.hid hP
              clear hM hP HR HF hf1
              go_wp2_with fail
              refine (masked_any _ _ _ b1 bm bp xs m p _ sk ct _ p.length _ HSr.out (by omega) (by omega) rfl hf2 hf3 rfl c0 c1 c2 c3 HM.out HP.out).mono ?_
              rw [show orNil (maskB (if sk then xs.drop k else xs) m p) ct = r from Hr.out]
              rintro e w2 ⟨rfl, hb2⟩
              rcases Bool.eq_false_or_eq_true r.toList.isEmpty with hE | hE
              · go_wp2
                go_roundw
                case rel =>
                  refine ⟨i + 1, by omega, by go_num, fun j hj => ?_, hbr.out.trans (hb2.mono hbr.out.size)⟩
                  rcases Nat.lt_or_eq_of_le (Nat.le_of_lt_succ hj) with hj | rfl
                  · exact he.out j hj
                  · rw [Hs.out, Hr.out]; exact hE
                case measure => simp [intOf]; omega
              · have H := Lib.hid (firstOf_hit (f := matchS xs k) (l := sigs) (i := i) (by rw [sigs_len]; exact hlt) he.out (by rw [Hs.out, Hr.out]; exact hE))
                go_wp2
                go_ret
                exact ⟨by rw [HE.out, H.out, Hs.out, Hr.out]; rfl, HL.out.bel.trans ((hbr.out.trans (hb2.mono hbr.out.size)).mono HL.out.bel.size)⟩
            | fixd p ct =>
              obtain ⟨b1, bp, rfl, c0, c1, hP⟩ := HR.out
              have HP := Lib.hid hP
              clear hP HR HF
              go_wp2_with fail
              refine (exact_any _ _ _ b1 bp xs p ct _ _ HSr.out c0 c1 HP.out).mono ?_
              rw [show orNil (pre xs p) ct = r from Hr.out]
              rintro e w2 ⟨rfl, hb2⟩
              rcases Bool.eq_false_or_eq_true r.toList.isEmpty with hE | hE
              · go_wp2
                go_roundw
                case rel =>
                  refine ⟨i + 1, by omega, by go_num, fun j hj => ?_, hbr.out.trans (hb2.mono hbr.out.size)⟩
                  rcases Nat.lt_or_eq_of_le (Nat.le_of_lt_succ hj) with hj | rfl
                  · exact he.out j hj
                  · rw [Hs.out, Hr.out]; exact hE
                case measure => simp [intOf]; omega
              · have H := Lib.hid (firstOf_hit (f := matchS xs k) (l := sigs) (i := i) (by rw [sigs_len]; exact hlt) he.out (by rw [Hs.out, Hr.out]; exact hE))
                go_wp2
                go_ret
                exact ⟨by rw [HE.out, H.out, Hs.out, Hr.out]; rfl, HL.out.bel.trans ((hbr.out.trans (hb2.mono hbr.out.size)).mono HL.out.bel.size)⟩
            | mp4 =>
              obtain rfl := HR.out
              clear HR HF
              go_wp2_with fail
              refine (sigmp4_any _ _ _ xs _ _ HSr.out (by omega)).mono ?_
              rw [show outOf (mp4B xs) = r from Hr.out]
              rintro e w2 ⟨rfl, hb2⟩
              rcases Bool.eq_false_or_eq_true r.toList.isEmpty with hE | hE
              · go_wp2
                go_roundw
                case rel =>
                  refine ⟨i + 1, by omega, by go_num, fun j hj => ?_, hbr.out.trans (hb2.mono hbr.out.size)⟩
                  rcases Nat.lt_or_eq_of_le (Nat.le_of_lt_succ hj) with hj | rfl
                  · exact he.out j hj
                  · rw [Hs.out, Hr.out]; exact hE
                case measure => simp [intOf]; omega
              · have H := Lib.hid (firstOf_hit (f := matchS xs k) (l := sigs) (i := i) (by rw [sigs_len]; exact hlt) he.out (by rw [Hs.out, Hr.out]; exact hE))
                go_wp2
                go_ret
                exact ⟨by rw [HE.out, H.out, Hs.out, Hr.out]; rfl, HL.out.bel.trans ((hbr.out.trans (hb2.mono hbr.out.size)).mono HL.out.bel.size)⟩
            | text =>
              obtain rfl := HR.out
              clear HR HF
              go_wp2_with fail
              refine (text_any _ _ _ xs _ _ HSr.out (by omega)).mono ?_
              rw [show txt (hasBin (xs.drop k)) = r from Hr.out]
              rintro e w2 ⟨rfl, hb2⟩
              rcases Bool.eq_false_or_eq_true r.toList.isEmpty with hE | hE
              · go_wp2
                go_roundw
                case rel =>
                  refine ⟨i + 1, by omega, by go_num, fun j hj => ?_, hbr.out.trans (hb2.mono hbr.out.size)⟩
                  rcases Nat.lt_or_eq_of_le (Nat.le_of_lt_succ hj) with hj | rfl
                  · exact he.out j hj
                  · rw [Hs.out, Hr.out]; exact hE
                case measure => simp [intOf]; omega
              · have H := Lib.hid (firstOf_hit (f := matchS xs k) (l := sigs) (i := i) (by rw [sigs_len]; exact hlt) he.out (by rw [Hs.out, Hr.out]; exact hE))
                go_wp2
                go_ret
                exact ⟨by rw [HE.out, H.out, Hs.out, Hr.out]; rfl, HL.out.bel.trans ((hbr.out.trans (hb2.mono hbr.out.size)).mono HL.out.bel.size)⟩
          · obtain rfl : i = 51 := by omega
            have H := Lib.hid (firstOf_none (f := matchS xs k) (l := sigs) (by rw [sigs_len]; exact he.out))
            go_wp2
            go_ret
            exact ⟨by rw [HE.out, H.out]; rfl, HL.out.bel.trans (hbr.out.mono HL.out.bel.size)⟩
end Go.Proofs.Ytpjonekkiojelaa
