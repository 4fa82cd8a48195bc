/-
  The type that the reference tells. No condition.
-/
import Derived.Test.YtpjonekkiojelaaMku
import Derived.Test.YtpjonekkiojelaaText
namespace Go.Proofs.Ytpjonekkiojelaa
open Go.RowKit Go.PlainAid

def xmlP : ByteArray := ⟨#[60, 63, 120, 109, 108]⟩
def xmlB (z : List Int) : Bool := begB z xmlP && z.getD 1 0 == 63
def htmlN : ByteArray := ⟨#[116, 101, 120, 116, 47, 104, 116, 109, 108]⟩
def xmlN : ByteArray := ⟨#[116, 101, 120, 116, 47, 120, 109, 108]⟩
def plainN : ByteArray := ⟨#[116, 101, 120, 116, 47, 112, 108, 97, 105, 110]⟩
def octetN : ByteArray := ⟨#[97, 112, 112, 108, 105, 99, 97, 116, 105, 111, 110, 47, 111, 99, 116, 101, 116, 45, 115, 116, 114, 101, 97, 109]⟩
def patHit (ys : List Int) (q : ByteArray × ByteArray) : Bool := if q.1.toList.isEmpty then mp4B ys else begB ys q.1
def firstPat (ys : List Int) : List (ByteArray × ByteArray) → ByteArray → ByteArray
  | [], d => d
  | q :: r, d => if patHit ys q then q.2 else firstPat ys r d
def restN (ys : List Int) : ByteArray := if hasBin (ys.drop (wsn ys)) then octetN else plainN
def sniffed (ys : List Int) : ByteArray :=
  if markupB (ys.drop (wsn ys)) then htmlN else if xmlB (ys.drop (wsn ys)) then xmlN else firstPat ys patsL (restN ys)
theorem firstPat_hit {ys : List Int} {d : ByteArray} : ∀ {l : List (ByteArray × ByteArray)} {i : Nat} {q : ByteArray × ByteArray}, i < l.length → (∀ j, j < i → patHit ys (l.getD j (⟨#[]⟩, ⟨#[]⟩)) = false) → l.getD i (⟨#[]⟩, ⟨#[]⟩) = q → patHit ys q = true → firstPat ys l d = q.2
  | [], _, _, h, _, _, _ => absurd h (by simp)
  | s :: r, 0, _, _, _, e, h => by
    have e' : s = _ := e
    subst e'
    unfold firstPat
    rw [h]
    rfl
  | s :: r, i + 1, q, hi, hj, e, h => by
    have h0 : patHit ys s = false := hj 0 (by omega)
    unfold firstPat
    rw [h0]
    exact firstPat_hit (l := r) (i := i) (by simpa using hi) (fun j hj' => hj (j + 1) (by omega)) e h
theorem firstPat_none {ys : List Int} {d : ByteArray} : ∀ {l : List (ByteArray × ByteArray)}, (∀ j, j < l.length → patHit ys (l.getD j (⟨#[]⟩, ⟨#[]⟩)) = false) → firstPat ys l d = d
  | [], _ => rfl
  | s :: r, hj => by
    have h0 : patHit ys s = false := hj 0 (by simp)
    unfold firstPat
    rw [h0]
    exact firstPat_none (l := r) (fun j hj' => hj (j + 1) (by simpa using hj'))
theorem pats_size : ∀ k, k < 22 → (patsL.getD k (⟨#[]⟩, ⟨#[]⟩)).1.size ≤ 1000 := by decide
theorem begB_len {z : List Int} {p : ByteArray} (h : begB z p = true) : p.size ≤ z.length := by
  unfold begB at h
  rw [Bool.and_eq_true, decide_eq_true_eq] at h
  exact h.1

set_option maxHeartbeats 16000000 in
theorem specsniff_any (a : Option Addr) (len cap : Nat) (xs : List Int) (w : World) (h : SL w a len cap xs) (hl : len ≤ 2147483647) :
    Calls Try.prog 23 #[.slice a len cap] w fun e w' => e = .returned (.string (sniffed (xs.take 512))) ∧ Below w.heap.size w w' := by
  obtain ⟨L, hL1, hL2, hmin, ht⟩ : ∃ L : Nat, L ≤ len ∧ L ≤ 512 ∧ (if (512 : Int) < (len : Int) then (512 : Int) else (len : Int)) = (L : Int) ∧ xs.take 512 = xs.take L := by
    by_cases hb : 512 < len
    · exact ⟨512, by omega, Nat.le_refl _, by rw [if_pos (by omega)]; rfl, rfl⟩
    · refine ⟨len, Nat.le_refl _, by omega, by rw [if_neg (by omega)], ?_⟩
      rw [List.take_of_length_le (by rw [h.hlen]; omega), List.take_of_length_le (by rw [h.hlen]; omega)]
  rw [ht]
  clear ht
  have hS := h.take hL1
  have hle := h.hle
  have hmx := h.hmx
  unfold maxLen at hmx
  clear h
  generalize xs.take L = ys at hS ⊢
  obtain ⟨K, hK⟩ : ∃ K, wsn ys = K := ⟨_, rfl⟩
  have hKl : K ≤ L := by rw [← hK, ← hS.hlen]; exact wsn_le ys
  have HK := Lib.hid hK
  have H1 := Lib.hid hS.hlen
  have HS := Lib.hid hS
  clear hS hK
  go_enter Try.func23, Try.ntmps23
  go_wp2
  go_loop [3] (fun v => ∃ k : Nat, k ≤ K ∧ v = .int .i64 k) (fun v => L - (intOf v).toNat)
  case atStart => exact ⟨0, Nat.zero_le _, rfl⟩
  case round =>
    obtain ⟨k, hk, rfl⟩ := hrel
    by_cases hlt : k < K
    · obtain ⟨b, off, rfl, hc⟩ := HS.out.hat (by omega)
      have hcell := hc k (by omega)
      have hw := Lib.hid (wsn_hit (xs := ys) (k := k) (by rw [HK.out]; exact hlt))
      generalize ys.getD k 0 = c at hcell hw
      clear hc
      go_wp2_with (go_at_call 34; refine (white_any _ _).mono ?_; rw [hw.out]; rintro e w' ⟨rfl, rfl⟩)
      go_round
      case rel => exact ⟨k + 1, by omega, by go_num⟩
      case measure => simp [intOf]; omega
    · obtain rfl : k = K := by omega
      have hex : (k < L ∧ isWSb (ys.getD k 0) = false) ∨ L ≤ k := by
        by_cases hkl : k < L
        · refine .inl ⟨hkl, ?_⟩
          have := wsn_at (xs := ys) (by rw [HK.out, H1.out]; exact hkl)
          rwa [HK.out] at this
        · exact .inr (by omega)
      obtain ⟨a2, hsl, hS2⟩ := HS.out.fromRun hKl (lo := (k : Int)) rfl
      have HE : Hid (sniffed ys = if markupB (ys.drop k) then htmlN else if xmlB (ys.drop k) then xmlN else firstPat ys patsL (if hasBin (ys.drop k) then octetN else plainN)) := by
        show sniffed ys = _
        unfold sniffed restN
        rw [HK.out]
      have hLk : L - k ≤ 512 := by omega
      obtain ⟨l2, hl2⟩ : ∃ l2, L - k = l2 := ⟨_, rfl⟩
      obtain ⟨c2, hc2⟩ : ∃ c2, cap - k = c2 := ⟨_, rfl⟩
      have hl3 : l2 + k ≤ L := by omega
      have hl4 : L ≤ l2 + k := by omega
      rw [hl2, hc2] at hsl hS2
      rw [hl2] at hLk
      clear hl2 hc2
      generalize hz : ys.drop k = z at hS2 HE
      have HZ := Lib.hid hz
      have HS2 := Lib.hid hS2
      have HX : Hid (xmlB z = (begB z xmlP && z.getD 1 0 == 63)) := rfl
      clear hlt hz hS2
      generalize hM : markupB z = M at HE
      have HM := Lib.hid hM
      clear hM
      rcases hex with ⟨hkl, hw⟩ | hkl
      · obtain ⟨b, off, rfl, hc⟩ := HS.out.hat (by omega)
        have hcell := hc k (by omega)
        have hw' := Lib.hid hw
        clear hw
        generalize ys.getD k 0 = c at hcell hw'
        clear hc
        rcases M with _ | _
        · go_wp2_with (go_at_call 34; refine (white_any _ _).mono ?_; rw [hw'.out]; rintro e w' ⟨rfl, rfl⟩)
          refine (markup_any a2 l2 c2 z _ HS2.out (by omega)).mono ?_
          rw [HM.out]
          rintro e w1 ⟨rfl, hb1⟩
          generalize hX : begB z xmlP = X at HX
          have HXX := Lib.hid hX
          clear hX
          rcases X with _ | _
          · have HXF : Hid (xmlB z = false) := by show xmlB z = false; rw [HX.out]; rfl
            go_wp2_with fail
            refine (begins_any a2 l2 c2 z xmlP _ (HS2.out.below hb1) (by decide)).mono ?_
            rw [HXX.out]
            rintro e w1' ⟨rfl, n1, rfl⟩
            go_wp2_with fail
            refine (pats_any _).mono ?_
            rintro e w2 ⟨rfl, hw2⟩
            have HC2 : Hid (∀ q, q < 22 → w2.cell? ⟨w1.heap.size, q * 2, none⟩ = some (.string (patsL.getD q (⟨#[]⟩, ⟨#[]⟩)).1) ∧ w2.cell? ⟨w1.heap.size, q * 2 + 1, none⟩ = some (.string (patsL.getD q (⟨#[]⟩, ⟨#[]⟩)).2)) := by rw [hw2]; intro q hq; rw [Nat.mul_comm q 2]; exact pat_cells _ q hq
            have hbw := Lib.hid (show Below w.heap.size w w2 from by rw [hw2]; exact (below_drewN hb1 _).alloc hb1.size _)
            have hb2 := hbw
            have hlt2 : Hid (w1.heap.size < w2.heap.size) := by rw [hw2]; show w1.heap.size < ((w1.drewN n1).alloc patsO).heap.size; simp
            clear hw2
            go_wp2
            go_loopw [46] (fun v wr => ∃ i : Nat, i ≤ 22 ∧ v = .int .i64 i ∧ Hid (∀ j, j < i → patHit ys (patsL.getD j (⟨#[]⟩, ⟨#[]⟩)) = false) ∧ Hid (Below w2.heap.size w2 wr)) (fun v _ => 22 - (intOf v).toNat)
            case atStart => exact ⟨0, Nat.zero_le _, rfl, fun i hi => absurd hi (by omega), Below.refl _ _⟩
            case round =>
              obtain ⟨i, hi, rfl, he, hbr⟩ := hrel
              by_cases hlt : i < 22
              · obtain ⟨q0, q1⟩ := HC2.out i hlt
                have hq0 := (hbr.out.cell (p := ⟨w1.heap.size, i * 2, none⟩) hlt2.out).trans q0
                have hq1 := (hbr.out.cell (p := ⟨w1.heap.size, i * 2 + 1, none⟩) hlt2.out).trans q1
                have hps := pats_size i hlt
                clear q0 q1
                obtain ⟨⟨p1, p2⟩, hq⟩ : ∃ q, patsL.getD i (⟨#[]⟩, ⟨#[]⟩) = q := ⟨_, rfl⟩
                rw [hq] at hq0 hq1 hps
                have HQ := Lib.hid hq
                clear hq
                dsimp only at hq0 hq1 hps
                have HSr := Lib.hid ((HS.out.below hbw.out).below hbr.out)
                rcases hpe : p1.toList.isEmpty with _ | _
                · have HPH : Hid (patHit ys (p1, p2) = begB ys p1) := by show patHit ys (p1, p2) = _; unfold patHit; rw [hpe]; rfl
                  generalize hg : begB ys p1 = G at HPH
                  have HG := Lib.hid hg
                  clear hg
                  rcases G with _ | _
                  · go_wp2_with fail
                    refine (begins_any _ _ _ ys p1 _ (HSr.out.alloc _) hps).mono ?_
                    rw [HG.out]
                    rintro e w3 ⟨rfl, n3, rfl⟩
                    go_wp2
                    go_roundw
                    case rel =>
                      refine ⟨i + 1, by omega, by go_num, fun j hj => ?_, below_drewN (hbr.out.alloc hbr.out.size _) _⟩
                      rcases Nat.lt_or_eq_of_le (Nat.le_of_lt_succ hj) with hj | rfl
                      · exact he.out j hj
                      · rw [HQ.out]; exact HPH.out
                    case measure => simp [intOf]; omega
                  · have H := Lib.hid (firstPat_hit (ys := ys) (d := if hasBin z then octetN else plainN) (l := patsL) (show i < patsL.length from hlt) he.out HQ.out HPH.out)
                    go_wp2_with fail
                    refine (begins_any _ _ _ ys p1 _ (HSr.out.alloc _) hps).mono ?_
                    rw [HG.out]
                    rintro e w3 ⟨rfl, n3, rfl⟩
                    go_wp2
                    go_ret
                    exact ⟨by rw [HE.out, HXF.out, H.out]; rfl, hb2.out.trans ((below_drewN (hbr.out.alloc hbr.out.size _) n3).mono hb2.out.size)⟩
                · have HPH : Hid (patHit ys (p1, p2) = mp4B ys) := by show patHit ys (p1, p2) = _; unfold patHit; rw [hpe]; rfl
                  generalize hg : mp4B ys = G at HPH
                  have HG := Lib.hid hg
                  clear hg
                  rcases G with _ | _
                  · go_wp2_with fail
                    refine (specmp4_any _ _ _ ys _ (HSr.out.alloc _) (by omega)).mono ?_
                    rw [HG.out]
                    rintro e w3 ⟨rfl, n3, rfl⟩
                    go_wp2
                    go_roundw
                    case rel =>
                      refine ⟨i + 1, by omega, by go_num, fun j hj => ?_, below_drewN (hbr.out.alloc hbr.out.size _) _⟩
                      rcases Nat.lt_or_eq_of_le (Nat.le_of_lt_succ hj) with hj | rfl
                      · exact he.out j hj
                      · rw [HQ.out]; exact HPH.out
                    case measure => simp [intOf]; omega
                  · have H := Lib.hid (firstPat_hit (ys := ys) (d := if hasBin z then octetN else plainN) (l := patsL) (show i < patsL.length from hlt) he.out HQ.out HPH.out)
                    go_wp2_with fail
                    refine (specmp4_any _ _ _ ys _ (HSr.out.alloc _) (by omega)).mono ?_
                    rw [HG.out]
                    rintro e w3 ⟨rfl, n3, rfl⟩
                    go_wp2
                    go_ret
                    exact ⟨by rw [HE.out, HXF.out, H.out]; rfl, hb2.out.trans ((below_drewN (hbr.out.alloc hbr.out.size _) n3).mono hb2.out.size)⟩
              · obtain ⟨hi22⟩ : Hid (i = 22) ∧ True := ⟨by show i = 22; omega, trivial⟩
                rw [hi22.out] at he
                have H := Lib.hid (firstPat_none (ys := ys) (d := if hasBin z then octetN else plainN) (l := patsL) he.out)
                have HSz := Lib.hid ((HS2.out.below hbw.out).below hbr.out)
                clear he
                go_wp2
                go_loop [75] (fun v => ∃ i : Nat, i ≤ l2 ∧ v = .int .i64 i ∧ Hid (∀ j, j < i → isBin (z.getD j 0) = false)) (fun v => l2 - (intOf v).toNat)
                case atStart => exact ⟨0, Nat.zero_le _, rfl, fun i hi => absurd hi (by omega)⟩
                case round =>
                  obtain ⟨i, hi, rfl, he⟩ := hrel
                  by_cases hlt : i < l2
                  · obtain ⟨b3, o3, rfl, hc3⟩ := HSz.out.hat (by omega)
                    have hcell3 := hc3 i hlt
                    obtain ⟨h50, h51⟩ := HSz.out.hbd i
                    obtain ⟨c3, hc3v⟩ : ∃ c3, z.getD i 0 = c3 := ⟨_, rfl⟩
                    rw [hc3v] at hcell3 h50 h51
                    have HC3 := Lib.hid hc3v
                    clear hc3v hc3
                    rcases Bool.eq_false_or_eq_true (isBin c3) with hbn | hbn
                    · have HT := Lib.hid (hasBin_hit (xs := z) (k := i) (by rw [HSz.out.hlen]; exact hlt) HC3.out hbn)
                      have HBN := Lib.hid hbn
                      clear hbn
                      go_wp2_with (go_at_call 26; refine (specbin_any _ _ h50 h51).mono ?_; rw [HBN.out]; rintro e w' ⟨rfl, rfl⟩)
                      go_ret
                      exact ⟨by rw [HE.out, HXF.out, H.out, HT.out]; rfl, hb2.out.trans (hbr.out.mono hb2.out.size)⟩
                    · have HBN := Lib.hid hbn
                      clear hbn
                      go_wp2_with (go_at_call 26; refine (specbin_any _ _ h50 h51).mono ?_; rw [HBN.out]; rintro e w' ⟨rfl, rfl⟩)
                      go_round
                      case rel =>
                        refine ⟨i + 1, by omega, by go_num, fun j hj => ?_⟩
                        rcases Nat.lt_or_eq_of_le (Nat.le_of_lt_succ hj) with hj | rfl
                        · exact he.out j hj
                        · rw [HC3.out]; exact HBN.out
                      case measure => simp [intOf]; omega
                  · obtain ⟨hil⟩ : Hid (i = l2) ∧ True := ⟨by show i = l2; omega, trivial⟩
                    have HT := Lib.hid (hasBin_none (xs := z) (by rw [HSz.out.hlen, ← hil.out]; exact he.out))
                    go_wp2
                    go_ret
                    exact ⟨by rw [HE.out, HXF.out, H.out, HT.out]; rfl, hb2.out.trans (hbr.out.mono hb2.out.size)⟩
          · have h5 := begB_len HXX.out
            have h5' : 5 ≤ l2 := by have := HS2.out.hlen; have e5 : xmlP.size = 5 := rfl; omega
            have HZ1 : Hid (z.getD 1 0 = ys.getD (k + 1) 0) := by show z.getD 1 0 = _; rw [← HZ.out]; simp only [List.getD, List.getElem?_drop]
            obtain ⟨b4, o4, he4, hc4⟩ := (HS.out.below hb1).hat (by omega)
            have hcell4 := hc4 (k + 1) (by omega)
            clear hc4 h5
            generalize ys.getD (k + 1) 0 = c4 at hcell4 HZ1
            by_cases h63 : c4 = 63
            · have HXT : Hid (xmlB z = true) := by show xmlB z = true; rw [HX.out, HZ1.out, h63]; rfl
              subst h63
              simp only [Option.some.injEq, Addr.mk.injEq, and_true] at he4
              obtain ⟨rfl, rfl⟩ := he4
              go_wp2_with fail
              refine (begins_any a2 l2 c2 z xmlP _ (HS2.out.below hb1) (by decide)).mono ?_
              rw [HXX.out]
              rintro e w1' ⟨rfl, n1, rfl⟩
              go_wp2_with fail
              go_ret
              exact ⟨by rw [HE.out, HXT.out]; rfl, below_drewN hb1 _⟩
            · have q63 : (c4 == 63) = false := beq_eq_false_iff_ne.2 h63
              have HXF : Hid (xmlB z = false) := by show xmlB z = false; rw [HX.out, HZ1.out, q63]; rfl
              clear h63
              simp only [Option.some.injEq, Addr.mk.injEq, and_true] at he4
              obtain ⟨rfl, rfl⟩ := he4
              go_wp2_with fail
              refine (begins_any a2 l2 c2 z xmlP _ (HS2.out.below hb1) (by decide)).mono ?_
              rw [HXX.out]
              rintro e w1' ⟨rfl, n1, rfl⟩
              go_wp2_with fail
              refine (pats_any _).mono ?_
              rintro e w2 ⟨rfl, hw2⟩
              have HC2 : Hid (∀ q, q < 22 → w2.cell? ⟨w1.heap.size, q * 2, none⟩ = some (.string (patsL.getD q (⟨#[]⟩, ⟨#[]⟩)).1) ∧ w2.cell? ⟨w1.heap.size, q * 2 + 1, none⟩ = some (.string (patsL.getD q (⟨#[]⟩, ⟨#[]⟩)).2)) := by rw [hw2]; intro q hq; rw [Nat.mul_comm q 2]; exact pat_cells _ q hq
              have hbw := Lib.hid (show Below w.heap.size w w2 from by rw [hw2]; exact (below_drewN hb1 _).alloc hb1.size _)
              have hb2 := hbw
              have hlt2 : Hid (w1.heap.size < w2.heap.size) := by rw [hw2]; show w1.heap.size < ((w1.drewN n1).alloc patsO).heap.size; simp
              clear hw2
              go_wp2
              go_loopw [46] (fun v wr => ∃ i : Nat, i ≤ 22 ∧ v = .int .i64 i ∧ Hid (∀ j, j < i → patHit ys (patsL.getD j (⟨#[]⟩, ⟨#[]⟩)) = false) ∧ Hid (Below w2.heap.size w2 wr)) (fun v _ => 22 - (intOf v).toNat)
              case atStart => exact ⟨0, Nat.zero_le _, rfl, fun i hi => absurd hi (by omega), Below.refl _ _⟩
              case round =>
                obtain ⟨i, hi, rfl, he, hbr⟩ := hrel
                by_cases hlt : i < 22
                · obtain ⟨q0, q1⟩ := HC2.out i hlt
                  have hq0 := (hbr.out.cell (p := ⟨w1.heap.size, i * 2, none⟩) hlt2.out).trans q0
                  have hq1 := (hbr.out.cell (p := ⟨w1.heap.size, i * 2 + 1, none⟩) hlt2.out).trans q1
                  have hps := pats_size i hlt
                  clear q0 q1
                  obtain ⟨⟨p1, p2⟩, hq⟩ : ∃ q, patsL.getD i (⟨#[]⟩, ⟨#[]⟩) = q := ⟨_, rfl⟩
                  rw [hq] at hq0 hq1 hps
                  have HQ := Lib.hid hq
                  clear hq
                  dsimp only at hq0 hq1 hps
                  have HSr := Lib.hid ((HS.out.below hbw.out).below hbr.out)
                  rcases hpe : p1.toList.isEmpty with _ | _
                  · have HPH : Hid (patHit ys (p1, p2) = begB ys p1) := by show patHit ys (p1, p2) = _; unfold patHit; rw [hpe]; rfl
                    generalize hg : begB ys p1 = G at HPH
                    have HG := Lib.hid hg
                    clear hg
                    rcases G with _ | _
                    · go_wp2_with fail
                      refine (begins_any _ _ _ ys p1 _ (HSr.out.alloc _) hps).mono ?_
                      rw [HG.out]
                      rintro e w3 ⟨rfl, n3, rfl⟩
                      go_wp2
                      go_roundw
                      case rel =>
                        refine ⟨i + 1, by omega, by go_num, fun j hj => ?_, below_drewN (hbr.out.alloc hbr.out.size _) _⟩
                        rcases Nat.lt_or_eq_of_le (Nat.le_of_lt_succ hj) with hj | rfl
                        · exact he.out j hj
                        · rw [HQ.out]; exact HPH.out
                      case measure => simp [intOf]; omega
                    · have H := Lib.hid (firstPat_hit (ys := ys) (d := if hasBin z then octetN else plainN) (l := patsL) (show i < patsL.length from hlt) he.out HQ.out HPH.out)
                      go_wp2_with fail
                      refine (begins_any _ _ _ ys p1 _ (HSr.out.alloc _) hps).mono ?_
                      rw [HG.out]
                      rintro e w3 ⟨rfl, n3, rfl⟩
                      go_wp2
                      go_ret
                      exact ⟨by rw [HE.out, HXF.out, H.out]; rfl, hb2.out.trans ((below_drewN (hbr.out.alloc hbr.out.size _) n3).mono hb2.out.size)⟩
                  · have HPH : Hid (patHit ys (p1, p2) = mp4B ys) := by show patHit ys (p1, p2) = _; unfold patHit; rw [hpe]; rfl
                    generalize hg : mp4B ys = G at HPH
                    have HG := Lib.hid hg
                    clear hg
                    rcases G with _ | _
                    · go_wp2_with fail
                      refine (specmp4_any _ _ _ ys _ (HSr.out.alloc _) (by omega)).mono ?_
                      rw [HG.out]
                      rintro e w3 ⟨rfl, n3, rfl⟩
                      go_wp2
                      go_roundw
                      case rel =>
                        refine ⟨i + 1, by omega, by go_num, fun j hj => ?_, below_drewN (hbr.out.alloc hbr.out.size _) _⟩
                        rcases Nat.lt_or_eq_of_le (Nat.le_of_lt_succ hj) with hj | rfl
                        · exact he.out j hj
                        · rw [HQ.out]; exact HPH.out
                      case measure => simp [intOf]; omega
                    · have H := Lib.hid (firstPat_hit (ys := ys) (d := if hasBin z then octetN else plainN) (l := patsL) (show i < patsL.length from hlt) he.out HQ.out HPH.out)
                      go_wp2_with fail
                      refine (specmp4_any _ _ _ ys _ (HSr.out.alloc _) (by omega)).mono ?_
                      rw [HG.out]
                      rintro e w3 ⟨rfl, n3, rfl⟩
                      go_wp2
                      go_ret
                      exact ⟨by rw [HE.out, HXF.out, H.out]; rfl, hb2.out.trans ((below_drewN (hbr.out.alloc hbr.out.size _) n3).mono hb2.out.size)⟩
                · obtain ⟨hi22⟩ : Hid (i = 22) ∧ True := ⟨by show i = 22; omega, trivial⟩
                  rw [hi22.out] at he
                  have H := Lib.hid (firstPat_none (ys := ys) (d := if hasBin z then octetN else plainN) (l := patsL) he.out)
                  have HSz := Lib.hid ((HS2.out.below hbw.out).below hbr.out)
                  clear he
                  go_wp2
                  go_loop [75] (fun v => ∃ i : Nat, i ≤ l2 ∧ v = .int .i64 i ∧ Hid (∀ j, j < i → isBin (z.getD j 0) = false)) (fun v => l2 - (intOf v).toNat)
                  case atStart => exact ⟨0, Nat.zero_le _, rfl, fun i hi => absurd hi (by omega)⟩
                  case round =>
                    obtain ⟨i, hi, rfl, he⟩ := hrel
                    by_cases hlt : i < l2
                    · obtain ⟨b3, o3, rfl, hc3⟩ := HSz.out.hat (by omega)
                      have hcell3 := hc3 i hlt
                      obtain ⟨h50, h51⟩ := HSz.out.hbd i
                      obtain ⟨c3, hc3v⟩ : ∃ c3, z.getD i 0 = c3 := ⟨_, rfl⟩
                      rw [hc3v] at hcell3 h50 h51
                      have HC3 := Lib.hid hc3v
                      clear hc3v hc3
                      rcases Bool.eq_false_or_eq_true (isBin c3) with hbn | hbn
                      · have HT := Lib.hid (hasBin_hit (xs := z) (k := i) (by rw [HSz.out.hlen]; exact hlt) HC3.out hbn)
                        have HBN := Lib.hid hbn
                        clear hbn
                        go_wp2_with (go_at_call 26; refine (specbin_any _ _ h50 h51).mono ?_; rw [HBN.out]; rintro e w' ⟨rfl, rfl⟩)
                        go_ret
                        exact ⟨by rw [HE.out, HXF.out, H.out, HT.out]; rfl, hb2.out.trans (hbr.out.mono hb2.out.size)⟩
                      · have HBN := Lib.hid hbn
                        clear hbn
                        go_wp2_with (go_at_call 26; refine (specbin_any _ _ h50 h51).mono ?_; rw [HBN.out]; rintro e w' ⟨rfl, rfl⟩)
                        go_round
                        case rel =>
                          refine ⟨i + 1, by omega, by go_num, fun j hj => ?_⟩
                          rcases Nat.lt_or_eq_of_le (Nat.le_of_lt_succ hj) with hj | rfl
                          · exact he.out j hj
                          · rw [HC3.out]; exact HBN.out
                        case measure => simp [intOf]; omega
                    · obtain ⟨hil⟩ : Hid (i = l2) ∧ True := ⟨by show i = l2; omega, trivial⟩
                      have HT := Lib.hid (hasBin_none (xs := z) (by rw [HSz.out.hlen, ← hil.out]; exact he.out))
                      go_wp2
                      go_ret
                      exact ⟨by rw [HE.out, HXF.out, H.out, HT.out]; rfl, hb2.out.trans (hbr.out.mono hb2.out.size)⟩
        · go_wp2_with (go_at_call 34; refine (white_any _ _).mono ?_; rw [hw'.out]; rintro e w' ⟨rfl, rfl⟩)
          refine (markup_any a2 l2 c2 z _ HS2.out (by omega)).mono ?_
          rw [HM.out]
          rintro e w1 ⟨rfl, hb1⟩
          go_wp2_with fail
          go_ret
          exact ⟨by rw [HE.out]; rfl, hb1⟩
      · rcases M with _ | _
        · go_wp2_with fail
          refine (markup_any a2 l2 c2 z _ HS2.out (by omega)).mono ?_
          rw [HM.out]
          rintro e w1 ⟨rfl, hb1⟩
          generalize hX : begB z xmlP = X at HX
          have HXX := Lib.hid hX
          clear hX
          rcases X with _ | _
          · have HXF : Hid (xmlB z = false) := by show xmlB z = false; rw [HX.out]; rfl
            go_wp2_with fail
            refine (begins_any a2 l2 c2 z xmlP _ (HS2.out.below hb1) (by decide)).mono ?_
            rw [HXX.out]
            rintro e w1' ⟨rfl, n1, rfl⟩
            go_wp2_with fail
            refine (pats_any _).mono ?_
            rintro e w2 ⟨rfl, hw2⟩
            have HC2 : Hid (∀ q, q < 22 → w2.cell? ⟨w1.heap.size, q * 2, none⟩ = some (.string (patsL.getD q (⟨#[]⟩, ⟨#[]⟩)).1) ∧ w2.cell? ⟨w1.heap.size, q * 2 + 1, none⟩ = some (.string (patsL.getD q (⟨#[]⟩, ⟨#[]⟩)).2)) := by rw [hw2]; intro q hq; rw [Nat.mul_comm q 2]; exact pat_cells _ q hq
            have hbw := Lib.hid (show Below w.heap.size w w2 from by rw [hw2]; exact (below_drewN hb1 _).alloc hb1.size _)
            have hb2 := hbw
            have hlt2 : Hid (w1.heap.size < w2.heap.size) := by rw [hw2]; show w1.heap.size < ((w1.drewN n1).alloc patsO).heap.size; simp
            clear hw2
            go_wp2
            go_loopw [46] (fun v wr => ∃ i : Nat, i ≤ 22 ∧ v = .int .i64 i ∧ Hid (∀ j, j < i → patHit ys (patsL.getD j (⟨#[]⟩, ⟨#[]⟩)) = false) ∧ Hid (Below w2.heap.size w2 wr)) (fun v _ => 22 - (intOf v).toNat)
            case atStart => exact ⟨0, Nat.zero_le _, rfl, fun i hi => absurd hi (by omega), Below.refl _ _⟩
            case round =>
              obtain ⟨i, hi, rfl, he, hbr⟩ := hrel
              by_cases hlt : i < 22
              · obtain ⟨q0, q1⟩ := HC2.out i hlt
                have hq0 := (hbr.out.cell (p := ⟨w1.heap.size, i * 2, none⟩) hlt2.out).trans q0
                have hq1 := (hbr.out.cell (p := ⟨w1.heap.size, i * 2 + 1, none⟩) hlt2.out).trans q1
                have hps := pats_size i hlt
                clear q0 q1
                obtain ⟨⟨p1, p2⟩, hq⟩ : ∃ q, patsL.getD i (⟨#[]⟩, ⟨#[]⟩) = q := ⟨_, rfl⟩
                rw [hq] at hq0 hq1 hps
                have HQ := Lib.hid hq
                clear hq
                dsimp only at hq0 hq1 hps
                have HSr := Lib.hid ((HS.out.below hbw.out).below hbr.out)
                rcases hpe : p1.toList.isEmpty with _ | _
                · have HPH : Hid (patHit ys (p1, p2) = begB ys p1) := by show patHit ys (p1, p2) = _; unfold patHit; rw [hpe]; rfl
                  generalize hg : begB ys p1 = G at HPH
                  have HG := Lib.hid hg
                  clear hg
                  rcases G with _ | _
                  · go_wp2_with fail
                    refine (begins_any _ _ _ ys p1 _ (HSr.out.alloc _) hps).mono ?_
                    rw [HG.out]
                    rintro e w3 ⟨rfl, n3, rfl⟩
                    go_wp2
                    go_roundw
                    case rel =>
                      refine ⟨i + 1, by omega, by go_num, fun j hj => ?_, below_drewN (hbr.out.alloc hbr.out.size _) _⟩
                      rcases Nat.lt_or_eq_of_le (Nat.le_of_lt_succ hj) with hj | rfl
                      · exact he.out j hj
                      · rw [HQ.out]; exact HPH.out
                    case measure => simp [intOf]; omega
                  · have H := Lib.hid (firstPat_hit (ys := ys) (d := if hasBin z then octetN else plainN) (l := patsL) (show i < patsL.length from hlt) he.out HQ.out HPH.out)
                    go_wp2_with fail
                    refine (begins_any _ _ _ ys p1 _ (HSr.out.alloc _) hps).mono ?_
                    rw [HG.out]
                    rintro e w3 ⟨rfl, n3, rfl⟩
                    go_wp2
                    go_ret
                    exact ⟨by rw [HE.out, HXF.out, H.out]; rfl, hb2.out.trans ((below_drewN (hbr.out.alloc hbr.out.size _) n3).mono hb2.out.size)⟩
                · have HPH : Hid (patHit ys (p1, p2) = mp4B ys) := by show patHit ys (p1, p2) = _; unfold patHit; rw [hpe]; rfl
                  generalize hg : mp4B ys = G at HPH
                  have HG := Lib.hid hg
                  clear hg
                  rcases G with _ | _
                  · go_wp2_with fail
                    refine (specmp4_any _ _ _ ys _ (HSr.out.alloc _) (by omega)).mono ?_
                    rw [HG.out]
                    rintro e w3 ⟨rfl, n3, rfl⟩
                    go_wp2
                    go_roundw
                    case rel =>
                      refine ⟨i + 1, by omega, by go_num, fun j hj => ?_, below_drewN (hbr.out.alloc hbr.out.size _) _⟩
                      rcases Nat.lt_or_eq_of_le (Nat.le_of_lt_succ hj) with hj | rfl
                      · exact he.out j hj
                      · rw [HQ.out]; exact HPH.out
                    case measure => simp [intOf]; omega
                  · have H := Lib.hid (firstPat_hit (ys := ys) (d := if hasBin z then octetN else plainN) (l := patsL) (show i < patsL.length from hlt) he.out HQ.out HPH.out)
                    go_wp2_with fail
                    refine (specmp4_any _ _ _ ys _ (HSr.out.alloc _) (by omega)).mono ?_
                    rw [HG.out]
                    rintro e w3 ⟨rfl, n3, rfl⟩
                    go_wp2
                    go_ret
                    exact ⟨by rw [HE.out, HXF.out, H.out]; rfl, hb2.out.trans ((below_drewN (hbr.out.alloc hbr.out.size _) n3).mono hb2.out.size)⟩
              · obtain ⟨hi22⟩ : Hid (i = 22) ∧ True := ⟨by show i = 22; omega, trivial⟩
                rw [hi22.out] at he
                have H := Lib.hid (firstPat_none (ys := ys) (d := if hasBin z then octetN else plainN) (l := patsL) he.out)
                have HSz := Lib.hid ((HS2.out.below hbw.out).below hbr.out)
                clear he
                go_wp2
                go_loop [75] (fun v => ∃ i : Nat, i ≤ l2 ∧ v = .int .i64 i ∧ Hid (∀ j, j < i → isBin (z.getD j 0) = false)) (fun v => l2 - (intOf v).toNat)
                case atStart => exact ⟨0, Nat.zero_le _, rfl, fun i hi => absurd hi (by omega)⟩
                case round =>
                  obtain ⟨i, hi, rfl, he⟩ := hrel
                  by_cases hlt : i < l2
                  · obtain ⟨b3, o3, rfl, hc3⟩ := HSz.out.hat (by omega)
                    have hcell3 := hc3 i hlt
                    obtain ⟨h50, h51⟩ := HSz.out.hbd i
                    obtain ⟨c3, hc3v⟩ : ∃ c3, z.getD i 0 = c3 := ⟨_, rfl⟩
                    rw [hc3v] at hcell3 h50 h51
                    have HC3 := Lib.hid hc3v
                    clear hc3v hc3
                    rcases Bool.eq_false_or_eq_true (isBin c3) with hbn | hbn
                    · have HT := Lib.hid (hasBin_hit (xs := z) (k := i) (by rw [HSz.out.hlen]; exact hlt) HC3.out hbn)
                      have HBN := Lib.hid hbn
                      clear hbn
                      go_wp2_with (go_at_call 26; refine (specbin_any _ _ h50 h51).mono ?_; rw [HBN.out]; rintro e w' ⟨rfl, rfl⟩)
                      go_ret
                      exact ⟨by rw [HE.out, HXF.out, H.out, HT.out]; rfl, hb2.out.trans (hbr.out.mono hb2.out.size)⟩
                    · have HBN := Lib.hid hbn
                      clear hbn
                      go_wp2_with (go_at_call 26; refine (specbin_any _ _ h50 h51).mono ?_; rw [HBN.out]; rintro e w' ⟨rfl, rfl⟩)
                      go_round
                      case rel =>
                        refine ⟨i + 1, by omega, by go_num, fun j hj => ?_⟩
                        rcases Nat.lt_or_eq_of_le (Nat.le_of_lt_succ hj) with hj | rfl
                        · exact he.out j hj
                        · rw [HC3.out]; exact HBN.out
                      case measure => simp [intOf]; omega
                  · obtain ⟨hil⟩ : Hid (i = l2) ∧ True := ⟨by show i = l2; omega, trivial⟩
                    have HT := Lib.hid (hasBin_none (xs := z) (by rw [HSz.out.hlen, ← hil.out]; exact he.out))
                    go_wp2
                    go_ret
                    exact ⟨by rw [HE.out, HXF.out, H.out, HT.out]; rfl, hb2.out.trans (hbr.out.mono hb2.out.size)⟩
          · have h5 := begB_len HXX.out
            have h5' : 5 ≤ l2 := by have := HS2.out.hlen; have e5 : xmlP.size = 5 := rfl; omega
            have HZ1 : Hid (z.getD 1 0 = ys.getD (k + 1) 0) := by show z.getD 1 0 = _; rw [← HZ.out]; simp only [List.getD, List.getElem?_drop]
            obtain ⟨b4, o4, he4, hc4⟩ := (HS.out.below hb1).hat (by omega)
            have hcell4 := hc4 (k + 1) (by omega)
            clear hc4 h5
            generalize ys.getD (k + 1) 0 = c4 at hcell4 HZ1
            by_cases h63 : c4 = 63
            · have HXT : Hid (xmlB z = true) := by show xmlB z = true; rw [HX.out, HZ1.out, h63]; rfl
              subst h63
              exact absurd h5' (by omega)
            · have q63 : (c4 == 63) = false := beq_eq_false_iff_ne.2 h63
              have HXF : Hid (xmlB z = false) := by show xmlB z = false; rw [HX.out, HZ1.out, q63]; rfl
              clear h63
              exact absurd h5' (by omega)
        · go_wp2_with fail
          refine (markup_any a2 l2 c2 z _ HS2.out (by omega)).mono ?_
          rw [HM.out]
          rintro e w1 ⟨rfl, hb1⟩
          go_wp2_with fail
          go_ret
          exact ⟨by rw [HE.out]; rfl, hb1⟩
end Go.Proofs.Ytpjonekkiojelaa
