/-
  The reference's signature of MP4. No condition.
-/
import Derived.Test.YtpjonekkiojelaaStr
namespace Go.Proofs.Ytpjonekkiojelaa
open Go.RowKit Go.PlainAid

def mp4S : ByteArray := ⟨#[109, 112, 52]⟩
/-- Does a brand at st begin with mp4? -/
def brandAt (xs : List Int) (st : Nat) : Bool := decide (8 ≤ st) && decide (st % 4 = 0) && decide (st ≠ 12) && begB (xs.drop st) mp4S
def brands (xs : List Int) (B : Nat) : Bool := (List.range B).any (brandAt xs)
def mp4B (xs : List Int) : Bool := decide (12 ≤ xs.length) && decide (12 ≤ bx xs) && decide (bx xs ≤ xs.length) && decide (bx xs % 4 = 0) && begB (xs.drop 4) ftypS && brands xs (bx xs).toNat
theorem brands_hit {xs : List Int} {B st : Nat} (h : st < B) (h8 : 8 ≤ st) (h4 : st % 4 = 0) (h12 : st ≠ 12) (hb : begB (xs.drop st) mp4S = true) : brands xs B = true := by
  refine List.any_eq_true.2 ⟨st, List.mem_range.2 h, ?_⟩
  unfold brandAt
  rw [decide_eq_true h8, decide_eq_true h4, decide_eq_true h12, hb]
  rfl
theorem brands_none {xs : List Int} {B : Nat} (h : ∀ st, st < B → 8 ≤ st → st % 4 = 0 → st ≠ 12 → begB (xs.drop st) mp4S = false) : brands xs B = false := by
  refine List.any_eq_false.2 fun st hst => ?_
  rw [List.mem_range] at hst
  unfold brandAt
  intro hc
  simp only [Bool.and_eq_true, decide_eq_true_eq] at hc
  rw [h st hst hc.1.1.1 hc.1.1.2 hc.1.2] at hc
  simp at hc
theorem mp4B_no {xs : List Int} (h : xs.length < 12 ∨ bx xs < 12 ∨ (xs.length : Int) < bx xs ∨ bx xs % 4 ≠ 0 ∨ begB (xs.drop 4) ftypS = false) : mp4B xs = false := by
  rw [Bool.eq_false_iff]
  intro hc
  unfold mp4B at hc
  simp only [Bool.and_eq_true, decide_eq_true_eq] at hc
  obtain ⟨⟨⟨⟨⟨h1, h2⟩, h3⟩, h4⟩, h5⟩, _⟩ := hc
  rcases h with h | h | h | h | h
  · omega
  · omega
  · omega
  · exact h h4
  · rw [h5] at h; cases h
theorem mp4B_yes {xs : List Int} (h1 : 12 ≤ xs.length) (h2 : 12 ≤ bx xs) (h3 : bx xs ≤ xs.length) (h4 : bx xs % 4 = 0) (h5 : begB (xs.drop 4) ftypS = true) : mp4B xs = brands xs (bx xs).toNat := by
  unfold mp4B
  rw [decide_eq_true h1, decide_eq_true h2, decide_eq_true h3, decide_eq_true h4, h5]
  rfl
theorem bx_bd {xs : List Int} (h : ∀ i, 0 ≤ xs.getD i 0 ∧ xs.getD i 0 ≤ 255) : 0 ≤ bx xs ∧ bx xs ≤ 4294967295 := by
  have h0 := h 0
  have h1 := h 1
  have h2 := h 2
  have h3 := h 3
  unfold bx
  omega

set_option maxHeartbeats 2000000 in
theorem specmp4_any (a : Option Addr) (len cap : Nat) (xs : List Int) (w : World) (h : SL w a len cap xs) (hl : len ≤ 2147483647) :
    Calls Try.prog 20 #[.slice a len cap] w fun e w' => e = .returned (.bool (mp4B xs)) ∧ ∃ n, w' = w.drewN n := by
  have h3 := h.hmx
  have h31 := h.hle
  unfold maxLen at h3
  have H1 := Lib.hid h.hlen
  by_cases h12 : len < 12
  · have H := Lib.hid (mp4B_no (xs := xs) (.inl (by rw [H1.out]; exact h12)))
    clear h
    go_enter Try.func20, Try.ntmps20
    go_wp2
    go_ret
    exact ⟨by rw [H.out]; rfl, 0, rfl⟩
  obtain ⟨hb0, hb1⟩ := bx_bd h.hbd
  obtain ⟨B, hB⟩ := Int.eq_ofNat_of_zero_le hb0
  have HB := Lib.hid hB
  have hB1 : B ≤ 4294967295 := by omega
  have HBOX : ∀ W, Hid (SL W a len cap xs → Calls Try.prog 31 #[.slice a len cap] W fun e w' => e = .returned (.int .i64 (B : Int)) ∧ ∃ n, w' = W.drewN n) := fun W hh => by
    have := box_any a len cap xs W hh (by omega)
    rwa [HB.out] at this
  clear hb0 hb1 hB
  have HBOX := Lib.hid HBOX
  rename_i hx
  clear hx
  by_cases hB12 : B < 12
  · have H := Lib.hid (mp4B_no (xs := xs) (.inr (.inl (by rw [HB.out]; omega))))
    go_enter Try.func20, Try.ntmps20
    go_wp2_with fail
    refine ((HBOX.out _).out h).mono ?_
    rintro e w' ⟨rfl, n, rfl⟩
    clear h
    go_wp2
    go_ret
    exact ⟨by rw [H.out]; rfl, _, rfl⟩
  by_cases hBl : len < B
  · have H := Lib.hid (mp4B_no (xs := xs) (.inr (.inr (.inl (by rw [HB.out, H1.out]; omega)))))
    go_enter Try.func20, Try.ntmps20
    go_wp2_with fail
    refine ((HBOX.out _).out h).mono ?_
    rintro e w' ⟨rfl, n, rfl⟩
    go_wp2_with fail
    refine ((HBOX.out _).out (h.drewN n)).mono ?_
    rintro e w' ⟨rfl, m, rfl⟩
    clear h
    go_wp2
    go_ret
    exact ⟨by rw [H.out]; rfl, _, rfl⟩
  by_cases hB4 : B % 4 = 0
  · obtain ⟨a', hsl, hS4⟩ := h.fromRun (k := 4) (by omega) (lo := 4) rfl
    have HS4 := Lib.hid hS4
    clear hS4
    have hm : ((B : Int) % 4 == 0) = true := beq_iff_eq.2 (by omega)
    have hm2 : ((B : Int) % 4 != 0) = false := by rw [bne, hm]; rfl
    generalize hf : begB (xs.drop 4) ftypS = F
    have HF := Lib.hid hf
    clear hf
    rcases F with _ | _
    · have H := Lib.hid (mp4B_no (xs := xs) (.inr (.inr (.inr (.inr HF.out)))))
      go_enter Try.func20, Try.ntmps20
      go_wp2_with fail
      refine ((HBOX.out _).out h).mono ?_
      rintro e w' ⟨rfl, n, rfl⟩
      go_wp2_with fail
      refine ((HBOX.out _).out (h.drewN _)).mono ?_
      rintro e w' ⟨rfl, m, rfl⟩
      go_wp2_with fail
      refine ((HBOX.out _).out (h.drewN _)).mono ?_
      rintro e w' ⟨rfl, m', rfl⟩
      go_wp2_with fail
      refine (begins_any a' (len - 4) (cap - 4) _ ftypS _ (HS4.out.drewN _) (by decide)).mono ?_
      rw [HF.out]
      rintro e w' ⟨rfl, m2, rfl⟩
      clear h
      go_wp2
      go_ret
      exact ⟨by rw [H.out]; rfl, _, rfl⟩
    · have H := Lib.hid (mp4B_yes (xs := xs) (by rw [H1.out]; omega) (by rw [HB.out]; omega) (by rw [HB.out, H1.out]; omega) (by rw [HB.out]; omega) HF.out)
      rw [HB.out, Int.toNat_natCast] at H
      go_enter Try.func20, Try.ntmps20
      go_wp2_with fail
      refine ((HBOX.out _).out h).mono ?_
      rintro e w' ⟨rfl, n, rfl⟩
      go_wp2_with fail
      refine ((HBOX.out _).out (h.drewN _)).mono ?_
      rintro e w' ⟨rfl, m, rfl⟩
      go_wp2_with fail
      refine ((HBOX.out _).out (h.drewN _)).mono ?_
      rintro e w' ⟨rfl, m', rfl⟩
      go_wp2_with fail
      refine (begins_any a' (len - 4) (cap - 4) _ ftypS _ (HS4.out.drewN _) (by decide)).mono ?_
      rw [HF.out]
      rintro e w' ⟨rfl, m2, rfl⟩
      have HH := Lib.hid h
      clear h
      go_wp2
      generalize n + m + m' + m2 = N
      go_loopw [3] (fun v wr => ∃ st : Nat, 8 ≤ st ∧ st % 4 = 0 ∧ st ≤ B ∧ v = .int .i64 st ∧ Hid (∀ s, s < st → 8 ≤ s → s % 4 = 0 → s ≠ 12 → begB (xs.drop s) mp4S = false) ∧ ∃ n, wr = w.drewN n) (fun v _ => B - (intOf v).toNat)
      case atStart => exact ⟨8, Nat.le_refl _, rfl, by omega, rfl, fun s h8 h8' => absurd h8 (by omega), N, rfl⟩
      case round =>
        obtain ⟨st, h8, hst4, hstB, rfl, he, n1, rfl⟩ := hrel
        have hlB : B ≤ len := by omega
        clear hm hm2 hsl HS4
        by_cases hlt : st < B
        · obtain ⟨a2, hsl2, hS2⟩ := HH.out.fromRun (k := st) (by omega) (lo := (st : Int)) rfl
          have HS2 := Lib.hid hS2
          clear hS2
          by_cases h12' : st = 12
          · subst h12'
            have q12 : ((12 : Nat) : Int) = 12 := rfl
            go_wp2_with fail
            refine ((HBOX.out _).out (HH.out.drewN _)).mono ?_
            rintro e w' ⟨rfl, n2, rfl⟩
            go_wp2
            go_roundw
            case rel => exact ⟨16, by omega, by omega, by omega, by go_num, fun s hs h8s h4s h12s => he.out s (by omega) h8s h4s h12s, _, rfl⟩
            case measure => simp [intOf]; omega
          · have q12 : ((st : Int) == 12) = false := beq_eq_false_iff_ne.2 (by omega)
            have q12' : ((st : Int) != 12) = true := by rw [bne, q12]; rfl
            generalize hg : begB (xs.drop st) mp4S = G
            have HG := Lib.hid hg
            clear hg
            rcases G with _ | _
            · go_wp2_with fail
              refine ((HBOX.out _).out (HH.out.drewN _)).mono ?_
              rintro e w' ⟨rfl, n2, rfl⟩
              go_wp2_with fail
              refine (begins_any a2 (len - st) (cap - st) _ mp4S _ (HS2.out.drewN _) (by decide)).mono ?_
              rw [HG.out]
              rintro e w' ⟨rfl, n3, rfl⟩
              go_wp2
              go_roundw
              case rel =>
                refine ⟨st + 4, by omega, by omega, by omega, by go_num, fun s hs h8s h4s h12s => ?_, _, rfl⟩
                rcases Nat.lt_or_ge s st with h | h
                · exact he.out s h h8s h4s h12s
                · obtain rfl : s = st := by omega
                  exact HG.out
              case measure => simp [intOf]; omega
            · have HH2 := Lib.hid (brands_hit hlt h8 hst4 h12' HG.out)
              go_wp2_with fail
              refine ((HBOX.out _).out (HH.out.drewN _)).mono ?_
              rintro e w' ⟨rfl, n2, rfl⟩
              go_wp2_with fail
              refine (begins_any a2 (len - st) (cap - st) _ mp4S _ (HS2.out.drewN _) (by decide)).mono ?_
              rw [HG.out]
              rintro e w' ⟨rfl, n3, rfl⟩
              go_wp2
              go_ret
              exact ⟨by rw [H.out, HH2.out]; rfl, _, rfl⟩
        · obtain rfl : st = B := by omega
          have HH2 := Lib.hid (brands_none he.out)
          go_wp2_with fail
          refine ((HBOX.out _).out (HH.out.drewN _)).mono ?_
          rintro e w' ⟨rfl, n2, rfl⟩
          go_wp2
          go_ret
          exact ⟨by rw [H.out, HH2.out]; rfl, _, rfl⟩
  · have H := Lib.hid (mp4B_no (xs := xs) (.inr (.inr (.inr (.inl (by rw [HB.out]; omega))))))
    have hm : ((B : Int) % 4 == 0) = false := beq_eq_false_iff_ne.2 (by omega)
    have hm2 : ((B : Int) % 4 != 0) = true := by rw [bne, hm]; rfl
    go_enter Try.func20, Try.ntmps20
    go_wp2_with fail
    refine ((HBOX.out _).out h).mono ?_
    rintro e w' ⟨rfl, n, rfl⟩
    go_wp2_with fail
    refine ((HBOX.out _).out (h.drewN _)).mono ?_
    rintro e w' ⟨rfl, m, rfl⟩
    go_wp2_with fail
    refine ((HBOX.out _).out (h.drewN _)).mono ?_
    rintro e w' ⟨rfl, m', rfl⟩
    clear h
    go_wp2
    go_ret
    exact ⟨by rw [H.out]; rfl, _, rfl⟩
end Go.Proofs.Ytpjonekkiojelaa
