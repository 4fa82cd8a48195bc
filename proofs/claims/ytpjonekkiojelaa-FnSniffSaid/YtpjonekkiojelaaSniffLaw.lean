/-
  The law on MIME types returns true. No condition.
-/
import Derived.Test.YtpjonekkiojelaaLaw
import Derived.Test.YtpjonekkiojelaaSnf
namespace Go.Proofs.Ytpjonekkiojelaa
open Go.RowKit Go.PlainAid

theorem begB_mono {xs : List Int} {n : Nat} {P : ByteArray} (h : begB (xs.take n) P = true) : begB xs P = true := by
  unfold begB at h ⊢
  rw [Bool.and_eq_true, decide_eq_true_eq, List.all_eq_true] at h ⊢
  obtain ⟨h1, h2⟩ := h
  rw [List.length_take] at h1
  refine ⟨by omega, fun i hi => ?_⟩
  have h3 := h2 i hi
  have hi' := List.mem_range.1 hi
  unfold begAt at h3 ⊢
  simp only [List.getD, List.getElem?_take, if_pos (show i < n by omega)] at h3 ⊢
  exact h3
theorem strB_odd {xs : List Int} (h : strB xs = false) : ∀ i, i < 8 → begB (xs.take 512) (oddP.getD i ⟨#[]⟩) = false := by
  intro i hi
  rw [Bool.eq_false_iff]
  intro hc
  have h1 := any_hit (l := oddP) (f := begB xs) (k := i) (p := oddP.getD i ⟨#[]⟩) hi rfl (begB_mono hc)
  rw [strB_hit h1] at h
  cases h
theorem strB_font {xs : List Int} (hx : By xs) (h : strB xs = false) : ¬ (36 ≤ (xs.take 512).length ∧ mEq 255 76 ((xs.take 512).getD 34 0) = true ∧ mEq 255 80 ((xs.take 512).getD 35 0) = true) := by
  rintro ⟨h1, h2, h3⟩
  have e : ∀ i, i < 512 → (xs.take 512).getD i 0 = xs.getD i 0 := fun i hi => by simp only [List.getD, List.getElem?_take, if_pos hi]
  rw [e 34 (by omega), mEq_all (hx.bd 34).1 (hx.bd 34).2, beq_iff_eq] at h2
  rw [e 35 (by omega), mEq_all (hx.bd 35).1 (hx.bd 35).2, beq_iff_eq] at h3
  rw [List.length_take] at h1
  have hl := lateB_yes (xs := xs) (by omega) h2 h3
  unfold lateB at hl
  unfold strB at h
  rw [Bool.or_assoc, hl, Bool.or_true] at h
  cases h
/-- How long what a signature tells is, at most. -/
def Sig.ctSize : Sig → Nat
  | .html _ => 24
  | .masked _ _ _ ct => ct.size
  | .fixd _ ct => ct.size
  | .mp4 => 9
  | .text => 25
theorem sigs_small : sigs.all (fun s => decide (s.ctSize ≤ 1000)) = true := by decide
theorem orNil_size (b : Bool) (s : ByteArray) : (orNil b s).size ≤ s.size := by
  cases b
  · exact Nat.zero_le _
  · exact Nat.le_refl _
theorem match_size (xs : List Int) (k : Nat) (s : Sig) : (matchS xs k s).size ≤ s.ctSize := by
  cases s with
  | html p => exact orNil_size _ htmlOut
  | masked m p sk ct => exact orNil_size _ ct
  | fixd p ct => exact orNil_size _ ct
  | mp4 => show (outOf (mp4B xs)).size ≤ 9; cases mp4B xs <;> decide
  | text => show (txt (hasBin (xs.drop k))).size ≤ 25; cases hasBin (xs.drop k) <;> decide
theorem first_size {f : Sig → ByteArray} : ∀ {l : List Sig}, (∀ s ∈ l, (f s).size ≤ 1000) → (firstOf f l).size ≤ 1000
  | [], _ => by show octet.size ≤ 1000; decide
  | s :: r, h => by
    unfold firstOf
    split
    · exact first_size (l := r) (fun x hx => h x (by simp [hx]))
    · exact h s (by simp)
theorem det_size (xs : List Int) : (det xs).size ≤ 1000 := by
  refine first_size fun s hs => ?_
  have := List.all_eq_true.1 sigs_small s hs
  exact Nat.le_trans (match_size xs _ s) (of_decide_eq_true this)

set_option maxHeartbeats 2000000 in
theorem law_sniff (a : Option Addr) (len cap : Nat) (xs : List Int) (w : World) (h : SL w a len cap xs) :
    Calls Try.prog 8 #[.slice a len cap] w fun e w' => e = .returned (.bool true) ∧ Below w.heap.size w w' := by
  by_cases hbig : 2147483647 < len
  · go_enter Try.func8, Try.ntmps8
    go_wp2
    go_ret
    exact ⟨rfl, Below.refl _ _⟩
  have hl : len ≤ 2147483647 := by omega
  generalize hs : strB xs = S
  rcases S with _ | _
  · have hy : By (xs.take 512) := fun n hn => h.by n (List.mem_of_mem_take hn)
    have HT := Lib.hid (same_type hy (strB_odd hs) (strB_font h.by hs))
    have hds := det_size (xs.take 512)
    have HS := Lib.hid hs
    clear hs hy
    obtain ⟨D, hD⟩ : ∃ D, det (xs.take 512) = D := ⟨_, rfl⟩
    rw [hD] at HT hds
    have HD := Lib.hid hD
    clear hD
    obtain ⟨E, hE⟩ : ∃ E, ess D = E := ⟨_, rfl⟩
    rw [hE] at HT
    have HE := Lib.hid hE
    clear hE
    go_enter Try.func8, Try.ntmps8
    go_wp2_with fail
    refine (strange_any a len cap xs _ h).mono ?_
    rw [HS.out]
    rintro e w1 ⟨rfl, hb1⟩
    have h1 := h.below hb1
    clear h
    go_wp2_with fail
    refine (sniff_any a len cap xs _ h1 hl).mono ?_
    rw [HD.out]
    rintro e w2 ⟨rfl, hb2⟩
    have h2 := h1.below hb2
    clear h1
    go_wp2_with fail
    refine (essence_any D _ hds).mono ?_
    rw [HE.out]
    rintro e w3 ⟨rfl, rfl⟩
    go_wp2_with fail
    refine (specsniff_any a len cap xs _ h2 hl).mono ?_
    rw [← HT.out]
    rintro e w3 ⟨rfl, hb3⟩
    clear h2
    go_wp2
    go_ret
    have k2 := hb1.trans (hb2.mono hb1.size)
    exact ⟨rfl, k2.trans (hb3.mono k2.size)⟩
  · have HS := Lib.hid hs
    clear hs
    go_enter Try.func8, Try.ntmps8
    go_wp2_with fail
    refine (strange_any a len cap xs _ h).mono ?_
    rw [HS.out]
    rintro e w1 ⟨rfl, hb1⟩
    clear h
    go_wp2
    go_ret
    exact ⟨rfl, hb1⟩
end Go.Proofs.Ytpjonekkiojelaa
