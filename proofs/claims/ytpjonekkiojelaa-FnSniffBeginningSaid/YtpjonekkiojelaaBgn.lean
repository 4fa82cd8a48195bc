/-
  The law on the first 512 bytes returns true. No condition.
-/
import Derived.Test.YtpjonekkiojelaaSnf
namespace Go.Proofs.Ytpjonekkiojelaa
open Go.RowKit Go.PlainAid

theorem fin3 {w w1 w2 w3 : World} (h1 : Below w.drew.heap.size w.drew w1) (h2 : Below w1.heap.size w1 w2) (h3 : Below w2.heap.size w2 w3) : Below w.heap.size w w3 := by
  have k1 : Below w.heap.size w w1 := ((Below.refl _ _).drew).trans h1
  have k2 := k1.trans (h2.mono k1.size)
  exact k2.trans (h3.mono k2.size)

set_option maxHeartbeats 8000000 in
theorem law_begin (a : Option Addr) (len cap : Nat) (xs : List Int) (w : World) (h : SL w a len cap xs) :
    Calls Try.prog 9 #[.slice a len cap] w fun e w' => e = .returned (.bool true) ∧ Below w.heap.size w w' := by
  by_cases hbig : 2147483647 < len
  · go_enter Try.func9, Try.ntmps9
    go_wp2
    go_ret
    exact ⟨rfl, Below.refl _ _⟩
  have hl : len ≤ 2147483647 := by omega
  have hn : ∀ w, SL w none 0 0 [] := fun w => ⟨rfl, Nat.le_refl _, Nat.zero_le _, fun _ => rfl, by intro i; simp, fun h => absurd h (by omega)⟩
  have hmx := h.hmx
  have hle := h.hle
  unfold maxLen at hmx
  have hdn : (det []).toList.isEmpty = false := by have := det_nil; rwa [List.take_nil] at this
  generalize hD : det (xs.take 512) = D
  have HD := Lib.hid hD
  clear hD
  by_cases hb : 512 < len
  · have HT := Lib.hid (h.take (n := 512) (by omega))
    have HH := Lib.hid h
    have he : Hid ((xs.take 512).take 512 = xs.take 512) := by show _ = _; rw [List.take_take]; rfl
    clear h
    go_enter Try.func9, Try.ntmps9
    go_wp2
    go_region_with (first | (go_at_call_of 22 (Value.slice a len cap); refine (sniff_any a len cap xs _ ?_ hl).mono ?_; exact HH.out.drew; rw [HD.out]; rintro e w1 ⟨rfl, hb1⟩) | (go_at_call_of 22 (Value.slice a 512 cap); refine (sniff_any a 512 cap (xs.take 512) _ ?_ (by omega)).mono ?_; exact HT.out.drew.below hb1; rw [he.out, HD.out]; rintro e w2 ⟨rfl, hb2⟩) | (go_at_call_of 22 (Value.slice none 0 0); refine (sniff_any none 0 0 [] _ (hn _) (by omega)).mono ?_; rw [List.take_nil]; rintro e w3 ⟨rfl, hb3⟩))
    all_goals
      go_wp2
      go_ret
      exact ⟨rfl, fin3 hb1 hb2 hb3⟩
  · have HH := Lib.hid h
    have hmin : min (len : Int) 512 = (len : Int) := by omega
    have tok1 : True := trivial
    clear h
    go_enter Try.func9, Try.ntmps9
    go_wp2
    go_region_with (first | (go_at_call_of 22 (Value.slice a len cap); have _t := tok1; refine (sniff_any a len cap xs _ ?_ hl).mono ?_; exact HH.out.drew; rw [HD.out]; clear _t tok1; rintro e w1 ⟨rfl, hb1⟩) | (go_at_call_of 22 (Value.slice a len cap); refine (sniff_any a len cap xs _ ?_ hl).mono ?_; exact HH.out.drew.below hb1; rw [HD.out]; rintro e w2 ⟨rfl, hb2⟩) | (go_at_call_of 22 (Value.slice none 0 0); refine (sniff_any none 0 0 [] _ (hn _) (by omega)).mono ?_; rw [List.take_nil]; rintro e w3 ⟨rfl, hb3⟩))
    all_goals
      go_wp2
      go_ret
      exact ⟨rfl, fin3 hb1 hb2 hb3⟩
end Go.Proofs.Ytpjonekkiojelaa
