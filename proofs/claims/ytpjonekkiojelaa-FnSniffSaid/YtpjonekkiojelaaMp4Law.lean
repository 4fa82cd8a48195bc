/-
  The law on the signature of MP4 returns true. No condition.
-/
import Derived.Test.YtpjonekkiojelaaSig
namespace Go.Proofs.Ytpjonekkiojelaa
open Go.RowKit Go.PlainAid

theorem out_empty (b : Bool) : (outOf b).toList.isEmpty = !b := by
  cases b <;> rw [ByteArray.toList_eq] <;> rfl
theorem zzmp4_any (a : Option Addr) (len cap : Nat) (xs : List Int) (w : World) (h : SL w a len cap xs) (hl : len ≤ 2147483647) :
    Calls Try.prog 32 #[.slice a len cap] w fun e w' => e = .returned (.bool (mp4B xs)) ∧ Below w.heap.size w w' := by
  go_enter Try.func32, Try.ntmps32
  go_wp2_with (go_at_call 41; refine (sigmp4_any a len cap xs 0 _ h hl).mono ?_; rintro e w' ⟨rfl, hbel⟩)
  go_ret
  exact ⟨by refine congrArg (fun b => Ending.returned (.bool b)) ?_; show (!(outOf (mp4B xs)).toList.isEmpty) = _; rw [out_empty, Bool.not_not], hbel⟩
theorem implmp4_any (a : Option Addr) (len cap : Nat) (xs : List Int) (w : World) (h : SL w a len cap xs) (hl : len ≤ 2147483647) :
    Calls Try.prog 19 #[.slice a len cap] w fun e w' => e = .returned (.bool (mp4B xs)) ∧ Below w.heap.size w w' := by
  go_enter Try.func19, Try.ntmps19
  go_wp2_with (go_at_call 32; refine (zzmp4_any a len cap xs _ h hl).mono ?_; rintro e w' ⟨rfl, hbel⟩)
  go_ret
  exact ⟨rfl, hbel⟩

theorem kdN (w : World) (m : Nat) (C : Array Value) (n c : Nat) : (convert 22 22 (.slice (some ⟨w.heap.size, 0, none⟩) n c)).run Try.prog ((w.drewN m).alloc (.cells C 5)) = .ok (.slice (some ⟨w.heap.size, 0, none⟩) n c) ((w.drewN m).alloc (.cells C 5 (C.size, C.size + 1))) :=
  Lib.run_convert_bytes_const (P := Try.prog) (w.drewN m) 22 5 C n c Try.underlying22 Try.underlying5
def sample : List Int := [0, 0, 0, 12, 102, 116, 121, 112, 109, 112, 52, 50]
theorem sample_is : mp4B sample = true := by decide +kernel
theorem sample_at (w : World) (o : Nat × Nat) : SL (w.alloc (.cells #[.int .u8 0, .int .u8 0, .int .u8 0, .int .u8 12, .int .u8 102, .int .u8 116, .int .u8 121, .int .u8 112, .int .u8 109, .int .u8 112, .int .u8 52, .int .u8 50] 5 o)) (some ⟨w.heap.size, 0, none⟩) 12 12 sample :=
  SL.const w sample o 12 rfl (by omega) (by decide)

set_option maxHeartbeats 2000000 in
theorem law_mp4 (a : Option Addr) (len cap : Nat) (xs : List Int) (w : World) (h : SL w a len cap xs) :
    Calls Try.prog 7 #[.slice a len cap] w fun e w' => e = .returned (.bool true) ∧ Below w.heap.size w w' := by
  by_cases hbig : 2147483647 < len
  · go_enter Try.func7, Try.ntmps7
    go_wp2
    go_ret
    exact ⟨rfl, Below.refl _ _⟩
  have hl : len ≤ 2147483647 := by omega
  generalize hs : strB xs = S
  have HS := Lib.hid hs
  clear hs
  rcases S with _ | _
  · generalize hm : mp4B xs = M
    have HM := Lib.hid hm
    clear hm
    have kc := kdN
    go_enter Try.func7, Try.ntmps7
    go_wp2_with fail
    refine (strange_any a len cap xs _ h).mono ?_
    rw [HS.out]
    rintro e w1 ⟨rfl, hb1⟩
    have h1 := h.below hb1
    clear h
    go_wp2_with fail
    refine (implmp4_any a len cap xs _ h1 hl).mono ?_
    rw [HM.out]
    rintro e w2 ⟨rfl, hb2⟩
    have h2 := h1.below hb2
    clear h1
    go_wp2_with fail
    refine (specmp4_any a len cap xs _ h2 hl).mono ?_
    rw [HM.out]
    rintro e w3 ⟨rfl, n, rfl⟩
    clear h2
    go_wp2_with fail
    refine (implmp4_any _ 12 12 sample _ (sample_at (w2.drewN n) _) (by omega)).mono ?_
    rw [sample_is]
    rintro e w4 ⟨rfl, hb4⟩
    go_wp2
    go_ret
    have hb3 := below_drewN (hb1.trans (hb2.mono hb1.size)) n
    exact ⟨rfl, (hb3.alloc hb3.size _).trans (hb4.mono (by have := hb3.size; simp at this ⊢; omega))⟩
  · go_enter Try.func7, Try.ntmps7
    go_wp2_with fail
    refine (strange_any a len cap xs _ h).mono ?_
    rw [HS.out]
    rintro e w1 ⟨rfl, hb1⟩
    clear h
    go_wp2
    go_ret
    exact ⟨rfl, hb1⟩
end Go.Proofs.Ytpjonekkiojelaa
