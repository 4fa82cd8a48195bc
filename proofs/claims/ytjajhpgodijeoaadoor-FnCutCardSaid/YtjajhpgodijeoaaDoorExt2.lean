/-
  The search for a semicolon. No condition.
-/
import Derived.Test.YtjajhpgodijeoaaDoorExt
namespace Go.Proofs.YtjajhpgodijeoaaDoor
open Go.RowKit

theorem one_getD (xs : List Int) (k : Nat) (hk : k < xs.length) : (xs.drop k).take 1 = [xs.getD k 0] := by
  rw [List.drop_eq_getElem_cons hk, List.take_succ_cons, List.take_zero, List.getD, List.getElem?_eq_getElem hk, Option.getD_some]
theorem str_one (c : Int) (h0 : 0 ≤ c) (h1 : c ≤ 255) : ((strOfNums [c]).toList == (strOfNums [59]).toList) = (c == 59) := by
  rw [ByteArray.toList_eq, ByteArray.toList_eq, strOfNums_data, strOfNums_data]
  simp only [List.map_cons, List.map_nil]
  rw [Bool.eq_iff_iff]
  simp only [beq_iff_eq, List.cons.injEq, and_true]
  constructor
  · intro h
    have := congrArg UInt8.toNat h
    simp at this
    omega
  · rintro rfl; rfl

/-- Where the first semicolon stands; -1. -/
def idx (xs : List Int) (len : Nat) : Int := if bef xs < len then (bef xs : Int) else -1

set_option maxHeartbeats 1000000 in
theorem index_any (a sa : Option Addr) (len cap sc : Nat) (xs : List Int) (w : World) (h : SL w a len cap xs) (hs : SL w sa 1 sc [59]) (hl : len ≤ 2147483647) :
    Calls Tryd.prog 68 #[.slice a len cap, .slice sa 1 sc] w fun e w' => e = .returned (.int .i64 (idx xs len)) ∧ ∃ n, w' = w.drewN n := by
  have hb := bef_le xs
  rw [h.hlen] at hb
  have h3 := h.hmx
  unfold maxLen at h3
  have h31 := h.hle
  have hsv := Lib.hid hs.convN
  have hx := Lib.hid h
  clear h hs
  go_enter Tryd.func68, Tryd.ntmps68
  go_wp2
  go_loopw [5] (fun v wr => ∃ k : Nat, k ≤ bef xs ∧ v = .int .i64 k ∧ ∃ n, wr = w.drewN n) (fun v _ => len - (intOf v).toNat)
  case atStart => exact ⟨0, Nat.zero_le _, rfl, 0, rfl⟩
  case round =>
    obtain ⟨k, hk, rfl, n, rfl⟩ := hrel
    by_cases hlt : k < len
    · obtain ⟨a', hsl, hS⟩ := hx.out.subRun (k := k) (m := k + 1) (by omega) (by omega) rfl (by omega : ((k : Int) + 1) = ((k + 1 : Nat) : Int))
      rw [show k + 1 - k = 1 from by omega, one_getD xs k (by rw [hx.out.hlen]; exact hlt)] at hS
      rw [show k + 1 - k = 1 from by omega] at hsl
      have hcv := hS.convN
      have hsv' := hsv.out
      have hbd := hx.out.hbd k
      have ho := str_one (xs.getD k 0) hbd.1 hbd.2
      clear hbd hS
      by_cases hB : k < bef xs
      · have hne := bef_hit hB
        have hne' : (xs.getD k 0 == 59) = false := beq_eq_false_iff_ne.2 hne
        rw [hne'] at ho
        clear hne hne'
        generalize strOfNums [xs.getD k 0] = S at hcv ho
        generalize strOfNums [59] = T at hsv' ho
        clear hx
        go_wp2
        go_quiet (fail)
        go_wp2
        go_roundw
        case rel => exact ⟨k + 1, by omega, by go_num, _, rfl⟩
        case measure => simp [intOf]; omega
      · have hkb := Lib.hid (show bef xs = k by omega)
        have hif := Lib.hid (show idx xs len = (k : Int) by unfold idx; rw [hkb.out, if_pos hlt])
        have hne := bef_at (xs := xs) (by rw [hkb.out, hx.out.hlen]; exact hlt)
        rw [hkb.out] at hne
        have hne' : (xs.getD k 0 == 59) = true := beq_iff_eq.2 hne
        rw [hne'] at ho
        clear hne hne'
        generalize strOfNums [xs.getD k 0] = S at hcv ho
        generalize strOfNums [59] = T at hsv' ho
        clear hx hkb
        go_wp2
        go_quiet (fail)
        go_wp2
        go_ret
        exact ⟨by rw [hif.out]; rfl, _, World.drewN_drewN _ _ _⟩
    · obtain rfl : k = len := by omega
      have hif := Lib.hid (show idx xs k = -1 by unfold idx; rw [if_neg (by omega)])
      clear hx
      go_wp2
      go_ret
      exact ⟨by rw [hif.out]; rfl, _, rfl⟩

theorem cut_any (a sa : Option Addr) (len cap sc : Nat) (xs : List Int) (w : World) (h : SL w a len cap xs) (hs : SL w sa 1 sc [59]) (hl : len ≤ 2147483647) :
    Calls Tryd.prog 66 #[.slice a len cap, .slice sa 1 sc] w fun e w' => (∃ y f, e = .returned (.tuple #[.slice a (bef xs) cap, y, f])) ∧ ∃ n, w' = w.drewN n := by
  have hb := bef_le xs
  rw [h.hlen] at hb
  have h3 := h.hmx
  unfold maxLen at h3
  have h31 := h.hle
  rcases Nat.lt_or_ge (bef xs) len with hlt | hge
  · obtain ⟨a', hsl, hS⟩ := h.fromRun (k := bef xs + 1) (by omega) (by omega : ((bef xs : Int) + 1) = ((bef xs + 1 : Nat) : Int))
    have hi := Lib.hid (show idx xs len = (bef xs : Int) by unfold idx; rw [if_pos hlt])
    clear hS
    generalize bef xs = B at hb hlt hi hsl ⊢
    go_enter Tryd.func66, Tryd.ntmps66
    go_wp2_with fail
    refine (index_any a sa len cap sc xs _ h hs hl).mono ?_
    rw [hi.out]
    rintro e w' ⟨rfl, n, rfl⟩
    clear h hs
    go_wp2_with fail
    go_quiet (fail)
    go_wp2
    go_ret3
    exact ⟨⟨_, _, rfl⟩, _, World.drewN_drewN _ _ _⟩
  · have hB : bef xs = len := by omega
    have hi := Lib.hid (show idx xs len = -1 by unfold idx; rw [if_neg (by omega)])
    rw [hB]
    clear hB hge hb
    go_enter Tryd.func66, Tryd.ntmps66
    go_wp2_with fail
    refine (index_any a sa len cap sc xs _ h hs hl).mono ?_
    rw [hi.out]
    rintro e w' ⟨rfl, n, rfl⟩
    clear h hs
    go_wp2_with fail
    go_ret3
    exact ⟨⟨_, _, rfl⟩, _, rfl⟩

theorem rem_any (a : Option Addr) (len cap : Nat) (xs : List Int) (w : World) (h : SL w a len cap xs) (hl : len ≤ 2147483647) :
    Calls Tryd.prog 59 #[.slice a len cap] w fun e w' => e = .returned (.tuple #[.slice a (bef xs) cap, .nilIface]) ∧ Below w.heap.size w w' := by
  have kc := fun (w : World) (C : Array Value) (n c : Nat) => Lib.run_convert_bytes_const (P := Tryd.prog) w 22 5 C n c Tryd.underlying22 Tryd.underlying5
  have hs : SL (w.alloc (.cells #[.int .u8 59] 5 (1, 2))) (some ⟨w.heap.size, 0, none⟩) 1 1 [59] := SL.const w [59] _ 1 rfl (by omega) (by decide)
  have hx := h.alloc (.cells #[.int .u8 59] 5 (1, 2))
  go_enter Tryd.func59, Tryd.ntmps59
  go_wp2_with fail
  refine (cut_any a _ len cap 1 xs _ hx hs hl).mono ?_
  rintro e w' ⟨⟨y, f, rfl⟩, n, rfl⟩
  clear hx hs h
  go_wp2_with fail
  go_ret2
  exact ⟨rfl, below_drewN ((Below.refl _ _).alloc (Nat.le_refl _) _) n⟩

end Go.Proofs.YtjajhpgodijeoaaDoor
