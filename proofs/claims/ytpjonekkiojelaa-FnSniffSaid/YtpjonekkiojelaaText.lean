/-
  The two functions that look for binary data bytes find the same. No condition.
-/
import Derived.Test.YtpjonekkiojelaaMem
import Derived.Outline
namespace Go.Proofs.Ytpjonekkiojelaa
open Go.RowKit

/-- What is left of a slice behind its first k elements. -/
theorem SL.dropRun {w : World} {a : Option Addr} {len cap : Nat} {xs : List Int} (h : SL w a len cap xs) {k : Nat} (hk : k ≤ len) :
    ∃ a', (∀ W : World, (Instr.slice 22 (.slice a len cap) (some (.int .i64 (k : Int))) none none).run Try.prog W = .ok (.slice a' (len - k) (cap - k)) W) ∧ SL w a' (len - k) (cap - k) (xs.drop k) := by
  obtain ⟨h1, h2, h3, h4, h5, h6⟩ := h
  have hs : (sizeOf (Try.prog.elem 22)).run Try.prog = fun W => .ok 1 W := by kernel_rfl
  have ht : Try.prog.underlying 22 = some (.slice (Try.prog.elem 22)) := by kernel_rfl
  refine ⟨if cap = k then a else a.map (·.add (k * 1)), fun W => ?_, by simp; omega, by omega, by omega, ?_, fun i => ?_, fun hp => ?_⟩
  · rw [run_slice_l W 22 a len cap ht .i64 k (by omega) (by omega), hs]
    simp only [Result.andThen, sliced, Int.toNat_natCast]
  · intro hn
    split at hn
    · omega
    · have : a = none := by cases a <;> simp at hn; rfl
      have := h4 this
      omega
  · have := h5 (k + i)
    simpa only [List.getD, List.getElem?_drop] using this
  · obtain ⟨b, off, rfl, hc⟩ := h6 (by omega)
    refine ⟨b, off + k, ?_, fun i hi => ?_⟩
    · rw [if_neg (by omega)]
      simp only [Option.map_some, Nat.mul_one, Addr.add_lit]
    · rw [Nat.add_assoc, hc (k + i) (by omega)]
      simp only [List.getD, List.getElem?_drop]

/-- A binary data byte. -/
def isBin (c : Int) : Bool := decide (c ≤ 8) || decide (c = 11) || (decide (14 ≤ c) && decide (c ≤ 26)) || (decide (28 ≤ c) && decide (c ≤ 31))
theorem isBin_cases (c : Int) : (isBin c = true ∧ (c ≤ 8 ∨ c = 11 ∨ (14 ≤ c ∧ c ≤ 26) ∨ (28 ≤ c ∧ c ≤ 31))) ∨ (isBin c = false ∧ 8 < c ∧ c ≠ 11 ∧ (c < 14 ∨ 26 < c) ∧ (c < 28 ∨ 31 < c)) := by
  have h : isBin c = true ↔ (c ≤ 8 ∨ c = 11 ∨ (14 ≤ c ∧ c ≤ 26) ∨ (28 ≤ c ∧ c ≤ 31)) := by unfold isBin; simp; omega
  by_cases hc : isBin c = true
  · exact .inl ⟨hc, h.1 hc⟩
  · have hn : ¬ (c ≤ 8 ∨ c = 11 ∨ (14 ≤ c ∧ c ≤ 26) ∨ (28 ≤ c ∧ c ≤ 31)) := fun h' => hc (h.2 h')
    exact .inr ⟨by simpa using hc, by omega, by omega, by omega, by omega⟩
def hasBin (xs : List Int) : Bool := xs.any isBin
theorem hasBin_hit {xs : List Int} {k : Nat} {c : Int} (hk : k < xs.length) (hc : xs.getD k 0 = c) (h : isBin c = true) : hasBin xs = true := by
  subst hc
  rw [List.getD, List.getElem?_eq_getElem hk, Option.getD_some] at h
  exact List.any_eq_true.2 ⟨_, List.getElem_mem hk, h⟩
theorem hasBin_none {xs : List Int} (h : ∀ i, i < xs.length → isBin (xs.getD i 0) = false) : hasBin xs = false := by
  unfold hasBin
  rw [List.any_eq_false]
  intro x hx
  obtain ⟨i, hi, rfl⟩ := List.mem_iff_getElem.1 hx
  have := h i hi
  rw [List.getD, List.getElem?_eq_getElem hi, Option.getD_some] at this
  simp [this]

theorem specbin_any (c : Int) (w : World) (h0 : 0 ≤ c) (h1 : c ≤ 255) : Calls Try.prog 26 #[.int .u8 c] w fun e w' => e = .returned (.bool (isBin c)) ∧ w = w' := by
  rcases isBin_cases c with ⟨hb, h⟩ | ⟨hb, h2, h3, h4, h5⟩
  · have H := Lib.hid hb
    clear hb
    rcases h with h | rfl | ⟨h, h'⟩ | ⟨h, h'⟩
    all_goals
      go_enter Try.func26, Try.ntmps26
      go_wp2
      go_ret
      exact ⟨by rw [H.out]; rfl, rfl⟩
  · have H := Lib.hid hb
    clear hb
    rcases h4 with h4 | h4
    · have h6 : ¬ (14 ≤ c) := by omega
      have h7 : ¬ (28 ≤ c) := by omega
      go_enter Try.func26, Try.ntmps26
      go_wp2
      go_ret
      exact ⟨by rw [H.out]; refine congrArg (fun b => Ending.returned (.bool b)) ?_; simp; omega, rfl⟩
    · rcases h5 with h5 | h5
      all_goals
        go_enter Try.func26, Try.ntmps26
        go_wp2
        go_ret
        exact ⟨by rw [H.out]; refine congrArg (fun b => Ending.returned (.bool b)) ?_; simp; omega, rfl⟩

theorem spectext_any (a : Option Addr) (len cap : Nat) (xs : List Int) (w : World) (h : SL w a len cap xs) :
    Calls Try.prog 13 #[.slice a len cap] w fun e w' => e = .returned (.bool (!hasBin xs)) ∧ w = w' := by
  obtain ⟨h1, h2, h3, h4, h5, h6⟩ := h
  unfold maxLen at h3
  have H1 := Lib.hid h1
  clear h1
  go_enter Try.func13, Try.ntmps13
  go_wp2
  go_loop [7] (fun v => ∃ k : Nat, k ≤ len ∧ v = .int .i64 k ∧ Hid (∀ i, i < k → isBin (xs.getD i 0) = false)) (fun v => len - (intOf v).toNat)
  case atStart => exact ⟨0, Nat.zero_le _, rfl, fun i hi => absurd hi (by omega)⟩
  case round =>
    obtain ⟨k, hk, rfl, he⟩ := hrel
    by_cases hlt : k < len
    · obtain ⟨b, off, rfl, hc⟩ := h6 (by omega)
      have hcell := hc k hlt
      have h5' := h5 k
      clear hc h6 h5
      have hcv : ∃ c, xs.getD k 0 = c := ⟨_, rfl⟩
      obtain ⟨c, hcv⟩ := hcv
      rw [hcv] at hcell h5'
      obtain ⟨h50, h51⟩ := h5'
      have hcv := Lib.hid hcv
      rename_i hcv'
      clear hcv'
      rcases Bool.eq_false_or_eq_true (isBin c) with hb | hb
      · have ht := Lib.hid (hasBin_hit (by rw [H1.out]; exact hlt) hcv.out hb)
        go_wp2_with (go_at_call 26; refine (specbin_any _ _ h50 h51).mono ?_; rintro e w' ⟨rfl, rfl⟩)
        go_ret
        exact ⟨by rw [ht.out]; rfl, rfl⟩
      · go_wp2_with (go_at_call 26; refine (specbin_any _ _ h50 h51).mono ?_; rintro e w' ⟨rfl, rfl⟩)
        go_round
        case rel =>
          refine ⟨k + 1, by omega, by go_num, fun i hi => ?_⟩
          rcases Nat.lt_or_eq_of_le (Nat.le_of_lt_succ hi) with hi | rfl
          · exact he.out i hi
          · rw [hcv.out]; exact hb
        case measure => simp [intOf]; omega
    · obtain rfl : k = len := by omega
      have ht := Lib.hid (hasBin_none (xs := xs) (by rw [H1.out]; exact he.out))
      go_wp2
      go_ret
      exact ⟨by rw [ht.out]; rfl, rfl⟩

/-- The MIME type of text; nothing. -/
def txtS : ByteArray := ⟨#[116, 101, 120, 116, 47, 112, 108, 97, 105, 110, 59, 32, 99, 104, 97, 114, 115, 101, 116, 61, 117, 116, 102, 45, 56]⟩
def txt (b : Bool) : ByteArray := if b then ⟨#[]⟩ else txtS

theorem text_any (a : Option Addr) (len cap : Nat) (xs : List Int) (k : Nat) (w : World) (h : SL w a len cap xs) (hk : k ≤ len) :
    Calls Try.prog 38 #[.agg #[], .slice a len cap, .int .i64 (k : Int)] w fun e w' => e = .returned (.string (txt (hasBin (xs.drop k)))) ∧ Below w.heap.size w w' := by
  obtain ⟨a', hsl, hS⟩ := h.dropRun hk
  generalize len - k = l1 at hsl hS
  generalize cap - k = c1 at hsl hS
  generalize xs.drop k = ys at hS ⊢
  clear h
  have hS' := hS.alloc (.cells #[] 47)
  clear hS hk
  obtain ⟨h1, h2, h3, h4, h5, h6⟩ := hS'
  unfold maxLen at h3
  have H1 := Lib.hid h1
  clear h1
  go_enter Try.func38, Try.ntmps38
  go_wp2
  go_loop [13] (fun v => ∃ k : Nat, k ≤ l1 ∧ v = .int .i64 k ∧ Hid (∀ i, i < k → isBin (ys.getD i 0) = false)) (fun v => l1 - (intOf v).toNat)
  case atStart => exact ⟨0, Nat.zero_le _, rfl, fun i hi => absurd hi (by omega)⟩
  case round =>
    obtain ⟨k, hk, rfl, he⟩ := hrel
    by_cases hlt : k < l1
    · obtain ⟨b, off, rfl, hc⟩ := h6 (by omega)
      have hcell := hc k hlt
      have h5' := h5 k
      clear hc h6 h5
      have hcv : ∃ c, ys.getD k 0 = c := ⟨_, rfl⟩
      obtain ⟨c, hcv⟩ := hcv
      rw [hcv] at hcell h5'
      obtain ⟨h50, h51⟩ := h5'
      have hcv := Lib.hid hcv
      rename_i hcv'
      clear hcv'
      rcases isBin_cases c with ⟨hb, hq⟩ | ⟨hb, hq⟩
      · have ht := Lib.hid (hasBin_hit (by rw [H1.out]; exact hlt) hcv.out hb)
        clear hb
        have h11 : c = 11 ∨ (c == 11) = false := by simp; omega
        rcases hq with hq | rfl | ⟨hq, hq'⟩ | ⟨hq, hq'⟩
        all_goals
          go_wp2
          go_ret
          exact ⟨by rw [ht.out]; rfl, (Below.refl _ _).alloc (Nat.le_refl _) _⟩
      · obtain ⟨hq1, hq2, hq3, hq4⟩ := hq
        have hb' := Lib.hid hb
        clear hb
        rcases hq3 with hq3 | hq3
        · have hq5 : c < 28 := by omega
          clear hq4
          go_wp2
          go_round
          case rel =>
            refine ⟨k + 1, by omega, by go_num, fun i hi => ?_⟩
            rcases Nat.lt_or_eq_of_le (Nat.le_of_lt_succ hi) with hi | rfl
            · exact he.out i hi
            · rw [hcv.out]; exact hb'.out
          case measure => simp [intOf]; omega
        · rcases hq4 with hq4 | hq4
          all_goals
            go_wp2
            go_round
            case rel =>
              refine ⟨k + 1, by omega, by go_num, fun i hi => ?_⟩
              rcases Nat.lt_or_eq_of_le (Nat.le_of_lt_succ hi) with hi | rfl
              · exact he.out i hi
              · rw [hcv.out]; exact hb'.out
            case measure => simp [intOf]; omega
    · obtain rfl : k = l1 := by omega
      have ht := Lib.hid (hasBin_none (xs := ys) (by rw [H1.out]; exact he.out))
      go_wp2
      go_ret
      exact ⟨by rw [ht.out]; rfl, (Below.refl _ _).alloc (Nat.le_refl _) _⟩

theorem txt_empty (b : Bool) : (txt b).toList.isEmpty = b := by
  cases b <;> rw [ByteArray.toList_eq] <;> rfl

theorem zztext_any (a : Option Addr) (len cap : Nat) (xs : List Int) (w : World) (h : SL w a len cap xs) :
    Calls Try.prog 25 #[.slice a len cap] w fun e w' => e = .returned (.bool (!hasBin xs)) ∧ Below w.heap.size w w' := by
  go_enter Try.func25, Try.ntmps25
  go_wp2_with (go_at_call 38; refine (text_any a len cap xs 0 _ h (Nat.zero_le _)).mono ?_; rw [List.drop_zero]; rintro e w' ⟨rfl, hbel⟩)
  go_ret
  exact ⟨by refine congrArg (fun b => Ending.returned (.bool b)) ?_; show (!(txt (hasBin xs)).toList.isEmpty) = _; rw [txt_empty], hbel⟩
theorem impltext_any (a : Option Addr) (len cap : Nat) (xs : List Int) (w : World) (h : SL w a len cap xs) :
    Calls Try.prog 12 #[.slice a len cap] w fun e w' => e = .returned (.bool (!hasBin xs)) ∧ Below w.heap.size w w' := by
  go_enter Try.func12, Try.ntmps12
  go_wp2_with (go_at_call 25; refine (zztext_any a len cap xs _ h).mono ?_; rintro e w' ⟨rfl, hbel⟩)
  go_ret
  exact ⟨rfl, hbel⟩

theorem law_text (a : Option Addr) (len cap : Nat) (xs : List Int) (w : World) (h : SL w a len cap xs) :
    Calls Try.prog 4 #[.slice a len cap] w fun e w' => e = .returned (.bool true) ∧ Below w.heap.size w w' := by
  by_cases hbig : 2147483647 < len
  · go_enter Try.func4, Try.ntmps4
    go_wp2
    go_ret
    exact ⟨rfl, Below.refl _ _⟩
  · have hn : ∀ w, SL w none 0 0 [] := fun w => ⟨rfl, Nat.le_refl _, Nat.zero_le _, fun _ => rfl, by intro i; simp, fun h => absurd h (by omega)⟩
    go_enter Try.func4, Try.ntmps4
    go_wp2_with fail
    refine (impltext_any a len cap xs _ h).mono ?_
    rintro e w1 ⟨rfl, hb1⟩
    go_wp2_with fail
    refine (spectext_any a len cap xs _ (h.below hb1)).mono ?_
    rintro e w2 ⟨rfl, rfl⟩
    go_wp2_with fail
    refine (impltext_any none 0 0 [] _ (hn _)).mono ?_
    rintro e w2 ⟨rfl, hb2⟩
    go_wp2_with fail
    go_ret
    exact ⟨rfl, hb1.trans (hb2.mono hb1.size)⟩

end Go.Proofs.Ytpjonekkiojelaa
