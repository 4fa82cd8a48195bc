/-
  The reference's tags of HTML, and a MIME type without its parameters. No condition.
-/
import Derived.Test.YtpjonekkiojelaaWht
namespace Go.Proofs.Ytpjonekkiojelaa
open Go.RowKit Go.PlainAid

def up (d : Int) : Int := if 97 ≤ d ∧ d ≤ 122 then d - 32 else d
def tagB (ys : List Int) (p : ByteArray) : Bool := decide (p.size < ys.length) && (List.range p.size).all (fun i => up (ys.getD i 0) == bt p i) && isTTb (ys.getD p.size 0)
theorem tagB_short {ys : List Int} {p : ByteArray} (h : ys.length ≤ p.size) : tagB ys p = false := by
  unfold tagB
  rw [decide_eq_false (by omega)]
  rfl
theorem tagB_no {ys : List Int} {p : ByteArray} {i : Nat} (hi : i < p.size) (h : (up (ys.getD i 0) == bt p i) = false) : tagB ys p = false := by
  unfold tagB
  have : (List.range p.size).all (fun i => up (ys.getD i 0) == bt p i) = false := List.all_eq_false.2 ⟨i, List.mem_range.2 hi, by simp only [h]; decide⟩
  rw [this, Bool.and_false, Bool.false_and]
theorem tagB_end {ys : List Int} {p : ByteArray} (hl : p.size < ys.length) (h : ∀ i, i < p.size → (up (ys.getD i 0) == bt p i) = true) : tagB ys p = isTTb (ys.getD p.size 0) := by
  unfold tagB
  have : (List.range p.size).all (fun i => up (ys.getD i 0) == bt p i) = true := List.all_eq_true.2 fun i hi => h i (List.mem_range.1 hi)
  rw [decide_eq_true hl, this]
  rfl

set_option maxHeartbeats 2000000 in
theorem tag_any (a : Option Addr) (len cap : Nat) (ys : List Int) (p : ByteArray) (w : World) (h : SL w a len cap ys) (hl : len ≤ 2147483647) :
    Calls Try.prog 44 #[.slice a len cap, .string p] w fun e w' => e = .returned (.bool (tagB ys p)) ∧ w = w' := by
  have H1 := Lib.hid h.hlen
  have HY := Lib.hid h.hbd
  have HSat := Lib.hid h.hat
  have hle := h.hle
  have hmx := h.hmx
  unfold maxLen at hmx
  clear h
  have hb := get_bt p
  by_cases hsh : len ≤ p.size
  · have H := Lib.hid (tagB_short (ys := ys) (p := p) (by rw [H1.out]; exact hsh))
    go_enter Try.func44, Try.ntmps44
    go_wp2
    go_ret
    exact ⟨by rw [H.out]; rfl, rfl⟩
  go_enter Try.func44, Try.ntmps44
  go_wp2
  go_loop [14] (fun v => ∃ i : Nat, i ≤ p.size ∧ v = .int .i64 i ∧ Hid (∀ j, j < i → (up (ys.getD j 0) == bt p j) = true)) (fun v => p.size - (intOf v).toNat)
  case atStart => exact ⟨0, Nat.zero_le _, rfl, fun i hi => absurd hi (by omega)⟩
  case round =>
    obtain ⟨i, hi, rfl, he⟩ := hrel
    obtain ⟨b1, o1, rfl, hc1⟩ := HSat.out (by omega)
    by_cases hlt : i < p.size
    · have cY := hc1 i (by omega)
      have hbk := hb i hlt
      have bY := HY.out i
      have hq0 := bt_nonneg p i
      have hq1 := bt_le p i
      have HU := Lib.hid (show up (ys.getD i 0) = if 97 ≤ ys.getD i 0 ∧ ys.getD i 0 ≤ 122 then ys.getD i 0 - 32 else ys.getD i 0 from rfl)
      clear hc1 hb
      generalize hcv : bt p i = c at hbk hq0 hq1
      generalize hdv : ys.getD i 0 = d at cY bY HU
      have HC := Lib.hid hcv
      have HD := Lib.hid hdv
      clear hcv hdv
      obtain ⟨bY0, bY1⟩ := bY
      by_cases hL : 97 ≤ d ∧ d ≤ 122
      · have HE2 := HU.out
        rw [if_pos hL] at HE2
        have HE3 := Lib.hid HE2
        clear HE2 HU
        obtain ⟨hL0, hL1⟩ := hL
        by_cases hcm : d - 32 = c
        · have q : (d - 32 == c) = true := beq_iff_eq.2 hcm
          have q' : (d - 32 != c) = false := by rw [bne, q]; rfl
          have Hq := Lib.hid q
          clear hcm q
          go_wp2
          go_round
          case rel =>
            refine ⟨i + 1, by omega, by go_num, fun j hj => ?_⟩
            rcases Nat.lt_or_eq_of_le (Nat.le_of_lt_succ hj) with hj | rfl
            · exact he.out j hj
            · rw [HC.out, HD.out, HE3.out]; exact Hq.out
          case measure => simp [intOf]; omega
        · have q : (d - 32 == c) = false := beq_eq_false_iff_ne.2 hcm
          have q' : (d - 32 != c) = true := by rw [bne, q]; rfl
          have H := Lib.hid (tagB_no (ys := ys) (p := p) hlt (by rw [HC.out, HD.out, HE3.out]; exact q))
          clear hcm q
          go_wp2
          go_ret
          exact ⟨by rw [H.out]; rfl, rfl⟩
      · have HE2 := HU.out
        rw [if_neg hL] at HE2
        have HE3 := Lib.hid HE2
        have hL' : d < 97 ∨ 122 < d := by omega
        clear HE2 HU hL
        by_cases hcm : d = c
        · have q : (d == c) = true := beq_iff_eq.2 hcm
          have q' : (d != c) = false := by rw [bne, q]; rfl
          have Hq := Lib.hid q
          clear hcm q
          rcases hL' with hL' | hL'
          all_goals
            go_wp2
            go_round
            case rel =>
              refine ⟨i + 1, by omega, by go_num, fun j hj => ?_⟩
              rcases Nat.lt_or_eq_of_le (Nat.le_of_lt_succ hj) with hj | rfl
              · exact he.out j hj
              · rw [HC.out, HD.out, HE3.out]; exact Hq.out
            case measure => simp [intOf]; omega
        · have q : (d == c) = false := beq_eq_false_iff_ne.2 hcm
          have q' : (d != c) = true := by rw [bne, q]; rfl
          have H := Lib.hid (tagB_no (ys := ys) (p := p) hlt (by rw [HC.out, HD.out, HE3.out]; exact q))
          clear hcm q
          rcases hL' with hL' | hL'
          all_goals
            go_wp2
            go_ret
            exact ⟨by rw [H.out]; rfl, rfl⟩
    · obtain rfl : i = p.size := by omega
      have cY := hc1 p.size (by omega)
      have H := Lib.hid (tagB_end (ys := ys) (p := p) (by rw [H1.out]; omega) he.out)
      generalize ys.getD p.size 0 = d at cY H
      clear hc1 hb
      have qq : (p.size : Int) < (len : Int) := by omega
      by_cases h32 : d = 32
      · subst h32
        go_wp2
        go_ret
        exact ⟨by rw [H.out]; rfl, rfl⟩
      · have q32 : (d == 32) = false := beq_eq_false_iff_ne.2 h32
        have HT : Hid (isTTb d = (d == 62)) := by
          show (decide (d = 32) || decide (d = 62)) = _
          rw [decide_eq_false h32, Bool.false_or]
          rfl
        clear h32
        go_wp2
        go_ret
        exact ⟨by rw [H.out, HT.out]; rfl, rfl⟩

/-- What stands before the first semicolon. -/
def ess (s : ByteArray) : ByteArray := ⟨(s.data.toList.takeWhile fun c => c != 59).toArray⟩
theorem takeWhile_all {α : Type} (q : α → Bool) : ∀ (l : List α) (k : Nat), k ≤ l.length → (∀ i (h : i < l.length), i < k → q l[i] = true) → (∀ h : k < l.length, q l[k] = false) → l.takeWhile q = l.take k
  | [], k, _, _, _ => by simp
  | a :: l, 0, _, _, h => by
    have := h (by simp)
    simp only [List.getElem_cons_zero] at this
    simp [List.takeWhile, this]
  | a :: l, k + 1, hk, h1, h2 => by
    have h0 := h1 0 (by simp) (by omega)
    simp only [List.getElem_cons_zero] at h0
    rw [List.takeWhile_cons_of_pos h0, List.take_succ_cons, takeWhile_all q l k (by simpa using hk) (fun i h hi => by have := h1 (i + 1) (by simpa using h) (by omega); simpa using this) (fun h => by have := h2 (by simpa using h); simpa using this)]
theorem ess_at (s : ByteArray) (k : Nat) (hk : k ≤ s.size) (h1 : ∀ i, i < k → bt s i ≠ 59) (h2 : k < s.size → bt s k = 59) : s.extract 0 k = ess s := by
  have hl : s.data.toList.length = s.size := by rw [Array.length_toList]; rfl
  have hbt : ∀ (i : Nat) (h : i < s.data.toList.length), bt s i = (s.data.toList[i].toNat : Int) := fun i h => by
    rw [← get_bt s i (by omega)]
    rfl
  unfold ess
  rw [takeWhile_all _ s.data.toList k (by omega) (fun i h hi => ?_) (fun h => ?_)]
  · apply ByteArray.ext
    rw [ByteArray.data_extract]
    apply Array.ext'
    simp
  · have := h1 i hi
    rw [hbt i h] at this
    simp only [bne_iff_ne, ne_eq]
    intro e
    rw [e] at this
    exact this rfl
  · have := h2 (by omega)
    rw [hbt k h] at this
    rw [bne_eq_false_iff_eq]
    apply UInt8.toNat_inj.1
    show _ = 59
    omega

theorem essence_any (s : ByteArray) (w : World) (hs : s.size ≤ 1000) :
    Calls Try.prog 21 #[.string s] w fun e w' => e = .returned (.string (ess s)) ∧ w = w' := by
  have hb := get_bt s
  go_enter Try.func21, Try.ntmps21
  go_wp2
  go_loop [6] (fun v => ∃ i : Nat, i ≤ s.size ∧ v = .int .i64 i ∧ Hid (∀ j, j < i → bt s j ≠ 59)) (fun v => s.size - (intOf v).toNat)
  case atStart => exact ⟨0, Nat.zero_le _, rfl, fun i hi => absurd hi (by omega)⟩
  case round =>
    obtain ⟨i, hi, rfl, he⟩ := hrel
    by_cases hlt : i < s.size
    · have hbk := hb i hlt
      by_cases hc : bt s i = 59
      · have H := Lib.hid (ess_at s i hi he.out (fun _ => hc))
        rw [hc] at hbk
        clear hb hc
        go_wp2
        go_ret
        exact ⟨by rw [← H.out]; rfl, rfl⟩
      · have H := Lib.hid hc
        have q : (bt s i == 59) = false := beq_eq_false_iff_ne.2 hc
        clear hb hc
        go_wp2
        go_round
        case rel =>
          refine ⟨i + 1, by omega, by go_num, fun j hj => ?_⟩
          rcases Nat.lt_or_eq_of_le (Nat.le_of_lt_succ hj) with hj | rfl
          · exact he.out j hj
          · exact H.out
        case measure => simp [intOf]; omega
    · obtain rfl : i = s.size := by omega
      have H := Lib.hid (ess_at s s.size (Nat.le_refl _) he.out (fun h => absurd h (by omega)))
      have H2 : Hid (s.extract 0 s.size = s) := by
        show _ = _
        apply ByteArray.ext
        rw [ByteArray.data_extract]
        show s.data.extract 0 s.data.size = s.data
        simp
      clear hb
      go_wp2
      go_ret
      exact ⟨by rw [← H.out, H2.out]; rfl, rfl⟩
end Go.Proofs.Ytpjonekkiojelaa
