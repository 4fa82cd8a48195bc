/-
  The signature of a tag of HTML. No condition.
-/
import Derived.Test.YtpjonekkiojelaaMat
namespace Go.Proofs.Ytpjonekkiojelaa
open Go.RowKit Go.PlainAid

/-- Does the byte d fit the byte c of a tag, as the code asks it? -/
def hEq (c d : Int) : Bool := if 65 ≤ c ∧ c ≤ 90 then c == bits .and .u8 d 223 else c == d
def htmlB (ys p : List Int) : Bool := decide (p.length < ys.length) && (List.range p.length).all (fun i => hEq (p.getD i 0) (ys.getD i 0)) && isTTb (ys.getD p.length 0)
theorem htmlB_short {ys p : List Int} (h : ys.length ≤ p.length) : htmlB ys p = false := by
  unfold htmlB
  rw [decide_eq_false (by omega)]
  rfl
theorem htmlB_no {ys p : List Int} {i : Nat} (hi : i < p.length) (h : hEq (p.getD i 0) (ys.getD i 0) = false) : htmlB ys p = false := by
  unfold htmlB
  have : (List.range p.length).all (fun i => hEq (p.getD i 0) (ys.getD i 0)) = false := List.all_eq_false.2 ⟨i, List.mem_range.2 hi, by simp only [h]; decide⟩
  rw [this, Bool.and_false, Bool.false_and]
theorem htmlB_end {ys p : List Int} (hl : p.length < ys.length) (h : ∀ i, i < p.length → hEq (p.getD i 0) (ys.getD i 0) = true) : htmlB ys p = isTTb (ys.getD p.length 0) := by
  unfold htmlB
  have : (List.range p.length).all (fun i => hEq (p.getD i 0) (ys.getD i 0)) = true := List.all_eq_true.2 fun i hi => h i (List.mem_range.1 hi)
  rw [decide_eq_true hl, this]
  rfl
def htmlOut : ByteArray := ⟨#[116, 101, 120, 116, 47, 104, 116, 109, 108, 59, 32, 99, 104, 97, 114, 115, 101, 116, 61, 117, 116, 102, 45, 56]⟩

set_option maxHeartbeats 2000000 in
theorem html_any (a : Option Addr) (len cap b : Nat) (xs p : List Int) (k : Nat) (w : World) (h : SL w a len cap xs) (hk : k ≤ len) (hl : len ≤ 2147483647) (hp : SL w (some ⟨b, 0, none⟩) p.length p.length p) (hp1 : p.length ≤ 100) :
    Calls Try.prog 68 #[.slice (some ⟨b, 0, none⟩) p.length p.length, .slice a len cap, .int .i64 (k : Int)] w fun e w' => e = .returned (.string (orNil (htmlB (xs.drop k) p) htmlOut)) ∧ Below w.heap.size w w' := by
  obtain ⟨a', hsl, hS⟩ := h.fromRun hk (lo := (k : Int)) rfl
  have hl1 : len - k ≤ 2147483647 := by omega
  generalize len - k = l1 at hsl hS hl1
  generalize cap - k = c1 at hsl hS
  generalize xs.drop k = ys at hS ⊢
  have e1 := hS.hlen
  obtain ⟨n, hn⟩ : ∃ n, p.length = n := ⟨_, rfl⟩
  have HN := Lib.hid hn
  have H1 := Lib.hid e1
  have HP := Lib.hid hp.hbd
  have HY := Lib.hid hS.hbd
  have HPat := Lib.hid (show 0 < n → ∀ i, i < n → w.cell? ⟨b, i, none⟩ = some (.int .u8 (p.getD i 0)) from fun h0 i hi => by
    obtain ⟨b', o', he, hc⟩ := hp.hat (by omega)
    simp only [Option.some.injEq, Addr.mk.injEq, and_true] at he
    obtain ⟨rfl, rfl⟩ := he
    have := hc i (by omega)
    rwa [Nat.zero_add] at this)
  have HSat := Lib.hid hS.hat
  have hSle := hS.hle
  have hSmx := hS.hmx
  unfold maxLen at hSmx
  rw [hn] at hp1
  by_cases hsh : l1 ≤ n
  · have H := Lib.hid (htmlB_short (ys := ys) (p := p) (by omega))
    rw [hn]
    clear h hp hS e1 hn hk
    go_enter Try.func68, Try.ntmps68
    go_wp2
    go_ret
    exact ⟨by rw [H.out]; rfl, Below.refl _ _⟩
  rw [hn]
  clear h hp hS e1 hn hk
  go_enter Try.func68, Try.ntmps68
  go_wp2
  go_loop [21] (fun v => ∃ i : Nat, i ≤ n ∧ v = .int .i64 i ∧ Hid (∀ j, j < i → hEq (p.getD j 0) (ys.getD j 0) = true)) (fun v => n - (intOf v).toNat)
  case atStart => exact ⟨0, Nat.zero_le _, rfl, fun i hi => absurd hi (by omega)⟩
  case round =>
    obtain ⟨i, hi, rfl, he⟩ := hrel
    obtain ⟨b1, o1, rfl, hc1⟩ := HSat.out (by omega)
    by_cases hlt : i < n
    · have cP := HPat.out (by omega) i hlt
      have cY := hc1 i (by omega)
      have bP := HP.out i
      have bY := HY.out i
      have HE := Lib.hid (show hEq (p.getD i 0) (ys.getD i 0) = if 65 ≤ p.getD i 0 ∧ p.getD i 0 ≤ 90 then p.getD i 0 == bits .and .u8 (ys.getD i 0) 223 else p.getD i 0 == ys.getD i 0 from rfl)
      clear hc1
      generalize hcv : p.getD i 0 = c at cP bP HE
      generalize hdv : ys.getD i 0 = d at cY bY HE
      have HC := Lib.hid hcv
      have HD := Lib.hid hdv
      clear hcv hdv
      obtain ⟨bP0, bP1⟩ := bP
      obtain ⟨bY0, bY1⟩ := bY
      by_cases hL : 65 ≤ c ∧ c ≤ 90
      · have HE2 := HE.out
        rw [if_pos hL] at HE2
        obtain ⟨hL0, hL1⟩ := hL
        generalize hm : bits .and .u8 d 223 = m at HE2
        by_cases hcm : c = m
        · have q : (c == m) = true := beq_iff_eq.2 hcm
          have q' : (c != m) = false := by rw [bne, q]; rfl
          rw [q] at HE2
          have HE3 := Lib.hid HE2
          clear HE2 HE hcm q
          go_wp2
          go_round
          case rel =>
            refine ⟨i + 1, by omega, by go_num, fun j hj => ?_⟩
            rcases Nat.lt_or_eq_of_le (Nat.le_of_lt_succ hj) with hj | rfl
            · exact he.out j hj
            · rw [HC.out, HD.out]; exact HE3.out
          case measure => simp [intOf]; omega
        · have q : (c == m) = false := beq_eq_false_iff_ne.2 hcm
          have q' : (c != m) = true := by rw [bne, q]; rfl
          rw [q] at HE2
          have H := Lib.hid (htmlB_no (ys := ys) (p := p) (by rw [HN.out]; exact hlt) (by rw [HC.out, HD.out]; exact HE2))
          clear HE2 HE hcm q
          go_wp2
          go_ret
          exact ⟨by rw [H.out]; rfl, Below.refl _ _⟩
      · have HE2 := HE.out
        rw [if_neg hL] at HE2
        have hL' : c < 65 ∨ 90 < c := by omega
        by_cases hcm : c = d
        · have q : (c == d) = true := beq_iff_eq.2 hcm
          have q' : (c != d) = false := by rw [bne, q]; rfl
          rw [q] at HE2
          have HE3 := Lib.hid HE2
          clear HE2 HE hcm q hL
          rcases hL' with hL' | hL'
          all_goals
            go_wp2
            go_round
            case rel =>
              refine ⟨i + 1, by omega, by go_num, fun j hj => ?_⟩
              rcases Nat.lt_or_eq_of_le (Nat.le_of_lt_succ hj) with hj | rfl
              · exact he.out j hj
              · rw [HC.out, HD.out]; exact HE3.out
            case measure => simp [intOf]; omega
        · have q : (c == d) = false := beq_eq_false_iff_ne.2 hcm
          have q' : (c != d) = true := by rw [bne, q]; rfl
          rw [q] at HE2
          have H := Lib.hid (htmlB_no (ys := ys) (p := p) (by rw [HN.out]; exact hlt) (by rw [HC.out, HD.out]; exact HE2))
          clear HE2 HE hcm q hL
          rcases hL' with hL' | hL'
          all_goals
            go_wp2
            go_ret
            exact ⟨by rw [H.out]; rfl, Below.refl _ _⟩
    · obtain rfl : i = n := by omega
      have cY := hc1 i (by omega)
      have H := Lib.hid (htmlB_end (ys := ys) (p := p) (by rw [HN.out, H1.out]; omega) (by rw [HN.out]; exact he.out))
      rw [HN.out] at H
      generalize ys.getD i 0 = d at cY H
      clear hc1
      have qq : (i : Int) < (l1 : Int) := by omega
      generalize hT : isTTb d = T at H
      have HT := Lib.hid hT
      clear hT
      rcases T with _ | _
      all_goals
        go_wp2_with (go_at_call 69; refine (tt_any _ _).mono ?_; rw [HT.out]; rintro e w' ⟨rfl, rfl⟩)
        go_ret
        exact ⟨by rw [H.out]; rfl, Below.refl _ _⟩
end Go.Proofs.Ytpjonekkiojelaa
