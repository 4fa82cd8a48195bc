/-
  The signature of a pattern with a mask. No condition.
-/
import Derived.Test.YtpjonekkiojelaaMat
namespace Go.Proofs.Ytpjonekkiojelaa
open Go.RowKit Go.PlainAid

def mEq (m p z : Int) : Bool := bits .and .u8 z m == p
def maskB (zs m p : List Int) : Bool := decide (p.length ≤ zs.length) && (List.range p.length).all fun i => mEq (m.getD i 0) (p.getD i 0) (zs.getD i 0)
theorem maskB_short {zs m p : List Int} (h : zs.length < p.length) : maskB zs m p = false := by
  unfold maskB
  rw [decide_eq_false (by omega)]
  rfl
theorem maskB_no {zs m p : List Int} {i : Nat} (hi : i < p.length) (h : mEq (m.getD i 0) (p.getD i 0) (zs.getD i 0) = false) : maskB zs m p = false := by
  unfold maskB
  have : (List.range p.length).all (fun i => mEq (m.getD i 0) (p.getD i 0) (zs.getD i 0)) = false := List.all_eq_false.2 ⟨i, List.mem_range.2 hi, by simp only [h]; decide⟩
  rw [this, Bool.and_false]
theorem maskB_yes {zs m p : List Int} (hl : p.length ≤ zs.length) (h : ∀ i, i < p.length → mEq (m.getD i 0) (p.getD i 0) (zs.getD i 0) = true) : maskB zs m p = true := by
  unfold maskB
  have : (List.range p.length).all (fun i => mEq (m.getD i 0) (p.getD i 0) (zs.getD i 0)) = true := List.all_eq_true.2 fun i hi => h i (List.mem_range.1 hi)
  rw [decide_eq_true hl, this]
  rfl
theorem SL.hat0 {w : World} {b n cap : Nat} {xs : List Int} (h : SL w (some ⟨b, 0, none⟩) n cap xs) : ∀ i, i < n → w.cell? ⟨b, i, none⟩ = some (.int .u8 (xs.getD i 0)) := fun i hi => by
  obtain ⟨b', o', he, hc⟩ := h.hat (by omega)
  simp only [Option.some.injEq, Addr.mk.injEq, and_true] at he
  obtain ⟨rfl, rfl⟩ := he
  have := hc i hi
  rwa [Nat.zero_add] at this

set_option maxHeartbeats 4000000 in
theorem masked_any (a : Option Addr) (len cap b bm bp : Nat) (xs m p zs : List Int) (skip : Bool) (ct : ByteArray) (k n : Nat) (w : World) (h : SL w a len cap xs) (hk : k ≤ len) (hl : len ≤ 2147483647)
    (hpn : p.length = n) (hn1 : n ≤ 100) (hn0 : 0 < n) (hz : zs = if skip then xs.drop k else xs)
    (c0 : w.cell? ⟨b, 0, none⟩ = some (.slice (some ⟨bm, 0, none⟩) n n)) (c1 : w.cell? ⟨b, 1, none⟩ = some (.slice (some ⟨bp, 0, none⟩) n n)) (c2 : w.cell? ⟨b, 2, none⟩ = some (.bool skip)) (c3 : w.cell? ⟨b, 3, none⟩ = some (.string ct))
    (hM : SL w (some ⟨bm, 0, none⟩) n n m) (hP : SL w (some ⟨bp, 0, none⟩) n n p) :
    Calls Try.prog 70 #[.pointer (some ⟨b, 0, none⟩), .slice a len cap, .int .i64 (k : Int)] w fun e w' => e = .returned (.string (orNil (maskB zs m p) ct)) ∧ Below w.heap.size w w' := by
  have HM := Lib.hid hM.hat0
  have HP := Lib.hid hP.hat0
  have HMb := Lib.hid hM.hbd
  have HPb := Lib.hid hP.hbd
  have HN := Lib.hid hpn
  have hmx := h.hmx
  have hle := h.hle
  unfold maxLen at hmx
  clear hM hP hpn
  cases skip with
  | false =>
    obtain rfl : zs = xs := hz
    have hS := h
    have hle2 := h.hle
    have hl2 := hl
    have H1 := Lib.hid hS.hlen
    have HSb := Lib.hid hS.hbd
    have HSat := Lib.hid hS.hat
    clear h hS
    by_cases hsh : len < n
    · have H := Lib.hid (maskB_short (zs := zs) (m := m) (p := p) (by rw [H1.out, HN.out]; exact hsh))
      go_enter Try.func70, Try.ntmps70
      go_wp2
      go_quiet (fail)
      go_wp2
      go_ret
      exact ⟨by rw [H.out]; rfl, decN _ _⟩
    go_enter Try.func70, Try.ntmps70
    go_wp2
    go_quiet (fail)
    go_wp2
    go_loopw [41] (fun v wr => ∃ i : Nat, i ≤ n ∧ v = .int .i64 i ∧ Hid (∀ j, j < i → mEq (m.getD j 0) (p.getD j 0) (zs.getD j 0) = true) ∧ ∃ q, wr = w.drewN q) (fun v _ => n - (intOf v).toNat)
    case atStart => exact ⟨0, Nat.zero_le _, rfl, fun i hi => absurd hi (by omega), _, rfl⟩
    case round =>
      obtain ⟨i, hi, rfl, he, q0, rfl⟩ := hrel
      obtain ⟨b1, o1, rfl, hc1⟩ := HSat.out (by omega)
      by_cases hlt : i < n
      · have cM := HM.out i hlt
        have cP := HP.out i hlt
        have cY := hc1 i (by omega)
        have bM := HMb.out i
        have bP := HPb.out i
        have bY := HSb.out i
        have HE := Lib.hid (show mEq (m.getD i 0) (p.getD i 0) (zs.getD i 0) = (bits .and .u8 (zs.getD i 0) (m.getD i 0) == p.getD i 0) from rfl)
        clear hc1
        generalize hcv : p.getD i 0 = c at cP bP HE
        generalize hdv : zs.getD i 0 = d at cY bY HE
        generalize hmv : m.getD i 0 = e at cM bM HE
        have HC := Lib.hid hcv
        have HD := Lib.hid hdv
        have HX := Lib.hid hmv
        clear hcv hdv hmv
        obtain ⟨bP0, bP1⟩ := bP
        obtain ⟨bY0, bY1⟩ := bY
        obtain ⟨bM0, bM1⟩ := bM
        have pn : (i : Int) < (n : Int) := by omega
        have pl : (i : Int) < (len : Int) := by omega
        generalize hmm : bits .and .u8 d e = mm at HE
        by_cases hcm : mm = c
        · have q : (mm == c) = true := beq_iff_eq.2 hcm
          have q' : (mm != c) = false := by rw [bne, q]; rfl
          have HE2 := HE.out
          rw [q] at HE2
          have HE3 := Lib.hid HE2
          clear HE2 HE hcm q
          go_wp2
          go_quiet (fail)
          go_wp2
          go_roundw
          case rel =>
            refine ⟨i + 1, by omega, by go_num, fun j hj => ?_, _, rfl⟩
            rcases Nat.lt_or_eq_of_le (Nat.le_of_lt_succ hj) with hj | rfl
            · exact he.out j hj
            · rw [HC.out, HD.out, HX.out]; exact HE3.out
          case measure => simp [intOf]; omega
        · have q : (mm == c) = false := beq_eq_false_iff_ne.2 hcm
          have q' : (mm != c) = true := by rw [bne, q]; rfl
          have HE2 := HE.out
          rw [q] at HE2
          have H := Lib.hid (maskB_no (zs := zs) (m := m) (p := p) (by rw [HN.out]; exact hlt) (by rw [HC.out, HD.out, HX.out]; exact HE2))
          clear HE2 HE hcm q
          go_wp2
          go_quiet (fail)
          go_wp2
          go_ret
          exact ⟨by rw [H.out]; rfl, decN _ _⟩
      · obtain rfl : i = n := by omega
        have H := Lib.hid (maskB_yes (zs := zs) (m := m) (p := p) (by rw [HN.out, H1.out]; omega) (by rw [HN.out]; exact he.out))
        clear hc1
        go_wp2
        go_ret
        exact ⟨by rw [H.out]; rfl, decN _ _⟩
  | true =>
    obtain ⟨a', hsl, hS⟩ := h.fromRun hk (lo := (k : Int)) rfl
    obtain rfl : zs = xs.drop k := hz
    have hl2 : len - k ≤ 2147483647 := by omega
    have hle2 := hS.hle
    generalize xs.drop k = zs at hS ⊢
    generalize len - k = l1 at hsl hS hl2 hle2
    generalize cap - k = c1 at hsl hS hle2
    have H1 := Lib.hid hS.hlen
    have HSb := Lib.hid hS.hbd
    have HSat := Lib.hid hS.hat
    clear h hS
    by_cases hsh : l1 < n
    · have H := Lib.hid (maskB_short (zs := zs) (m := m) (p := p) (by rw [H1.out, HN.out]; exact hsh))
      go_enter Try.func70, Try.ntmps70
      go_wp2
      go_quiet (fail)
      go_wp2
      go_ret
      exact ⟨by rw [H.out]; rfl, decN _ _⟩
    go_enter Try.func70, Try.ntmps70
    go_wp2
    go_quiet (fail)
    go_wp2
    go_loopw [41] (fun v wr => ∃ i : Nat, i ≤ n ∧ v = .int .i64 i ∧ Hid (∀ j, j < i → mEq (m.getD j 0) (p.getD j 0) (zs.getD j 0) = true) ∧ ∃ q, wr = w.drewN q) (fun v _ => n - (intOf v).toNat)
    case atStart => exact ⟨0, Nat.zero_le _, rfl, fun i hi => absurd hi (by omega), _, rfl⟩
    case round =>
      obtain ⟨i, hi, rfl, he, q0, rfl⟩ := hrel
      obtain ⟨b1, o1, rfl, hc1⟩ := HSat.out (by omega)
      by_cases hlt : i < n
      · have cM := HM.out i hlt
        have cP := HP.out i hlt
        have cY := hc1 i (by omega)
        have bM := HMb.out i
        have bP := HPb.out i
        have bY := HSb.out i
        have HE := Lib.hid (show mEq (m.getD i 0) (p.getD i 0) (zs.getD i 0) = (bits .and .u8 (zs.getD i 0) (m.getD i 0) == p.getD i 0) from rfl)
        clear hc1
        generalize hcv : p.getD i 0 = c at cP bP HE
        generalize hdv : zs.getD i 0 = d at cY bY HE
        generalize hmv : m.getD i 0 = e at cM bM HE
        have HC := Lib.hid hcv
        have HD := Lib.hid hdv
        have HX := Lib.hid hmv
        clear hcv hdv hmv
        obtain ⟨bP0, bP1⟩ := bP
        obtain ⟨bY0, bY1⟩ := bY
        obtain ⟨bM0, bM1⟩ := bM
        have pn : (i : Int) < (n : Int) := by omega
        have pl : (i : Int) < (l1 : Int) := by omega
        generalize hmm : bits .and .u8 d e = mm at HE
        by_cases hcm : mm = c
        · have q : (mm == c) = true := beq_iff_eq.2 hcm
          have q' : (mm != c) = false := by rw [bne, q]; rfl
          have HE2 := HE.out
          rw [q] at HE2
          have HE3 := Lib.hid HE2
          clear HE2 HE hcm q
          go_wp2
          go_quiet (fail)
          go_wp2
          go_roundw
          case rel =>
            refine ⟨i + 1, by omega, by go_num, fun j hj => ?_, _, rfl⟩
            rcases Nat.lt_or_eq_of_le (Nat.le_of_lt_succ hj) with hj | rfl
            · exact he.out j hj
            · rw [HC.out, HD.out, HX.out]; exact HE3.out
          case measure => simp [intOf]; omega
        · have q : (mm == c) = false := beq_eq_false_iff_ne.2 hcm
          have q' : (mm != c) = true := by rw [bne, q]; rfl
          have HE2 := HE.out
          rw [q] at HE2
          have H := Lib.hid (maskB_no (zs := zs) (m := m) (p := p) (by rw [HN.out]; exact hlt) (by rw [HC.out, HD.out, HX.out]; exact HE2))
          clear HE2 HE hcm q
          go_wp2
          go_quiet (fail)
          go_wp2
          go_ret
          exact ⟨by rw [H.out]; rfl, decN _ _⟩
      · obtain rfl : i = n := by omega
        have H := Lib.hid (maskB_yes (zs := zs) (m := m) (p := p) (by rw [HN.out, H1.out]; omega) (by rw [HN.out]; exact he.out))
        clear hc1
        go_wp2
        go_ret
        exact ⟨by rw [H.out]; rfl, decN _ _⟩
end Go.Proofs.Ytpjonekkiojelaa
