/-
  Which bytes the reference leaves out. No condition.
-/
import Derived.Test.YtpjonekkiojelaaBox
namespace Go.Proofs.Ytpjonekkiojelaa
open Go.RowKit Go.PlainAid

def ftypS : ByteArray := ⟨#[102, 116, 121, 112]⟩
/-- The patterns that are left out. -/
def oddP : List ByteArray := [⟨#[0, 1, 0, 0]⟩, ⟨#[79, 84, 84, 79]⟩, ⟨#[116, 116, 99, 102]⟩, ⟨#[119, 79, 70]⟩, ⟨#[0, 97, 115, 109]⟩, ⟨#[82, 97, 114]⟩, ⟨#[26, 69, 223, 163]⟩, ⟨#[46, 115, 110, 100]⟩]
def strB (xs : List Int) : Bool := oddP.any (begB xs) || (decide (36 ≤ xs.length) && xs.getD 34 0 == 76 && xs.getD 35 0 == 80) || (decide (8 ≤ xs.length) && decide (bx xs < 12) && begB (xs.drop 4) ftypS)

theorem any_hit {l : List ByteArray} {f : ByteArray → Bool} {k : Nat} {p : ByteArray} (hk : k < l.length) (hp : l.getD k ⟨#[]⟩ = p) (h : f p = true) : l.any f = true := by
  subst hp
  rw [List.getD, List.getElem?_eq_getElem hk, Option.getD_some] at h
  exact List.any_eq_true.2 ⟨_, List.getElem_mem hk, h⟩
theorem any_none {l : List ByteArray} {f : ByteArray → Bool} (h : ∀ i, i < l.length → f (l.getD i ⟨#[]⟩) = false) : l.any f = false := by
  rw [List.any_eq_false]
  intro x hx
  obtain ⟨i, hi, rfl⟩ := List.mem_iff_getElem.1 hx
  have := h i hi
  rw [List.getD, List.getElem?_eq_getElem hi, Option.getD_some] at this
  simp [this]
theorem odd_size : ∀ k, k < 8 → (oddP.getD k ⟨#[]⟩).size ≤ 1000 := by decide

/-- The test behind the loop. -/
def lateB (xs : List Int) : Bool := (decide (36 ≤ xs.length) && xs.getD 34 0 == 76 && xs.getD 35 0 == 80) || (decide (8 ≤ xs.length) && decide (bx xs < 12) && begB (xs.drop 4) ftypS)
theorem strB_late {xs : List Int} (h : oddP.any (begB xs) = false) : strB xs = lateB xs := by
  unfold strB lateB
  rw [h, Bool.false_or]
theorem strB_hit {xs : List Int} (h : oddP.any (begB xs) = true) : strB xs = true := by
  unfold strB
  rw [h, Bool.true_or, Bool.true_or]

def late2 (xs : List Int) : Bool := decide (8 ≤ xs.length) && decide (bx xs < 12) && begB (xs.drop 4) ftypS
theorem lateB_yes {xs : List Int} (h0 : 36 ≤ xs.length) (h1 : xs.getD 34 0 = 76) (h2 : xs.getD 35 0 = 80) : lateB xs = true := by
  unfold lateB
  rw [decide_eq_true h0, h1, h2]
  rfl
theorem lateB_no {xs : List Int} (h : ¬ (36 ≤ xs.length ∧ xs.getD 34 0 = 76 ∧ xs.getD 35 0 = 80)) : lateB xs = late2 xs := by
  unfold lateB late2
  have : (decide (36 ≤ xs.length) && xs.getD 34 0 == 76 && xs.getD 35 0 == 80) = false := by
    rw [Bool.eq_false_iff]
    intro h'
    simp only [Bool.and_eq_true, decide_eq_true_eq, beq_iff_eq] at h'
    exact h ⟨h'.1.1, h'.1.2, h'.2⟩
  rw [this, Bool.false_or]

set_option maxHeartbeats 2000000 in
theorem strange_any (a : Option Addr) (len cap : Nat) (xs : List Int) (w : World) (h : SL w a len cap xs) :
    Calls Try.prog 18 #[.slice a len cap] w fun e w' => e = .returned (.bool (strB xs)) ∧ Below w.heap.size w w' := by
  obtain ⟨W1, hW1, hB, hS, hC⟩ : ∃ W1, W1 = w.alloc (.cells #[.string ⟨#[0, 1, 0, 0]⟩, .string ⟨#[79, 84, 84, 79]⟩, .string ⟨#[116, 116, 99, 102]⟩, .string ⟨#[119, 79, 70]⟩, .string ⟨#[0, 97, 115, 109]⟩, .string ⟨#[82, 97, 114]⟩, .string ⟨#[26, 69, 223, 163]⟩, .string ⟨#[46, 115, 110, 100]⟩] 9) ∧
      Below w.heap.size w W1 ∧ SL W1 a len cap xs ∧ ∀ k, k < 8 → W1.cell? ⟨w.heap.size, k, none⟩ = some (.string (oddP.getD k ⟨#[]⟩)) := by
    refine ⟨_, rfl, (Below.refl _ _).alloc (Nat.le_refl _) _, h.alloc _, fun k hk => ?_⟩
    rw [cell_of_row _ w.heap.size k _ 9 (0, 0) (by show (w.heap.push _)[w.heap.size]? = _; simp; rfl)]
    match k, hk with
    | 0, _ | 1, _ | 2, _ | 3, _ | 4, _ | 5, _ | 6, _ | 7, _ => rfl
  clear h
  have h3 := hS.hmx
  have h31 := hS.hle
  unfold maxLen at h3
  have HS := Lib.hid hS
  have HC := Lib.hid hC
  clear hS hC
  go_enter Try.func18, Try.ntmps18
  go_wp2
  rw [← hW1]
  clear hW1
  go_loopw [7] (fun v wr => ∃ k : Nat, k ≤ 8 ∧ v = .int .i64 k ∧ Hid (∀ i, i < k → begB xs (oddP.getD i ⟨#[]⟩) = false) ∧ ∃ n, wr = W1.drewN n) (fun v _ => 8 - (intOf v).toNat)
  case atStart => exact ⟨0, Nat.zero_le _, rfl, fun i hi => absurd hi (by omega), 0, rfl⟩
  case round =>
    obtain ⟨k, hk, rfl, he, n, rfl⟩ := hrel
    by_cases hlt : k < 8
    · have hcell := HC.out k hlt
      obtain ⟨p, hp⟩ : ∃ p, oddP.getD k ⟨#[]⟩ = p := ⟨_, rfl⟩
      have hps : p.size ≤ 1000 := by rw [← hp]; exact odd_size k hlt
      rw [hp] at hcell
      have HP := Lib.hid hp
      clear hp
      rcases Bool.eq_false_or_eq_true (begB xs p) with hb | hb
      · have H := Lib.hid (strB_hit (any_hit (l := oddP) (show k < oddP.length from hlt) HP.out hb))
        have HBB := Lib.hid hb
        clear hb
        go_wp2_with fail
        refine (begins_any a len cap xs p _ (HS.out.drewN n) hps).mono ?_
        rw [HBB.out]
        rintro e w' ⟨rfl, m, rfl⟩
        go_wp2
        go_ret
        exact ⟨by rw [H.out]; rfl, below_drewN hB _⟩
      · have HBB := Lib.hid hb
        clear hb
        go_wp2_with fail
        refine (begins_any a len cap xs p _ (HS.out.drewN n) hps).mono ?_
        rw [HBB.out]
        rintro e w' ⟨rfl, m, rfl⟩
        go_wp2
        go_roundw
        case rel =>
          refine ⟨k + 1, by omega, by go_num, fun i hi => ?_, _, rfl⟩
          rcases Nat.lt_or_eq_of_le (Nat.le_of_lt_succ hi) with hi | rfl
          · exact he.out i hi
          · rw [HP.out]; exact HBB.out
        case measure => simp [intOf]; omega
    · obtain rfl : k = 8 := by omega
      have H := Lib.hid (strB_late (any_none (l := oddP) (f := begB xs) he.out))
      have H1 := Lib.hid HS.out.hlen
      clear hlt hk HC he
      by_cases hA : 36 ≤ len ∧ xs.getD 34 0 = 76 ∧ xs.getD 35 0 = 80
      · obtain ⟨hA0, hA1, hA2⟩ := hA
        have HL := Lib.hid (lateB_yes (by rw [H1.out]; exact hA0) hA1 hA2)
        obtain ⟨b, off, rfl, hc⟩ := HS.out.hat (by omega)
        have c34 := hc 34 (by omega)
        have c35 := hc 35 (by omega)
        rw [hA1] at c34
        rw [hA2] at c35
        have q34 : (34 : Int) < (len : Int) := by omega
        have q35 : (35 : Int) < (len : Int) := by omega
        clear hc hA1 hA2
        go_wp2
        go_ret
        exact ⟨by rw [H.out, HL.out]; rfl, below_drewN hB _⟩
      · have HL := Lib.hid (lateB_no (xs := xs) (by rw [H1.out]; exact hA))
        have HL1 := Lib.hid (show late2 xs = (decide (8 ≤ len) && decide (bx xs < 12) && begB (xs.drop 4) ftypS) by unfold late2; rw [H1.out])
        have hq : len < 36 ∨ (36 ≤ len ∧ ((xs.getD 34 0 ≠ 76) ∨ (xs.getD 34 0 = 76 ∧ xs.getD 35 0 ≠ 80))) := by
          by_cases h36 : 36 ≤ len
          · refine .inr ⟨h36, ?_⟩
            by_cases h76 : xs.getD 34 0 = 76
            · exact .inr ⟨h76, fun h80 => hA ⟨h36, h76, h80⟩⟩
            · exact .inl h76
          · exact .inl (by omega)
        clear hA
        by_cases h8 : 8 ≤ len
        · obtain ⟨a', hsl, hS4⟩ := HS.out.fromRun (k := 4) (by omega) (lo := 4) rfl
          have HS4 := Lib.hid hS4
          clear hS4
          rw [decide_eq_true h8, Bool.true_and] at HL1
          rcases Int.lt_or_le (bx xs) 12 with hbx | hbx
          · rw [decide_eq_true hbx, Bool.true_and] at HL1
            generalize hB4 : begB (xs.drop 4) ftypS = B4 at HL1
            have HB4 := Lib.hid hB4
            clear hB4
            rcases hq with hq | ⟨h36, hq⟩
            · go_wp2_with fail
              refine (box_any a len cap xs _ (HS.out.drewN n) (by omega)).mono ?_
              rintro e w' ⟨rfl, m, rfl⟩
              go_wp2_with fail
              refine (begins_any a' (len - 4) (cap - 4) _ ftypS _ (HS4.out.drewN _) (by decide)).mono ?_
              rw [HB4.out]
              rintro e w' ⟨rfl, m', rfl⟩
              go_wp2_with fail
              go_ret
              exact ⟨by rw [H.out, HL.out, HL1.out]; rfl, below_drewN hB _⟩
            · obtain ⟨b, off, rfl, hc⟩ := HS.out.hat (by omega)
              have c34 := hc 34 (by omega)
              have c35 := hc 35 (by omega)
              have q34 : (34 : Int) < (len : Int) := by omega
              have q35 : (35 : Int) < (len : Int) := by omega
              clear hc
              generalize xs.getD 34 0 = x34 at c34 hq
              generalize xs.getD 35 0 = x35 at c35 hq
              rcases hq with hq | ⟨rfl, hq⟩
              · have hq' : (x34 == 76) = false := beq_eq_false_iff_ne.2 hq
                clear hq c35
                go_wp2_with fail
                refine (box_any _ len cap xs _ (HS.out.drewN n) (by omega)).mono ?_
                rintro e w' ⟨rfl, m, rfl⟩
                go_wp2_with fail
                refine (begins_any a' (len - 4) (cap - 4) _ ftypS _ (HS4.out.drewN _) (by decide)).mono ?_
                rw [HB4.out]
                rintro e w' ⟨rfl, m', rfl⟩
                go_wp2_with fail
                go_ret
                exact ⟨by rw [H.out, HL.out, HL1.out]; rfl, below_drewN hB _⟩
              · have hq' : (x35 == 80) = false := beq_eq_false_iff_ne.2 hq
                clear hq
                go_wp2_with fail
                refine (box_any _ len cap xs _ (HS.out.drewN n) (by omega)).mono ?_
                rintro e w' ⟨rfl, m, rfl⟩
                go_wp2_with fail
                refine (begins_any a' (len - 4) (cap - 4) _ ftypS _ (HS4.out.drewN _) (by decide)).mono ?_
                rw [HB4.out]
                rintro e w' ⟨rfl, m', rfl⟩
                go_wp2_with fail
                go_ret
                exact ⟨by rw [H.out, HL.out, HL1.out]; rfl, below_drewN hB _⟩
          · have hbx' : decide (bx xs < 12) = false := decide_eq_false (by omega)
            rw [hbx', Bool.false_and] at HL1
            clear hbx'
            rcases hq with hq | ⟨h36, hq⟩
            · go_wp2_with fail
              refine (box_any a len cap xs _ (HS.out.drewN n) (by omega)).mono ?_
              rintro e w' ⟨rfl, m, rfl⟩
              go_wp2_with fail
              go_ret
              exact ⟨by rw [H.out, HL.out, HL1.out]; rfl, below_drewN hB _⟩
            · obtain ⟨b, off, rfl, hc⟩ := HS.out.hat (by omega)
              have c34 := hc 34 (by omega)
              have c35 := hc 35 (by omega)
              have q34 : (34 : Int) < (len : Int) := by omega
              have q35 : (35 : Int) < (len : Int) := by omega
              clear hc
              generalize xs.getD 34 0 = x34 at c34 hq
              generalize xs.getD 35 0 = x35 at c35 hq
              rcases hq with hq | ⟨rfl, hq⟩
              · have hq' : (x34 == 76) = false := beq_eq_false_iff_ne.2 hq
                clear hq c35
                go_wp2_with fail
                refine (box_any _ len cap xs _ (HS.out.drewN n) (by omega)).mono ?_
                rintro e w' ⟨rfl, m, rfl⟩
                go_wp2_with fail
                go_ret
                exact ⟨by rw [H.out, HL.out, HL1.out]; rfl, below_drewN hB _⟩
              · have hq' : (x35 == 80) = false := beq_eq_false_iff_ne.2 hq
                clear hq
                go_wp2_with fail
                refine (box_any _ len cap xs _ (HS.out.drewN n) (by omega)).mono ?_
                rintro e w' ⟨rfl, m, rfl⟩
                go_wp2_with fail
                go_ret
                exact ⟨by rw [H.out, HL.out, HL1.out]; rfl, below_drewN hB _⟩
        · have hq : len < 36 := by omega
          rw [decide_eq_false h8, Bool.false_and, Bool.false_and] at HL1
          go_wp2_with fail
          go_ret
          exact ⟨by rw [H.out, HL.out, HL1.out]; rfl, below_drewN hB _⟩
end Go.Proofs.Ytpjonekkiojelaa
