/-
  Equal bytes; a pattern without question marks at the beginning of some bytes. No condition.
-/
import Derived.Test.YtpjonekkiojelaaMp4
namespace Go.Proofs.Ytpjonekkiojelaa
open Go.RowKit Go.PlainAid

def By (l : List Int) : Prop := ∀ n ∈ l, 0 ≤ n ∧ n ≤ 255
theorem SL.by {w : World} {a : Option Addr} {len cap : Nat} {xs : List Int} (h : SL w a len cap xs) : By xs := by
  intro n hn
  obtain ⟨i, hi, rfl⟩ := List.mem_iff_getElem.1 hn
  have := h.hbd i
  rwa [List.getD, List.getElem?_eq_getElem hi, Option.getD_some] at this
theorem ofNat_inj {a b : Int} (ha : 0 ≤ a ∧ a ≤ 255) (hb : 0 ≤ b ∧ b ≤ 255) (h : UInt8.ofNat a.toNat = UInt8.ofNat b.toNat) : a = b := by
  have := congrArg UInt8.toNat h
  simp at this
  omega
theorem map_inj : ∀ {l1 l2 : List Int}, By l1 → By l2 → (l1.map fun n => UInt8.ofNat n.toNat) = (l2.map fun n => UInt8.ofNat n.toNat) → l1 = l2
  | [], [], _, _, _ => rfl
  | [], _ :: _, _, _, h => by simp at h
  | _ :: _, [], _, _, h => by simp at h
  | a :: l1, b :: l2, h1, h2, h => by
    simp only [List.map_cons, List.cons.injEq] at h
    have e1 := ofNat_inj (h1 a (by simp)) (h2 b (by simp)) h.1
    have e2 := map_inj (l1 := l1) (l2 := l2) (fun n hn => h1 n (by simp [hn])) (fun n hn => h2 n (by simp [hn])) h.2
    rw [e1, e2]
theorem str_eq {l1 l2 : List Int} (h1 : By l1) (h2 : By l2) : ((strOfNums l1).toList == (strOfNums l2).toList) = decide (l1 = l2) := by
  rw [ByteArray.toList_eq, ByteArray.toList_eq, strOfNums_data, strOfNums_data, Bool.eq_iff_iff]
  simp only [beq_iff_eq, decide_eq_true_eq]
  exact ⟨map_inj h1 h2, fun h => by rw [h]⟩

/-- Does xs begin with ys? -/
def pre (xs ys : List Int) : Bool := decide (xs.take ys.length = ys)
theorem pre_iff {xs ys : List Int} : pre xs ys = true ↔ ys.length ≤ xs.length ∧ ∀ i, i < ys.length → xs.getD i 0 = ys.getD i 0 := by
  unfold pre
  rw [decide_eq_true_eq]
  constructor
  · intro h
    have hl := congrArg List.length h
    rw [List.length_take] at hl
    refine ⟨by omega, fun i hi => ?_⟩
    have := congrArg (fun l => List.getD l i 0) h
    simp only [List.getD, List.getElem?_take, if_pos hi] at this
    exact this
  · rintro ⟨hl, h⟩
    refine List.ext_getElem (by simp; omega) fun i h1 h2 => ?_
    have := h i h2
    rw [List.getD, List.getD, List.getElem?_eq_getElem h2, List.getElem?_eq_getElem (by omega)] at this
    rw [List.getElem_take]
    exact this
theorem begB_pre {xs ys : List Int} {p : ByteArray} (hp : p.size = ys.length) (hy : ∀ i, i < ys.length → bt p i = ys.getD i 0 ∧ (ys.getD i 0 == 63) = false) : begB xs p = pre xs ys := by
  rw [Bool.eq_iff_iff, pre_iff]
  unfold begB
  rw [hp, Bool.and_eq_true, decide_eq_true_eq, List.all_eq_true]
  constructor
  · rintro ⟨h1, h2⟩
    refine ⟨h1, fun i hi => ?_⟩
    have := h2 i (List.mem_range.2 hi)
    unfold begAt at this
    rw [(hy i hi).1, (hy i hi).2, Bool.false_or, beq_iff_eq] at this
    exact this
  · rintro ⟨h1, h2⟩
    refine ⟨h1, fun i hi => ?_⟩
    have hi := List.mem_range.1 hi
    unfold begAt
    rw [(hy i hi).1, (hy i hi).2, Bool.false_or, beq_iff_eq]
    exact h2 i hi

theorem equal_any (a1 a2 : Option Addr) (l1 c1 l2 c2 : Nat) (xs ys : List Int) (w : World) (h1 : SL w a1 l1 c1 xs) (h2 : SL w a2 l2 c2 ys) :
    Calls Try.prog 49 #[.slice a1 l1 c1, .slice a2 l2 c2] w fun e w' => e = .returned (.bool (decide (xs = ys))) ∧ w = w' := by
  have k1 := h1.conv
  have k2 := h2.conv
  have H := Lib.hid (str_eq h1.by h2.by)
  clear h1 h2
  go_enter Try.func49, Try.ntmps49
  go_wp2
  go_ret
  exact ⟨by rw [← H.out]; rfl, rfl⟩
end Go.Proofs.Ytpjonekkiojelaa
