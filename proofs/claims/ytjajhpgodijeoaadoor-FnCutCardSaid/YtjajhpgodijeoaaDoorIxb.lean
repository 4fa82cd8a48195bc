/-
  The first place of a byte.
-/
import Derived.Test.YtjajhpgodijeoaaDoorMem2
import Derived.Lib.BytesEntry
import Derived.Laws.Externs
import Derived.Outline
import Derived.Handy
namespace Go.Proofs.YtjajhpgodijeoaaDoor
open Go.RowKit

/-- The first place of c; the length if it is nowhere. -/
def ix : List Int → Int → Nat
  | [], _ => 0
  | x :: l, c => if x = c then 0 else ix l c + 1
theorem ix_le : ∀ (xs : List Int) (c : Int), ix xs c ≤ xs.length
  | [], _ => Nat.le_refl _
  | x :: l, c => by
    unfold ix
    split
    · exact Nat.zero_le _
    · have := ix_le l c
      simpa using this
theorem u8_inj {x y : Int} (hx : 0 ≤ x ∧ x ≤ 255) (hy : 0 ≤ y ∧ y ≤ 255) : (UInt8.ofNat x.toNat = UInt8.ofNat y.toNat) ↔ x = y := by
  constructor
  · intro h
    have h1 := congrArg UInt8.toNat h
    simp only [UInt8.toNat_ofNat'] at h1
    omega
  · rintro rfl
    rfl
/-- Its number, -1 for nowhere. -/
def ixi (xs : List Int) (c : Int) : Int := if ix xs c < xs.length then (ix xs c : Int) else -1
theorem ix_byte : ∀ (xs : List Int) (c : Int), (∀ x ∈ xs, 0 ≤ x ∧ x ≤ 255) → 0 ≤ c ∧ c ≤ 255 → Lib.indexByte (Lib.bytesOf xs) c.toNat.toUInt8 = ixi xs c
  | [], _, _, _ => by simp [Lib.bytesOf, Lib.indexByte, ixi, ix]
  | x :: l, c, hb, hc => by
    have ih := ix_byte l c (fun y hy => hb y (List.mem_cons_of_mem _ hy)) hc
    have hx := hb x List.mem_cons_self
    show (if (UInt8.ofNat x.toNat == c.toNat.toUInt8) = true then (0 : Int) else if (Lib.indexByte (Lib.bytesOf l) c.toNat.toUInt8 == -1) = true then -1 else Lib.indexByte (Lib.bytesOf l) c.toNat.toUInt8 + 1) = _
    rw [ih]
    have he : (UInt8.ofNat x.toNat == c.toNat.toUInt8) = decide (x = c) := by
      have := u8_inj hx hc
      rw [Bool.eq_iff_iff, beq_iff_eq, decide_eq_true_iff]
      exact this
    rw [he]
    by_cases h : x = c
    · simp [ixi, ix, h]
    · simp only [h, decide_false, Bool.false_eq_true, if_false, ixi, ix, List.length_cons]
      have := ix_le l c
      split <;> split <;> simp_all <;> omega

set_option maxRecDepth 100000 in
theorem ixb_any (b off len cap : Nat) (xs : List Int) (c : Int) (hc : 0 ≤ c ∧ c ≤ 255) (w : World) (h : SL w (some ⟨b, off, none⟩) len cap xs) :
    Calls Tryd.prog 63 #[.slice (some ⟨b, off, none⟩) len cap, .int .u8 c] w fun e w' => e = .returned (.int .i64 (ixi xs c)) ∧ w = w' := by
  have hb : ∀ x ∈ xs, 0 ≤ x ∧ x ≤ 255 := fun y hy => by
    obtain ⟨i, hi, rfl⟩ := List.mem_iff_getElem.1 hy
    have := h.hbd i
    rwa [List.getD, List.getElem?_eq_getElem hi] at this
  have hrun : (Extern.BytealgIndexByte.indexByte #[.slice (some ⟨b, off, none⟩) len cap, .int .u8 c]).run Tryd.prog w = .ok (.int .i64 (ixi xs c)) w := by
    rw [← ix_byte xs c hb hc]
    refine Lib.run_indexByteSlice w b off len cap xs h.hlen (fun i hi => ?_) c
    obtain ⟨b', off', he, hcl⟩ := h.hat (by omega)
    cases he
    exact hcl i hi
  clear hb hc h
  generalize ixi xs c = q at hrun ⊢
  go_enter Tryd.func63, Tryd.ntmps63
  go_wp2
  rw [run_callFunc_extern Tryd.func67 (by kernel_rfl) (by kernel_rfl) (by kernel_rfl) (e := Extern.BytealgIndexByte.indexByte) (by kernel_rfl), hrun]
  simp only [Result.andThen]
  rw [Oper.upon_value]
  go_wp2
  go_ret
  exact ⟨rfl, rfl⟩
end Go.Proofs.YtjajhpgodijeoaaDoor
