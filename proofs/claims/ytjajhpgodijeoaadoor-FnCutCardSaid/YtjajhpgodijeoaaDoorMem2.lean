/-
  Parts of a slice of bytes, and worlds that only drew. Plain lemmas.
-/
import Derived.Test.YtjajhpgodijeoaaDoorMem
namespace Go.Proofs.YtjajhpgodijeoaaDoor
open Go.RowKit

theorem size22 : (sizeOf (Tryd.prog.elem 22)).run Tryd.prog = fun W => .ok 1 W := by kernel_rfl
theorem slice22 : Tryd.prog.underlying 22 = some (.slice (Tryd.prog.elem 22)) := by kernel_rfl

/-- A part of a slice, from its k-th element to its m-th. -/
theorem SL.subRun {w : World} {a : Option Addr} {len cap : Nat} {xs : List Int} (h : SL w a len cap xs) {k m : Nat} (hk : k ≤ m) (hm : m ≤ len) {lo hi : Int} (hlo : lo = k) (hhi : hi = m) :
    ∃ a', (∀ W : World, (Instr.slice 22 (.slice a len cap) (some (.int .i64 lo)) (some (.int .i64 hi)) none).run Tryd.prog W = .ok (.slice a' (m - k) (cap - k)) W) ∧ SL w a' (m - k) (cap - k) ((xs.drop k).take (m - k)) := by
  subst hlo hhi
  obtain ⟨h1, h2, h3, h4, h5, h6⟩ := h
  refine ⟨if cap = k then a else a.map (·.add (k * 1)), fun W => ?_, by simp; omega, by omega, by omega, ?_, fun i => ?_, fun hp => ?_⟩
  · rw [run_slice_lh W 22 a len cap slice22 .i64 .i64 k m (by omega) (by omega) (by omega), size22]
    simp only [Result.andThen, sliced, Int.toNat_natCast]
  · intro hn
    split at hn
    · omega
    · have : a = none := by cases a <;> simp at hn; rfl
      have := h4 this
      omega
  · have := h5 (k + i)
    simp only [List.getD, List.getElem?_take, List.getElem?_drop] at this ⊢
    split <;> simp_all
  · obtain ⟨b, off, rfl, hc⟩ := h6 (by omega)
    refine ⟨b, off + k, ?_, fun i hi => ?_⟩
    · rw [if_neg (by omega)]
      simp only [Option.map_some, Nat.mul_one, Addr.add_lit]
    · rw [Nat.add_assoc, hc (k + i) (by omega)]
      simp only [List.getD, List.getElem?_drop, List.getElem?_take, if_pos hi]

/-- What is left of a slice behind its first k elements. -/
theorem SL.fromRun {w : World} {a : Option Addr} {len cap : Nat} {xs : List Int} (h : SL w a len cap xs) {k : Nat} (hk : k ≤ len) {lo : Int} (hlo : lo = k) :
    ∃ a', (∀ W : World, (Instr.slice 22 (.slice a len cap) (some (.int .i64 lo)) none none).run Tryd.prog W = .ok (.slice a' (len - k) (cap - k)) W) ∧ SL w a' (len - k) (cap - k) (xs.drop k) := by
  subst hlo
  obtain ⟨a', hr, hS⟩ := h.subRun (Nat.le_trans hk (Nat.le_refl len)) (Nat.le_refl len) (lo := k) (hi := len) rfl rfl
  have e : ((xs.drop k).take (len - k)) = xs.drop k := List.take_of_length_le (by simp [h.hlen])
  rw [e] at hS
  refine ⟨a', fun W => ?_, hS⟩
  have := hr W
  obtain ⟨h1, h2, h3, h4, h5, h6⟩ := h
  rw [run_slice_lh W 22 a len cap slice22 .i64 .i64 k len (by omega) (by omega) (by omega), size22] at this
  rw [run_slice_l W 22 a len cap slice22 .i64 k (by omega) (by omega), size22]
  exact this

/-- The conversion in a world that only drew. -/
theorem SL.convN {w : World} {a : Option Addr} {len cap : Nat} {xs : List Int} (h : SL w a len cap xs) (n : Nat) :
    (convert 22 9 (.slice a len cap)).run Tryd.prog (w.drewN n) = .ok (.string (strOfNums xs)) (w.drewN n) := (h.drewN n).conv
theorem below_drewN {B : Nat} {a w : World} (h : Below B a w) (n : Nat) : Below B a (w.drewN n) := ⟨h.os, h.tape, h.output, h.size, h.block⟩
theorem SL.const (w : World) (cs : List Int) (o : Nat × Nat) (n : Nat) (hn : cs.length = n) (hm : n ≤ 100) (hb : ∀ x ∈ cs, 0 ≤ x ∧ x ≤ 255) :
    SL (w.alloc (.cells (cs.map (Value.int .u8)).toArray 5 o)) (some ⟨w.heap.size, 0, none⟩) n n cs :=
  SL.made w _ 5 o cs n n hn (Nat.le_refl _) (by unfold maxLen; omega) hb (fun i hi => by
    have : i < cs.length := by omega
    simp [List.getD, List.getElem?_eq_getElem this])
end Go.Proofs.YtjajhpgodijeoaaDoor
