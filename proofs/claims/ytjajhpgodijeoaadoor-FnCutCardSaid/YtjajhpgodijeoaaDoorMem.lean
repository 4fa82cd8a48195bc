/-
  What a slice of bytes reads as, and small lemmas on it. No condition: plain definitions and lemmas.
-/
import Derived.Test.YtjajhpgodijeoaaDoorRows
import Derived.WalkKit
import Derived.Lib.Hide
import Derived.BigQuiet
import Derived.Deep.QuietTactic
import Derived.WalkLawsBesides
import Derived.WalkSpells
import Derived.Lib.SlBytesConst
namespace Go.Proofs.YtjajhpgodijeoaaDoor
open Go.RowKit

/-- The slice value (a, len, cap) reads as the bytes xs in the world w. -/
structure SL (w : World) (a : Option Addr) (len cap : Nat) (xs : List Int) : Prop where
  hlen : xs.length = len
  hle : len ≤ cap
  hmx : cap ≤ maxLen
  hnil : a = none → cap = 0
  hbd : ∀ i, 0 ≤ xs.getD i 0 ∧ xs.getD i 0 ≤ 255
  hat : 0 < len → ∃ b off, a = some ⟨b, off, none⟩ ∧ ∀ i, i < len → w.cell? ⟨b, off + i, none⟩ = some (.int .u8 (xs.getD i 0))

theorem SL.take {w : World} {a : Option Addr} {len cap : Nat} {xs : List Int} (h : SL w a len cap xs) {n : Nat} (hn : n ≤ len) : SL w a n cap (xs.take n) := by
  obtain ⟨h1, h2, h3, h4, h5, h6⟩ := h
  refine ⟨by simp; omega, by omega, h3, h4, ?_, ?_⟩
  · intro i
    have := h5 i
    simp only [List.getD, List.getElem?_take] at this ⊢
    split <;> simp_all
  · intro hp
    obtain ⟨b, off, rfl, hc⟩ := h6 (by omega)
    refine ⟨b, off, rfl, fun i hi => ?_⟩
    rw [hc i (by omega)]
    simp only [List.getD, List.getElem?_take, if_pos hi]

theorem SL.world {w w' : World} {a : Option Addr} {len cap : Nat} {xs : List Int} (h : SL w a len cap xs) (hw : ∀ b o, b < w.heap.size → w'.cell? ⟨b, o, none⟩ = w.cell? ⟨b, o, none⟩) : SL w' a len cap xs := by
  obtain ⟨h1, h2, h3, h4, h5, h6⟩ := h
  refine ⟨h1, h2, h3, h4, h5, fun hp => ?_⟩
  obtain ⟨b, off, rfl, hc⟩ := h6 hp
  refine ⟨b, off, rfl, fun i hi => ?_⟩
  rw [hw b _ (World.block_lt_of_cell? w _ (hc i hi))]
  exact hc i hi

theorem SL.below {w w' : World} {a : Option Addr} {len cap : Nat} {xs : List Int} (h : SL w a len cap xs) (hb : Below w.heap.size w w') : SL w' a len cap xs :=
  h.world fun b o hlt => hb.cell (p := ⟨b, o, none⟩) hlt

/-- What an argument of bytes reads as. -/
theorem SL.of {w : World} {a : Option Addr} {len cap : Nat} {zs : List Int}
    (h : (a = none ∧ len = 0 ∧ cap = 0 ∧ zs = []) ∨ ∃ x, a = some x ∧ len ≤ cap ∧ cap ≤ maxLen ∧ zs.length = cap ∧ (∀ i, i < zs.length → w.cell? (x.add i) = some (.int .u8 (zs.getD i 0))) ∧ ∀ n ∈ zs, (Lit.int .u8 n).wf = true) :
    SL w a len cap (zs.take len) := by
  rcases h with ⟨rfl, rfl, rfl, rfl⟩ | ⟨x, rfl, hl, hm, hz, hc, hw⟩
  · exact ⟨rfl, Nat.le_refl _, Nat.zero_le _, fun _ => rfl, by intro i; simp, fun h => absurd h (by omega)⟩
  · refine ⟨by simp; omega, hl, hm, by simp, fun i => ?_, fun hp => ?_⟩
    · rcases Nat.lt_or_ge i (zs.take len).length with hi | hi
      · have hmem : (zs.take len)[i] ∈ zs := List.mem_of_mem_take (List.getElem_mem hi)
        have := hw _ hmem
        simp [Lit.wf, IntKind.min, IntKind.max, IntKind.signed, IntKind.bits] at this
        rw [List.getD, List.getElem?_eq_getElem hi, Option.getD_some, List.getElem_take]
        omega
      · rw [List.getD, List.getElem?_eq_none hi]
        simp
    · obtain ⟨b, off, spot⟩ := x
      have h0 := hc 0 (by omega)
      have hspot : spot = none := by simpa [Addr.add] using World.cell?_spot h0
      subst hspot
      refine ⟨b, off, rfl, fun i hi => ?_⟩
      have := hc i (by omega)
      rw [Addr.add_lit] at this
      rw [this]
      simp only [List.getD, List.getElem?_take, if_pos hi]

theorem SL.drew {w : World} {a : Option Addr} {len cap : Nat} {xs : List Int} (h : SL w a len cap xs) : SL w.drew a len cap xs := ⟨h.1, h.2, h.3, h.4, h.5, h.6⟩
theorem SL.drewN {w : World} {a : Option Addr} {len cap : Nat} {xs : List Int} (h : SL w a len cap xs) (n : Nat) : SL (w.drewN n) a len cap xs := ⟨h.1, h.2, h.3, h.4, h.5, h.6⟩
theorem SL.alloc {w : World} {a : Option Addr} {len cap : Nat} {xs : List Int} (h : SL w a len cap xs) (o : Obj) : SL (w.alloc o) a len cap xs :=
  h.below ((Below.refl _ _).alloc (Nat.le_refl _) o)
/-- A block whose first cells hold xs. -/
theorem SL.block {w : World} {b : Nat} {cs : Array Value} {e : TypeId} {fr : Nat × Nat} {xs : List Int} {n cap : Nat} (h : w.heap[b]? = some (.cells cs e fr)) (hn : xs.length = n) (hc : n ≤ cap) (hm : cap ≤ maxLen)
    (hb : ∀ x ∈ xs, 0 ≤ x ∧ x ≤ 255) (hx : ∀ i, i < n → cs[i]? = some (.int .u8 (xs.getD i 0))) : SL w (some ⟨b, 0, none⟩) n cap xs := by
  refine ⟨hn, hc, hm, by simp, fun i => ?_, fun _ => ⟨b, 0, rfl, fun i hi => ?_⟩⟩
  · rcases Nat.lt_or_ge i xs.length with hi | hi
    · have := hb xs[i] (List.getElem_mem hi)
      simpa [List.getD, List.getElem?_eq_getElem hi] using this
    · simp [List.getD, List.getElem?_eq_none hi]
  · simp [World.cell?, h, hx i hi]
theorem SL.made (w : World) (cs : Array Value) (e : TypeId) (fr : Nat × Nat) (xs : List Int) (n cap : Nat) (hn : xs.length = n) (hc : n ≤ cap) (hm : cap ≤ maxLen)
    (hb : ∀ x ∈ xs, 0 ≤ x ∧ x ≤ 255) (hx : ∀ i, i < n → cs[i]? = some (.int .u8 (xs.getD i 0))) : SL (w.alloc (.cells cs e fr)) (some ⟨w.heap.size, 0, none⟩) n cap xs :=
  SL.block (b := w.heap.size) (cs := cs) (e := e) (fr := fr) (by show (w.heap.push _)[w.heap.size]? = _; simp) hn hc hm hb hx

/-- The string of a slice of bytes. -/
theorem SL.conv {w : World} {a : Option Addr} {len cap : Nat} {xs : List Int} (h : SL w a len cap xs) :
    (convert 22 9 (.slice a len cap)).run Tryd.prog w = .ok (.string (strOfNums xs)) w := by
  obtain ⟨h1, h2, h3, h4, h5, h6⟩ := h
  rcases Nat.eq_zero_or_pos len with h0 | h0
  · subst h0
    obtain rfl : xs = [] := List.eq_nil_of_length_eq_zero h1
    cases a with
    | none => exact run_convert_bytes_nil w 22 5 Tryd.underlying22 Tryd.underlying5 0 cap 9 Tryd.underlying9
    | some x =>
      rw [run_convert_bytes_string w 22 9 5 _ 0 cap Tryd.underlying22 Tryd.underlying5 Tryd.underlying9, run_bytesToString w x 0 cap [] (by simp [loadCells]; rfl)]
      rfl
  · obtain ⟨b, off, rfl, hc⟩ := h6 h0
    exact run_convert_bytes_arg w 22 5 Tryd.underlying22 Tryd.underlying5 b off len cap xs h1 hc 9 Tryd.underlying9

/-- A constant string as a slice of bytes, behind a draw. -/
theorem kd (w : World) (C : Array Value) (n c : Nat) : (convert 22 22 (.slice (some ⟨w.heap.size, 0, none⟩) n c)).run Tryd.prog (w.alloc (.cells C 5)).drew = .ok (.slice (some ⟨w.heap.size, 0, none⟩) n c) (w.alloc (.cells C 5 (C.size, C.size + 1))).drew :=
  Lib.run_convert_bytes_const (P := Tryd.prog) w.drew 22 5 C n c Tryd.underlying22 Tryd.underlying5

/-- How long a line is without blanks and tabs at its end. -/
def tl : List Int → Nat → Nat
  | _, 0 => 0
  | xs, n + 1 => if xs.getD n 0 = 32 ∨ xs.getD n 0 = 9 then tl xs n else n + 1
theorem tl_le (xs : List Int) : ∀ n, tl xs n ≤ n
  | 0 => Nat.le_refl _
  | n + 1 => by
    unfold tl
    split
    · have := tl_le xs n; omega
    · omega
end Go.Proofs.YtjajhpgodijeoaaDoor
