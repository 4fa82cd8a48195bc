/-
  What the reader of chunks does with a beginning of a body: plain definitions and lemmas, no program in sight.
-/
import Derived.Test.YtjajhpgodijeoaaDoorHex
import Derived.Test.YtjajhpgodijeoaaDoorExt
namespace Go.Proofs.YtjajhpgodijeoaaDoor
open Go.RowKit

/-- How many digits stand at the beginning of a line: what is left of it without blanks at the end and without an extension. -/
def pd (l : List Int) : Nat := bef (l.take (tl l l.length))
/-- A line ahead of a chunk of n bytes. -/
structure LineOk (l : List Int) (n : Nat) : Prop where
  h10 : 10 ∉ l
  h13 : 13 ∉ l
  hl : l.length ≤ 4000
  hp : 1 ≤ pd l
  hq : pd l ≤ 16
  hx : ∀ i, i < pd l → isHex (l.getD i 0) = true
  hv : hv l (pd l) = n
  hn : n < 2305843009213693952
/-- The excess behind a line. -/
def nx (ex len n : Nat) : Nat := ex + len + 2 - (16 + 2 * n)

/-- What the reader does, in at most f steps: n bytes of the chunk are to come; c: the end of a chunk is to come; ex: the excess; s: the bytes to come; o: the data; e: is it a whole body? -/
def RunF : Nat → Nat → Bool → Nat → List Int → List Int → Bool → Prop
  | 0, _, _, _, _, _, _ => False
  | f + 1, n, c, ex, s, o, e =>
    (c = true ∧ n = 0 ∧ ((s.length < 2 ∧ o = [] ∧ e = false) ∨ ∃ t, s = 13 :: 10 :: t ∧ RunF f 0 false ex t o e)) ∨
    (c = false ∧ n = 0 ∧ ((10 ∉ s ∧ s.length ≤ 4000 ∧ o = [] ∧ e = false) ∨
      ∃ l t m, s = l ++ 13 :: 10 :: t ∧ LineOk l m ∧ nx ex l.length m ≤ 16384 ∧ ((0 < m ∧ RunF f m false (nx ex l.length m) t o e) ∨ (m = 0 ∧ o = [] ∧ e = true)))) ∨
    (c = false ∧ 0 < n ∧ ((s.length < n ∧ o = s ∧ e = false) ∨ (n ≤ s.length ∧ ∃ p, RunF f 0 true ex (s.drop n) p e ∧ o = s.take n ++ p)))
/-- What the reader does. -/
def Run (n : Nat) (c : Bool) (ex : Nat) (s o : List Int) (e : Bool) : Prop := ∃ f, RunF f n c ex s o e

theorem Run.endCut {ex : Nat} {s : List Int} (h : s.length < 2) : Run 0 true ex s [] false := ⟨1, .inl ⟨rfl, rfl, .inl ⟨h, rfl, rfl⟩⟩⟩
theorem Run.crlf {ex : Nat} {s t o : List Int} {e : Bool} (h : s = 13 :: 10 :: t) (r : Run 0 false ex t o e) : Run 0 true ex s o e := by
  obtain ⟨f, r⟩ := r
  exact ⟨f + 1, .inl ⟨rfl, rfl, .inr ⟨t, h, r⟩⟩⟩
theorem Run.lineCut {ex : Nat} {s : List Int} (h : 10 ∉ s) (hl : s.length ≤ 4000) : Run 0 false ex s [] false := ⟨1, .inr (.inl ⟨rfl, rfl, .inl ⟨h, hl, rfl, rfl⟩⟩)⟩
theorem Run.line {ex n : Nat} {s l t o : List Int} {e : Bool} (h : s = l ++ 13 :: 10 :: t) (hl : LineOk l n) (hn : 0 < n) (hx : nx ex l.length n ≤ 16384) (r : Run n false (nx ex l.length n) t o e) : Run 0 false ex s o e := by
  obtain ⟨f, r⟩ := r
  exact ⟨f + 1, .inr (.inl ⟨rfl, rfl, .inr ⟨l, t, n, h, hl, hx, .inl ⟨hn, r⟩⟩⟩)⟩
theorem Run.last {ex : Nat} {s l t : List Int} (h : s = l ++ 13 :: 10 :: t) (hl : LineOk l 0) (hx : nx ex l.length 0 ≤ 16384) : Run 0 false ex s [] true :=
  ⟨1, .inr (.inl ⟨rfl, rfl, .inr ⟨l, t, 0, h, hl, hx, .inr ⟨rfl, rfl, rfl⟩⟩⟩)⟩
theorem Run.dataCut {n ex : Nat} {s : List Int} (h : s.length < n) : Run n false ex s s false := ⟨1, .inr (.inr ⟨rfl, by omega, .inl ⟨h, rfl, rfl⟩⟩)⟩
theorem Run.data {n ex : Nat} {s o p : List Int} {e : Bool} (hn : 0 < n) (h : n ≤ s.length) (r : Run 0 true ex (s.drop n) p e) (ho : o = s.take n ++ p) : Run n false ex s o e := by
  obtain ⟨f, r⟩ := r
  exact ⟨f + 1, .inr (.inr ⟨rfl, hn, .inr ⟨h, p, r, ho⟩⟩)⟩

theorem RunF.len : ∀ (f : Nat) {n : Nat} {c : Bool} {ex : Nat} {s o : List Int} {e : Bool}, RunF f n c ex s o e → o.length ≤ s.length
  | 0, _, _, _, _, _, _, h => h.elim
  | f + 1, n, c, ex, s, o, e, h => by
    rcases h with ⟨_, _, ⟨_, rfl, _⟩ | ⟨t, rfl, r⟩⟩ | ⟨_, _, ⟨_, _, rfl, _⟩ | ⟨l, t, m, rfl, _, _, ⟨_, r⟩ | ⟨_, rfl, _⟩⟩⟩ | ⟨_, _, ⟨_, rfl, _⟩ | ⟨hn, p, r, rfl⟩⟩
    · simp
    · have := RunF.len f r
      simp
      omega
    · simp
    · have := RunF.len f r
      simp
      omega
    · simp
    · omega
    · have := RunF.len f r
      simp at this ⊢
      omega
theorem Run.len {n : Nat} {c : Bool} {ex : Nat} {s o : List Int} {e : Bool} (h : Run n c ex s o e) : o.length ≤ s.length := by
  obtain ⟨f, h⟩ := h
  exact RunF.len f h
/-- Within a chunk. -/
theorem Run.inside {n ex : Nat} {s o : List Int} {e : Bool} (h : Run n false ex s o e) (hn : 0 < n) : (s.length < n ∧ o = s ∧ e = false) ∨ (n ≤ s.length ∧ ∃ p, Run 0 true ex (s.drop n) p e ∧ o = s.take n ++ p) := by
  obtain ⟨f, h⟩ := h
  cases f with
  | zero => exact h.elim
  | succ f =>
    rcases h with ⟨h, _⟩ | ⟨_, h, _⟩ | ⟨_, _, h | ⟨h, p, r, ho⟩⟩
    · cases h
    · omega
    · exact .inl h
    · exact .inr ⟨h, p, ⟨f, r⟩, ho⟩
/-- Some bytes of a chunk are read. -/
theorem Run.take {n ex : Nat} {s o : List Int} {e : Bool} (h : Run n false ex s o e) {m : Nat} (h0 : 1 ≤ m) (hm : m ≤ n) (hs : m ≤ s.length) :
    o.take m = s.take m ∧ m ≤ o.length ∧ Run (n - m) (decide (n - m = 0)) ex (s.drop m) (o.drop m) e := by
  rcases h.inside (by omega) with ⟨h, rfl, rfl⟩ | ⟨h, p, r, ho⟩
  · refine ⟨rfl, hs, ?_⟩
    have : decide (n - m = 0) = false := by simp; omega
    rw [this]
    exact .dataCut (by simp; omega)
  · subst ho
    have ht : (s.take n).length = n := by simp; omega
    refine ⟨by rw [List.take_append_of_le_length (by omega), List.take_take, Nat.min_eq_left hm], by simp; omega, ?_⟩
    rw [List.drop_append_of_le_length (by omega)]
    rcases Nat.eq_or_lt_of_le hm with rfl | hlt
    · have : (s.take m).drop m = [] := by simp
      rw [this, Nat.sub_self]
      exact r
    · have : decide (n - m = 0) = false := by simp; omega
      rw [this]
      refine .data (by omega) (by simp; omega) (p := p) ?_ ?_
      · rw [List.drop_drop, show m + (n - m) = n by omega]
        exact r
      · rw [List.drop_take]
/-- At the end of what is there, within a chunk. -/
theorem Run.dry {n ex : Nat} {o : List Int} {e : Bool} (h : Run n false ex [] o e) (hn : 0 < n) : o = [] ∧ e = false := by
  rcases h.inside hn with ⟨_, h1, h2⟩ | ⟨h, _⟩
  · exact ⟨h1, h2⟩
  · simp at h
    omega
/-- Behind a chunk: its end, or too little is left. -/
theorem Run.foot {n ex : Nat} {s o : List Int} {e : Bool} (h : Run n true ex s o e) : n = 0 ∧ ((s.length < 2 ∧ o = [] ∧ e = false) ∨ ∃ t, s = 13 :: 10 :: t ∧ Run 0 false ex t o e) := by
  obtain ⟨f, h⟩ := h
  cases f with
  | zero => exact h.elim
  | succ f =>
    rcases h with ⟨_, h0, h | ⟨t, h, r⟩⟩ | ⟨h, _⟩ | ⟨h, _⟩
    · exact ⟨h0, .inl h⟩
    · exact ⟨h0, .inr ⟨t, h, f, r⟩⟩
    · cases h
    · cases h
/-- Ahead of a chunk. -/
theorem Run.head {ex : Nat} {s o : List Int} {e : Bool} (h : Run 0 false ex s o e) : (10 ∉ s ∧ s.length ≤ 4000 ∧ o = [] ∧ e = false) ∨
    ∃ l t n, s = l ++ 13 :: 10 :: t ∧ LineOk l n ∧ nx ex l.length n ≤ 16384 ∧ ((0 < n ∧ Run n false (nx ex l.length n) t o e) ∨ (n = 0 ∧ o = [] ∧ e = true)) := by
  obtain ⟨f, h⟩ := h
  cases f with
  | zero => exact h.elim
  | succ f =>
    rcases h with ⟨h, _⟩ | ⟨_, _, h | ⟨l, t, m, hs, hl, hx, ⟨hm, r⟩ | h⟩⟩ | ⟨_, h, _⟩
    · cases h
    · exact .inl h
    · exact .inr ⟨l, t, m, hs, hl, hx, .inl ⟨hm, f, r⟩⟩
    · exact .inr ⟨l, t, m, hs, hl, hx, .inr h⟩
    · omega
theorem lineOk_one {c : Int} {n : Nat} (h10 : c ≠ 10) (h13 : c ≠ 13) (hb : pd [c] = 1) (hh : isHex c = true) (hv1 : hv [c] 1 = n) (hn : n < 2305843009213693952) : LineOk [c] n := by
  refine ⟨by simpa using Ne.symm h10, by simpa using Ne.symm h13, by simp, by omega, by omega, ?_, by rw [hb]; exact hv1, hn⟩
  intro i hi
  have : i = 0 := by omega
  subst this
  exact hh
/-- The smallest body. -/
theorem run_works : Run 0 false 0 [49, 13, 10, 97, 13, 10, 48, 13, 10] [97] true := by
  refine .line (l := [49]) (t := [97, 13, 10, 48, 13, 10]) (n := 1) rfl (lineOk_one (by decide) (by decide) (by decide) (by decide) (by decide) (by decide)) (by decide) (by decide) ?_
  refine .data (p := []) (by decide) (by decide) ?_ rfl
  refine .crlf (t := [48, 13, 10]) rfl ?_
  exact .last (l := [48]) (t := []) rfl (lineOk_one (by decide) (by decide) (by decide) (by decide) (by decide) (by decide)) (by decide)
end Go.Proofs.YtjajhpgodijeoaaDoor
