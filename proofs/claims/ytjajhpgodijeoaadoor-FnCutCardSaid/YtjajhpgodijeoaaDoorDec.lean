/-
  What the reference finds at the beginning of some bytes, in words of the reader: plain lemmas.
-/
import Derived.Test.YtjajhpgodijeoaaDoorRun
import Derived.Test.YtjajhpgodijeoaaDoorIxb
namespace Go.Proofs.YtjajhpgodijeoaaDoor
open Go.RowKit

theorem lt_tl {xs : List Int} {i : Nat} (hw : ¬ (xs.getD i 0 = 32 ∨ xs.getD i 0 = 9)) : ∀ n, i < n → i < tl xs n
  | 0, h => by omega
  | n + 1, h => by
    unfold tl
    rcases Nat.eq_or_lt_of_le (Nat.le_of_lt_succ h) with rfl | hlt
    · rw [if_neg hw]; omega
    · split
      · exact lt_tl hw n hlt
      · omega
theorem bef_eq : ∀ {xs : List Int} {d : Nat}, d ≤ xs.length → (∀ i, i < d → xs.getD i 0 ≠ 59) → (d = xs.length ∨ xs.getD d 0 = 59) → bef xs = d
  | [], d, h, _, _ => by simp at h; subst h; rfl
  | c :: r, 0, _, _, h => by
    have : c = 59 := by
      rcases h with h | h
      · simp at h
      · simpa using h
    unfold bef
    rw [if_pos this]
  | c :: r, d + 1, h1, h2, h3 => by
    have : ¬ c = 59 := by simpa using h2 0 (by omega)
    unfold bef
    rw [if_neg this, bef_eq (xs := r) (d := d) (by simpa using h1) (fun i hi => by simpa using h2 (i + 1) (by omega)) (by simpa using h3)]
theorem isHex_not {c : Int} (h : isHex c = true) : c ≠ 59 ∧ c ≠ 32 ∧ c ≠ 9 := by
  rcases isHex_cases c with ⟨_, h⟩ | ⟨h', _⟩
  · omega
  · rw [h] at h'; cases h'
theorem getD_take {xs : List Int} {i m : Nat} (h : i < m) : (xs.take m).getD i 0 = xs.getD i 0 := by
  simp only [List.getD, List.getElem?_take, if_pos h]
theorem hv_take (xs : List Int) (m : Nat) : ∀ k, k ≤ m → hv (xs.take m) k = hv xs k
  | 0, _ => rfl
  | k + 1, h => by
    unfold hv
    rw [hv_take xs m k (by omega), getD_take (by omega)]
/-- How many digits stand in front. -/
def dg : List Int → Nat
  | [] => 0
  | c :: r => if isHex c then dg r + 1 else 0
theorem dg_le : ∀ xs, dg xs ≤ xs.length
  | [] => Nat.le_refl _
  | c :: r => by
    unfold dg
    have := dg_le r
    split <;> simp
    omega
theorem dg_hit : ∀ {xs : List Int} {i : Nat}, i < dg xs → isHex (xs.getD i 0) = true
  | [], _, h => by simp [dg] at h
  | c :: r, i, h => by
    unfold dg at h
    split at h
    · cases i with
      | zero => simpa
      | succ i => simpa using dg_hit (xs := r) (i := i) (by omega)
    · omega
theorem dg_at : ∀ {xs : List Int}, dg xs < xs.length → isHex (xs.getD (dg xs) 0) = false
  | [], h => by simp [dg] at h
  | c :: r, h => by
    unfold dg at h ⊢
    split
    · rw [if_pos ‹_›] at h
      simpa using dg_at (xs := r) (by simpa using h)
    · simpa using ‹¬ isHex c = true›
/-- A line that the reference takes for one of a chunk. -/
theorem lineOk_of {l : List Int} {n : Nat} (h10 : 10 ∉ l) (h13 : 13 ∉ l) (hl : l.length ≤ 4000) (h1 : 1 ≤ dg l) (h2 : dg l ≤ 16) (h3 : dg l = l.length ∨ l.getD (dg l) 0 = 59) (hn : hv l (dg l) = n) (hm : n < 2305843009213693952) : LineOk l n := by
  have hle := dg_le l
  have hT := tl_le l l.length
  have hT1 : dg l ≤ tl l l.length := by
    have := lt_tl (xs := l) (i := dg l - 1) (by have := isHex_not (dg_hit (xs := l) (i := dg l - 1) (by omega)); omega) l.length (by omega)
    omega
  have hp : pd l = dg l := by
    refine bef_eq (by rw [List.length_take]; omega) (fun i hi => ?_) ?_
    · rw [getD_take (by omega)]
      exact (isHex_not (dg_hit hi)).1
    · rcases Nat.lt_or_ge (dg l) (tl l l.length) with h | h
      · rcases h3 with h3 | h3
        · omega
        · exact .inr (by rw [getD_take h]; exact h3)
      · exact .inl (by rw [List.length_take]; omega)
  refine ⟨h10, h13, hl, by omega, by omega, fun i hi => dg_hit (by omega), by rw [hp]; exact hn, hm⟩
theorem hv_nonneg (xs : List Int) (k : Nat) : 0 ≤ hv xs k := (hv_bd xs k).1

theorem ix_lt {xs : List Int} {c : Int} {i : Nat} (h : i < ix xs c) : xs.getD i 0 ≠ c := by
  induction xs generalizing i with
  | nil => simp [ix] at h
  | cons x l ih =>
    unfold ix at h
    split at h
    · omega
    · cases i with
      | zero => simpa using ‹¬ x = c›
      | succ i => simpa using ih (i := i) (by omega)
theorem ix_at {xs : List Int} {c : Int} (h : ix xs c < xs.length) : xs.getD (ix xs c) 0 = c := by
  induction xs with
  | nil => simp [ix] at h
  | cons x l ih =>
    unfold ix at h ⊢
    split
    · simpa using ‹x = c›
    · rw [if_neg ‹_›] at h
      simpa using ih (by simpa using h)
theorem ix_none {xs : List Int} {c : Int} : ix xs c = xs.length ↔ c ∉ xs := by
  induction xs with
  | nil => simp [ix]
  | cons x l ih =>
    unfold ix
    split
    · rename_i h
      subst h
      simp
    · rename_i h
      simp [ih, Ne.symm h]
theorem not_mem_take_ix {xs : List Int} {c : Int} {n : Nat} (h : n ≤ ix xs c) : c ∉ xs.take n := by
  intro hm
  obtain ⟨i, hi, he⟩ := List.mem_iff_getElem.1 hm
  simp at hi
  rw [List.getElem_take] at he
  have := ix_lt (xs := xs) (c := c) (i := i) (by omega)
  rw [List.getD, List.getElem?_eq_getElem (by omega), Option.getD_some] at this
  exact this he
theorem ix_append {l t : List Int} {c : Int} (h : c ∉ l) : ix (l ++ c :: t) c = l.length := by
  induction l with
  | nil => simp [ix]
  | cons x l ih =>
    have : ¬ x = c := fun e => h (by simp [e])
    simp only [List.cons_append, ix, if_neg this, List.length_cons]
    rw [ih (fun hm => h (by simp [hm]))]
theorem split_at {xs : List Int} {n : Nat} {c : Int} (hn : n < xs.length) (h : xs.getD n 0 = c) : xs = xs.take n ++ c :: xs.drop (n + 1) := by
  have : xs.drop n = c :: xs.drop (n + 1) := by
    rw [List.drop_eq_getElem_cons hn]
    rw [List.getD, List.getElem?_eq_getElem hn, Option.getD_some] at h
    rw [h]
  rw [← this, List.take_append_drop]
/-- What line answers of some bytes. -/
def LineAns (xs : List Int) (n : Nat) (k : Int) : Prop :=
  (k = 0 ∧ ∃ l t, xs = l ++ 13 :: 10 :: t ∧ l.length = n ∧ 10 ∉ l ∧ 13 ∉ l ∧ n ≤ 4000) ∨ (k = 2 ∧ 10 ∉ xs ∧ xs.length ≤ 4000) ∨ k = 3
theorem lineAns_whole {xs : List Int} {m n : Nat} (hm : ix xs 10 = m) (hl : m ≤ 4000) (hlt : m < xs.length) (hn : m = n + 1) (h13 : xs.getD n 0 = 13) (hno : 13 ∉ xs.take n) : LineAns xs n 0 := by
  subst hm
  refine .inl ⟨rfl, xs.take n, xs.drop (n + 2), ?_, by simp; omega, not_mem_take_ix (by omega), hno, by omega⟩
  have h1 := split_at (by omega) h13
  have h2 := split_at hlt (ix_at hlt)
  conv => lhs; rw [h1]
  congr 2
  have hd : xs.drop (n + 1) = 10 :: xs.drop (n + 2) := by
    have h3 := ix_at hlt
    rw [hn] at h3 hlt
    rw [List.drop_eq_getElem_cons hlt]
    rw [List.getD, List.getElem?_eq_getElem hlt, Option.getD_some] at h3
    rw [h3]
  exact hd
theorem lineAns_cut {xs : List Int} (hm : ix xs 10 = xs.length) (hl : xs.length ≤ 4000) : LineAns xs 0 2 := .inr (.inl ⟨rfl, ix_none.1 hm, hl⟩)
theorem lineAns_else (xs : List Int) : LineAns xs 0 3 := .inr (.inr rfl)
/-- What size answers of a line. -/
def SizeAns (l : List Int) (n : Nat) (k : Int) : Prop :=
  (k = 0 ∧ 1 ≤ dg l ∧ dg l ≤ 16 ∧ (dg l = l.length ∨ l.getD (dg l) 0 = 59) ∧ hv l (dg l) = n ∧ n < 2305843009213693952) ∨ k = 1 ∨ k = 3

/-- From here on the reader does what it does from the beginning on. -/
def Comes (body s : List Int) (extra : Nat) : Prop := ∃ ex, ex ≤ extra ∧ ∀ o e, Run 0 false ex s o e → ∃ o', Run 0 false 0 body o' e
theorem Comes.start (body : List Int) : Comes body body 0 := ⟨0, Nat.le_refl _, fun o _ h => ⟨o, h⟩⟩
theorem nx_le {ex len n : Nat} : nx ex len n ≤ ex + len := by unfold nx; omega
/-- A whole chunk. -/
theorem Comes.next {body s l t : List Int} {extra n : Nat} (h : Comes body s extra) (hs : s = l ++ 13 :: 10 :: t) (hl : LineOk l n) (hx : extra + l.length ≤ 10000) (hn : 0 < n) (hlen : n + 2 ≤ t.length) (h0 : t.getD n 0 = 13) (h1 : t.getD (n + 1) 0 = 10) :
    Comes body (t.drop (n + 2)) (extra + l.length) := by
  obtain ⟨ex, he, h⟩ := h
  have hnx := @nx_le ex l.length n
  refine ⟨nx ex l.length n, by omega, fun o e hr => ?_⟩
  refine h (t.take n ++ o) e (.line hs hl hn (by omega) (.data hn (by omega) (.crlf (t := t.drop (n + 2)) ?_ hr) rfl))
  rw [List.drop_eq_getElem_cons (by omega), List.drop_eq_getElem_cons (by omega)]
  rw [List.getD, List.getElem?_eq_getElem (by omega), Option.getD_some] at h0 h1
  rw [h0, h1]
/-- The body ends within a chunk. -/
theorem Comes.cutData {body s l t : List Int} {extra n : Nat} (h : Comes body s extra) (hs : s = l ++ 13 :: 10 :: t) (hl : LineOk l n) (hx : extra + l.length ≤ 10000) (hn : 0 < n) (hlen : t.length < n) : ∃ o, Run 0 false 0 body o false := by
  obtain ⟨ex, he, h⟩ := h
  have hnx := @nx_le ex l.length n
  exact h _ _ (.line hs hl hn (by omega) (.dataCut hlen))
/-- It ends behind a chunk. -/
theorem Comes.cutEnd {body s l t : List Int} {extra n : Nat} (h : Comes body s extra) (hs : s = l ++ 13 :: 10 :: t) (hl : LineOk l n) (hx : extra + l.length ≤ 10000) (hn : 0 < n) (hlen : n ≤ t.length) (hlt : t.length < n + 2) : ∃ o, Run 0 false 0 body o false := by
  obtain ⟨ex, he, h⟩ := h
  have hnx := @nx_le ex l.length n
  exact h _ _ (.line hs hl hn (by omega) (.data hn hlen (.endCut (by simp; omega)) rfl))
/-- It ends ahead of a chunk. -/
theorem Comes.cutLine {body s : List Int} {extra : Nat} (h : Comes body s extra) (h10 : 10 ∉ s) (hl : s.length ≤ 4000) : ∃ o, Run 0 false 0 body o false := by
  obtain ⟨ex, he, h⟩ := h
  exact h _ _ (.lineCut h10 hl)
end Go.Proofs.YtjajhpgodijeoaaDoor
