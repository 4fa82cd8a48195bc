/-
  What the buffered reader and the reader beneath it hold; and the two smallest functions on it.
-/
import Derived.Test.YtjajhpgodijeoaaDoorBlk
import Derived.Outline
import Derived.Handy
namespace Go.Proofs.YtjajhpgodijeoaaDoor
open Go.RowKit

/-- The cells of a buffered reader. -/
def bB (A C r v : Nat) (err lb lr : Value) : List Value := [.slice (some ⟨C, 0, none⟩) 4096 4096, .iface 50 (.pointer (some ⟨A, 0, none⟩)), .int .i64 r, .int .i64 v, err, lb, lr]

/-- The reader beneath: zs is left. -/
structure Un (w : World) (A base : Nat) (zs : List Int) (ra : Option Addr) (rl rc : Nat) (pa : Option Addr) (pl pc k : Nat) : Prop where
  blk : Blk w A [.slice ra rl rc, .slice pa pl pc, .int .i64 k, .bool false] 52
  sl : SL w ra rl rc zs
  il : IL w pa pl pc
  hk : k + rl ≤ 2147483648
  hra : 0 < rl → ∀ x, ra = some x → x.block < base
  hpa : 0 < pl → ∀ x, pa = some x → x.block < base

theorem Un.fr {w w' : World} {A base : Nat} {zs : List Int} {ra : Option Addr} {rl rc : Nat} {pa : Option Addr} {pl pc k : Nat} (h : Un w A base zs ra rl rc pa pl pc k) {S : List Nat} (hf : Fr S w w') (hA : A ∉ S) (hS : ∀ b ∈ S, base ≤ b) : Un w' A base zs ra rl rc pa pl pc k :=
  ⟨hf.blk h.blk hA, h.sl.fr0 hf (fun hp x hx hm => by have := hS _ hm; have := h.hra hp x hx; omega), h.il.fr0 hf (fun hp x hx hm => by have := hS _ hm; have := h.hpa hp x hx; omega), h.hk, h.hra, h.hpa⟩

/-- The buffered reader B with its bytes C, and the reader A beneath: ys lie in C from r to v, zs is left beneath. -/
structure St (w : World) (A B C base r v : Nat) (err : Value) (ys zs : List Int) : Prop where
  b : ∃ lb lr, Blk w B (bB A C r v err lb lr) 90
  c : ∃ cs, Blk w C cs 5 ∧ cs.length = 4096 ∧ (cs.drop r).take ys.length = cells ys
  un : ∃ ra rl rc pa pl pc k, Un w A base zs ra rl rc pa pl pc k
  len : r + ys.length = v
  hv : v ≤ 4096
  bd : ∀ y ∈ ys, 0 ≤ y ∧ y ≤ 255
  AB : A ≠ B
  AC : A ≠ C
  BC : B ≠ C
  hA : base ≤ A
  hB : base ≤ B
  hC : base ≤ C

theorem St.fr {w w' : World} {A B C base r v : Nat} {err : Value} {ys zs : List Int} (h : St w A B C base r v err ys zs) {S : List Nat} (hf : Fr S w w') (hA : A ∉ S) (hB : B ∉ S) (hC : C ∉ S) (hS : ∀ b ∈ S, base ≤ b) : St w' A B C base r v err ys zs := by
  obtain ⟨⟨lb, lr, b⟩, ⟨cs, c, c2, c3⟩, ⟨ra, rl, rc, pa, pl, pc, k, un⟩, h1, h2, h3, h4, h5, h6, h7, h8, h9⟩ := h
  exact ⟨⟨lb, lr, hf.blk b hB⟩, ⟨cs, hf.blk c hC, c2, c3⟩, ⟨ra, rl, rc, pa, pl, pc, k, un.fr hf hA hS⟩, h1, h2, h3, h4, h5, h6, h7, h8, h9⟩
theorem St.drewN {w : World} {A B C base r v : Nat} {err : Value} {ys zs : List Int} (h : St w A B C base r v err ys zs) (n : Nat) : St (w.drewN n) A B C base r v err ys zs :=
  h.fr ((Fr.refl [] w).drewN n) (by simp) (by simp) (by simp) (by simp)
/-- A store into the buffered reader. -/
theorem St.put {w : World} {A B C base r v : Nat} {err : Value} {ys zs : List Int} (h : St w A B C base r v err ys zs) {i : Nat} {x : Value} {r' v' : Nat} {err' : Value} {ys' : List Int}
    (hx : ∀ lb lr, ∃ lb' lr', (bB A C r v err lb lr).set i x = bB A C r' v' err' lb' lr') (hc : ∀ cs : List Value, cs.length = 4096 → (cs.drop r).take ys.length = cells ys → (cs.drop r').take ys'.length = cells ys') (hl : r' + ys'.length = v') (hv : v' ≤ 4096) (hb : ∀ y ∈ ys', 0 ≤ y ∧ y ≤ 255) :
    St (w.setCell ⟨B, i, none⟩ x) A B C base r' v' err' ys' zs := by
  obtain ⟨⟨lb, lr, b⟩, ⟨cs, c, c2, c3⟩, ⟨ra, rl, rc, pa, pl, pc, k, un⟩, h1, h2, h3, h4, h5, h6, h7, h8, h9⟩ := h
  obtain ⟨lb', lr', hq⟩ := hx lb lr
  have hf : Fr [B] w (w.setCell ⟨B, i, none⟩ x) := (Fr.refl _ _).setCell (by simp) _
  exact ⟨⟨lb', lr', hq ▸ b.set i x⟩, ⟨cs, hf.blk c (by simpa using Ne.symm h6), c2, hc cs c2 c3⟩, ⟨ra, rl, rc, pa, pl, pc, k, un.fr hf (by simpa using h4) (by simpa using h8)⟩, hl, hv, hb, h4, h5, h6, h7, h8, h9⟩

/-- How many bytes lie in the buffer. -/
theorem buffered_any {w : World} {A B C base r v : Nat} {err : Value} {ys zs : List Int} (h : St w A B C base r v err ys zs) :
    Calls Tryd.prog 50 #[.pointer (some ⟨B, 0, none⟩)] w fun e w' => e = .returned (.int .i64 ys.length) ∧ ∃ n, w' = w.drewN n := by
  obtain ⟨⟨lb, lr, b⟩, _, _, h1, h2, _⟩ := h
  have hB2 := b.cell (i := 2) rfl
  have hB3 := b.cell (i := 3) rfl
  clear b
  go_enter Tryd.func50, Tryd.ntmps50
  go_wp2_with fail
  go_quiet (fail)
  all_goals go_wp2
  go_ret
  exact ⟨by simp; omega, _, rfl⟩

/-- The error, which is then none. -/
theorem readErr_any {w : World} {A B C base r v : Nat} {err : Value} {ys zs : List Int} (h : St w A B C base r v err ys zs) :
    Calls Tryd.prog 51 #[.pointer (some ⟨B, 0, none⟩)] w fun e w' => e = .returned err ∧ St w' A B C base r v .nilIface ys zs ∧ Fr [B] w w' := by
  obtain ⟨lb, lr, b⟩ := h.b
  have hB4 := b.cell (i := 4) rfl
  have fB4 := b.frozen 4
  have HS := Lib.hid h
  clear b h
  go_enter Tryd.func51, Tryd.ntmps51
  go_wp2
  go_ret
  exact ⟨rfl, HS.out.put (fun lb lr => ⟨lb, lr, rfl⟩) (fun _ _ h => h) HS.out.len HS.out.hv HS.out.bd, (Fr.refl _ _).setCell (by simp) _⟩
end Go.Proofs.YtjajhpgodijeoaaDoor
