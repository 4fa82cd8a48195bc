/-
  The parts of reading chunks, each in one way.
-/
import Derived.Test.YtjajhpgodijeoaaDoorPek
namespace Go.Proofs.YtjajhpgodijeoaaDoor
open Go.RowKit

theorem Left.fr {w w' : World} {A B C base : Nat} {s : List Int} (h : Left w A B C base s) {S : List Nat} (hf : Fr S w w') (hA : A ∉ S) (hB : B ∉ S) (hC : C ∉ S) (hS : ∀ b ∈ S, base ≤ b) : Left w' A B C base s := by
  obtain ⟨r, v, ys, zs, h, e⟩ := h
  exact ⟨r, v, ys, zs, h.fr hf hA hB hC hS, e⟩
theorem Left.drewN {w : World} {A B C base : Nat} {s : List Int} (h : Left w A B C base s) (n : Nat) : Left (w.drewN n) A B C base s := by
  obtain ⟨r, v, ys, zs, h, e⟩ := h
  exact ⟨r, v, ys, zs, h.drewN n, e⟩
theorem Left.size {w : World} {A B C base : Nat} {s : List Int} (h : Left w A B C base s) : base ≤ w.heap.size := by
  obtain ⟨r, v, ys, zs, h, e⟩ := h
  obtain ⟨ra, rl, rc, pa, pl, pc, k, un⟩ := h.un
  have := un.blk.lt
  have := h.hA
  omega
theorem Left.bases {w : World} {A B C base : Nat} {s : List Int} (h : Left w A B C base s) : base ≤ A ∧ base ≤ B ∧ base ≤ C := by
  obtain ⟨r, v, ys, zs, h, e⟩ := h
  exact ⟨h.hA, h.hB, h.hC⟩

theorem eql_nil (a : Addr) (W : World) : (binOp .eql 54 .nilIface (.iface 102 (.pointer (some a)))).run Tryd.prog W = .ok (.bool false) W := by kernel_rfl

/-- How the body ends: at its end, or before. -/
def eE (e0 e1 : Addr) (e : Bool) : Value := .iface 102 (.pointer (some (if e then e0 else e1)))
/-- Behind the line of a chunk. -/
def Begun (A B C D base : Nat) (s : List Int) (e0 e1 : Addr) (o : List Int) (e : Bool) (w' : World) : Prop :=
  (∃ n ex' s', 0 < n ∧ n < 2305843009213693952 ∧ Cr w' D B n .nilIface false ex' ∧ Left w' A B C base s' ∧ Run n false ex' s' o e ∧ ex' ≤ 16384 ∧ s'.length < s.length) ∨
  (∃ n ex', Cr w' D B n (eE e0 e1 e) false ex' ∧ o = [])

theorem begin_any {w : World} {A B C D base ex : Nat} {s o : List Int} {e : Bool} {e0 e1 : Addr} (hG : Gl w base e0 e1) (h : Left w A B C base s) (hD : Cr w D B 0 .nilIface false ex)
    (hDA : D ≠ A) (hDB : D ≠ B) (hDC : D ≠ C) (hDb : base ≤ D) (hex : ex ≤ 16384) (hr : Run 0 false ex s o e) :
    Calls Tryd.prog 53 #[.pointer (some ⟨D, 0, none⟩)] w fun e' w' => e' = .returned (.tuple #[]) ∧ Begun A B C D base s e0 e1 o e w' ∧ Fr [A, B, C, D] w w' := by
  obtain ⟨r, v, ys, zs, h, rfl⟩ := h
  rcases hr.head with ⟨h10, hl, rfl, rfl⟩ | ⟨l, t, n, hs, hl, hx, ⟨hn, hr'⟩ | ⟨rfl, rfl, rfl⟩⟩
  · exact (begin_cut hG h hD hDA hDB hDC h10 hl).mono fun _ _ ⟨h1, h2, h3⟩ => ⟨h1, .inr ⟨_, _, h2, rfl⟩, h3⟩
  · exact (begin_yes hG h hD hDA hDB hDC hDb hex hs hl hx hn).mono fun _ _ ⟨h1, ⟨r', v', ys', zs', h2, h3⟩, h4, h5⟩ => ⟨h1, .inl ⟨n, _, t, hn, hl.hn, h4, ⟨r', v', ys', zs', h2, h3⟩, hr', hx, by rw [hs]; simp; omega⟩, h5⟩
  · exact (begin_last hG h hD hDA hDB hDC hDb hex hs hl hx rfl).mono fun _ _ ⟨h1, h4, h5⟩ => ⟨h1, .inr ⟨_, _, h4, rfl⟩, h5⟩

theorem avail_left {w : World} {A B C D base n ex : Nat} {ce : Bool} {err : Value} {s : List Int} (h : Left w A B C base s) (hD : Cr w D B n err ce ex) :
    Calls Tryd.prog 56 #[.pointer (some ⟨D, 0, none⟩)] w fun e w' => ∃ f, e = .returned (.bool f) ∧ Left w' A B C base s ∧ Fr [B] w w' := by
  obtain ⟨r, v, ys, zs, h, rfl⟩ := h
  exact (avail_any h hD).mono fun _ _ ⟨⟨f, h1⟩, h2, h3⟩ => ⟨f, h1, ⟨r, v, ys, zs, h2, rfl⟩, h3⟩

theorem buf_left {w : World} {A B C base : Nat} {s : List Int} (h : Left w A B C base s) :
    Calls Tryd.prog 50 #[.pointer (some ⟨B, 0, none⟩)] w fun e w' => ∃ nb : Nat, e = .returned (.int .i64 nb) ∧ ∃ n, w' = w.drewN n := by
  obtain ⟨r, v, ys, zs, h, rfl⟩ := h
  exact (buffered_any h).mono fun _ _ ⟨h1, h2⟩ => ⟨_, h1, h2⟩

theorem splice_cB (B n : Nat) (err : Value) (b0 b1 : Int) (ce : Bool) (ex : Nat) (xs : List Int) (h : xs.length ≤ 2) :
    ∃ c0 c1, splice (cB B n err b0 b1 ce ex) 3 (cells xs) = cB B n err c0 c1 ce ex ∧ (xs.length = 2 → c0 = xs.getD 0 0 ∧ c1 = xs.getD 1 0) := by
  match xs, h with
  | [], _ => exact ⟨b0, b1, rfl, by simp⟩
  | [x], _ => exact ⟨x, b1, rfl, by simp⟩
  | [x, y], _ => exact ⟨x, y, rfl, by simp⟩

/-- The end of a chunk is read. -/
def Footed (A B C D base n ex : Nat) (err : Value) (ce : Bool) (s : List Int) (e0 e1 : Addr) (x : Value) (b0 b1 : Int) (w' : World) : Prop :=
  Blk w' D (cB B n err b0 b1 ce ex) 74 ∧ ((2 ≤ s.length ∧ x = .nilIface ∧ Left w' A B C base (s.drop 2) ∧ b0 = s.getD 0 0 ∧ b1 = s.getD 1 0) ∨ (s.length < 2 ∧ (x = .iface 102 (.pointer (some e0)) ∨ x = .iface 102 (.pointer (some e1)))))

theorem foot_any {w : World} {A B C D base n ex : Nat} {err : Value} {ce : Bool} {s : List Int} {e0 e1 : Addr} (hG : Gl w base e0 e1) (h : Left w A B C base s) (hD : Cr w D B n err ce ex)
    (hDA : D ≠ A) (hDB : D ≠ B) (hDC : D ≠ C) (hDb : base ≤ D) (w2 : World) (he : ∃ n, w2 = w.drewN n) :
    Calls Tryd.prog 54 #[.iface 68 (.pointer (some ⟨B, 0, none⟩)), .slice (some ⟨D, 3, none⟩) 2 2] w2 fun e w' => ∃ nn x b0 b1, e = .returned (.tuple #[nn, x]) ∧ Footed A B C D base n ex err ce s e0 e1 x b0 b1 w' ∧ Fr [A, B, C, D] w w' := by
  obtain ⟨k, rfl⟩ := he
  obtain ⟨hA, hB, hC⟩ := h.bases
  obtain ⟨b0, b1, hD⟩ := hD
  refine (rfull_any (hG.below (below_drewN (Below.refl _ _) k)) (h.drewN k) h.size hA hB hC (hD.drewN k) (by simp [cB]) hDA hDB hDC hDb).mono ?_
  rintro e w' ⟨⟨nn, x, rfl, ht⟩, hF⟩
  rcases ht with ⟨h2, he, hL, hb⟩ | ⟨h2, nn', a, he, ha, hb⟩
  · injection he with he
    injection he with he
    injection he with he
    obtain ⟨c0, c1, hc, hv⟩ := splice_cB B n err b0 b1 ce ex (s.take 2) (by simp; omega)
    rw [hc] at hb
    have hv := hv (by simp; omega)
    rw [getD_take (by omega), getD_take (by omega)] at hv
    simp at he
    exact ⟨_, _, c0, c1, rfl, ⟨hb, .inl ⟨h2, he.2, hL, hv.1, hv.2⟩⟩, hF.of_drewN⟩
  · injection he with he
    injection he with he
    injection he with he
    simp at he
    obtain ⟨c0, c1, hc, _⟩ := splice_cB B n err b0 b1 ce ex s (by omega)
    rw [hc] at hb
    refine ⟨_, _, c0, c1, rfl, ⟨hb, .inr ⟨h2, ?_⟩⟩, hF.of_drewN⟩
    rcases ha with rfl | rfl
    · exact .inl he.2
    · exact .inr he.2

theorem foot_yes {w : World} {A B C D base n ex : Nat} {err : Value} {ce : Bool} {t : List Int} {e0 e1 : Addr} (hG : Gl w base e0 e1) (h : Left w A B C base (13 :: 10 :: t)) (hD : Cr w D B n err ce ex)
    (hDA : D ≠ A) (hDB : D ≠ B) (hDC : D ≠ C) (hDb : base ≤ D) (w2 : World) (he : ∃ n, w2 = w.drewN n) :
    Calls Tryd.prog 54 #[.iface 68 (.pointer (some ⟨B, 0, none⟩)), .slice (some ⟨D, 3, none⟩) 2 2] w2 fun e w' => ∃ nn, e = .returned (.tuple #[nn, .nilIface]) ∧ Blk w' D (cB B n err 13 10 ce ex) 74 ∧ Left w' A B C base t ∧ Fr [A, B, C, D] w w' := by
  refine (foot_any hG h hD hDA hDB hDC hDb w2 he).mono ?_
  rintro e w' ⟨nn, x, b0, b1, rfl, ⟨hb, hx⟩, hF⟩
  rcases hx with ⟨_, rfl, hL, rfl, rfl⟩ | ⟨hx, _⟩
  · exact ⟨nn, rfl, hb, hL, hF⟩
  · simp only [List.length_cons] at hx; omega
theorem foot_no {w : World} {A B C D base n ex : Nat} {err : Value} {ce : Bool} {s : List Int} {e0 e1 : Addr} (hG : Gl w base e0 e1) (h : Left w A B C base s) (hD : Cr w D B n err ce ex)
    (hDA : D ≠ A) (hDB : D ≠ B) (hDC : D ≠ C) (hDb : base ≤ D) (hs : s.length < 2) (w2 : World) (he : ∃ n, w2 = w.drewN n) :
    Calls Tryd.prog 54 #[.iface 68 (.pointer (some ⟨B, 0, none⟩)), .slice (some ⟨D, 3, none⟩) 2 2] w2 fun e w' => ∃ nn a b0 b1, e = .returned (.tuple #[nn, .iface 102 (.pointer (some a))]) ∧ Blk w' D (cB B n err b0 b1 ce ex) 74 ∧ (a = e0 ∨ a = e1) ∧ Fr [A, B, C, D] w w' := by
  refine (foot_any hG h hD hDA hDB hDC hDb w2 he).mono ?_
  rintro e w' ⟨nn, x, b0, b1, rfl, ⟨hb, hx⟩, hF⟩
  rcases hx with ⟨hx, _⟩ | ⟨_, rfl | rfl⟩
  · omega
  · exact ⟨nn, e0, b0, b1, rfl, hb, .inl rfl, hF⟩
  · exact ⟨nn, e1, b0, b1, rfl, hb, .inr rfl, hF⟩

/-- What is still to be read. -/
def Live (A B C D base : Nat) (o : List Int) (e : Bool) (g : Nat) (wr : World) : Prop :=
  ∃ n ce ex s, n < 2305843009213693952 ∧ Cr wr D B n .nilIface ce ex ∧ Left wr A B C base s ∧ Run n ce ex s o e ∧ ex ≤ 16384 ∧ g = s.length + 1
/-- All is read. -/
def Dead (B D : Nat) (e0 e1 : Addr) (o : List Int) (e : Bool) (wr : World) : Prop := ∃ n ce ex, Cr wr D B n (eE e0 e1 e) ce ex ∧ o = []

theorem Cr.fr {w w' : World} {D B n ex : Nat} {err : Value} {ce : Bool} (h : Cr w D B n err ce ex) {S : List Nat} (hf : Fr S w w') (hD : D ∉ S) : Cr w' D B n err ce ex := by
  obtain ⟨b0, b1, h⟩ := h
  exact ⟨b0, b1, hf.blk h hD⟩
end Go.Proofs.YtjajhpgodijeoaaDoor
