/-
  Reading two bytes.
-/
import Derived.Test.YtjajhpgodijeoaaDoorBra
import Derived.Deep.LoopGhost
namespace Go.Proofs.YtjajhpgodijeoaaDoor
open Go.RowKit

theorem splice_splice (ps : List Value) (off : Nat) (xs ys : List Value) (h : off + xs.length + ys.length ≤ ps.length) : splice (splice ps off xs) (off + xs.length) ys = splice ps off (xs ++ ys) := by
  unfold splice
  have h1 : (ps.take off ++ xs).length = off + xs.length := by simp; omega
  rw [← List.append_assoc (ps.take off) xs, List.take_left' h1]
  have h2 : (ps.take off ++ xs ++ ps.drop (off + xs.length)).drop (off + xs.length + ys.length) = ps.drop (off + (xs ++ ys).length) := by
    rw [List.drop_append, h1, List.drop_of_length_le (by omega), List.nil_append, List.drop_drop, List.length_append]
    congr 1
    omega
  rw [h2, List.append_assoc, List.append_assoc]
theorem nil68 (a : Addr) (W : World) : (nilAhead 284 68 (.pointer (some a)) "Read").run Tryd.prog W = .ok (some false) W := by kernel_rfl
/-- The buffered reader has s left to give, and has told no error. -/
def Left (w : World) (A B C base : Nat) (s : List Int) : Prop := ∃ r v ys zs, St w A B C base r v .nilIface ys zs ∧ ys ++ zs = s

def Twod (A B C base Pb : Nat) (ps : List Value) (tP : TypeId) (off : Nat) (s : List Int) (e0 e1 : Addr) (e : Ending) (w' : World) : Prop :=
  (2 ≤ s.length ∧ e = .returned (.tuple #[.int .i64 2, .nilIface]) ∧ Left w' A B C base (s.drop 2) ∧ Blk w' Pb (splice ps off (cells (s.take 2))) tP) ∨
  (s.length < 2 ∧ ∃ n a, e = .returned (.tuple #[.int .i64 n, .iface 102 (.pointer (some a))]) ∧ (a = e0 ∨ a = e1) ∧ Blk w' Pb (splice ps off (cells s)) tP)

def RalRel (A B C base Pb : Nat) (ps : List Value) (tP : TypeId) (off : Nat) (s : List Int) (e0 : Addr) (w : World) (g : Nat) (s6 s7 : Value) (wr : World) : Prop :=
  ∃ k, k ≤ 2 ∧ k ≤ s.length ∧ s6 = .int .i64 (k : Nat) ∧ Left wr A B C base (s.drop k) ∧ Blk wr Pb (splice ps off (cells (s.take k))) tP ∧ Fr [A, B, C, Pb] w wr ∧
    ((s7 = .nilIface ∧ g = 3 - k) ∨ (s7 = .iface 102 (.pointer (some e0)) ∧ k = s.length ∧ k < 2 ∧ g = 0))

/-- What reading gives, in one way. -/
def Got1 (A B C base Pb : Nat) (ps : List Value) (tP : TypeId) (off len : Nat) (s : List Int) (e0 : Addr) (n : Nat) (err : Value) (w' : World) : Prop :=
  n ≤ len ∧ n ≤ s.length ∧ Left w' A B C base (s.drop n) ∧ Blk w' Pb (splice ps off (cells (s.take n))) tP ∧ ((err = .nilIface ∧ 1 ≤ n) ∨ (err = .iface 102 (.pointer (some e0)) ∧ s = [] ∧ n = 0))
theorem Got.one {A B C base Pb : Nat} {ps : List Value} {tP : TypeId} {off len : Nat} {s : List Int} {e0 : Addr} {e : Ending} {w' : World} (h : Got A B C base Pb ps tP off len s e0 e w') :
    ∃ n err, e = .returned (.tuple #[.int .i64 (n : Nat), err]) ∧ Got1 A B C base Pb ps tP off len s e0 n err w' := by
  rcases h with ⟨rfl, rfl, ⟨r, v, hs⟩, hb⟩ | ⟨n, r, v, ys, zs, h1, h2, h3, rfl, hs, hz, hb⟩
  · exact ⟨0, _, rfl, Nat.zero_le _, Nat.zero_le _, ⟨r, v, [], [], hs, rfl⟩, by simpa [cells, splice] using hb, .inr ⟨rfl, rfl, rfl⟩⟩
  · exact ⟨n, _, rfl, h2, h3, ⟨r, v, ys, zs, hs, hz⟩, hb, .inl ⟨rfl, h1⟩⟩
theorem ral_read {w : World} {A B C base Pb off len cap : Nat} {ps : List Value} {tP : TypeId} {s : List Int} {e0 e1 : Addr} (h : Left w A B C base s)
    (hP : Blk w Pb ps tP) (hfit : off + len ≤ ps.length) (hl0 : 0 < len) (hcap : len ≤ cap) (hPA : Pb ≠ A) (hPB : Pb ≠ B) (hPC : Pb ≠ C) (hPb : base ≤ Pb) (hG : Gl w base e0 e1) (w2 : World) (he : ∃ n, w2 = w.drewN n) :
    Calls Tryd.prog 48 #[.pointer (some ⟨B, 0, none⟩), .slice (some ⟨Pb, off, none⟩) len cap] w2 fun e w' => ∃ n err, e = .returned (.tuple #[.int .i64 (n : Nat), err]) ∧ Got1 A B C base Pb ps tP off len s e0 n err w' ∧ Fr [A, B, C, Pb] w w' := by
  obtain ⟨r, v, ys, zs, h, rfl⟩ := h
  obtain ⟨n, rfl⟩ := he
  exact (read_any (hG.below (below_drewN (Below.refl _ _) n)) (h.drewN n) (hP.drewN n) hfit hl0 hcap hPA hPB hPC hPb).mono fun _ _ h => by
    obtain ⟨n, err, he, hg⟩ := h.1.one
    exact ⟨n, err, he, hg, h.2.of_drewN⟩

set_option maxHeartbeats 1000000 in
set_option maxRecDepth 100000 in
theorem ral_any {w : World} {A B C base Pb off : Nat} {ps : List Value} {tP : TypeId} {s : List Int} {e0 e1 : Addr} (hG : Gl w base e0 e1) (h : Left w A B C base s) (hw : base ≤ w.heap.size) (hA : base ≤ A) (hB : base ≤ B) (hC : base ≤ C)
    (hP : Blk w Pb ps tP) (hfit : off + 2 ≤ ps.length) (hPA : Pb ≠ A) (hPB : Pb ≠ B) (hPC : Pb ≠ C) (hPb : base ≤ Pb) :
    Calls Tryd.prog 61 #[.iface 68 (.pointer (some ⟨B, 0, none⟩)), .slice (some ⟨Pb, off, none⟩) 2 2, .int .i64 2] w fun e w' => Twod A B C base Pb ps tP off s e0 e1 e w' ∧ Fr [A, B, C, Pb] w w' := by
  have HG := Lib.hid hG
  have HL := Lib.hid h
  have HP := Lib.hid hP
  have HB := Lib.hid hw
  clear hG h hP hw
  go_enter Tryd.func61, Tryd.ntmps61
  go_wp2_with fail
  go_loopg [6, 7] 3 (RalRel A B C base Pb ps tP off s e0 w)
  case atStart => exact ⟨0, by omega, by omega, rfl, HL.out, by simpa [cells, splice] using HP.out, Fr.refl _ _, .inl ⟨rfl, rfl⟩⟩
  case round =>
    obtain ⟨k, hk, hks, rfl, hL, hPk, hF, hg⟩ := hrel
    have HL := Lib.hid hL
    have HPk := Lib.hid hPk
    have HF := Lib.hid hF
    have G1 := Lib.hid (HG.out.below (hF.below HB.out (by simp; omega)))
    clear hL hPk hF
    rcases hg with ⟨rfl, hg⟩ | ⟨rfl, hks2, hk2, hg⟩
    · rcases Nat.eq_or_lt_of_le hk with rfl | hlt
      · clear hg
        go_wp2_with fail
        go_ret2
        exact ⟨.inl ⟨hks, rfl, HL.out, HPk.out⟩, HF.out⟩
      · obtain ⟨m, hm⟩ : ∃ m, m = 2 - k := ⟨_, rfl⟩
        obtain ⟨o, ho⟩ : ∃ o, o = off + k := ⟨_, rfl⟩
        have hsl : ∀ W, (Instr.slice 22 (.slice (some ⟨Pb, off, none⟩) 2 2) (some (.int .i64 k)) none none).run Tryd.prog W = .ok (.slice (some ⟨Pb, o, none⟩) m m) W := fun W => by
          rw [run_from W _ 2 2 k hk rfl, hm, ho]
          simp only [cutAt, if_neg (by omega : ¬ 2 = k), Option.map_some, Nat.mul_one, Addr.add_lit]
        have HM := Lib.hid hm
        have HO := Lib.hid ho
        have HG' := Lib.hid hg
        have hck : (cells (s.take k)).length = k := by rw [cells_len, List.length_take]; omega
        have hfk : o + m ≤ (splice ps off (cells (s.take k))).length := by
          rw [length_splice _ _ _ (by rw [hck]; omega)]; omega
        have HCK := Lib.hid hck
        have HFK := Lib.hid hfk
        have hki : (k : Int) < 2 := by omega
        have hm0 : 0 < m := by omega
        clear hm ho hg hck hfk
        go_wp2_with fail
        have nl68 := nil68 ⟨B, 0, none⟩
        go_region_held3 (fun _ => True) (trivial) ((go_at_call 48; refine (ral_read HL.out HPk.out (by exact HFK.out) hm0 (Nat.le_refl _) hPA hPB hPC hPb (by exact G1.out) _ ?_).mono ?_; (first | exact ⟨1, rfl⟩ | exact ⟨_, rfl⟩); rintro e w4 ⟨n, err, rfl, hgot, hF4⟩; have GOT := Lib.hid hgot; have F4 := Lib.hid hF4; clear hgot hF4))
        obtain ⟨q, hq⟩ : ∃ q, q = k + n := ⟨_, rfl⟩
        have hn2 : n ≤ m := GOT.out.1
        have hmk := HM.out
        have hqi : (k : Int) + (n : Int) = (q : Int) := by omega
        have hq2 : q ≤ 2 := by omega
        have QQ := Lib.hid hq
        clear hq hmk
        go_wp2_with fail
        obtain ⟨g', hg', hr'⟩ : ∃ g', g' < gk ∧ RalRel A B C base Pb ps tP off s e0 w g' (.int .i64 (q : Int)) err w4 := by
          obtain ⟨h1, h2, h3, h4, h5⟩ := GOT.out
          have hg := HG'.out
          have hmk := HM.out
          have hqk := QQ.out
          have hl : (s.drop k).length = s.length - k := List.length_drop
          have hc := HCK.out
          have h6 : Blk w4 Pb (splice ps off (cells (s.take q))) tP := by
            have e : splice (splice ps off (cells (s.take k))) o (cells ((s.drop k).take n)) = splice ps off (cells (s.take q)) := by
              have := splice_splice ps off (cells (s.take k)) (cells ((s.drop k).take n)) (by rw [hc, cells_len, List.length_take]; omega)
              rw [hc, ← HO.out] at this
              rw [this, ← cells_append, hqk, List.take_add]
            rw [← e]
            exact h4
          have h7 : Left w4 A B C base (s.drop q) := by rw [hqk, ← List.drop_drop]; exact h3
          rcases h5 with ⟨rfl, h5⟩ | ⟨rfl, h5, h8⟩
          · exact ⟨3 - q, by omega, q, hq2, by omega, rfl, h7, h6, HF.out.trans F4.out, .inl ⟨rfl, rfl⟩⟩
          · have h9 : s.length = k := by rw [h5] at hl; simp at hl; omega
            exact ⟨0, by omega, q, hq2, by omega, rfl, h7, h6, HF.out.trans F4.out, .inr ⟨rfl, by omega, by omega, rfl⟩⟩
        go_roundg g'
        case measure => exact hg'
        case rel => exact hr'
    · clear hg
      have hki : (k : Int) < 2 := by omega
      have he := eql_same wr e0
      have hg0 := G1.out.g0
      have hg1 := G1.out.g1
      have KS := Lib.hid hks2
      clear hks2
      rcases Nat.eq_zero_or_pos k with rfl | hpos
      · go_wp2_with fail
        go_ret2
        refine ⟨.inr ⟨by rw [← KS.out]; exact hk2, 0, e0, rfl, .inl rfl, ?_⟩, HF.out⟩
        have := HPk.out
        rwa [KS.out, List.take_length] at this
      · go_wp2_with fail
        go_ret2
        refine ⟨.inr ⟨by rw [← KS.out]; exact hk2, k, e1, rfl, .inr rfl, ?_⟩, HF.out⟩
        have := HPk.out
        rwa [KS.out, List.take_length] at this

theorem rfull_any {w : World} {A B C base Pb off : Nat} {ps : List Value} {tP : TypeId} {s : List Int} {e0 e1 : Addr} (hG : Gl w base e0 e1) (h : Left w A B C base s) (hw : base ≤ w.heap.size) (hA : base ≤ A) (hB : base ≤ B) (hC : base ≤ C)
    (hP : Blk w Pb ps tP) (hfit : off + 2 ≤ ps.length) (hPA : Pb ≠ A) (hPB : Pb ≠ B) (hPC : Pb ≠ C) (hPb : base ≤ Pb) :
    Calls Tryd.prog 54 #[.iface 68 (.pointer (some ⟨B, 0, none⟩)), .slice (some ⟨Pb, off, none⟩) 2 2] w fun e w' => (∃ n x, e = .returned (.tuple #[n, x]) ∧ Twod A B C base Pb ps tP off s e0 e1 (.returned (.tuple #[n, x])) w') ∧ Fr [A, B, C, Pb] w w' := by
  have R := Lib.hid (ral_any hG h hw hA hB hC hP hfit hPA hPB hPC hPb)
  clear hG h hP
  go_enter Tryd.func54, Tryd.ntmps54
  go_wp2_with fail
  refine R.out.mono ?_
  rintro e w1 ⟨ht, hF⟩
  have hn : ∃ n x, e = .returned (.tuple #[n, x]) := by
    rcases ht with ⟨_, he, _⟩ | ⟨_, n, a, he, _⟩
    · exact ⟨_, _, he⟩
    · exact ⟨_, _, he⟩
  obtain ⟨n, x, rfl⟩ := hn
  have T := Lib.hid ht
  have F := Lib.hid hF
  clear ht hF
  go_wp2_with fail
  go_ret2
  exact ⟨⟨n, x, rfl, T.out⟩, F.out⟩
end Go.Proofs.YtjajhpgodijeoaaDoor
