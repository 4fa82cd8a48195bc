/-
  Reading the line ahead of a chunk.
-/
import Derived.Test.YtjajhpgodijeoaaDoorRsl
namespace Go.Proofs.YtjajhpgodijeoaaDoor
open Go.RowKit

/-- A line is there. -/
def Lined (A B C base : Nat) (l t : List Int) (e : Ending) (w' : World) : Prop :=
  ∃ r v o cap ys zs, e = .returned (.tuple #[.slice (some ⟨C, o, none⟩) l.length cap, .nilIface]) ∧ SL w' (some ⟨C, o, none⟩) l.length cap l ∧ St w' A B C base r v .nilIface ys zs ∧ ys ++ zs = t

theorem cut_one {l l' t t' : List Int} {c : Int} (h : l' ++ c :: t' = l ++ c :: t) (h1 : c ∉ l') (h2 : c ∉ l) : l' = l ∧ t' = t := by
  have hl : l'.length = l.length := by rw [← ix_append (t := t') h1, h, ix_append h2]
  obtain ⟨e1, e2⟩ := List.append_inj h hl
  exact ⟨e1, by injection e2⟩

set_option maxHeartbeats 1000000 in
set_option maxRecDepth 100000 in
theorem line_yes {w : World} {A B C base r v : Nat} {ys zs l t : List Int} {e0 e1 : Addr} (hG : Gl w base e0 e1) (h : St w A B C base r v .nilIface ys zs) (hS : ys ++ zs = l ++ 13 :: 10 :: t) (h10 : 10 ∉ l) (h13 : 13 ∉ l) (hl : l.length ≤ 4000) :
    Calls Tryd.prog 57 #[.pointer (some ⟨B, 0, none⟩)] w fun e w' => Lined A B C base l t e w' ∧ Fr [A, B, C] w w' := by
  have h10' : 10 ∉ l ++ [13] := by simp [h10]
  have hS' : ys ++ zs = (l ++ [13]) ++ 10 :: t := by rw [hS]; simp
  have hx : ix (ys ++ zs) 10 < 4096 := by rw [hS', ix_append h10']; simp; omega
  have R := Lib.hid (rsl_any hG h rfl hx)
  have HS := Lib.hid hS'
  have H10 := Lib.hid h10'
  have H13 := Lib.hid h13
  clear hS hS' h10' h10 h13 hx h hG
  go_enter Tryd.func57, Tryd.ntmps57
  go_wp2_with fail
  refine R.out.mono ?_
  rintro e w1 ⟨hs, hF⟩
  rcases hs with ⟨l', t', r1, v1, o, cap, ys1, zs1, hs1, hs2, rfl, hs3, hs4, hs5⟩ | ⟨hs1, _⟩
  · obtain ⟨rfl, rfl⟩ := cut_one (hs1.symm.trans HS.out) hs2 H10.out
    have HF := Lib.hid hF
    have HL := Lib.hid hs3
    have HT := Lib.hid hs4
    have HY := Lib.hid hs5
    have hq : ixi (l ++ [13] ++ [10]) 13 = (l.length : Int) := by
      have : ix (l ++ [13] ++ [10]) 13 = l.length := by rw [List.append_assoc]; exact ix_append H13.out
      unfold ixi
      rw [this, if_pos (by simp)]
    obtain ⟨n, hn⟩ : ∃ n, n = l.length := ⟨_, rfl⟩
    obtain ⟨m, hm⟩ : ∃ m, m = (l ++ [13]).length + 1 := ⟨_, rfl⟩
    have hmn : m = n + 2 := by rw [hm, hn]; simp
    rw [← hm] at hs3 ⊢
    rw [← hn] at hq hl
    have hmi : (m : Int) - 2 = (n : Int) := by omega
    have hcap := hs3.hle
    have hrun : ∀ W, (Instr.slice 22 (.slice (some ⟨C, o, none⟩) m cap) none (some (.int .i64 n)) none).run Tryd.prog W = .ok (.slice (some ⟨C, o, none⟩) n cap) W := fun W => run_to W _ m cap n (by omega) rfl
    have hix : Calls Tryd.prog 63 #[.slice (some ⟨C, o, none⟩) m cap, .int .u8 13] w1 fun e w' => e = .returned (.int .i64 (n : Int)) ∧ w1 = w' := by
      have := ixb_any C o m cap _ 13 (by omega) w1 hs3
      rwa [hq] at this
    have hn1 : ((n : Int) == -1) = false := beq_eq_false_iff_ne.2 (by omega)
    have hn2 : ((n : Int) ≥ 4096) = False := by simp; omega
    have hT := Lib.hid (hs3.take (n := n) (by omega))
    have HN := Lib.hid hn
    clear hs1 hs2 hs3 hs4 hs5 hF hq hm hmn hn
    go_wp2_with (go_at_call 63; refine hix.mono ?_; rintro e w' ⟨rfl, rfl⟩)
    go_ret2
    refine ⟨⟨r1, v1, o, cap, ys1, zs1, by rw [← HN.out]; rfl, ?_, HT.out, HY.out⟩, HF.out⟩
    have := hT.out
    rw [HN.out, List.append_assoc, List.take_left] at this
    exact this
  · exact absurd (by rw [HS.out]; simp) hs1

set_option maxHeartbeats 1000000 in
set_option maxRecDepth 100000 in
theorem line_cut {w : World} {A B C base r v : Nat} {ys zs : List Int} {e0 e1 : Addr} (hG : Gl w base e0 e1) (h : St w A B C base r v .nilIface ys zs) (h10 : 10 ∉ ys ++ zs) (hl : (ys ++ zs).length ≤ 4000) :
    Calls Tryd.prog 57 #[.pointer (some ⟨B, 0, none⟩)] w fun e w' => e = .returned (.tuple #[.slice none 0 0, .iface 102 (.pointer (some e1))]) ∧ Fr [A, B, C] w w' := by
  have hx : ix (ys ++ zs) 10 < 4096 := by rw [ix_none.2 h10]; omega
  have R := Lib.hid (rsl_any hG h rfl hx)
  have hbs : base ≤ w.heap.size := by obtain ⟨ra, rl, rc, pa, pl, pc, k, un⟩ := h.un; have := un.blk.lt; have := h.hA; omega
  have HB := Lib.hid (And.intro hbs (And.intro h.hA (And.intro h.hB h.hC)))
  have HG := Lib.hid hG
  have H10 := Lib.hid h10
  clear hx h10 h hbs hG
  go_enter Tryd.func57, Tryd.ntmps57
  go_wp2_with fail
  refine R.out.mono ?_
  rintro e w1 ⟨hs, hF⟩
  rcases hs with ⟨l', t', r1, v1, o, cap, ys1, zs1, hs1, hs2, _⟩ | ⟨hs1, x, rfl⟩
  · exact absurd (by rw [hs1]; simp) H10.out
  · have hG1 := HG.out.below (hF.below HB.out.1 (by have := HB.out; simp; omega))
    have hg0 := hG1.g0
    have hg1 := hG1.g1
    have he := eql_same w1 e0
    have HF := Lib.hid hF
    clear hG1 hs1 hF
    go_wp2_with fail
    go_ret2
    exact ⟨rfl, HF.out⟩
end Go.Proofs.YtjajhpgodijeoaaDoor
