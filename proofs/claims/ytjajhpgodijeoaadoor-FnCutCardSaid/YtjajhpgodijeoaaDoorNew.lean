/-
  New readers.
-/
import Derived.Test.YtjajhpgodijeoaaDoorSt
import Derived.Laws.MakeOwn
import Derived.Laws.OwnMore
import Derived.OwnWalk
namespace Go.Proofs.YtjajhpgodijeoaaDoor
open Go.RowKit

/-- n bytes, all zero, as cells. -/
def zc (n : Nat) : List Value := List.replicate n (.int .u8 0)
theorem zc_len (n : Nat) : (zc n).length = n := by simp [zc]
theorem Tryd.info5 : (Tryd.prog.info? 5).map (fun i => (i.zero, i.size, i.bytes)) = some (some (.int .u8 0), 1, 1) := by kernel_rfl
theorem make22 (n : Nat) (hn : n ≤ 2147483647) {l : Int} (hl : l = n) (W : World) : (Instr.makeSlice 22 (.int .i64 l) (.int .i64 l)).run Tryd.prog W = .ok (.slice (some ⟨W.heap.size, 0, none⟩) n n) (W.alloc (.cells (zc n).toArray 5)) := by
  obtain ⟨i, hi, hz, hs, hb⟩ := info_parts Tryd.info5
  have e : (madeCells #[Value.int .u8 0] n) = (zc n).toArray := by
    apply Array.toList_inj.1
    rw [toList_madeCells_one]
    rfl
  rw [run_make W 22 5 i _ Tryd.underlying22 hi hz .i64 .i64 l l (by omega) (Int.le_refl _) (by rw [hb]; omega) (by omega), hl, hs, Int.toNat_natCast, Nat.mul_one]
  show _ = Result.ok _ (W.alloc (.cells (zc n).toArray 5))
  rw [← e]
  rfl

theorem assert50 (a : Addr) (W : World) : (Instr.typeAssert (.iface 50 (.pointer (some a))) 48 68 true).run Tryd.prog W = .ok (.tuple #[.pointer none, .bool false]) W := by kernel_rfl

theorem reset_any (B : Nat) (v1 v2 : Value) (a : Option Addr) (l c : Nat) (hv1 : v1 = .slice a l c) (ad : Addr) (hv2 : v2 = .iface 50 (.pointer (some ad))) (w : World) (c0 c1 c2 c3 c4 c5 c6 : Value) (h : Blk w B [c0, c1, c2, c3, c4, c5, c6] 90) :
    Calls Tryd.prog 30 #[.pointer (some ⟨B, 0, none⟩), v1, v2] w fun e w' => e = .returned (.tuple #[]) ∧ Blk w' B [v1, v2, .int .i64 0, .int .i64 0, .nilIface, .int .i64 (-1), .int .i64 (-1)] 90 ∧ Fr [B] w w' ∧ w'.heap.size = w.heap.size := by
  subst hv1 hv2
  have h0 := h.cell (i := 0) rfl
  have h1 := h.cell (i := 1) rfl
  have h2 := h.cell (i := 2) rfl
  have h3 := h.cell (i := 3) rfl
  have h4 := h.cell (i := 4) rfl
  have h5 := h.cell (i := 5) rfl
  have h6 := h.cell (i := 6) rfl
  have f0 := h.frozen 0
  have f1 := h.frozen 1
  have f2 := h.frozen 2
  have f3 := h.frozen 3
  have f4 := h.frozen 4
  have f5 := h.frozen 5
  have f6 := h.frozen 6
  have H := Lib.hid h
  clear h
  go_enter Tryd.func30, Tryd.ntmps30
  go_wp2_with fail
  go_end0
  refine ⟨rfl, ((((((H.out.set 0 _).set 1 _).set 2 _).set 3 _).set 4 _).set 5 _).set 6 _, (((((((Fr.refl [B] w).setCell (by simp) _).setCell (by simp) _).setCell (by simp) _).setCell (by simp) _).setCell (by simp) _).setCell (by simp) _).setCell (by simp) _, by simp [World.setCell]⟩

set_option maxHeartbeats 1000000 in
set_option maxRecDepth 100000 in
theorem newSize_any (A : Nat) (w : World) :
    Calls Tryd.prog 27 #[.iface 50 (.pointer (some ⟨A, 0, none⟩)), .int .i64 4096] w fun e w' => e = .returned (.pointer (some ⟨w.heap.size, 0, none⟩)) ∧
      Blk w' w.heap.size (bB A (w.heap.size + 1) 0 0 .nilIface (.int .i64 (-1)) (.int .i64 (-1))) 90 ∧ Blk w' (w.heap.size + 1) (zc 4096) 5 ∧ Fr [] w w' ∧ w'.heap.size = w.heap.size + 2 := by
  have hmk := fun W => make22 4096 (by omega) (l := 4096) rfl W
  have hta := assert50 ⟨A, 0, none⟩
  go_enter Tryd.func27, Tryd.ntmps27
  go_wp2_with fail
  have hb := (Blk.new w [.slice none 0 0, .nilIface, .int .i64 0, .int .i64 0, .nilIface, .int .i64 0, .int .i64 0] 90).alloc (.cells (zc 4096).toArray 5)
  have hc := Blk.new (w.alloc (.cells #[.slice none 0 0, .nilIface, .int .i64 0, .int .i64 0, .nilIface, .int .i64 0, .int .i64 0] 90)) (zc 4096) 5
  have hf : Fr [] w ((w.alloc (.cells #[.slice none 0 0, .nilIface, .int .i64 0, .int .i64 0, .nilIface, .int .i64 0, .int .i64 0] 90)).alloc (.cells (zc 4096).toArray 5)) := ((Fr.refl [] w).alloc _).alloc _
  have hz : ((w.alloc (.cells #[.slice none 0 0, .nilIface, .int .i64 0, .int .i64 0, .nilIface, .int .i64 0, .int .i64 0] 90)).alloc (.cells (zc 4096).toArray 5)).heap.size = w.heap.size + 2 := by simp
  refine (reset_any w.heap.size _ _ _ _ _ rfl _ rfl _ _ _ _ _ _ _ _ hb).mono ?_
  rintro e w1 ⟨rfl, hb1, hf1, hs1⟩
  have R : Hid (Blk w1 w.heap.size (bB A (w.heap.size + 1) 0 0 .nilIface (.int .i64 (-1)) (.int .i64 (-1))) 90 ∧ Blk w1 (w.heap.size + 1) (zc 4096) 5 ∧ Fr [] w w1 ∧ w1.heap.size = w.heap.size + 2) := by
    refine ⟨hb1, ?_, ?_, hs1.trans hz⟩
    · have := hf1.blk hc (by simp)
      simpa using this
    · exact (hf.mono (by simp)).trans hf1 |>.new (by simp)
  clear hb hc hf hz hb1 hf1 hs1 hmk hta
  go_wp2_with fail
  go_ret
  exact ⟨rfl, R.out⟩

set_option maxHeartbeats 1000000 in
theorem newReader_any (A : Nat) (w : World) :
    Calls Tryd.prog 25 #[.iface 50 (.pointer (some ⟨A, 0, none⟩))] w fun e w' => e = .returned (.pointer (some ⟨w.heap.size, 0, none⟩)) ∧
      Blk w' w.heap.size (bB A (w.heap.size + 1) 0 0 .nilIface (.int .i64 (-1)) (.int .i64 (-1))) 90 ∧ Blk w' (w.heap.size + 1) (zc 4096) 5 ∧ Fr [] w w' ∧ w'.heap.size = w.heap.size + 2 := by
  have R := Lib.hid (newSize_any A w)
  go_enter Tryd.func25, Tryd.ntmps25
  go_wp2_with fail
  refine R.out.mono ?_
  rintro e w1 ⟨rfl, h⟩
  have H := Lib.hid h
  clear h
  go_wp2_with fail
  go_ret
  exact ⟨rfl, H.out⟩

set_option maxHeartbeats 1000000 in
theorem newChunked_any (A : Nat) (w : World) :
    Calls Tryd.prog 20 #[.iface 50 (.pointer (some ⟨A, 0, none⟩))] w fun e w' => e = .returned (.iface 71 (.pointer (some ⟨w.heap.size + 2, 0, none⟩))) ∧
      Blk w' w.heap.size (bB A (w.heap.size + 1) 0 0 .nilIface (.int .i64 (-1)) (.int .i64 (-1))) 90 ∧ Blk w' (w.heap.size + 1) (zc 4096) 5 ∧
      Blk w' (w.heap.size + 2) [.pointer (some ⟨w.heap.size, 0, none⟩), .int .u64 0, .nilIface, .int .u8 0, .int .u8 0, .bool false, .int .i64 0] 74 ∧ Fr [] w w' ∧ w'.heap.size = w.heap.size + 3 := by
  have hta := assert50 ⟨A, 0, none⟩
  have R := Lib.hid (newReader_any A w)
  go_enter Tryd.func20, Tryd.ntmps20
  go_wp2_with fail
  refine R.out.mono ?_
  rintro e w1 ⟨rfl, h1, h2, h3, h4⟩
  have H1 := Lib.hid h1
  have H2 := Lib.hid h2
  have H3 := Lib.hid h3
  have H4 := Lib.hid h4
  clear h1 h2 h3 h4 hta
  go_wp2_with fail
  go_ret
  refine ⟨by rw [H4.out]; rfl, H1.out.alloc _, H2.out.alloc _, ?_, H3.out.alloc _, by simp [H4.out]⟩
  have := Blk.new w1 [.pointer (some ⟨w.heap.size, 0, none⟩), .int .u64 0, .nilIface, .int .u8 0, .int .u8 0, .bool false, .int .i64 0] 74
  rwa [H4.out] at this
end Go.Proofs.YtjajhpgodijeoaaDoor
