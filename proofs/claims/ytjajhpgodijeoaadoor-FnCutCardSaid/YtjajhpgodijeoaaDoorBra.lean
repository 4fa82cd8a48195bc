/-
  Reading from the buffered reader, in every way.
-/
import Derived.Test.YtjajhpgodijeoaaDoorBrd3
namespace Go.Proofs.YtjajhpgodijeoaaDoor
open Go.RowKit

theorem read_any {w : World} {A B C base r v Pb off len cap : Nat} {ps : List Value} {tP : TypeId} {ys zs : List Int} {e0 e1 : Addr} (hG : Gl w base e0 e1) (h : St w A B C base r v .nilIface ys zs)
    (hP : Blk w Pb ps tP) (hfit : off + len ≤ ps.length) (hl0 : 0 < len) (hcap : len ≤ cap) (hPA : Pb ≠ A) (hPB : Pb ≠ B) (hPC : Pb ≠ C) (hPb : base ≤ Pb) :
    Calls Tryd.prog 48 #[.pointer (some ⟨B, 0, none⟩), .slice (some ⟨Pb, off, none⟩) len cap] w fun e w' => Got A B C base Pb ps tP off len (ys ++ zs) e0 e w' ∧ Fr [A, B, C, Pb] w w' := by
  rcases Nat.eq_zero_or_pos ys.length with hy | hy
  · obtain rfl : ys = [] := List.eq_nil_of_length_eq_zero hy
    obtain rfl : r = v := by simpa using h.len
    rcases Nat.lt_or_ge len 4096 with hl | hl
    · exact read_fill hG h hP hfit hl0 hl hPA hPB hPC hPb
    · exact read_straight hG h hP hfit hl hcap hPA hPB hPC hPb
  · exact read_buf h hy hP hfit hl0 hPA hPB hPC hPb
end Go.Proofs.YtjajhpgodijeoaaDoor
