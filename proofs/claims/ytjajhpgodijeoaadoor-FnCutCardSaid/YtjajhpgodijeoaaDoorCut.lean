/-
  The law of a body that is cut.
-/
import Derived.Test.YtjajhpgodijeoaaDoorDco
import Derived.Test.YtjajhpgodijeoaaDoorBnd
namespace Go.Proofs.YtjajhpgodijeoaaDoor
open Go.RowKit

theorem Gl.mono {w : World} {base base' : Nat} {e0 e1 : Addr} (h : Gl w base e0 e1) (hb : base ≤ base') : Gl w base' e0 e1 :=
  ⟨h.g0, h.g1, h.ne, h.b0, h.b1, Nat.le_trans h.h2 hb, Nat.lt_of_lt_of_le h.hb0 hb, Nat.lt_of_lt_of_le h.hb1 hb⟩
/-- Behind a part of the call. -/
theorem Gl.step {w w' : World} {e0 e1 : Addr} (h : Gl w w.heap.size e0 e1) (hb : Below w.heap.size w w') : Gl w' w'.heap.size e0 e1 := (h.below hb).mono hb.size
theorem below_next {B : Nat} {a b c : World} (h : Below B a b) (hB : B ≤ b.heap.size) (k : Below b.heap.size b c) : Below B a c :=
  ⟨k.os.trans h.os, k.tape.trans h.tape, k.output.trans h.output, Nat.le_trans h.size k.size, fun i hi => (k.block i (Nat.lt_of_lt_of_le hi hB)).trans (h.block i hi)⟩

set_option maxHeartbeats 1000000 in
theorem works_any {w : World} {e0 e1 : Addr} (hG : Gl w w.heap.size e0 e1) : Calls Tryd.prog 11 #[] w fun e w' => e = .returned (.bool true) ∧ Below w.heap.size w w' := by
  have kc := fun (w : World) (C : Array Value) (n c : Nat) => Lib.run_convert_bytes_const (P := Tryd.prog) w 22 5 C n c Tryd.underlying22 Tryd.underlying5
  have hS : SL (w.alloc (.cells #[.int .u8 49, .int .u8 13, .int .u8 10, .int .u8 97, .int .u8 13, .int .u8 10, .int .u8 48, .int .u8 13, .int .u8 10] 5 (9, 10))) (some ⟨w.heap.size, 0, none⟩) 9 9 [49, 13, 10, 97, 13, 10, 48, 13, 10] := SL.const w [49, 13, 10, 97, 13, 10, 48, 13, 10] _ 9 rfl (by omega) (by decide)
  have hB : Below w.heap.size w (w.alloc (.cells #[.int .u8 49, .int .u8 13, .int .u8 10, .int .u8 97, .int .u8 13, .int .u8 10, .int .u8 48, .int .u8 13, .int .u8 10] 5 (9, 10))) := (Below.refl _ _).alloc (Nat.le_refl _) _
  have HS := Lib.hid hS
  have HB := Lib.hid hB
  have HG := Lib.hid hG
  clear hS hB hG
  go_enter Tryd.func11, Tryd.ntmps11
  go_wp2_with fail
  refine (imr_any (HG.out.step HB.out) HS.out ⟨Nat.le_refl _, Nat.zero_le _, fun _ => rfl, fun h => absurd h (by omega)⟩ ⟨Nat.le_refl _, Nat.zero_le _, fun h => absurd h (by omega)⟩ (by omega) (by omega) run_works).mono ?_
  rintro e w1 ⟨⟨v, rfl, a, c, rfl⟩, hb⟩
  have HB1 := Lib.hid (below_next HB.out HB.out.size hb)
  have hcd : cd true = 0 := rfl
  clear hb kc
  go_wp2_with fail
  go_ret
  exact ⟨rfl, HB1.out⟩

set_option maxHeartbeats 1000000 in
theorem cut_law {w : World} {ba pa sa : Option Addr} {bl bc pl pc sl sc : Nat} {xs : List Int} {e0 e1 : Addr} (hG : Gl w w.heap.size e0 e1) (hS : SL w ba bl bc xs) (hI : IL w pa pl pc) (hZ : IL w sa sl sc) :
    Calls Tryd.prog 3 #[.slice ba bl bc, .slice pa pl pc, .slice sa sl sc] w fun e w' => e = .returned (.bool true) ∧ Below w.heap.size w w' := by
  have HG := Lib.hid hG
  have HS := Lib.hid hS
  have HI := Lib.hid hI
  have HZ := Lib.hid hZ
  have m1 := hS.hmx
  have m2 := hI.hmx
  have m3 := hZ.hmx
  have l1 := hS.hle
  have l2 := hI.hle
  have l3 := hZ.hle
  unfold maxLen at m1 m2 m3
  clear hG hS hI hZ
  by_cases h1 : 2147483647 < bl
  · have h1' : (2147483647 : Int) < (bl : Int) := by omega
    clear h1
    go_enter Tryd.func3, Tryd.ntmps3
    go_wp2_with fail
    go_ret
    exact ⟨rfl, Below.refl _ _⟩
  by_cases h2 : 2147483647 < pl
  · have h1' : ¬ (2147483647 : Int) < (bl : Int) := by omega
    have h2' : (2147483647 : Int) < (pl : Int) := by omega
    clear h1 h2
    go_enter Tryd.func3, Tryd.ntmps3
    go_wp2_with fail
    go_ret
    exact ⟨rfl, Below.refl _ _⟩
  by_cases h3 : 2147483647 < sl
  · have h1' : ¬ (2147483647 : Int) < (bl : Int) := by omega
    have h2' : ¬ (2147483647 : Int) < (pl : Int) := by omega
    have h3' : (2147483647 : Int) < (sl : Int) := by omega
    clear h1 h2 h3
    go_enter Tryd.func3, Tryd.ntmps3
    go_wp2_with fail
    go_ret
    exact ⟨rfl, Below.refl _ _⟩
  have h1' : ¬ (2147483647 : Int) < (bl : Int) := by omega
  have h2' : ¬ (2147483647 : Int) < (pl : Int) := by omega
  have h3' : ¬ (2147483647 : Int) < (sl : Int) := by omega
  have hbl : bl ≤ 2147483647 := by omega
  have hsl : sl ≤ 2147483647 := by omega
  have K10 := Lib.hid (dec_any ba bl bc xs w HS.out hbl)
  clear h1 h2 h3
  go_enter Tryd.func3, Tryd.ntmps3
  go_wp2_with fail
  refine K10.out.mono ?_
  rintro e w1 ⟨⟨v, k, rfl, hk⟩, hb1⟩
  have HB1 := Lib.hid hb1
  have HK := Lib.hid hk
  have HG1 := Lib.hid (HG.out.step hb1)
  clear hb1 hk K10
  by_cases hk2 : k = 2
  · subst hk2
    have hF1 := Fr.of_below (S := []) HB1.out
    have K13 := Lib.hid (bnd_any sa sl sc w1 (HZ.out.fr hF1 (by simp)) hsl)
    have S1 := Lib.hid (HS.out.below HB1.out)
    have IL1 := Lib.hid (HI.out.fr hF1 (by simp))
    clear hF1
    go_wp2_with fail
    refine K13.out.mono ?_
    rintro e w2 ⟨⟨a', c', rfl, hz⟩, hb2⟩
    have HB2 := Lib.hid hb2
    have ZL2 := Lib.hid hz
    have HG2 := Lib.hid (HG1.out.step hb2)
    have S2 := Lib.hid (S1.out.below hb2)
    have IL2 := Lib.hid (IL1.out.fr (Fr.of_below (S := []) hb2) (by simp))
    clear hb2 hz K13
    obtain ⟨o, ho⟩ := HK.out (by first | rfl | trivial)
    have K12 := Lib.hid (imr_any HG2.out S2.out IL2.out ZL2.out hbl hsl ho)
    clear ho
    go_wp2_with fail
    refine K12.out.mono ?_
    rintro e w3 ⟨⟨v3, rfl, _⟩, hb3⟩
    have HB3 := Lib.hid (below_next (below_next HB1.out HB1.out.size HB2.out) (Nat.le_trans HB1.out.size HB2.out.size) hb3)
    have hcd : cd false = 1 := rfl
    clear hb3
    go_wp2_with fail
    go_ret
    exact ⟨rfl, HB3.out⟩
  · have hk3 : (k == 2) = false := beq_eq_false_iff_ne.2 hk2
    go_wp2_with fail
    refine (works_any HG1.out).mono ?_
    rintro e w2 ⟨rfl, hb2⟩
    have HB2 := Lib.hid (below_next HB1.out HB1.out.size hb2)
    clear hb2
    go_wp2_with fail
    go_ret
    exact ⟨rfl, HB2.out⟩
end Go.Proofs.YtjajhpgodijeoaaDoor
