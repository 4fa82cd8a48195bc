/-
  Looking ahead for the line of a chunk.
-/
import Derived.Test.YtjajhpgodijeoaaDoorRal
import Derived.Test.YtjajhpgodijeoaaDoorBgc
namespace Go.Proofs.YtjajhpgodijeoaaDoor
open Go.RowKit

set_option maxHeartbeats 1000000 in
set_option maxRecDepth 100000 in
theorem peek_any {w : World} {A B C base r v nb : Nat} {ys zs : List Int} (h : St w A B C base r v .nilIface ys zs) (hn : nb = ys.length) (h0 : 0 < nb) :
    Calls Tryd.prog 62 #[.pointer (some ⟨B, 0, none⟩), .int .i64 nb] w fun e w' => e = .returned (.tuple #[.slice (some ⟨C, r, none⟩) nb (4096 - r), .nilIface]) ∧ St w' A B C base r v .nilIface ys zs ∧ Fr [B] w w' := by
  obtain ⟨lb, lr, b⟩ := h.b
  have hlen := h.len
  have hv := h.hv
  have hvr : (v : Int) - (r : Int) = (nb : Int) := by omega
  have hrv : (r : Int) + (nb : Int) = (v : Int) := by omega
  have hwv : IntKind.i64.wrap (v : Int) = (v : Int) := IntWalk.i64_in _ (by omega)
  have hwn : IntKind.i64.wrap (nb : Int) = (nb : Int) := IntWalk.i64_in _ (by omega)
  have hnn : ((nb : Int) < 0) = False := by simp
  have hsl : ∀ W, (Instr.slice 22 (.slice (some ⟨C, 0, none⟩) 4096 4096) (some (.int .i64 r)) (some (.int .i64 v)) none).run Tryd.prog W = .ok (.slice (some ⟨C, r, none⟩) nb (4096 - r)) W := fun W => by
    rw [run_sub W _ 4096 4096 r v (by omega) hv rfl rfl]
    simp only [cutAt, if_neg (by omega : ¬ 4096 = r), Option.map_some, Nat.mul_one, Addr.add_lit, Nat.zero_add, show v - r = nb by omega]
  have hnb : nb ≤ 4096 := by omega
  have H := Lib.hid h
  have S2 := Lib.hid (fun x y => (h.put (i := 5) (x := .int .i64 x) (fun lb lr => ⟨_, lr, rfl⟩) (fun _ _ h => h) h.len h.hv h.bd).put (i := 6) (x := .int .i64 y) (fun lb lr => ⟨lb, _, rfl⟩) (fun _ _ h => h) h.len h.hv h.bd)
  have hB5 := b.cell (i := 5) rfl
  have hB6 := b.cell (i := 6) rfl
  have fB5 := b.frozen 5
  have fB6 := b.frozen 6
  have HN := Lib.hid hn
  have HBk := Lib.hid b
  clear h hlen hv hn b
  go_enter Tryd.func62, Tryd.ntmps62
  go_wp2_with fail
  have b2 := (HBk.out.set 5 (.int .i64 (-1))).set 6 (.int .i64 (-1))
  have F2 := Lib.hid (((Fr.refl [B] w).setCell (b := B) (i := 5) (by simp) (.int .i64 (-1))).setCell (b := B) (i := 6) (by simp) (.int .i64 (-1)))
  have ST2 := Lib.hid (S2.out (-1) (-1))
  clear hB5 hB6 fB5 fB6 S2
  generalize (w.setCell ⟨B, 5, none⟩ (.int .i64 (-1))).setCell ⟨B, 6, none⟩ (.int .i64 (-1)) = w2 at b2 F2 ST2 ⊢
  have hB0 := b2.cell (i := 0) rfl
  have hB2 := b2.cell (i := 2) rfl
  have hB3 := b2.cell (i := 3) rfl
  clear b2
  go_loop [17] (fun _ => True) (fun _ => 0)
  case atStart => trivial
  case round =>
    clear hrel
    go_wp2_with fail
    go_quiet (fail)
    all_goals go_wp2_with fail
    have F3 := Lib.hid (F2.out.drewN nq)
    have H3 := Lib.hid (ST2.out.drewN nq)
    have hB0 : (w2.drewN nq).cell? ⟨B, 0, none⟩ = _ := hB0
    have hB2 : (w2.drewN nq).cell? ⟨B, 2, none⟩ = some (.int .i64 r) := hB2
    have hB3 : (w2.drewN nq).cell? ⟨B, 3, none⟩ = some (.int .i64 v) := hB3
    generalize w2.drewN nq = w3 at F3 H3 hB0 hB2 hB3 ⊢
    go_quiet (fail)
    all_goals go_wp2_with fail
    have F4 := Lib.hid (F3.out.drewN nq)
    have H4 := Lib.hid (H3.out.drewN nq)
    have hB0 : (w3.drewN nq).cell? ⟨B, 0, none⟩ = _ := hB0
    have hB2 : (w3.drewN nq).cell? ⟨B, 2, none⟩ = some (.int .i64 r) := hB2
    have hB3 : (w3.drewN nq).cell? ⟨B, 3, none⟩ = some (.int .i64 v) := hB3
    generalize w3.drewN nq = w4 at F4 H4 hB0 hB2 hB3 ⊢
    go_quiet (fail)
    all_goals go_wp2_with fail
    go_ret2
    exact ⟨rfl, H4.out.drewN nq, F4.out.drewN nq⟩

set_option maxHeartbeats 1000000 in
theorem avail_any {w : World} {A B C D base r v n ex : Nat} {ce : Bool} {err : Value} {ys zs : List Int} (h : St w A B C base r v .nilIface ys zs) (hD : Cr w D B n err ce ex) :
    Calls Tryd.prog 56 #[.pointer (some ⟨D, 0, none⟩)] w fun e w' => (∃ f, e = .returned (.bool f)) ∧ St w' A B C base r v .nilIface ys zs ∧ Fr [B] w w' := by
  obtain ⟨b0, b1, d⟩ := hD
  have hD0 := d.cell (i := 0) rfl
  obtain ⟨nb, hn⟩ : ∃ nb, nb = ys.length := ⟨_, rfl⟩
  have H := Lib.hid h
  have HN := Lib.hid hn
  have HD := Lib.hid d
  have hbuf := buffered_any h
  rw [← hn] at hbuf
  have HB := Lib.hid hbuf
  clear h hn d hbuf
  rcases Nat.eq_zero_or_pos nb with h0 | h0
  · subst h0
    go_enter Tryd.func56, Tryd.ntmps56
    go_wp2_with fail
    refine HB.out.mono ?_
    rintro e w' ⟨rfl, k, rfl⟩
    go_wp2_with fail
    go_ret
    exact ⟨⟨_, rfl⟩, H.out.drewN k, (Fr.refl _ _).drewN k⟩
  · have hlen := H.out.len
    have hsl := Lib.hid (fun w (h : St w A B C base r v .nilIface ys zs) => by
      have := h.part (k := 0) (m := nb) (cap := 4096 - r) (by rw [HN.out]; omega) (by have := h.hv; have := HN.out; omega) (by omega)
      rwa [Nat.add_zero, List.drop_zero, HN.out, List.take_length, ← HN.out] at this)
    go_enter Tryd.func56, Tryd.ntmps56
    go_wp2_with fail
    refine HB.out.mono ?_
    rintro e w' ⟨rfl, k, rfl⟩
    have hD0 : (w.drewN k).cell? ⟨D, 0, none⟩ = _ := hD0
    go_wp2_with fail
    refine (peek_any (H.out.drewN k) HN.out h0).mono ?_
    rintro e w1 ⟨rfl, hs1, hF1⟩
    have H1 := Lib.hid hs1
    have F1 := Lib.hid (((Fr.refl [B] w).drewN k).trans hF1)
    obtain ⟨q, hq⟩ : ∃ q, q = ixi ys 10 := ⟨_, rfl⟩
    have K := ixb_any C r nb (4096 - r) ys 10 (by omega) w1 (hsl.out w1 hs1)
    rw [← hq] at K
    have HK := Lib.hid K
    clear hs1 hF1 hq K
    go_wp2_with fail
    refine HK.out.mono ?_
    rintro e w' ⟨rfl, rfl⟩
    go_wp2_with fail
    all_goals go_ret
    all_goals exact ⟨⟨_, rfl⟩, H1.out, F1.out⟩
end Go.Proofs.YtjajhpgodijeoaaDoor
