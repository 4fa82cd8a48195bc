/-
  Sizes of at most 10000.
-/
import Derived.Test.YtjajhpgodijeoaaDoorImr
namespace Go.Proofs.YtjajhpgodijeoaaDoor
open Go.RowKit

theorem Tryd.info3 : (Tryd.prog.info? 3).map (fun i => (i.zero, i.size, i.bytes)) = some (some (.int .i64 0), 1, 8) := by kernel_rfl
/-- A number of at most 10000. -/
def Small (u : Value) : Prop := ∃ z : Int, z ≤ 10000 ∧ u = .int .i64 z
theorem Small.one {u : Value} (h : Small u) : u.oneCell' = true := by
  obtain ⟨z, _, rfl⟩ := h
  rfl
theorem own_row3 {w : World} {base n : Nat} {v : Value} {xs : List Value} (h : w.ownsRow base 3 1 v n xs) : ∀ g ∈ v.ownBlock.toList, base ≤ g := by
  intro g hg
  rcases h.2 with ⟨rfl, _⟩ | ⟨g', cap, cur, rfl, h2, _⟩
  · simp [Value.ownBlock] at hg
  · simp [Value.ownBlock] at hg
    omega
theorem own_fr3 {w w' : World} {base : Nat} {v : Value} {n : Nat} {xs : List Value} (h : w.ownsRow base 3 1 v n xs) {S : List Nat} (hf : Fr S w w') (hS : ∀ b ∈ S, b < base ∨ w.heap.size ≤ b) : w'.ownsRow base 3 1 v n xs := by
  refine ⟨h.1, ?_⟩
  rcases h.2 with h2 | ⟨g, cap, cur, h1, h2, h3, h4⟩
  · exact .inl h2
  · refine .inr ⟨g, cap, cur, h1, h2, ?_, h4⟩
    have hlt : g < w.heap.size := (Array.getElem?_eq_some_iff.1 h3).1
    rw [hf.block g hlt (fun hm => by have := hS g hm; omega)]
    exact h3
theorem own_zl {w : World} {base : Nat} {v : Value} {n : Nat} {xs : List Value} (h : w.ownsRow base 3 1 v n xs) (hs : ∀ u ∈ xs, Small u) : ∃ a c, v = .slice a n c ∧ ZL w w.heap.size a n c := by
  obtain ⟨hl, h⟩ := h
  rcases h with ⟨rfl, rfl⟩ | ⟨g, cap, cur, rfl, h2, h3, h4, h5, h6, h7⟩
  · exact ⟨_, _, rfl, Nat.le_refl _, Nat.zero_le _, fun h => absurd h (by omega)⟩
  · refine ⟨_, _, rfl, h4, h5, fun hp => ⟨g, 0, rfl, (Array.getElem?_eq_some_iff.1 h3).1, fun i hi => ?_⟩⟩
    have hix : i < xs.length := by omega
    obtain ⟨z, hz, he⟩ := hs xs[i] (List.getElem_mem hix)
    refine ⟨z, hz, ?_⟩
    have h8 : cur.toList[i]? = some (.int .i64 z) := take_getElem? h7 (by rw [List.getElem?_eq_getElem hix, he])
    simp [World.cell?, h3]
    simpa using h8

def BndRel (w : World) (len : Nat) (g : Nat) (s3 s8 : Value) (wr : World) : Prop :=
  ∃ i xs, i ≤ len ∧ s8 = .int .i64 (i : Nat) ∧ wr.ownsRow w.heap.size 3 1 s3 i xs ∧ (∀ u ∈ xs, Small u) ∧ Fr [] w wr ∧ g = len - i

set_option maxHeartbeats 1000000 in
set_option maxRecDepth 100000 in
theorem bnd_any (a : Option Addr) (len cap : Nat) (w : World) (h : IL w a len cap) (hl : len ≤ 2147483647) :
    Calls Tryd.prog 13 #[.slice a len cap] w fun e w' => (∃ a' c', e = .returned (.slice a' len c') ∧ ZL w' w'.heap.size a' len c') ∧ Below w.heap.size w w' := by
  have H := Lib.hid h
  have I3 := Lib.hid (info_parts Tryd.info3)
  clear h
  go_enter Tryd.func13, Tryd.ntmps13
  go_wp2_with fail
  go_loopg [3, 8] len (BndRel w len)
  case atStart => exact ⟨0, [], Nat.zero_le _, rfl, World.ownsRow_nil _ _ _ _, by simp, Fr.refl _ _, rfl⟩
  case round =>
    obtain ⟨i, xs, hi, rfl, hown, hsm, hF, hg⟩ := hrel
    have HOWN := Lib.hid hown
    have HSM := Lib.hid hsm
    have HF := Lib.hid hF
    have HG := Lib.hid hg
    have hwr := hF.size
    clear hown hsm hF hg
    by_cases hlt : i < len
    · obtain ⟨b, off, rfl, hc⟩ := (H.out.fr HF.out (by simp)).hat (by omega)
      obtain ⟨z, hz⟩ := hc i hlt
      obtain ⟨q, hq⟩ : ∃ q : Int, (if 10000 < z then 10000 else z) = q := ⟨_, rfl⟩
      have hqs : q ≤ 10000 := by split at hq <;> omega
      have HQ := Lib.hid hqs
      clear hc hqs
      have OWN2 := Lib.hid (own_fr3 HOWN.out ((Fr.refl [] wr).alloc (.cells #[.int .i64 q] 3)) (by simp))
      go_wp2_with (at_builtin; refine wpList_append_own_at _ rfl (.tmp 12) (.tmp 15) 23 rfl w.heap.size 3 I3.out.choose _ 1 8 Tryd.underlying23 I3.out.choose_spec.1 I3.out.choose_spec.2.1 I3.out.choose_spec.2.2.1 I3.out.choose_spec.2.2.2 rfl (by omega) u3 i xs rfl OWN2.out ⟨wr.heap.size, 0, none⟩ 1 1 [.int .i64 q] rfl rfl (cell_one_new _ _ _) (by simp [Value.oneCell']) (by unfold maxLen; omega) (by omega) (by simp; omega) ?_; intro v4 w4 hown4 hgrow4 hnil4 hat4; have OWN4 := Lib.hid hown4; have FG := Lib.hid (Fr.grown hgrow4 (S := Value.ownBlock u3 |>.toList) (by simp)); clear hown4 hgrow4 hnil4 hat4)
      have FF : Hid (Fr [] w w4) := ((HF.out.alloc _).mono (S' := (Value.ownBlock u3).toList) (by simp)).trans FG.out |>.new (fun b hb => .inr (own_row3 HOWN.out _ hb))
      go_roundg (len - (i + 1))
      case measure => rw [HG.out]; omega
      case rel =>
        refine ⟨i + 1, _, hlt, by go_num, OWN4.out, fun u hu => ?_, FF.out, rfl⟩
        rcases List.mem_append.1 hu with hu | hu
        · exact HSM.out u hu
        · simp at hu
          exact ⟨q, HQ.out, hu⟩
    · have hil : i = len := by omega
      have HIL := Lib.hid hil
      clear hil
      go_wp2_with fail
      go_ret
      obtain ⟨a', c', rfl, hz⟩ := own_zl HOWN.out HSM.out
      rw [HIL.out] at hz ⊢
      exact ⟨⟨a', c', rfl, hz⟩, HF.out.below (Nat.le_refl _) (by simp)⟩
end Go.Proofs.YtjajhpgodijeoaaDoor
