/-
  The type that the code tells of some bytes: that of their first 512. No condition.
-/
import Derived.Test.YtpjonekkiojelaaDet2
import Derived.Test.YtpjonekkiojelaaSgsW
namespace Go.Proofs.Ytpjonekkiojelaa
open Go.RowKit Go.PlainAid

theorem reps (w : World) : ∀ k, k < 51 → Rep (allocs w (objs w.heap.size)) ((vals w.heap.size).getD k .nilIface) (sigs.getD k .text) := by
  intro k hk
  match k, hk with
  | 0, _ => exact rep0 w
  | 1, _ => exact rep1 w
  | 2, _ => exact rep2 w
  | 3, _ => exact rep3 w
  | 4, _ => exact rep4 w
  | 5, _ => exact rep5 w
  | 6, _ => exact rep6 w
  | 7, _ => exact rep7 w
  | 8, _ => exact rep8 w
  | 9, _ => exact rep9 w
  | 10, _ => exact rep10 w
  | 11, _ => exact rep11 w
  | 12, _ => exact rep12 w
  | 13, _ => exact rep13 w
  | 14, _ => exact rep14 w
  | 15, _ => exact rep15 w
  | 16, _ => exact rep16 w
  | 17, _ => exact rep17 w
  | 18, _ => exact rep18 w
  | 19, _ => exact rep19 w
  | 20, _ => exact rep20 w
  | 21, _ => exact rep21 w
  | 22, _ => exact rep22 w
  | 23, _ => exact rep23 w
  | 24, _ => exact rep24 w
  | 25, _ => exact rep25 w
  | 26, _ => exact rep26 w
  | 27, _ => exact rep27 w
  | 28, _ => exact rep28 w
  | 29, _ => exact rep29 w
  | 30, _ => exact rep30 w
  | 31, _ => exact rep31 w
  | 32, _ => exact rep32 w
  | 33, _ => exact rep33 w
  | 34, _ => exact rep34 w
  | 35, _ => exact rep35 w
  | 36, _ => exact rep36 w
  | 37, _ => exact rep37 w
  | 38, _ => exact rep38 w
  | 39, _ => exact rep39 w
  | 40, _ => exact rep40 w
  | 41, _ => exact rep41 w
  | 42, _ => exact rep42 w
  | 43, _ => exact rep43 w
  | 44, _ => exact rep44 w
  | 45, _ => exact rep45 w
  | 46, _ => exact rep46 w
  | 47, _ => exact rep47 w
  | 48, _ => exact rep48 w
  | 49, _ => exact rep49 w
  | 50, _ => exact rep50 w
  | k + 51, hk => exact absurd hk (by omega)
theorem vals_at (B : Nat) (k : Nat) (hk : k < 51) : (vals B).toArray[k]? = some ((vals B).getD k .nilIface) := by
  have hl : (vals B).length = 51 := rfl
  rw [List.getElem?_toArray, List.getD, List.getElem?_eq_getElem (by omega)]
  rfl
theorem sigs_post (w : World) : Calls Try.prog 43 #[] w (SigPost w) := by
  refine (sigs_any w).mono ?_
  rintro e w1 ⟨rfl, rfl⟩
  refine ⟨_, rfl, allocs_below _ _, ?_, fun k hk => ⟨_, cell_at w 93 k (cs := (vals w.heap.size).toArray) rfl (vals_at _ k hk), reps w k hk⟩⟩
  rw [allocs_size]
  show w.heap.size + 93 < w.heap.size + 94
  omega
theorem detect_any (a : Option Addr) (len cap : Nat) (xs : List Int) (w : World) (h : SL w a len cap xs) (hl : len ≤ 2147483647) :
    Calls Try.prog 33 #[.slice a len cap] w (MatchPost w (det (xs.take 512))) := by
  by_cases hb : 512 < len
  · exact detect_big (fun w => sigs_post w) a len cap xs w h hb hl
  · have e : xs.take 512 = xs := List.take_of_length_le (by rw [h.hlen]; omega)
    rw [e]
    exact detect_small (fun w => sigs_post w) a len cap xs w h (by omega)
theorem sniff_any (a : Option Addr) (len cap : Nat) (xs : List Int) (w : World) (h : SL w a len cap xs) (hl : len ≤ 2147483647) :
    Calls Try.prog 22 #[.slice a len cap] w fun e w' => e = .returned (.string (det (xs.take 512))) ∧ Below w.heap.size w w' := by
  go_enter Try.func22, Try.ntmps22
  go_wp2_with fail
  refine (detect_any a len cap xs _ h hl).mono ?_
  rintro e w' ⟨rfl, hbel⟩
  go_wp2
  go_ret
  exact ⟨rfl, hbel⟩
theorem det_nil : (det (([] : List Int).take 512)).toList.isEmpty = false := by decide +kernel
end Go.Proofs.Ytpjonekkiojelaa
