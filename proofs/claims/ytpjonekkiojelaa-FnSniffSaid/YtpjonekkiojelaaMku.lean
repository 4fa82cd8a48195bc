/-
  The reference's markup and its patterns. No condition.
-/
import Derived.Test.YtpjonekkiojelaaTag
import Derived.Test.YtpjonekkiojelaaStr
namespace Go.Proofs.Ytpjonekkiojelaa
open Go.RowKit Go.PlainAid

/-- The tags of HTML. -/
def tagsP : List ByteArray := [⟨#[60, 33, 68, 79, 67, 84, 89, 80, 69, 32, 72, 84, 77, 76]⟩, ⟨#[60, 72, 84, 77, 76]⟩, ⟨#[60, 72, 69, 65, 68]⟩, ⟨#[60, 83, 67, 82, 73, 80, 84]⟩, ⟨#[60, 73, 70, 82, 65, 77, 69]⟩, ⟨#[60, 72, 49]⟩, ⟨#[60, 68, 73, 86]⟩, ⟨#[60, 70, 79, 78, 84]⟩, ⟨#[60, 84, 65, 66, 76, 69]⟩, ⟨#[60, 65]⟩, ⟨#[60, 83, 84, 89, 76, 69]⟩, ⟨#[60, 84, 73, 84, 76, 69]⟩, ⟨#[60, 66]⟩, ⟨#[60, 66, 79, 68, 89]⟩, ⟨#[60, 66, 82]⟩, ⟨#[60, 80]⟩, ⟨#[60, 33, 45, 45]⟩]
def tagsO : Obj := .cells #[.string ⟨#[60, 33, 68, 79, 67, 84, 89, 80, 69, 32, 72, 84, 77, 76]⟩, .string ⟨#[60, 72, 84, 77, 76]⟩, .string ⟨#[60, 72, 69, 65, 68]⟩, .string ⟨#[60, 83, 67, 82, 73, 80, 84]⟩, .string ⟨#[60, 73, 70, 82, 65, 77, 69]⟩, .string ⟨#[60, 72, 49]⟩, .string ⟨#[60, 68, 73, 86]⟩, .string ⟨#[60, 70, 79, 78, 84]⟩, .string ⟨#[60, 84, 65, 66, 76, 69]⟩, .string ⟨#[60, 65]⟩, .string ⟨#[60, 83, 84, 89, 76, 69]⟩, .string ⟨#[60, 84, 73, 84, 76, 69]⟩, .string ⟨#[60, 66]⟩, .string ⟨#[60, 66, 79, 68, 89]⟩, .string ⟨#[60, 66, 82]⟩, .string ⟨#[60, 80]⟩, .string ⟨#[60, 33, 45, 45]⟩] 9
def markupB (z : List Int) : Bool := tagsP.any (tagB z)
/-- The patterns, each with the name of its type. -/
def patsL : List (ByteArray × ByteArray) := [(⟨#[37, 80, 68, 70, 45]⟩, ⟨#[97, 112, 112, 108, 105, 99, 97, 116, 105, 111, 110, 47, 112, 100, 102]⟩), (⟨#[37, 33, 80, 83, 45, 65, 100, 111, 98, 101, 45]⟩, ⟨#[97, 112, 112, 108, 105, 99, 97, 116, 105, 111, 110, 47, 112, 111, 115, 116, 115, 99, 114, 105, 112, 116]⟩), (⟨#[254, 255, 63, 63]⟩, ⟨#[116, 101, 120, 116, 47, 112, 108, 97, 105, 110]⟩), (⟨#[255, 254, 63, 63]⟩, ⟨#[116, 101, 120, 116, 47, 112, 108, 97, 105, 110]⟩), (⟨#[239, 187, 191, 63]⟩, ⟨#[116, 101, 120, 116, 47, 112, 108, 97, 105, 110]⟩), (⟨#[0, 0, 1, 0]⟩, ⟨#[105, 109, 97, 103, 101, 47, 120, 45, 105, 99, 111, 110]⟩), (⟨#[0, 0, 2, 0]⟩, ⟨#[105, 109, 97, 103, 101, 47, 120, 45, 105, 99, 111, 110]⟩), (⟨#[66, 77]⟩, ⟨#[105, 109, 97, 103, 101, 47, 98, 109, 112]⟩), (⟨#[71, 73, 70, 56, 55, 97]⟩, ⟨#[105, 109, 97, 103, 101, 47, 103, 105, 102]⟩), (⟨#[71, 73, 70, 56, 57, 97]⟩, ⟨#[105, 109, 97, 103, 101, 47, 103, 105, 102]⟩), (⟨#[82, 73, 70, 70, 63, 63, 63, 63, 87, 69, 66, 80, 86, 80]⟩, ⟨#[105, 109, 97, 103, 101, 47, 119, 101, 98, 112]⟩), (⟨#[137, 80, 78, 71, 13, 10, 26, 10]⟩, ⟨#[105, 109, 97, 103, 101, 47, 112, 110, 103]⟩), (⟨#[255, 216, 255]⟩, ⟨#[105, 109, 97, 103, 101, 47, 106, 112, 101, 103]⟩), (⟨#[70, 79, 82, 77, 63, 63, 63, 63, 65, 73, 70, 70]⟩, ⟨#[97, 117, 100, 105, 111, 47, 97, 105, 102, 102]⟩), (⟨#[73, 68, 51]⟩, ⟨#[97, 117, 100, 105, 111, 47, 109, 112, 101, 103]⟩), (⟨#[79, 103, 103, 83, 0]⟩, ⟨#[97, 112, 112, 108, 105, 99, 97, 116, 105, 111, 110, 47, 111, 103, 103]⟩), (⟨#[77, 84, 104, 100, 0, 0, 0, 6]⟩, ⟨#[97, 117, 100, 105, 111, 47, 109, 105, 100, 105]⟩), (⟨#[82, 73, 70, 70, 63, 63, 63, 63, 65, 86, 73, 32]⟩, ⟨#[118, 105, 100, 101, 111, 47, 97, 118, 105]⟩), (⟨#[82, 73, 70, 70, 63, 63, 63, 63, 87, 65, 86, 69]⟩, ⟨#[97, 117, 100, 105, 111, 47, 119, 97, 118, 101]⟩), (⟨#[]⟩, ⟨#[118, 105, 100, 101, 111, 47, 109, 112, 52]⟩), (⟨#[31, 139, 8]⟩, ⟨#[97, 112, 112, 108, 105, 99, 97, 116, 105, 111, 110, 47, 120, 45, 103, 122, 105, 112]⟩), (⟨#[80, 75, 3, 4]⟩, ⟨#[97, 112, 112, 108, 105, 99, 97, 116, 105, 111, 110, 47, 122, 105, 112]⟩)]
def patsO : Obj := .cells #[.string ⟨#[37, 80, 68, 70, 45]⟩, .string ⟨#[97, 112, 112, 108, 105, 99, 97, 116, 105, 111, 110, 47, 112, 100, 102]⟩, .string ⟨#[37, 33, 80, 83, 45, 65, 100, 111, 98, 101, 45]⟩, .string ⟨#[97, 112, 112, 108, 105, 99, 97, 116, 105, 111, 110, 47, 112, 111, 115, 116, 115, 99, 114, 105, 112, 116]⟩, .string ⟨#[254, 255, 63, 63]⟩, .string ⟨#[116, 101, 120, 116, 47, 112, 108, 97, 105, 110]⟩, .string ⟨#[255, 254, 63, 63]⟩, .string ⟨#[116, 101, 120, 116, 47, 112, 108, 97, 105, 110]⟩, .string ⟨#[239, 187, 191, 63]⟩, .string ⟨#[116, 101, 120, 116, 47, 112, 108, 97, 105, 110]⟩, .string ⟨#[0, 0, 1, 0]⟩, .string ⟨#[105, 109, 97, 103, 101, 47, 120, 45, 105, 99, 111, 110]⟩, .string ⟨#[0, 0, 2, 0]⟩, .string ⟨#[105, 109, 97, 103, 101, 47, 120, 45, 105, 99, 111, 110]⟩, .string ⟨#[66, 77]⟩, .string ⟨#[105, 109, 97, 103, 101, 47, 98, 109, 112]⟩, .string ⟨#[71, 73, 70, 56, 55, 97]⟩, .string ⟨#[105, 109, 97, 103, 101, 47, 103, 105, 102]⟩, .string ⟨#[71, 73, 70, 56, 57, 97]⟩, .string ⟨#[105, 109, 97, 103, 101, 47, 103, 105, 102]⟩, .string ⟨#[82, 73, 70, 70, 63, 63, 63, 63, 87, 69, 66, 80, 86, 80]⟩, .string ⟨#[105, 109, 97, 103, 101, 47, 119, 101, 98, 112]⟩, .string ⟨#[137, 80, 78, 71, 13, 10, 26, 10]⟩, .string ⟨#[105, 109, 97, 103, 101, 47, 112, 110, 103]⟩, .string ⟨#[255, 216, 255]⟩, .string ⟨#[105, 109, 97, 103, 101, 47, 106, 112, 101, 103]⟩, .string ⟨#[70, 79, 82, 77, 63, 63, 63, 63, 65, 73, 70, 70]⟩, .string ⟨#[97, 117, 100, 105, 111, 47, 97, 105, 102, 102]⟩, .string ⟨#[73, 68, 51]⟩, .string ⟨#[97, 117, 100, 105, 111, 47, 109, 112, 101, 103]⟩, .string ⟨#[79, 103, 103, 83, 0]⟩, .string ⟨#[97, 112, 112, 108, 105, 99, 97, 116, 105, 111, 110, 47, 111, 103, 103]⟩, .string ⟨#[77, 84, 104, 100, 0, 0, 0, 6]⟩, .string ⟨#[97, 117, 100, 105, 111, 47, 109, 105, 100, 105]⟩, .string ⟨#[82, 73, 70, 70, 63, 63, 63, 63, 65, 86, 73, 32]⟩, .string ⟨#[118, 105, 100, 101, 111, 47, 97, 118, 105]⟩, .string ⟨#[82, 73, 70, 70, 63, 63, 63, 63, 87, 65, 86, 69]⟩, .string ⟨#[97, 117, 100, 105, 111, 47, 119, 97, 118, 101]⟩, .string ⟨#[]⟩, .string ⟨#[118, 105, 100, 101, 111, 47, 109, 112, 52]⟩, .string ⟨#[31, 139, 8]⟩, .string ⟨#[97, 112, 112, 108, 105, 99, 97, 116, 105, 111, 110, 47, 120, 45, 103, 122, 105, 112]⟩, .string ⟨#[80, 75, 3, 4]⟩, .string ⟨#[97, 112, 112, 108, 105, 99, 97, 116, 105, 111, 110, 47, 122, 105, 112]⟩] 45

theorem tag_cells (w : World) : ∀ k, k < 17 → (w.alloc tagsO).cell? ⟨w.heap.size, k, none⟩ = some (.string (tagsP.getD k ⟨#[]⟩)) := by
  intro k hk
  rw [cell_of_row _ w.heap.size k _ 9 (0, 0) (by show (w.heap.push _)[w.heap.size]? = _; simp; rfl)]
  match k, hk with
  | 0, _ | 1, _ | 2, _ | 3, _ | 4, _ | 5, _ | 6, _ | 7, _ | 8, _ | 9, _ | 10, _ | 11, _ | 12, _ | 13, _ | 14, _ | 15, _ | 16, _ => rfl
  | k + 17, hk => exact absurd hk (by omega)
theorem pat_cells (w : World) : ∀ k, k < 22 → (w.alloc patsO).cell? ⟨w.heap.size, 2 * k, none⟩ = some (.string (patsL.getD k (⟨#[]⟩, ⟨#[]⟩)).1) ∧ (w.alloc patsO).cell? ⟨w.heap.size, 2 * k + 1, none⟩ = some (.string (patsL.getD k (⟨#[]⟩, ⟨#[]⟩)).2) := by
  intro k hk
  rw [cell_of_row _ w.heap.size (2 * k) _ 45 (0, 0) (by show (w.heap.push _)[w.heap.size]? = _; simp; rfl), cell_of_row _ w.heap.size (2 * k + 1) _ 45 (0, 0) (by show (w.heap.push _)[w.heap.size]? = _; simp; rfl)]
  match k, hk with
  | 0, _ | 1, _ | 2, _ | 3, _ | 4, _ | 5, _ | 6, _ | 7, _ | 8, _ | 9, _ | 10, _ | 11, _ | 12, _ | 13, _ | 14, _ | 15, _ | 16, _ | 17, _ | 18, _ | 19, _ | 20, _ | 21, _ => exact ⟨rfl, rfl⟩
  | k + 22, hk => exact absurd hk (by omega)

set_option maxRecDepth 100000 in
set_option maxHeartbeats 8000000 in
theorem pats_any (w : World) : Calls Try.prog 36 #[] w fun e w' => e = .returned (.slice (some ⟨w.heap.size, 0, none⟩) 22 22) ∧ w' = w.alloc patsO := by
  go_enter Try.func36, Try.ntmps36
  go_wp2
  go_ret
  exact ⟨rfl, rfl⟩

set_option maxHeartbeats 2000000 in
theorem markup_any (a : Option Addr) (len cap : Nat) (ys : List Int) (w : World) (h : SL w a len cap ys) (hl : len ≤ 2147483647) :
    Calls Try.prog 35 #[.slice a len cap] w fun e w' => e = .returned (.bool (markupB ys)) ∧ Below w.heap.size w w' := by
  obtain ⟨W1, hW1, hB, hS, hC⟩ : ∃ W1, W1 = w.alloc (.cells #[.string ⟨#[60, 33, 68, 79, 67, 84, 89, 80, 69, 32, 72, 84, 77, 76]⟩, .string ⟨#[60, 72, 84, 77, 76]⟩, .string ⟨#[60, 72, 69, 65, 68]⟩, .string ⟨#[60, 83, 67, 82, 73, 80, 84]⟩, .string ⟨#[60, 73, 70, 82, 65, 77, 69]⟩, .string ⟨#[60, 72, 49]⟩, .string ⟨#[60, 68, 73, 86]⟩, .string ⟨#[60, 70, 79, 78, 84]⟩, .string ⟨#[60, 84, 65, 66, 76, 69]⟩, .string ⟨#[60, 65]⟩, .string ⟨#[60, 83, 84, 89, 76, 69]⟩, .string ⟨#[60, 84, 73, 84, 76, 69]⟩, .string ⟨#[60, 66]⟩, .string ⟨#[60, 66, 79, 68, 89]⟩, .string ⟨#[60, 66, 82]⟩, .string ⟨#[60, 80]⟩, .string ⟨#[60, 33, 45, 45]⟩] 9) ∧ Below w.heap.size w W1 ∧ SL W1 a len cap ys ∧ ∀ k, k < 17 → W1.cell? ⟨w.heap.size, k, none⟩ = some (.string (tagsP.getD k ⟨#[]⟩)) :=
    ⟨_, rfl, (Below.refl _ _).alloc (Nat.le_refl _) _, h.alloc _, tag_cells w⟩
  clear h
  have HS := Lib.hid hS
  have HC := Lib.hid hC
  clear hS hC
  go_enter Try.func35, Try.ntmps35
  go_wp2
  rw [← hW1]
  clear hW1
  go_loop [7] (fun v => ∃ k : Nat, k ≤ 17 ∧ v = .int .i64 k ∧ Hid (∀ i, i < k → tagB ys (tagsP.getD i ⟨#[]⟩) = false)) (fun v => 17 - (intOf v).toNat)
  case atStart => exact ⟨0, Nat.zero_le _, rfl, fun i hi => absurd hi (by omega)⟩
  case round =>
    obtain ⟨k, hk, rfl, he⟩ := hrel
    by_cases hlt : k < 17
    · have hcell := HC.out k hlt
      obtain ⟨p, hp⟩ : ∃ p, tagsP.getD k ⟨#[]⟩ = p := ⟨_, rfl⟩
      rw [hp] at hcell
      have HP := Lib.hid hp
      clear hp
      rcases Bool.eq_false_or_eq_true (tagB ys p) with hb | hb
      · have H : Hid (markupB ys = true) := any_hit (l := tagsP) (show k < tagsP.length from hlt) HP.out hb
        have HBB := Lib.hid hb
        clear hb
        go_wp2_with fail
        refine (tag_any a len cap ys p _ HS.out hl).mono ?_
        rw [HBB.out]
        rintro e w' ⟨rfl, rfl⟩
        go_wp2
        go_ret
        exact ⟨by rw [H.out]; rfl, hB⟩
      · have HBB := Lib.hid hb
        clear hb
        go_wp2_with fail
        refine (tag_any a len cap ys p _ HS.out hl).mono ?_
        rw [HBB.out]
        rintro e w' ⟨rfl, rfl⟩
        go_wp2
        go_round
        case rel =>
          refine ⟨k + 1, by omega, by go_num, fun i hi => ?_⟩
          rcases Nat.lt_or_eq_of_le (Nat.le_of_lt_succ hi) with hi | rfl
          · exact he.out i hi
          · rw [HP.out]; exact HBB.out
        case measure => simp [intOf]; omega
    · obtain rfl : k = 17 := by omega
      have H : Hid (markupB ys = false) := any_none (l := tagsP) he.out
      go_wp2
      go_ret
      exact ⟨by rw [H.out]; rfl, hB⟩
end Go.Proofs.Ytpjonekkiojelaa
