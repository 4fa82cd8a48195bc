/-
  The list of signatures that the code builds, and where it lies in memory. Plain definitions and lemmas; no condition.
-/
import Derived.Test.YtpjonekkiojelaaMp4Law
namespace Go.Proofs.Ytpjonekkiojelaa
open Go.RowKit Go.PlainAid

/-- A signature: a tag of HTML; a pattern with a mask; a pattern; that of MP4; that of text. -/
inductive Sig where
  | html (p : List Int)
  | masked (m p : List Int) (skip : Bool) (ct : ByteArray)
  | fixd (p : List Int) (ct : ByteArray)
  | mp4
  | text

/-- New blocks, one behind the other. -/
def allocs (w : World) : List Obj → World
  | [] => w
  | o :: r => allocs (w.alloc o) r
theorem allocs_size : ∀ (l : List Obj) (w : World), (allocs w l).heap.size = w.heap.size + l.length
  | [], _ => rfl
  | o :: r, w => by
    show (allocs (w.alloc o) r).heap.size = _
    rw [allocs_size r]
    simp
    omega
theorem allocs_below : ∀ (l : List Obj) (w : World), Below w.heap.size w (allocs w l)
  | [], w => Below.refl _ _
  | o :: r, w => ((Below.refl _ _).alloc (Nat.le_refl _) o).trans ((allocs_below r (w.alloc o)).mono (by simp))
theorem allocs_at : ∀ (l : List Obj) (w : World) (i : Nat), i < l.length → (allocs w l).heap[w.heap.size + i]? = l[i]?
  | [], _, _, h => absurd h (by simp)
  | o :: r, w, 0, _ => by
    show (allocs (w.alloc o) r).heap[w.heap.size + 0]? = _
    rw [(allocs_below r (w.alloc o)).block _ (by simp)]
    show (w.heap.push o)[w.heap.size]? = _
    simp
  | o :: r, w, i + 1, h => by
    have := allocs_at r (w.alloc o) i (by simpa using h)
    show (allocs (w.alloc o) r).heap[w.heap.size + (i + 1)]? = _
    rw [show w.heap.size + (i + 1) = (w.alloc o).heap.size + i by simp; omega, this]
    rfl

/-- The value v is the signature s in the world w. -/
def Rep (w : World) (v : Value) : Sig → Prop
  | .html p => ∃ b, v = .iface 61 (.slice (some ⟨b, 0, none⟩) p.length p.length) ∧ SL w (some ⟨b, 0, none⟩) p.length p.length p
  | .masked m p skip ct => ∃ b bm bp, v = .iface 62 (.pointer (some ⟨b, 0, none⟩)) ∧ w.cell? ⟨b, 0, none⟩ = some (.slice (some ⟨bm, 0, none⟩) m.length m.length) ∧ w.cell? ⟨b, 1, none⟩ = some (.slice (some ⟨bp, 0, none⟩) p.length p.length) ∧
      w.cell? ⟨b, 2, none⟩ = some (.bool skip) ∧ w.cell? ⟨b, 3, none⟩ = some (.string ct) ∧ SL w (some ⟨bm, 0, none⟩) m.length m.length m ∧ SL w (some ⟨bp, 0, none⟩) p.length p.length p
  | .fixd p ct => ∃ b bp, v = .iface 65 (.pointer (some ⟨b, 0, none⟩)) ∧ w.cell? ⟨b, 0, none⟩ = some (.slice (some ⟨bp, 0, none⟩) p.length p.length) ∧ w.cell? ⟨b, 1, none⟩ = some (.string ct) ∧ SL w (some ⟨bp, 0, none⟩) p.length p.length p
  | .mp4 => v = .iface 49 (.agg #[])
  | .text => v = .iface 47 (.agg #[])

/-- The blocks that the list of signatures lies in; B: the first block's number. -/
def objs (B : Nat) : List Obj := [
  .cells #[.int .u8 60, .int .u8 33, .int .u8 68, .int .u8 79, .int .u8 67, .int .u8 84, .int .u8 89, .int .u8 80, .int .u8 69, .int .u8 32, .int .u8 72, .int .u8 84, .int .u8 77, .int .u8 76] 5 (14, 15),
  .cells #[.int .u8 60, .int .u8 72, .int .u8 84, .int .u8 77, .int .u8 76] 5 (5, 6),
  .cells #[.int .u8 60, .int .u8 72, .int .u8 69, .int .u8 65, .int .u8 68] 5 (5, 6),
  .cells #[.int .u8 60, .int .u8 83, .int .u8 67, .int .u8 82, .int .u8 73, .int .u8 80, .int .u8 84] 5 (7, 8),
  .cells #[.int .u8 60, .int .u8 73, .int .u8 70, .int .u8 82, .int .u8 65, .int .u8 77, .int .u8 69] 5 (7, 8),
  .cells #[.int .u8 60, .int .u8 72, .int .u8 49] 5 (3, 4),
  .cells #[.int .u8 60, .int .u8 68, .int .u8 73, .int .u8 86] 5 (4, 5),
  .cells #[.int .u8 60, .int .u8 70, .int .u8 79, .int .u8 78, .int .u8 84] 5 (5, 6),
  .cells #[.int .u8 60, .int .u8 84, .int .u8 65, .int .u8 66, .int .u8 76, .int .u8 69] 5 (6, 7),
  .cells #[.int .u8 60, .int .u8 65] 5 (2, 3),
  .cells #[.int .u8 60, .int .u8 83, .int .u8 84, .int .u8 89, .int .u8 76, .int .u8 69] 5 (6, 7),
  .cells #[.int .u8 60, .int .u8 84, .int .u8 73, .int .u8 84, .int .u8 76, .int .u8 69] 5 (6, 7),
  .cells #[.int .u8 60, .int .u8 66] 5 (2, 3),
  .cells #[.int .u8 60, .int .u8 66, .int .u8 79, .int .u8 68, .int .u8 89] 5 (5, 6),
  .cells #[.int .u8 60, .int .u8 66, .int .u8 82] 5 (3, 4),
  .cells #[.int .u8 60, .int .u8 80] 5 (2, 3),
  .cells #[.int .u8 60, .int .u8 33, .int .u8 45, .int .u8 45] 5 (4, 5),
  .cells #[.int .u8 255, .int .u8 255, .int .u8 255, .int .u8 255, .int .u8 255] 5 (5, 6),
  .cells #[.int .u8 60, .int .u8 63, .int .u8 120, .int .u8 109, .int .u8 108] 5 (5, 6),
  .cells #[.slice (some ⟨B + 17, 0, none⟩) 5 5, .slice (some ⟨B + 18, 0, none⟩) 5 5, .bool true, .string ⟨#[116, 101, 120, 116, 47, 120, 109, 108, 59, 32, 99, 104, 97, 114, 115, 101, 116, 61, 117, 116, 102, 45, 56]⟩] 64,
  .cells #[.int .u8 37, .int .u8 80, .int .u8 68, .int .u8 70, .int .u8 45] 5 (5, 6),
  .cells #[.slice (some ⟨B + 20, 0, none⟩) 5 5, .string ⟨#[97, 112, 112, 108, 105, 99, 97, 116, 105, 111, 110, 47, 112, 100, 102]⟩] 67,
  .cells #[.int .u8 37, .int .u8 33, .int .u8 80, .int .u8 83, .int .u8 45, .int .u8 65, .int .u8 100, .int .u8 111, .int .u8 98, .int .u8 101, .int .u8 45] 5 (11, 12),
  .cells #[.slice (some ⟨B + 22, 0, none⟩) 11 11, .string ⟨#[97, 112, 112, 108, 105, 99, 97, 116, 105, 111, 110, 47, 112, 111, 115, 116, 115, 99, 114, 105, 112, 116]⟩] 67,
  .cells #[.int .u8 255, .int .u8 255, .int .u8 0, .int .u8 0] 5 (4, 5),
  .cells #[.int .u8 254, .int .u8 255, .int .u8 0, .int .u8 0] 5 (4, 5),
  .cells #[.slice (some ⟨B + 24, 0, none⟩) 4 4, .slice (some ⟨B + 25, 0, none⟩) 4 4, .bool false, .string ⟨#[116, 101, 120, 116, 47, 112, 108, 97, 105, 110, 59, 32, 99, 104, 97, 114, 115, 101, 116, 61, 117, 116, 102, 45, 49, 54, 98, 101]⟩] 64,
  .cells #[.int .u8 255, .int .u8 255, .int .u8 0, .int .u8 0] 5 (4, 5),
  .cells #[.int .u8 255, .int .u8 254, .int .u8 0, .int .u8 0] 5 (4, 5),
  .cells #[.slice (some ⟨B + 27, 0, none⟩) 4 4, .slice (some ⟨B + 28, 0, none⟩) 4 4, .bool false, .string ⟨#[116, 101, 120, 116, 47, 112, 108, 97, 105, 110, 59, 32, 99, 104, 97, 114, 115, 101, 116, 61, 117, 116, 102, 45, 49, 54, 108, 101]⟩] 64,
  .cells #[.int .u8 255, .int .u8 255, .int .u8 255, .int .u8 0] 5 (4, 5),
  .cells #[.int .u8 239, .int .u8 187, .int .u8 191, .int .u8 0] 5 (4, 5),
  .cells #[.slice (some ⟨B + 30, 0, none⟩) 4 4, .slice (some ⟨B + 31, 0, none⟩) 4 4, .bool false, .string ⟨#[116, 101, 120, 116, 47, 112, 108, 97, 105, 110, 59, 32, 99, 104, 97, 114, 115, 101, 116, 61, 117, 116, 102, 45, 56]⟩] 64,
  .cells #[.int .u8 0, .int .u8 0, .int .u8 1, .int .u8 0] 5 (4, 5),
  .cells #[.slice (some ⟨B + 33, 0, none⟩) 4 4, .string ⟨#[105, 109, 97, 103, 101, 47, 120, 45, 105, 99, 111, 110]⟩] 67,
  .cells #[.int .u8 0, .int .u8 0, .int .u8 2, .int .u8 0] 5 (4, 5),
  .cells #[.slice (some ⟨B + 35, 0, none⟩) 4 4, .string ⟨#[105, 109, 97, 103, 101, 47, 120, 45, 105, 99, 111, 110]⟩] 67,
  .cells #[.int .u8 66, .int .u8 77] 5 (2, 3),
  .cells #[.slice (some ⟨B + 37, 0, none⟩) 2 2, .string ⟨#[105, 109, 97, 103, 101, 47, 98, 109, 112]⟩] 67,
  .cells #[.int .u8 71, .int .u8 73, .int .u8 70, .int .u8 56, .int .u8 55, .int .u8 97] 5 (6, 7),
  .cells #[.slice (some ⟨B + 39, 0, none⟩) 6 6, .string ⟨#[105, 109, 97, 103, 101, 47, 103, 105, 102]⟩] 67,
  .cells #[.int .u8 71, .int .u8 73, .int .u8 70, .int .u8 56, .int .u8 57, .int .u8 97] 5 (6, 7),
  .cells #[.slice (some ⟨B + 41, 0, none⟩) 6 6, .string ⟨#[105, 109, 97, 103, 101, 47, 103, 105, 102]⟩] 67,
  .cells #[.int .u8 255, .int .u8 255, .int .u8 255, .int .u8 255, .int .u8 0, .int .u8 0, .int .u8 0, .int .u8 0, .int .u8 255, .int .u8 255, .int .u8 255, .int .u8 255, .int .u8 255, .int .u8 255] 5 (14, 15),
  .cells #[.int .u8 82, .int .u8 73, .int .u8 70, .int .u8 70, .int .u8 0, .int .u8 0, .int .u8 0, .int .u8 0, .int .u8 87, .int .u8 69, .int .u8 66, .int .u8 80, .int .u8 86, .int .u8 80] 5 (14, 15),
  .cells #[.slice (some ⟨B + 43, 0, none⟩) 14 14, .slice (some ⟨B + 44, 0, none⟩) 14 14, .bool false, .string ⟨#[105, 109, 97, 103, 101, 47, 119, 101, 98, 112]⟩] 64,
  .cells #[.int .u8 137, .int .u8 80, .int .u8 78, .int .u8 71, .int .u8 13, .int .u8 10, .int .u8 26, .int .u8 10] 5 (8, 9),
  .cells #[.slice (some ⟨B + 46, 0, none⟩) 8 8, .string ⟨#[105, 109, 97, 103, 101, 47, 112, 110, 103]⟩] 67,
  .cells #[.int .u8 255, .int .u8 216, .int .u8 255] 5 (3, 4),
  .cells #[.slice (some ⟨B + 48, 0, none⟩) 3 3, .string ⟨#[105, 109, 97, 103, 101, 47, 106, 112, 101, 103]⟩] 67,
  .cells #[.int .u8 255, .int .u8 255, .int .u8 255, .int .u8 255, .int .u8 0, .int .u8 0, .int .u8 0, .int .u8 0, .int .u8 255, .int .u8 255, .int .u8 255, .int .u8 255] 5 (12, 13),
  .cells #[.int .u8 70, .int .u8 79, .int .u8 82, .int .u8 77, .int .u8 0, .int .u8 0, .int .u8 0, .int .u8 0, .int .u8 65, .int .u8 73, .int .u8 70, .int .u8 70] 5 (12, 13),
  .cells #[.slice (some ⟨B + 50, 0, none⟩) 12 12, .slice (some ⟨B + 51, 0, none⟩) 12 12, .bool false, .string ⟨#[97, 117, 100, 105, 111, 47, 97, 105, 102, 102]⟩] 64,
  .cells #[.int .u8 255, .int .u8 255, .int .u8 255] 5 (3, 4),
  .cells #[.int .u8 73, .int .u8 68, .int .u8 51] 5 (3, 4),
  .cells #[.slice (some ⟨B + 53, 0, none⟩) 3 3, .slice (some ⟨B + 54, 0, none⟩) 3 3, .bool false, .string ⟨#[97, 117, 100, 105, 111, 47, 109, 112, 101, 103]⟩] 64,
  .cells #[.int .u8 255, .int .u8 255, .int .u8 255, .int .u8 255, .int .u8 255] 5 (5, 6),
  .cells #[.int .u8 79, .int .u8 103, .int .u8 103, .int .u8 83, .int .u8 0] 5 (5, 6),
  .cells #[.slice (some ⟨B + 56, 0, none⟩) 5 5, .slice (some ⟨B + 57, 0, none⟩) 5 5, .bool false, .string ⟨#[97, 112, 112, 108, 105, 99, 97, 116, 105, 111, 110, 47, 111, 103, 103]⟩] 64,
  .cells #[.int .u8 255, .int .u8 255, .int .u8 255, .int .u8 255, .int .u8 255, .int .u8 255, .int .u8 255, .int .u8 255] 5 (8, 9),
  .cells #[.int .u8 77, .int .u8 84, .int .u8 104, .int .u8 100, .int .u8 0, .int .u8 0, .int .u8 0, .int .u8 6] 5 (8, 9),
  .cells #[.slice (some ⟨B + 59, 0, none⟩) 8 8, .slice (some ⟨B + 60, 0, none⟩) 8 8, .bool false, .string ⟨#[97, 117, 100, 105, 111, 47, 109, 105, 100, 105]⟩] 64,
  .cells #[.int .u8 255, .int .u8 255, .int .u8 255, .int .u8 255, .int .u8 0, .int .u8 0, .int .u8 0, .int .u8 0, .int .u8 255, .int .u8 255, .int .u8 255, .int .u8 255] 5 (12, 13),
  .cells #[.int .u8 82, .int .u8 73, .int .u8 70, .int .u8 70, .int .u8 0, .int .u8 0, .int .u8 0, .int .u8 0, .int .u8 65, .int .u8 86, .int .u8 73, .int .u8 32] 5 (12, 13),
  .cells #[.slice (some ⟨B + 62, 0, none⟩) 12 12, .slice (some ⟨B + 63, 0, none⟩) 12 12, .bool false, .string ⟨#[118, 105, 100, 101, 111, 47, 97, 118, 105]⟩] 64,
  .cells #[.int .u8 255, .int .u8 255, .int .u8 255, .int .u8 255, .int .u8 0, .int .u8 0, .int .u8 0, .int .u8 0, .int .u8 255, .int .u8 255, .int .u8 255, .int .u8 255] 5 (12, 13),
  .cells #[.int .u8 82, .int .u8 73, .int .u8 70, .int .u8 70, .int .u8 0, .int .u8 0, .int .u8 0, .int .u8 0, .int .u8 87, .int .u8 65, .int .u8 86, .int .u8 69] 5 (12, 13),
  .cells #[.slice (some ⟨B + 65, 0, none⟩) 12 12, .slice (some ⟨B + 66, 0, none⟩) 12 12, .bool false, .string ⟨#[97, 117, 100, 105, 111, 47, 119, 97, 118, 101]⟩] 64,
  .cells #[.int .u8 26, .int .u8 69, .int .u8 223, .int .u8 163] 5 (4, 5),
  .cells #[.slice (some ⟨B + 68, 0, none⟩) 4 4, .string ⟨#[118, 105, 100, 101, 111, 47, 119, 101, 98, 109]⟩] 67,
  .cells #[.int .u8 0, .int .u8 0, .int .u8 0, .int .u8 0, .int .u8 0, .int .u8 0, .int .u8 0, .int .u8 0, .int .u8 0, .int .u8 0, .int .u8 0, .int .u8 0, .int .u8 0, .int .u8 0, .int .u8 0, .int .u8 0, .int .u8 0, .int .u8 0, .int .u8 0, .int .u8 0, .int .u8 0, .int .u8 0, .int .u8 0, .int .u8 0, .int .u8 0, .int .u8 0, .int .u8 0, .int .u8 0, .int .u8 0, .int .u8 0, .int .u8 0, .int .u8 0, .int .u8 0, .int .u8 0, .int .u8 76, .int .u8 80] 5 (36, 37),
  .cells #[.int .u8 0, .int .u8 0, .int .u8 0, .int .u8 0, .int .u8 0, .int .u8 0, .int .u8 0, .int .u8 0, .int .u8 0, .int .u8 0, .int .u8 0, .int .u8 0, .int .u8 0, .int .u8 0, .int .u8 0, .int .u8 0, .int .u8 0, .int .u8 0, .int .u8 0, .int .u8 0, .int .u8 0, .int .u8 0, .int .u8 0, .int .u8 0, .int .u8 0, .int .u8 0, .int .u8 0, .int .u8 0, .int .u8 0, .int .u8 0, .int .u8 0, .int .u8 0, .int .u8 0, .int .u8 0, .int .u8 255, .int .u8 255] 5 (36, 37),
  .cells #[.slice (some ⟨B + 71, 0, none⟩) 36 36, .slice (some ⟨B + 70, 0, none⟩) 36 36, .bool false, .string ⟨#[97, 112, 112, 108, 105, 99, 97, 116, 105, 111, 110, 47, 118, 110, 100, 46, 109, 115, 45, 102, 111, 110, 116, 111, 98, 106, 101, 99, 116]⟩] 64,
  .cells #[.int .u8 0, .int .u8 1, .int .u8 0, .int .u8 0] 5 (4, 5),
  .cells #[.slice (some ⟨B + 73, 0, none⟩) 4 4, .string ⟨#[102, 111, 110, 116, 47, 116, 116, 102]⟩] 67,
  .cells #[.int .u8 79, .int .u8 84, .int .u8 84, .int .u8 79] 5 (4, 5),
  .cells #[.slice (some ⟨B + 75, 0, none⟩) 4 4, .string ⟨#[102, 111, 110, 116, 47, 111, 116, 102]⟩] 67,
  .cells #[.int .u8 116, .int .u8 116, .int .u8 99, .int .u8 102] 5 (4, 5),
  .cells #[.slice (some ⟨B + 77, 0, none⟩) 4 4, .string ⟨#[102, 111, 110, 116, 47, 99, 111, 108, 108, 101, 99, 116, 105, 111, 110]⟩] 67,
  .cells #[.int .u8 119, .int .u8 79, .int .u8 70, .int .u8 70] 5 (4, 5),
  .cells #[.slice (some ⟨B + 79, 0, none⟩) 4 4, .string ⟨#[102, 111, 110, 116, 47, 119, 111, 102, 102]⟩] 67,
  .cells #[.int .u8 119, .int .u8 79, .int .u8 70, .int .u8 50] 5 (4, 5),
  .cells #[.slice (some ⟨B + 81, 0, none⟩) 4 4, .string ⟨#[102, 111, 110, 116, 47, 119, 111, 102, 102, 50]⟩] 67,
  .cells #[.int .u8 31, .int .u8 139, .int .u8 8] 5 (3, 4),
  .cells #[.slice (some ⟨B + 83, 0, none⟩) 3 3, .string ⟨#[97, 112, 112, 108, 105, 99, 97, 116, 105, 111, 110, 47, 120, 45, 103, 122, 105, 112]⟩] 67,
  .cells #[.int .u8 80, .int .u8 75, .int .u8 3, .int .u8 4] 5 (4, 5),
  .cells #[.slice (some ⟨B + 85, 0, none⟩) 4 4, .string ⟨#[97, 112, 112, 108, 105, 99, 97, 116, 105, 111, 110, 47, 122, 105, 112]⟩] 67,
  .cells #[.int .u8 82, .int .u8 97, .int .u8 114, .int .u8 33, .int .u8 26, .int .u8 7, .int .u8 0] 5 (7, 8),
  .cells #[.slice (some ⟨B + 87, 0, none⟩) 7 7, .string ⟨#[97, 112, 112, 108, 105, 99, 97, 116, 105, 111, 110, 47, 120, 45, 114, 97, 114, 45, 99, 111, 109, 112, 114, 101, 115, 115, 101, 100]⟩] 67,
  .cells #[.int .u8 82, .int .u8 97, .int .u8 114, .int .u8 33, .int .u8 26, .int .u8 7, .int .u8 1, .int .u8 0] 5 (8, 9),
  .cells #[.slice (some ⟨B + 89, 0, none⟩) 8 8, .string ⟨#[97, 112, 112, 108, 105, 99, 97, 116, 105, 111, 110, 47, 120, 45, 114, 97, 114, 45, 99, 111, 109, 112, 114, 101, 115, 115, 101, 100]⟩] 67,
  .cells #[.int .u8 0, .int .u8 97, .int .u8 115, .int .u8 109] 5 (4, 5),
  .cells #[.slice (some ⟨B + 91, 0, none⟩) 4 4, .string ⟨#[97, 112, 112, 108, 105, 99, 97, 116, 105, 111, 110, 47, 119, 97, 115, 109]⟩] 67,
  .cells #[.iface 61 (.slice (some ⟨B, 0, none⟩) 14 14), .iface 61 (.slice (some ⟨B + 1, 0, none⟩) 5 5), .iface 61 (.slice (some ⟨B + 2, 0, none⟩) 5 5), .iface 61 (.slice (some ⟨B + 3, 0, none⟩) 7 7), .iface 61 (.slice (some ⟨B + 4, 0, none⟩) 7 7), .iface 61 (.slice (some ⟨B + 5, 0, none⟩) 3 3), .iface 61 (.slice (some ⟨B + 6, 0, none⟩) 4 4), .iface 61 (.slice (some ⟨B + 7, 0, none⟩) 5 5), .iface 61 (.slice (some ⟨B + 8, 0, none⟩) 6 6), .iface 61 (.slice (some ⟨B + 9, 0, none⟩) 2 2), .iface 61 (.slice (some ⟨B + 10, 0, none⟩) 6 6), .iface 61 (.slice (some ⟨B + 11, 0, none⟩) 6 6), .iface 61 (.slice (some ⟨B + 12, 0, none⟩) 2 2), .iface 61 (.slice (some ⟨B + 13, 0, none⟩) 5 5), .iface 61 (.slice (some ⟨B + 14, 0, none⟩) 3 3), .iface 61 (.slice (some ⟨B + 15, 0, none⟩) 2 2), .iface 61 (.slice (some ⟨B + 16, 0, none⟩) 4 4), .iface 62 (.pointer (some ⟨B + 19, 0, none⟩)), .iface 65 (.pointer (some ⟨B + 21, 0, none⟩)), .iface 65 (.pointer (some ⟨B + 23, 0, none⟩)), .iface 62 (.pointer (some ⟨B + 26, 0, none⟩)), .iface 62 (.pointer (some ⟨B + 29, 0, none⟩)), .iface 62 (.pointer (some ⟨B + 32, 0, none⟩)), .iface 65 (.pointer (some ⟨B + 34, 0, none⟩)), .iface 65 (.pointer (some ⟨B + 36, 0, none⟩)), .iface 65 (.pointer (some ⟨B + 38, 0, none⟩)), .iface 65 (.pointer (some ⟨B + 40, 0, none⟩)), .iface 65 (.pointer (some ⟨B + 42, 0, none⟩)), .iface 62 (.pointer (some ⟨B + 45, 0, none⟩)), .iface 65 (.pointer (some ⟨B + 47, 0, none⟩)), .iface 65 (.pointer (some ⟨B + 49, 0, none⟩)), .iface 62 (.pointer (some ⟨B + 52, 0, none⟩)), .iface 62 (.pointer (some ⟨B + 55, 0, none⟩)), .iface 62 (.pointer (some ⟨B + 58, 0, none⟩)), .iface 62 (.pointer (some ⟨B + 61, 0, none⟩)), .iface 62 (.pointer (some ⟨B + 64, 0, none⟩)), .iface 62 (.pointer (some ⟨B + 67, 0, none⟩)), .iface 49 (.agg #[]), .iface 65 (.pointer (some ⟨B + 69, 0, none⟩)), .iface 62 (.pointer (some ⟨B + 72, 0, none⟩)), .iface 65 (.pointer (some ⟨B + 74, 0, none⟩)), .iface 65 (.pointer (some ⟨B + 76, 0, none⟩)), .iface 65 (.pointer (some ⟨B + 78, 0, none⟩)), .iface 65 (.pointer (some ⟨B + 80, 0, none⟩)), .iface 65 (.pointer (some ⟨B + 82, 0, none⟩)), .iface 65 (.pointer (some ⟨B + 84, 0, none⟩)), .iface 65 (.pointer (some ⟨B + 86, 0, none⟩)), .iface 65 (.pointer (some ⟨B + 88, 0, none⟩)), .iface 65 (.pointer (some ⟨B + 90, 0, none⟩)), .iface 65 (.pointer (some ⟨B + 92, 0, none⟩)), .iface 47 (.agg #[])] 53]

/-- The signatures, in their order. -/
def sigs : List Sig := [
  .html [60, 33, 68, 79, 67, 84, 89, 80, 69, 32, 72, 84, 77, 76],
  .html [60, 72, 84, 77, 76],
  .html [60, 72, 69, 65, 68],
  .html [60, 83, 67, 82, 73, 80, 84],
  .html [60, 73, 70, 82, 65, 77, 69],
  .html [60, 72, 49],
  .html [60, 68, 73, 86],
  .html [60, 70, 79, 78, 84],
  .html [60, 84, 65, 66, 76, 69],
  .html [60, 65],
  .html [60, 83, 84, 89, 76, 69],
  .html [60, 84, 73, 84, 76, 69],
  .html [60, 66],
  .html [60, 66, 79, 68, 89],
  .html [60, 66, 82],
  .html [60, 80],
  .html [60, 33, 45, 45],
  .masked [255, 255, 255, 255, 255] [60, 63, 120, 109, 108] true ⟨#[116, 101, 120, 116, 47, 120, 109, 108, 59, 32, 99, 104, 97, 114, 115, 101, 116, 61, 117, 116, 102, 45, 56]⟩,
  .fixd [37, 80, 68, 70, 45] ⟨#[97, 112, 112, 108, 105, 99, 97, 116, 105, 111, 110, 47, 112, 100, 102]⟩,
  .fixd [37, 33, 80, 83, 45, 65, 100, 111, 98, 101, 45] ⟨#[97, 112, 112, 108, 105, 99, 97, 116, 105, 111, 110, 47, 112, 111, 115, 116, 115, 99, 114, 105, 112, 116]⟩,
  .masked [255, 255, 0, 0] [254, 255, 0, 0] false ⟨#[116, 101, 120, 116, 47, 112, 108, 97, 105, 110, 59, 32, 99, 104, 97, 114, 115, 101, 116, 61, 117, 116, 102, 45, 49, 54, 98, 101]⟩,
  .masked [255, 255, 0, 0] [255, 254, 0, 0] false ⟨#[116, 101, 120, 116, 47, 112, 108, 97, 105, 110, 59, 32, 99, 104, 97, 114, 115, 101, 116, 61, 117, 116, 102, 45, 49, 54, 108, 101]⟩,
  .masked [255, 255, 255, 0] [239, 187, 191, 0] false ⟨#[116, 101, 120, 116, 47, 112, 108, 97, 105, 110, 59, 32, 99, 104, 97, 114, 115, 101, 116, 61, 117, 116, 102, 45, 56]⟩,
  .fixd [0, 0, 1, 0] ⟨#[105, 109, 97, 103, 101, 47, 120, 45, 105, 99, 111, 110]⟩,
  .fixd [0, 0, 2, 0] ⟨#[105, 109, 97, 103, 101, 47, 120, 45, 105, 99, 111, 110]⟩,
  .fixd [66, 77] ⟨#[105, 109, 97, 103, 101, 47, 98, 109, 112]⟩,
  .fixd [71, 73, 70, 56, 55, 97] ⟨#[105, 109, 97, 103, 101, 47, 103, 105, 102]⟩,
  .fixd [71, 73, 70, 56, 57, 97] ⟨#[105, 109, 97, 103, 101, 47, 103, 105, 102]⟩,
  .masked [255, 255, 255, 255, 0, 0, 0, 0, 255, 255, 255, 255, 255, 255] [82, 73, 70, 70, 0, 0, 0, 0, 87, 69, 66, 80, 86, 80] false ⟨#[105, 109, 97, 103, 101, 47, 119, 101, 98, 112]⟩,
  .fixd [137, 80, 78, 71, 13, 10, 26, 10] ⟨#[105, 109, 97, 103, 101, 47, 112, 110, 103]⟩,
  .fixd [255, 216, 255] ⟨#[105, 109, 97, 103, 101, 47, 106, 112, 101, 103]⟩,
  .masked [255, 255, 255, 255, 0, 0, 0, 0, 255, 255, 255, 255] [70, 79, 82, 77, 0, 0, 0, 0, 65, 73, 70, 70] false ⟨#[97, 117, 100, 105, 111, 47, 97, 105, 102, 102]⟩,
  .masked [255, 255, 255] [73, 68, 51] false ⟨#[97, 117, 100, 105, 111, 47, 109, 112, 101, 103]⟩,
  .masked [255, 255, 255, 255, 255] [79, 103, 103, 83, 0] false ⟨#[97, 112, 112, 108, 105, 99, 97, 116, 105, 111, 110, 47, 111, 103, 103]⟩,
  .masked [255, 255, 255, 255, 255, 255, 255, 255] [77, 84, 104, 100, 0, 0, 0, 6] false ⟨#[97, 117, 100, 105, 111, 47, 109, 105, 100, 105]⟩,
  .masked [255, 255, 255, 255, 0, 0, 0, 0, 255, 255, 255, 255] [82, 73, 70, 70, 0, 0, 0, 0, 65, 86, 73, 32] false ⟨#[118, 105, 100, 101, 111, 47, 97, 118, 105]⟩,
  .masked [255, 255, 255, 255, 0, 0, 0, 0, 255, 255, 255, 255] [82, 73, 70, 70, 0, 0, 0, 0, 87, 65, 86, 69] false ⟨#[97, 117, 100, 105, 111, 47, 119, 97, 118, 101]⟩,
  .mp4,
  .fixd [26, 69, 223, 163] ⟨#[118, 105, 100, 101, 111, 47, 119, 101, 98, 109]⟩,
  .masked [0, 0, 0, 0, 0, 0, 0, 0, 0, 0, 0, 0, 0, 0, 0, 0, 0, 0, 0, 0, 0, 0, 0, 0, 0, 0, 0, 0, 0, 0, 0, 0, 0, 0, 255, 255] [0, 0, 0, 0, 0, 0, 0, 0, 0, 0, 0, 0, 0, 0, 0, 0, 0, 0, 0, 0, 0, 0, 0, 0, 0, 0, 0, 0, 0, 0, 0, 0, 0, 0, 76, 80] false ⟨#[97, 112, 112, 108, 105, 99, 97, 116, 105, 111, 110, 47, 118, 110, 100, 46, 109, 115, 45, 102, 111, 110, 116, 111, 98, 106, 101, 99, 116]⟩,
  .fixd [0, 1, 0, 0] ⟨#[102, 111, 110, 116, 47, 116, 116, 102]⟩,
  .fixd [79, 84, 84, 79] ⟨#[102, 111, 110, 116, 47, 111, 116, 102]⟩,
  .fixd [116, 116, 99, 102] ⟨#[102, 111, 110, 116, 47, 99, 111, 108, 108, 101, 99, 116, 105, 111, 110]⟩,
  .fixd [119, 79, 70, 70] ⟨#[102, 111, 110, 116, 47, 119, 111, 102, 102]⟩,
  .fixd [119, 79, 70, 50] ⟨#[102, 111, 110, 116, 47, 119, 111, 102, 102, 50]⟩,
  .fixd [31, 139, 8] ⟨#[97, 112, 112, 108, 105, 99, 97, 116, 105, 111, 110, 47, 120, 45, 103, 122, 105, 112]⟩,
  .fixd [80, 75, 3, 4] ⟨#[97, 112, 112, 108, 105, 99, 97, 116, 105, 111, 110, 47, 122, 105, 112]⟩,
  .fixd [82, 97, 114, 33, 26, 7, 0] ⟨#[97, 112, 112, 108, 105, 99, 97, 116, 105, 111, 110, 47, 120, 45, 114, 97, 114, 45, 99, 111, 109, 112, 114, 101, 115, 115, 101, 100]⟩,
  .fixd [82, 97, 114, 33, 26, 7, 1, 0] ⟨#[97, 112, 112, 108, 105, 99, 97, 116, 105, 111, 110, 47, 120, 45, 114, 97, 114, 45, 99, 111, 109, 112, 114, 101, 115, 115, 101, 100]⟩,
  .fixd [0, 97, 115, 109] ⟨#[97, 112, 112, 108, 105, 99, 97, 116, 105, 111, 110, 47, 119, 97, 115, 109]⟩,
  .text]

/-- The interface values of the list. -/
def vals (B : Nat) : List Value := [
  .iface 61 (.slice (some ⟨B, 0, none⟩) 14 14),
  .iface 61 (.slice (some ⟨B + 1, 0, none⟩) 5 5),
  .iface 61 (.slice (some ⟨B + 2, 0, none⟩) 5 5),
  .iface 61 (.slice (some ⟨B + 3, 0, none⟩) 7 7),
  .iface 61 (.slice (some ⟨B + 4, 0, none⟩) 7 7),
  .iface 61 (.slice (some ⟨B + 5, 0, none⟩) 3 3),
  .iface 61 (.slice (some ⟨B + 6, 0, none⟩) 4 4),
  .iface 61 (.slice (some ⟨B + 7, 0, none⟩) 5 5),
  .iface 61 (.slice (some ⟨B + 8, 0, none⟩) 6 6),
  .iface 61 (.slice (some ⟨B + 9, 0, none⟩) 2 2),
  .iface 61 (.slice (some ⟨B + 10, 0, none⟩) 6 6),
  .iface 61 (.slice (some ⟨B + 11, 0, none⟩) 6 6),
  .iface 61 (.slice (some ⟨B + 12, 0, none⟩) 2 2),
  .iface 61 (.slice (some ⟨B + 13, 0, none⟩) 5 5),
  .iface 61 (.slice (some ⟨B + 14, 0, none⟩) 3 3),
  .iface 61 (.slice (some ⟨B + 15, 0, none⟩) 2 2),
  .iface 61 (.slice (some ⟨B + 16, 0, none⟩) 4 4),
  .iface 62 (.pointer (some ⟨B + 19, 0, none⟩)),
  .iface 65 (.pointer (some ⟨B + 21, 0, none⟩)),
  .iface 65 (.pointer (some ⟨B + 23, 0, none⟩)),
  .iface 62 (.pointer (some ⟨B + 26, 0, none⟩)),
  .iface 62 (.pointer (some ⟨B + 29, 0, none⟩)),
  .iface 62 (.pointer (some ⟨B + 32, 0, none⟩)),
  .iface 65 (.pointer (some ⟨B + 34, 0, none⟩)),
  .iface 65 (.pointer (some ⟨B + 36, 0, none⟩)),
  .iface 65 (.pointer (some ⟨B + 38, 0, none⟩)),
  .iface 65 (.pointer (some ⟨B + 40, 0, none⟩)),
  .iface 65 (.pointer (some ⟨B + 42, 0, none⟩)),
  .iface 62 (.pointer (some ⟨B + 45, 0, none⟩)),
  .iface 65 (.pointer (some ⟨B + 47, 0, none⟩)),
  .iface 65 (.pointer (some ⟨B + 49, 0, none⟩)),
  .iface 62 (.pointer (some ⟨B + 52, 0, none⟩)),
  .iface 62 (.pointer (some ⟨B + 55, 0, none⟩)),
  .iface 62 (.pointer (some ⟨B + 58, 0, none⟩)),
  .iface 62 (.pointer (some ⟨B + 61, 0, none⟩)),
  .iface 62 (.pointer (some ⟨B + 64, 0, none⟩)),
  .iface 62 (.pointer (some ⟨B + 67, 0, none⟩)),
  .iface 49 (.agg #[]),
  .iface 65 (.pointer (some ⟨B + 69, 0, none⟩)),
  .iface 62 (.pointer (some ⟨B + 72, 0, none⟩)),
  .iface 65 (.pointer (some ⟨B + 74, 0, none⟩)),
  .iface 65 (.pointer (some ⟨B + 76, 0, none⟩)),
  .iface 65 (.pointer (some ⟨B + 78, 0, none⟩)),
  .iface 65 (.pointer (some ⟨B + 80, 0, none⟩)),
  .iface 65 (.pointer (some ⟨B + 82, 0, none⟩)),
  .iface 65 (.pointer (some ⟨B + 84, 0, none⟩)),
  .iface 65 (.pointer (some ⟨B + 86, 0, none⟩)),
  .iface 65 (.pointer (some ⟨B + 88, 0, none⟩)),
  .iface 65 (.pointer (some ⟨B + 90, 0, none⟩)),
  .iface 65 (.pointer (some ⟨B + 92, 0, none⟩)),
  .iface 47 (.agg #[])]

theorem cell_at (w : World) (i j : Nat) {v : Value} {cs : Array Value} {e : TypeId} {fr : Nat × Nat} (h : (objs w.heap.size)[i]? = some (.cells cs e fr)) (hv : cs[j]? = some v) :
    (allocs w (objs w.heap.size)).cell? ⟨w.heap.size + i, j, none⟩ = some v := by
  have hi : i < (objs w.heap.size).length := (List.getElem?_eq_some_iff.1 h).1
  have := allocs_at (objs w.heap.size) w i hi
  rw [h] at this
  simp [World.cell?, this, hv]
theorem sl_at (w : World) (i : Nat) {p : List Int} {fr : Nat × Nat} (h : (objs w.heap.size)[i]? = some (.cells (p.map (Value.int .u8)).toArray 5 fr)) (hb : ∀ x ∈ p, 0 ≤ x ∧ x ≤ 255) (hn : p.length ≤ 100) (_hi : i < 94) :
    SL (allocs w (objs w.heap.size)) (some ⟨w.heap.size + i, 0, none⟩) p.length p.length p := by
  have hi : i < (objs w.heap.size).length := (List.getElem?_eq_some_iff.1 h).1
  have := allocs_at (objs w.heap.size) w i hi
  rw [h] at this
  refine SL.block this rfl (Nat.le_refl _) (by unfold maxLen; omega) hb fun k hk => ?_
  simp [List.getD, List.getElem?_eq_getElem hk]

theorem rep0 (w : World) : Rep (allocs w (objs w.heap.size)) ((vals w.heap.size).getD 0 .nilIface) (sigs.getD 0 .text) :=
  ⟨_, rfl, sl_at w 0 rfl (by decide) (by decide) (by decide)⟩
theorem rep1 (w : World) : Rep (allocs w (objs w.heap.size)) ((vals w.heap.size).getD 1 .nilIface) (sigs.getD 1 .text) :=
  ⟨_, rfl, sl_at w 1 rfl (by decide) (by decide) (by decide)⟩
theorem rep2 (w : World) : Rep (allocs w (objs w.heap.size)) ((vals w.heap.size).getD 2 .nilIface) (sigs.getD 2 .text) :=
  ⟨_, rfl, sl_at w 2 rfl (by decide) (by decide) (by decide)⟩
theorem rep3 (w : World) : Rep (allocs w (objs w.heap.size)) ((vals w.heap.size).getD 3 .nilIface) (sigs.getD 3 .text) :=
  ⟨_, rfl, sl_at w 3 rfl (by decide) (by decide) (by decide)⟩
theorem rep4 (w : World) : Rep (allocs w (objs w.heap.size)) ((vals w.heap.size).getD 4 .nilIface) (sigs.getD 4 .text) :=
  ⟨_, rfl, sl_at w 4 rfl (by decide) (by decide) (by decide)⟩
theorem rep5 (w : World) : Rep (allocs w (objs w.heap.size)) ((vals w.heap.size).getD 5 .nilIface) (sigs.getD 5 .text) :=
  ⟨_, rfl, sl_at w 5 rfl (by decide) (by decide) (by decide)⟩
theorem rep6 (w : World) : Rep (allocs w (objs w.heap.size)) ((vals w.heap.size).getD 6 .nilIface) (sigs.getD 6 .text) :=
  ⟨_, rfl, sl_at w 6 rfl (by decide) (by decide) (by decide)⟩
theorem rep7 (w : World) : Rep (allocs w (objs w.heap.size)) ((vals w.heap.size).getD 7 .nilIface) (sigs.getD 7 .text) :=
  ⟨_, rfl, sl_at w 7 rfl (by decide) (by decide) (by decide)⟩
theorem rep8 (w : World) : Rep (allocs w (objs w.heap.size)) ((vals w.heap.size).getD 8 .nilIface) (sigs.getD 8 .text) :=
  ⟨_, rfl, sl_at w 8 rfl (by decide) (by decide) (by decide)⟩
theorem rep9 (w : World) : Rep (allocs w (objs w.heap.size)) ((vals w.heap.size).getD 9 .nilIface) (sigs.getD 9 .text) :=
  ⟨_, rfl, sl_at w 9 rfl (by decide) (by decide) (by decide)⟩
theorem rep10 (w : World) : Rep (allocs w (objs w.heap.size)) ((vals w.heap.size).getD 10 .nilIface) (sigs.getD 10 .text) :=
  ⟨_, rfl, sl_at w 10 rfl (by decide) (by decide) (by decide)⟩
theorem rep11 (w : World) : Rep (allocs w (objs w.heap.size)) ((vals w.heap.size).getD 11 .nilIface) (sigs.getD 11 .text) :=
  ⟨_, rfl, sl_at w 11 rfl (by decide) (by decide) (by decide)⟩
theorem rep12 (w : World) : Rep (allocs w (objs w.heap.size)) ((vals w.heap.size).getD 12 .nilIface) (sigs.getD 12 .text) :=
  ⟨_, rfl, sl_at w 12 rfl (by decide) (by decide) (by decide)⟩
theorem rep13 (w : World) : Rep (allocs w (objs w.heap.size)) ((vals w.heap.size).getD 13 .nilIface) (sigs.getD 13 .text) :=
  ⟨_, rfl, sl_at w 13 rfl (by decide) (by decide) (by decide)⟩
theorem rep14 (w : World) : Rep (allocs w (objs w.heap.size)) ((vals w.heap.size).getD 14 .nilIface) (sigs.getD 14 .text) :=
  ⟨_, rfl, sl_at w 14 rfl (by decide) (by decide) (by decide)⟩
theorem rep15 (w : World) : Rep (allocs w (objs w.heap.size)) ((vals w.heap.size).getD 15 .nilIface) (sigs.getD 15 .text) :=
  ⟨_, rfl, sl_at w 15 rfl (by decide) (by decide) (by decide)⟩
theorem rep16 (w : World) : Rep (allocs w (objs w.heap.size)) ((vals w.heap.size).getD 16 .nilIface) (sigs.getD 16 .text) :=
  ⟨_, rfl, sl_at w 16 rfl (by decide) (by decide) (by decide)⟩
theorem rep17 (w : World) : Rep (allocs w (objs w.heap.size)) ((vals w.heap.size).getD 17 .nilIface) (sigs.getD 17 .text) :=
  ⟨_, _, _, rfl, cell_at w 19 0 rfl rfl, cell_at w 19 1 rfl rfl, cell_at w 19 2 rfl rfl, cell_at w 19 3 rfl rfl, sl_at w 17 rfl (by decide) (by decide) (by decide), sl_at w 18 rfl (by decide) (by decide) (by decide)⟩
theorem rep18 (w : World) : Rep (allocs w (objs w.heap.size)) ((vals w.heap.size).getD 18 .nilIface) (sigs.getD 18 .text) :=
  ⟨_, _, rfl, cell_at w 21 0 rfl rfl, cell_at w 21 1 rfl rfl, sl_at w 20 rfl (by decide) (by decide) (by decide)⟩
theorem rep19 (w : World) : Rep (allocs w (objs w.heap.size)) ((vals w.heap.size).getD 19 .nilIface) (sigs.getD 19 .text) :=
  ⟨_, _, rfl, cell_at w 23 0 rfl rfl, cell_at w 23 1 rfl rfl, sl_at w 22 rfl (by decide) (by decide) (by decide)⟩
theorem rep20 (w : World) : Rep (allocs w (objs w.heap.size)) ((vals w.heap.size).getD 20 .nilIface) (sigs.getD 20 .text) :=
  ⟨_, _, _, rfl, cell_at w 26 0 rfl rfl, cell_at w 26 1 rfl rfl, cell_at w 26 2 rfl rfl, cell_at w 26 3 rfl rfl, sl_at w 24 rfl (by decide) (by decide) (by decide), sl_at w 25 rfl (by decide) (by decide) (by decide)⟩
theorem rep21 (w : World) : Rep (allocs w (objs w.heap.size)) ((vals w.heap.size).getD 21 .nilIface) (sigs.getD 21 .text) :=
  ⟨_, _, _, rfl, cell_at w 29 0 rfl rfl, cell_at w 29 1 rfl rfl, cell_at w 29 2 rfl rfl, cell_at w 29 3 rfl rfl, sl_at w 27 rfl (by decide) (by decide) (by decide), sl_at w 28 rfl (by decide) (by decide) (by decide)⟩
theorem rep22 (w : World) : Rep (allocs w (objs w.heap.size)) ((vals w.heap.size).getD 22 .nilIface) (sigs.getD 22 .text) :=
  ⟨_, _, _, rfl, cell_at w 32 0 rfl rfl, cell_at w 32 1 rfl rfl, cell_at w 32 2 rfl rfl, cell_at w 32 3 rfl rfl, sl_at w 30 rfl (by decide) (by decide) (by decide), sl_at w 31 rfl (by decide) (by decide) (by decide)⟩
theorem rep23 (w : World) : Rep (allocs w (objs w.heap.size)) ((vals w.heap.size).getD 23 .nilIface) (sigs.getD 23 .text) :=
  ⟨_, _, rfl, cell_at w 34 0 rfl rfl, cell_at w 34 1 rfl rfl, sl_at w 33 rfl (by decide) (by decide) (by decide)⟩
theorem rep24 (w : World) : Rep (allocs w (objs w.heap.size)) ((vals w.heap.size).getD 24 .nilIface) (sigs.getD 24 .text) :=
  ⟨_, _, rfl, cell_at w 36 0 rfl rfl, cell_at w 36 1 rfl rfl, sl_at w 35 rfl (by decide) (by decide) (by decide)⟩
theorem rep25 (w : World) : Rep (allocs w (objs w.heap.size)) ((vals w.heap.size).getD 25 .nilIface) (sigs.getD 25 .text) :=
  ⟨_, _, rfl, cell_at w 38 0 rfl rfl, cell_at w 38 1 rfl rfl, sl_at w 37 rfl (by decide) (by decide) (by decide)⟩
theorem rep26 (w : World) : Rep (allocs w (objs w.heap.size)) ((vals w.heap.size).getD 26 .nilIface) (sigs.getD 26 .text) :=
  ⟨_, _, rfl, cell_at w 40 0 rfl rfl, cell_at w 40 1 rfl rfl, sl_at w 39 rfl (by decide) (by decide) (by decide)⟩
theorem rep27 (w : World) : Rep (allocs w (objs w.heap.size)) ((vals w.heap.size).getD 27 .nilIface) (sigs.getD 27 .text) :=
  ⟨_, _, rfl, cell_at w 42 0 rfl rfl, cell_at w 42 1 rfl rfl, sl_at w 41 rfl (by decide) (by decide) (by decide)⟩
theorem rep28 (w : World) : Rep (allocs w (objs w.heap.size)) ((vals w.heap.size).getD 28 .nilIface) (sigs.getD 28 .text) :=
  ⟨_, _, _, rfl, cell_at w 45 0 rfl rfl, cell_at w 45 1 rfl rfl, cell_at w 45 2 rfl rfl, cell_at w 45 3 rfl rfl, sl_at w 43 rfl (by decide) (by decide) (by decide), sl_at w 44 rfl (by decide) (by decide) (by decide)⟩
theorem rep29 (w : World) : Rep (allocs w (objs w.heap.size)) ((vals w.heap.size).getD 29 .nilIface) (sigs.getD 29 .text) :=
  ⟨_, _, rfl, cell_at w 47 0 rfl rfl, cell_at w 47 1 rfl rfl, sl_at w 46 rfl (by decide) (by decide) (by decide)⟩
theorem rep30 (w : World) : Rep (allocs w (objs w.heap.size)) ((vals w.heap.size).getD 30 .nilIface) (sigs.getD 30 .text) :=
  ⟨_, _, rfl, cell_at w 49 0 rfl rfl, cell_at w 49 1 rfl rfl, sl_at w 48 rfl (by decide) (by decide) (by decide)⟩
theorem rep31 (w : World) : Rep (allocs w (objs w.heap.size)) ((vals w.heap.size).getD 31 .nilIface) (sigs.getD 31 .text) :=
  ⟨_, _, _, rfl, cell_at w 52 0 rfl rfl, cell_at w 52 1 rfl rfl, cell_at w 52 2 rfl rfl, cell_at w 52 3 rfl rfl, sl_at w 50 rfl (by decide) (by decide) (by decide), sl_at w 51 rfl (by decide) (by decide) (by decide)⟩
theorem rep32 (w : World) : Rep (allocs w (objs w.heap.size)) ((vals w.heap.size).getD 32 .nilIface) (sigs.getD 32 .text) :=
  ⟨_, _, _, rfl, cell_at w 55 0 rfl rfl, cell_at w 55 1 rfl rfl, cell_at w 55 2 rfl rfl, cell_at w 55 3 rfl rfl, sl_at w 53 rfl (by decide) (by decide) (by decide), sl_at w 54 rfl (by decide) (by decide) (by decide)⟩
theorem rep33 (w : World) : Rep (allocs w (objs w.heap.size)) ((vals w.heap.size).getD 33 .nilIface) (sigs.getD 33 .text) :=
  ⟨_, _, _, rfl, cell_at w 58 0 rfl rfl, cell_at w 58 1 rfl rfl, cell_at w 58 2 rfl rfl, cell_at w 58 3 rfl rfl, sl_at w 56 rfl (by decide) (by decide) (by decide), sl_at w 57 rfl (by decide) (by decide) (by decide)⟩
theorem rep34 (w : World) : Rep (allocs w (objs w.heap.size)) ((vals w.heap.size).getD 34 .nilIface) (sigs.getD 34 .text) :=
  ⟨_, _, _, rfl, cell_at w 61 0 rfl rfl, cell_at w 61 1 rfl rfl, cell_at w 61 2 rfl rfl, cell_at w 61 3 rfl rfl, sl_at w 59 rfl (by decide) (by decide) (by decide), sl_at w 60 rfl (by decide) (by decide) (by decide)⟩
theorem rep35 (w : World) : Rep (allocs w (objs w.heap.size)) ((vals w.heap.size).getD 35 .nilIface) (sigs.getD 35 .text) :=
  ⟨_, _, _, rfl, cell_at w 64 0 rfl rfl, cell_at w 64 1 rfl rfl, cell_at w 64 2 rfl rfl, cell_at w 64 3 rfl rfl, sl_at w 62 rfl (by decide) (by decide) (by decide), sl_at w 63 rfl (by decide) (by decide) (by decide)⟩
theorem rep36 (w : World) : Rep (allocs w (objs w.heap.size)) ((vals w.heap.size).getD 36 .nilIface) (sigs.getD 36 .text) :=
  ⟨_, _, _, rfl, cell_at w 67 0 rfl rfl, cell_at w 67 1 rfl rfl, cell_at w 67 2 rfl rfl, cell_at w 67 3 rfl rfl, sl_at w 65 rfl (by decide) (by decide) (by decide), sl_at w 66 rfl (by decide) (by decide) (by decide)⟩
theorem rep37 (w : World) : Rep (allocs w (objs w.heap.size)) ((vals w.heap.size).getD 37 .nilIface) (sigs.getD 37 .text) := rfl
theorem rep38 (w : World) : Rep (allocs w (objs w.heap.size)) ((vals w.heap.size).getD 38 .nilIface) (sigs.getD 38 .text) :=
  ⟨_, _, rfl, cell_at w 69 0 rfl rfl, cell_at w 69 1 rfl rfl, sl_at w 68 rfl (by decide) (by decide) (by decide)⟩
theorem rep39 (w : World) : Rep (allocs w (objs w.heap.size)) ((vals w.heap.size).getD 39 .nilIface) (sigs.getD 39 .text) :=
  ⟨_, _, _, rfl, cell_at w 72 0 rfl rfl, cell_at w 72 1 rfl rfl, cell_at w 72 2 rfl rfl, cell_at w 72 3 rfl rfl, sl_at w 71 rfl (by decide) (by decide) (by decide), sl_at w 70 rfl (by decide) (by decide) (by decide)⟩
theorem rep40 (w : World) : Rep (allocs w (objs w.heap.size)) ((vals w.heap.size).getD 40 .nilIface) (sigs.getD 40 .text) :=
  ⟨_, _, rfl, cell_at w 74 0 rfl rfl, cell_at w 74 1 rfl rfl, sl_at w 73 rfl (by decide) (by decide) (by decide)⟩
theorem rep41 (w : World) : Rep (allocs w (objs w.heap.size)) ((vals w.heap.size).getD 41 .nilIface) (sigs.getD 41 .text) :=
  ⟨_, _, rfl, cell_at w 76 0 rfl rfl, cell_at w 76 1 rfl rfl, sl_at w 75 rfl (by decide) (by decide) (by decide)⟩
theorem rep42 (w : World) : Rep (allocs w (objs w.heap.size)) ((vals w.heap.size).getD 42 .nilIface) (sigs.getD 42 .text) :=
  ⟨_, _, rfl, cell_at w 78 0 rfl rfl, cell_at w 78 1 rfl rfl, sl_at w 77 rfl (by decide) (by decide) (by decide)⟩
theorem rep43 (w : World) : Rep (allocs w (objs w.heap.size)) ((vals w.heap.size).getD 43 .nilIface) (sigs.getD 43 .text) :=
  ⟨_, _, rfl, cell_at w 80 0 rfl rfl, cell_at w 80 1 rfl rfl, sl_at w 79 rfl (by decide) (by decide) (by decide)⟩
theorem rep44 (w : World) : Rep (allocs w (objs w.heap.size)) ((vals w.heap.size).getD 44 .nilIface) (sigs.getD 44 .text) :=
  ⟨_, _, rfl, cell_at w 82 0 rfl rfl, cell_at w 82 1 rfl rfl, sl_at w 81 rfl (by decide) (by decide) (by decide)⟩
theorem rep45 (w : World) : Rep (allocs w (objs w.heap.size)) ((vals w.heap.size).getD 45 .nilIface) (sigs.getD 45 .text) :=
  ⟨_, _, rfl, cell_at w 84 0 rfl rfl, cell_at w 84 1 rfl rfl, sl_at w 83 rfl (by decide) (by decide) (by decide)⟩
theorem rep46 (w : World) : Rep (allocs w (objs w.heap.size)) ((vals w.heap.size).getD 46 .nilIface) (sigs.getD 46 .text) :=
  ⟨_, _, rfl, cell_at w 86 0 rfl rfl, cell_at w 86 1 rfl rfl, sl_at w 85 rfl (by decide) (by decide) (by decide)⟩
theorem rep47 (w : World) : Rep (allocs w (objs w.heap.size)) ((vals w.heap.size).getD 47 .nilIface) (sigs.getD 47 .text) :=
  ⟨_, _, rfl, cell_at w 88 0 rfl rfl, cell_at w 88 1 rfl rfl, sl_at w 87 rfl (by decide) (by decide) (by decide)⟩
theorem rep48 (w : World) : Rep (allocs w (objs w.heap.size)) ((vals w.heap.size).getD 48 .nilIface) (sigs.getD 48 .text) :=
  ⟨_, _, rfl, cell_at w 90 0 rfl rfl, cell_at w 90 1 rfl rfl, sl_at w 89 rfl (by decide) (by decide) (by decide)⟩
theorem rep49 (w : World) : Rep (allocs w (objs w.heap.size)) ((vals w.heap.size).getD 49 .nilIface) (sigs.getD 49 .text) :=
  ⟨_, _, rfl, cell_at w 92 0 rfl rfl, cell_at w 92 1 rfl rfl, sl_at w 91 rfl (by decide) (by decide) (by decide)⟩
theorem rep50 (w : World) : Rep (allocs w (objs w.heap.size)) ((vals w.heap.size).getD 50 .nilIface) (sigs.getD 50 .text) := rfl

end Go.Proofs.Ytpjonekkiojelaa
