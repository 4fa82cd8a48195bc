/-
  What each kind of signature tells of some bytes. No condition.
-/
import Derived.Test.YtpjonekkiojelaaSgs
import Derived.Test.YtpjonekkiojelaaText
namespace Go.Proofs.Ytpjonekkiojelaa
open Go.RowKit Go.PlainAid

theorem decN (w : World) (n : Nat) : Below w.heap.size w (w.drewN n) := below_drewN (Below.refl _ _) n

theorem hasPrefix_any (a1 a2 : Option Addr) (l1 c1 l2 c2 : Nat) (xs ys : List Int) (w : World) (h1 : SL w a1 l1 c1 xs) (h2 : SL w a2 l2 c2 ys) :
    Calls Try.prog 72 #[.slice a1 l1 c1, .slice a2 l2 c2] w fun e w' => e = .returned (.bool (pre xs ys)) ∧ w = w' := by
  have e1 := h1.hlen
  have e2 := h2.hlen
  by_cases hl : l2 ≤ l1
  · have ht := h1.take hl
    have HP : Hid (pre xs ys = decide (xs.take l2 = ys)) := by unfold pre; rw [e2]; rfl
    have h11 := h1.hle
    clear e1 e2 h1
    go_enter Try.func72, Try.ntmps72
    go_wp2_with fail
    refine (equal_any _ _ _ _ _ _ _ _ _ ht h2).mono ?_
    rintro e w' ⟨rfl, rfl⟩
    go_wp2
    go_ret
    exact ⟨by rw [HP.out]; rfl, rfl⟩
  · have HP : Hid (pre xs ys = false) := by
      show pre xs ys = false
      rw [Bool.eq_false_iff]
      intro h
      have := (pre_iff.1 h).1
      omega
    clear e1 e2 h1 h2
    go_enter Try.func72, Try.ntmps72
    go_wp2
    go_ret
    exact ⟨by rw [HP.out]; rfl, rfl⟩

def orNil (b : Bool) (s : ByteArray) : ByteArray := if b then s else ⟨#[]⟩

theorem exact_any (a : Option Addr) (len cap b bp : Nat) (xs p : List Int) (ct : ByteArray) (i : Int) (w : World) (h : SL w a len cap xs)
    (c0 : w.cell? ⟨b, 0, none⟩ = some (.slice (some ⟨bp, 0, none⟩) p.length p.length)) (c1 : w.cell? ⟨b, 1, none⟩ = some (.string ct)) (hp : SL w (some ⟨bp, 0, none⟩) p.length p.length p) :
    Calls Try.prog 71 #[.pointer (some ⟨b, 0, none⟩), .slice a len cap, .int .i64 i] w fun e w' => e = .returned (.string (orNil (pre xs p) ct)) ∧ Below w.heap.size w w' := by
  generalize hP : pre xs p = P
  have HP := Lib.hid hP
  clear hP
  rcases P with _ | _
  all_goals
    go_enter Try.func71, Try.ntmps71
    go_wp2_with fail
    refine (hasPrefix_any _ _ _ _ _ _ _ _ _ h hp).mono ?_
    rw [HP.out]
    rintro e w' ⟨rfl, rfl⟩
    clear h hp
    go_wp2
    go_ret
    exact ⟨rfl, Below.refl _ _⟩

/-- A tag-terminating byte. -/
def isTTb (c : Int) : Bool := decide (c = 32) || decide (c = 62)
theorem tt_any (c : Int) (w : World) : Calls Try.prog 69 #[.int .u8 c] w fun e w' => e = .returned (.bool (isTTb c)) ∧ w = w' := by
  by_cases h1 : c = 32
  · subst h1
    go_enter Try.func69, Try.ntmps69
    go_wp2
    go_ret
    exact ⟨rfl, rfl⟩
  by_cases h2 : c = 62
  · subst h2
    go_enter Try.func69, Try.ntmps69
    go_wp2
    go_ret
    exact ⟨rfl, rfl⟩
  have H : Hid (isTTb c = false) := by show (decide (c = 32) || decide (c = 62)) = false; rw [decide_eq_false h1, decide_eq_false h2]; rfl
  have q1 : (c == 32) = false := beq_eq_false_iff_ne.2 h1
  have q2 : (c == 62) = false := beq_eq_false_iff_ne.2 h2
  clear h1 h2
  go_enter Try.func69, Try.ntmps69
  go_wp2
  go_ret
  exact ⟨by rw [H.out]; rfl, rfl⟩
end Go.Proofs.Ytpjonekkiojelaa
