/-
  The code builds the list of signatures. No condition.
-/
import Derived.Test.YtpjonekkiojelaaSgs
namespace Go.Proofs.Ytpjonekkiojelaa
open Go.RowKit Go.PlainAid

theorem kcb (W : World) (b n c : Nat) (C : Array Value) (hb : b = W.heap.size) : (convert 22 22 (.slice (some ⟨b, 0, none⟩) n c)).run Try.prog (W.alloc (.cells C 5)) = .ok (.slice (some ⟨b, 0, none⟩) n c) (W.alloc (.cells C 5 (C.size, C.size + 1))) := by
  subst hb
  exact Lib.run_convert_bytes_const (P := Try.prog) W 22 5 C n c Try.underlying22 Try.underlying5
theorem kcb61 (W : World) (b n c : Nat) (C : Array Value) (hb : b = W.heap.size) : (convert 61 61 (.slice (some ⟨b, 0, none⟩) n c)).run Try.prog (W.alloc (.cells C 5)) = .ok (.slice (some ⟨b, 0, none⟩) n c) (W.alloc (.cells C 5 (C.size, C.size + 1))) := by
  subst hb
  exact Lib.run_convert_bytes_const (P := Try.prog) W 61 5 C n c Try.underlying61 Try.underlying5

set_option maxRecDepth 100000 in
set_option maxHeartbeats 8000000 in
theorem sigs_any (w : World) :
    Calls Try.prog 43 #[] w fun e w' => e = .returned (.slice (some ⟨w.heap.size + 93, 0, none⟩) 51 51) ∧ w' = allocs w (objs w.heap.size) := by
  have k1 := kcb
  have k2 := kcb61
  go_enter Try.func43, Try.ntmps43
  go_wp2
  go_ret
  exact ⟨rfl, rfl⟩
end Go.Proofs.Ytpjonekkiojelaa
