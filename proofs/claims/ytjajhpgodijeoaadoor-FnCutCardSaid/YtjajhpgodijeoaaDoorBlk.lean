/-
  Blocks of the call's own, and what of a world stays but for some blocks. No condition: plain definitions and lemmas.
-/
import Derived.Test.YtjajhpgodijeoaaDoorMem2
import Derived.Laws.CopyOwn
import Derived.LaidEql
namespace Go.Proofs.YtjajhpgodijeoaaDoor
open Go.RowKit

/-- Block b holds the cells cs. -/
def Blk (w : World) (b : Nat) (cs : List Value) (t : TypeId) : Prop := w.heap[b]? = some (.cells cs.toArray t (0, 0))

theorem Blk.cell {w : World} {b : Nat} {cs : List Value} {t : TypeId} (h : Blk w b cs t) {i : Nat} {v : Value} (hv : cs[i]? = some v) : w.cell? ⟨b, i, none⟩ = some v := by
  unfold Blk at h
  simp [World.cell?, h, hv]
theorem Blk.frozen {w : World} {b : Nat} {cs : List Value} {t : TypeId} (h : Blk w b cs t) (i : Nat) : w.frozen? ⟨b, i, none⟩ = false := by
  unfold Blk at h
  simp [World.frozen?, h]
theorem Blk.lt {w : World} {b : Nat} {cs : List Value} {t : TypeId} (h : Blk w b cs t) : b < w.heap.size := by
  unfold Blk at h
  exact (Array.getElem?_eq_some_iff.1 h).1
theorem Blk.set {w : World} {b : Nat} {cs : List Value} {t : TypeId} (h : Blk w b cs t) (i : Nat) (v : Value) : Blk (w.setCell ⟨b, i, none⟩ v) b (cs.set i v) t := by
  unfold Blk at h ⊢
  simp only [World.setCell, Array.getElem?_modify, if_true, h]
  simp
theorem Blk.other {w : World} {b b' : Nat} {cs : List Value} {t : TypeId} (h : Blk w b cs t) (hb : b ≠ b') (i : Nat) (v : Value) : Blk (w.setCell ⟨b', i, none⟩ v) b cs t := by
  unfold Blk at h ⊢
  rw [Below.heap_setCell _ _ _ _ hb, h]
theorem Blk.drew {w : World} {b : Nat} {cs : List Value} {t : TypeId} (h : Blk w b cs t) : Blk w.drew b cs t := h
theorem Blk.drewN {w : World} {b : Nat} {cs : List Value} {t : TypeId} (h : Blk w b cs t) (n : Nat) : Blk (w.drewN n) b cs t := h
theorem Blk.alloc {w : World} {b : Nat} {cs : List Value} {t : TypeId} (h : Blk w b cs t) (o : Obj) : Blk (w.alloc o) b cs t := by
  have := h.lt
  unfold Blk at h ⊢
  rw [Below.heap_alloc _ _ _ this, h]
theorem Blk.new (w : World) (cs : List Value) (t : TypeId) : Blk (w.alloc (.cells cs.toArray t (0, 0))) w.heap.size cs t := by
  show (w.heap.push _)[w.heap.size]? = _
  simp

/-- But for the blocks of S the world is as it was. -/
structure Fr (S : List Nat) (w w' : World) : Prop where
  os : w'.os = w.os
  tape : w'.tape = w.tape
  output : w'.output = w.output
  size : w.heap.size ≤ w'.heap.size
  block : ∀ k, k < w.heap.size → k ∉ S → w'.heap[k]? = w.heap[k]?
theorem Fr.refl (S : List Nat) (w : World) : Fr S w w := ⟨rfl, rfl, rfl, Nat.le_refl _, fun _ _ _ => rfl⟩
theorem Fr.trans {S : List Nat} {a b c : World} (h : Fr S a b) (k : Fr S b c) : Fr S a c :=
  ⟨k.os.trans h.os, k.tape.trans h.tape, k.output.trans h.output, Nat.le_trans h.size k.size, fun i hi hs => (k.block i (Nat.lt_of_lt_of_le hi h.size) hs).trans (h.block i hi hs)⟩
theorem Fr.mono {S S' : List Nat} {w w' : World} (h : Fr S w w') (hS : ∀ k ∈ S, k ∈ S') : Fr S' w w' :=
  ⟨h.os, h.tape, h.output, h.size, fun k hk hs => h.block k hk fun hm => hs (hS k hm)⟩
/-- A block that is new may be struck from the list. -/
theorem Fr.new {S S' : List Nat} {w w' : World} (h : Fr S w w') (hS : ∀ k ∈ S, k ∈ S' ∨ w.heap.size ≤ k) : Fr S' w w' :=
  ⟨h.os, h.tape, h.output, h.size, fun k hk hs => h.block k hk fun hm => (hS k hm).elim hs fun h' => by omega⟩
theorem Fr.drew {S : List Nat} {a w : World} (h : Fr S a w) : Fr S a w.drew := ⟨h.os, h.tape, h.output, h.size, h.block⟩
theorem Fr.drewN {S : List Nat} {a w : World} (h : Fr S a w) (n : Nat) : Fr S a (w.drewN n) := ⟨h.os, h.tape, h.output, h.size, h.block⟩
theorem Fr.of_drew {S : List Nat} {a w : World} (h : Fr S a.drew w) : Fr S a w := ⟨h.os, h.tape, h.output, h.size, h.block⟩
theorem Fr.of_drewN {S : List Nat} {a w : World} {n : Nat} (h : Fr S (a.drewN n) w) : Fr S a w := ⟨h.os, h.tape, h.output, h.size, h.block⟩
theorem Fr.setCell {S : List Nat} {a w : World} (h : Fr S a w) {b i : Nat} (hb : b ∈ S) (v : Value) : Fr S a (w.setCell ⟨b, i, none⟩ v) :=
  h.trans ⟨rfl, rfl, rfl, by simp [World.setCell], fun k _ hk => Below.heap_setCell _ _ _ _ (fun e => hk (by rw [e]; exact hb))⟩
theorem Fr.alloc {S : List Nat} {a w : World} (h : Fr S a w) (o : Obj) : Fr S a (w.alloc o) :=
  h.trans ⟨rfl, rfl, rfl, by simp, fun k hk _ => Below.heap_alloc _ _ _ hk⟩
theorem Fr.of_below {S : List Nat} {w w' : World} (h : Below w.heap.size w w') : Fr S w w' := ⟨h.os, h.tape, h.output, h.size, fun k hk _ => h.block k hk⟩
theorem Fr.below {S : List Nat} {B : Nat} {w w' : World} (h : Fr S w w') (hB : B ≤ w.heap.size) (hS : ∀ k ∈ S, B ≤ k) : Below B w w' :=
  ⟨h.os, h.tape, h.output, h.size, fun k hk => h.block k (by omega) fun hm => by have := hS k hm; omega⟩
theorem Fr.blk {S : List Nat} {w w' : World} (h : Fr S w w') {b : Nat} {cs : List Value} {t : TypeId} (hb : Blk w b cs t) (hS : b ∉ S) : Blk w' b cs t := by
  have := hb.lt
  unfold Blk at hb ⊢
  rw [h.block b this hS, hb]
theorem Fr.cell {S : List Nat} {w w' : World} (h : Fr S w w') {a : Addr} {v : Value} (hc : w.cell? a = some v) (hS : a.block ∉ S) : w'.cell? a = some v := by
  have hlt := World.block_lt_of_cell? w a hc
  unfold World.cell? at hc ⊢
  rw [h.block a.block hlt hS]
  exact hc
theorem SL.fr {w w' : World} {a : Option Addr} {len cap : Nat} {xs : List Int} (h : SL w a len cap xs) {S : List Nat} (hf : Fr S w w') (hS : ∀ x, a = some x → x.block ∉ S) : SL w' a len cap xs := by
  obtain ⟨h1, h2, h3, h4, h5, h6⟩ := h
  refine ⟨h1, h2, h3, h4, h5, fun hp => ?_⟩
  obtain ⟨b, off, rfl, hc⟩ := h6 hp
  exact ⟨b, off, rfl, fun i hi => hf.cell (hc i hi) (hS ⟨b, off, none⟩ rfl)⟩

/-- The slice value (a, len, cap) is one of numbers. -/
structure IL (w : World) (a : Option Addr) (len cap : Nat) : Prop where
  hle : len ≤ cap
  hmx : cap ≤ maxLen
  hnil : a = none → cap = 0
  hat : 0 < len → ∃ b off, a = some ⟨b, off, none⟩ ∧ ∀ i, i < len → ∃ z : Int, w.cell? ⟨b, off + i, none⟩ = some (.int .i64 z)
theorem IL.fr {w w' : World} {a : Option Addr} {len cap : Nat} (h : IL w a len cap) {S : List Nat} (hf : Fr S w w') (hS : ∀ x, a = some x → x.block ∉ S) : IL w' a len cap := by
  obtain ⟨h1, h2, h3, h4⟩ := h
  refine ⟨h1, h2, h3, fun hp => ?_⟩
  obtain ⟨b, off, rfl, hc⟩ := h4 hp
  refine ⟨b, off, rfl, fun i hi => ?_⟩
  obtain ⟨z, hz⟩ := hc i hi
  exact ⟨z, hf.cell hz (hS ⟨b, off, none⟩ rfl)⟩

theorem SL.fr0 {w w' : World} {a : Option Addr} {len cap : Nat} {xs : List Int} (h : SL w a len cap xs) {S : List Nat} (hf : Fr S w w') (hS : 0 < len → ∀ x, a = some x → x.block ∉ S) : SL w' a len cap xs := by
  obtain ⟨h1, h2, h3, h4, h5, h6⟩ := h
  refine ⟨h1, h2, h3, h4, h5, fun hp => ?_⟩
  obtain ⟨b, off, rfl, hc⟩ := h6 hp
  exact ⟨b, off, rfl, fun i hi => hf.cell (hc i hi) (hS hp ⟨b, off, none⟩ rfl)⟩
theorem IL.fr0 {w w' : World} {a : Option Addr} {len cap : Nat} (h : IL w a len cap) {S : List Nat} (hf : Fr S w w') (hS : 0 < len → ∀ x, a = some x → x.block ∉ S) : IL w' a len cap := by
  obtain ⟨h1, h2, h3, h4⟩ := h
  refine ⟨h1, h2, h3, fun hp => ?_⟩
  obtain ⟨b, off, rfl, hc⟩ := h4 hp
  refine ⟨b, off, rfl, fun i hi => ?_⟩
  obtain ⟨z, hz⟩ := hc i hi
  exact ⟨z, hf.cell hz (hS hp ⟨b, off, none⟩ rfl)⟩

/-- The two errors of package io that are met. -/
structure Gl (w : World) (base : Nat) (e0 e1 : Addr) : Prop where
  g0 : w.cell? ⟨0, 0, none⟩ = some (.iface 102 (.pointer (some e0)))
  g1 : w.cell? ⟨1, 0, none⟩ = some (.iface 102 (.pointer (some e1)))
  ne : e0 ≠ e1
  b0 : ∃ c t, w.heap[e0.block]? = some (.cells c t (0, 0))
  b1 : ∃ c t, w.heap[e1.block]? = some (.cells c t (0, 0))
  h2 : 2 ≤ base
  hb0 : e0.block < base
  hb1 : e1.block < base
theorem Gl.below {w w' : World} {base : Nat} {e0 e1 : Addr} (h : Gl w base e0 e1) (hb : Below base w w') : Gl w' base e0 e1 := by
  have h2 := h.h2
  refine ⟨hb.cell (p := ⟨0, 0, none⟩) (by show 0 < base; omega) |>.trans h.g0, hb.cell (p := ⟨1, 0, none⟩) (by show 1 < base; omega) |>.trans h.g1, h.ne, ?_, ?_, h.h2, h.hb0, h.hb1⟩
  · rw [hb.block _ h.hb0]; exact h.b0
  · rw [hb.block _ h.hb1]; exact h.b1
theorem Tryd.comp102 : (Tryd.prog.info? 102).map (·.comparable) = some true := by kernel_rfl
theorem Tryd.size129 : (Tryd.prog.info? 129).map (·.size) = some 1 := by kernel_rfl
/-- An error is itself. -/
theorem eql_same (w : World) (a : Addr) : (binOp .eql 54 (.iface 102 (.pointer (some a))) (.iface 102 (.pointer (some a)))).run Tryd.prog w = .ok (.bool true) w := by
  obtain ⟨i, hi, hcmp⟩ := Option.map_eq_some_iff.1 Tryd.comp102
  obtain ⟨j, hj, _⟩ := Option.map_eq_some_iff.1 Tryd.size129
  exact run_eql_iface_ptr_same w a Tryd.underlying54 Tryd.underlying102 hi hcmp hj
theorem Gl.eql10 {w : World} {base : Nat} {e0 e1 : Addr} (h : Gl w base e0 e1) : (binOp .eql 54 (.iface 102 (.pointer (some e1))) (.iface 102 (.pointer (some e0)))).run Tryd.prog w = .ok (.bool false) w := by
  obtain ⟨i, hi, hcmp⟩ := Option.map_eq_some_iff.1 Tryd.comp102
  obtain ⟨j, hj, hjs⟩ := Option.map_eq_some_iff.1 Tryd.size129
  obtain ⟨c0, t0, h0⟩ := h.b0
  obtain ⟨c1, t1, h1⟩ := h.b1
  exact run_eql_iface_ptr_other w Tryd.underlying54 Tryd.underlying102 hi hcmp hj (by rw [hjs]; decide) (Ne.symm h.ne) h1 h0

/-- What copy does to a block of its own. -/
theorem run_copy_blk (P : Program) (w : World) (dT sT : TypeId) (rt : TypeId) (elem : TypeId) (hu : P.underlying dT = some (.slice elem)) (hsz : (P.info? elem).map (·.size) = some 1)
    (dp sp : Option Addr) (dLen dCap sLen sCap : Nat) (g off : Nat) (cur : List Value) (t : TypeId) (hg : Blk w g cur t) (cs : List Value) (hn : cs.length = Nat.min sLen dLen)
    (hpos : 0 < cs.length → dp = some ⟨g, off, none⟩ ∧ ∃ ad, sp = some ad ∧ ∀ j v, cs[j]? = some v → w.cell? (ad.add j) = some v)
    (hfit : off + cs.length ≤ cur.length) (h1 : ∀ v ∈ cs, v.oneCell' = true) :
    ∃ w', (Builtin.copy_ #[dT, sT] rt #[.slice dp dLen dCap, .slice sp sLen sCap]).run P w = .ok (goInt cs.length) w' ∧ Blk w' g (splice cur off cs) t ∧ Fr [g] w w' := by
  by_cases h0 : cs.length = 0
  · obtain rfl : cs = [] := List.eq_nil_of_length_eq_zero h0
    exact ⟨w, run_copy_none (P := P) w dT sT rt elem dp sp dLen dCap sLen sCap hu hsz (by simpa using hn.symm), by simpa [splice] using hg, Fr.refl _ _⟩
  · obtain ⟨rfl, ad, rfl, hsrc⟩ := hpos (by omega)
    refine ⟨_, run_copy_row (P := P) w dT sT rt elem g off dLen dCap ad sLen sCap cur.toArray t cs hu hsz hg hn hsrc (by simpa using hfit) h1, ?_, ?_⟩
    · show _ = _
      simpa [splice] using setRow_heap w g _ _ t _ hg
    · exact ⟨rfl, rfl, rfl, by simp [World.setRow], fun k _ hk => setRow_other w g k _ (by simpa using hk)⟩

/-- copy into a block of its own, as one step of a region that draws. -/
theorem step_copy_blk {P : Program} {ops : Array Oper} {o : Oper} {a : Act} {w : World} {K : Act → World → Prop} {Q : Exit → Act → World → Prop} {E : Prop} (hgd : o.guard = none) (d s : Operand) (dT sT : TypeId)
    (ho : o.op = .call { callee := .builtin .copy, args := #[d, s], argTypes := #[dT, sT] }) (elem : TypeId) (hu : P.underlying dT = some (.slice elem)) (hsz : (P.info? elem).map (·.size) = some 1)
    (dp sp : Option Addr) (dLen dCap sLen sCap : Nat) (hd : a.eval d = .slice dp dLen dCap) (hs : a.eval s = .slice sp sLen sCap)
    (g off : Nat) (cur : List Value) (t : TypeId) (hg : Blk w g cur t) (cs : List Value) (hn : cs.length = Nat.min sLen dLen)
    (hpos : 0 < cs.length → dp = some ⟨g, off, none⟩ ∧ ∃ ad, sp = some ad ∧ ∀ j v, cs[j]? = some v → w.cell? (ad.add j) = some v)
    (hfit : off + cs.length ≤ cur.length) (h1 : ∀ v ∈ cs, v.oneCell' = true)
    (h : ∀ w', Hid (Blk w' g (splice cur off cs) t) → Fr [g] w w' → K (a.put o.dst (goInt cs.length)) w') :
    if Region.wanted o (yielded ops a.tmps) = true then Oper.wp P o a w K Q else E := by
  have hw : Region.wanted o (yielded ops a.tmps) = true := by simp [Region.wanted, hgd]
  rw [if_pos hw]
  obtain ⟨w', hrun, hb, hf⟩ := run_copy_blk P w dT sT o.type elem hu hsz dp sp dLen dCap sLen sCap g off cur t hg cs hn hpos hfit h1
  unfold Oper.wp
  simp [execOp, ho, resolve, invoke, builtin, hd, hs, hrun, Result.andThen]
  exact h w' hb hf
/-- The bytes as cells. -/
def cells (xs : List Int) : List Value := xs.map fun x => .int .u8 x
theorem cells_len (xs : List Int) : (cells xs).length = xs.length := by simp [cells]
theorem cells_one (xs : List Int) : ∀ v ∈ cells xs, v.oneCell' = true := by
  intro v hv
  obtain ⟨x, _, rfl⟩ := List.mem_map.1 hv
  rfl
theorem cells_at {xs : List Int} {j : Nat} {v : Value} (h : (cells xs)[j]? = some v) : v = .int .u8 (xs.getD j 0) ∧ j < xs.length := by
  unfold cells at h
  rw [List.getElem?_map] at h
  cases hx : xs[j]? with
  | none => simp [hx] at h
  | some x =>
    rw [hx] at h
    simp at h
    refine ⟨by simp [List.getD, hx, h], ?_⟩
    exact (List.getElem?_eq_some_iff.1 hx).1
/-- The cells that copy takes of a slice of bytes. -/
theorem SL.src {w : World} {a : Option Addr} {len cap : Nat} {xs : List Int} (h : SL w a len cap xs) (n : Nat) (hn : 0 < (cells (xs.take n)).length) :
    ∃ ad, a = some ad ∧ ∀ j v, (cells (xs.take n))[j]? = some v → w.cell? (ad.add j) = some v := by
  have hl := h.hlen
  have hp : 0 < len := by rw [cells_len] at hn; simp at hn; omega
  obtain ⟨b, off, rfl, hc⟩ := h.hat hp
  refine ⟨_, rfl, fun j v hv => ?_⟩
  obtain ⟨rfl, hj⟩ := cells_at hv
  have hj' : j < len ∧ j < n := by simp at hj; omega
  rw [Addr.add_lit, hc j hj'.1]
  simp only [List.getD, List.getElem?_take, if_pos hj'.2]
/-- Where a slice begins behind its first k elements. -/
def cutAt (a : Option Addr) (cap k : Nat) : Option Addr := if cap = k then a else a.map (·.add (k * 1))
theorem cutAt_block {a : Option Addr} {cap k : Nat} {x : Addr} (h : cutAt a cap k = some x) : ∃ y, a = some y ∧ x.block = y.block := by
  unfold cutAt at h
  split at h
  · exact ⟨x, h, rfl⟩
  · cases a with
    | none => simp at h
    | some y =>
      simp at h
      exact ⟨y, rfl, by rw [← h]; simp [Addr.add]; split <;> rfl⟩
theorem run_from (W : World) (a : Option Addr) (len cap k : Nat) (hk : k ≤ len) {lo : Int} (hlo : lo = k) :
    (Instr.slice 22 (.slice a len cap) (some (.int .i64 lo)) none none).run Tryd.prog W = .ok (.slice (cutAt a cap k) (len - k) (cap - k)) W := by
  subst hlo
  rw [run_slice_l W 22 a len cap slice22 .i64 k (by omega) (by omega), size22]
  simp only [Result.andThen, sliced, Int.toNat_natCast, cutAt]
theorem run_sub (W : World) (a : Option Addr) (len cap k m : Nat) (hk : k ≤ m) (hm : m ≤ cap) {lo hi : Int} (hlo : lo = k) (hhi : hi = m) :
    (Instr.slice 22 (.slice a len cap) (some (.int .i64 lo)) (some (.int .i64 hi)) none).run Tryd.prog W = .ok (.slice (cutAt a cap k) (m - k) (cap - k)) W := by
  subst hlo hhi
  rw [run_slice_lh W 22 a len cap slice22 .i64 .i64 k m (by omega) (by omega) (by omega), size22]
  simp only [Result.andThen, sliced, Int.toNat_natCast, cutAt]
theorem SL.cut {w : World} {a : Option Addr} {len cap : Nat} {xs : List Int} (h : SL w a len cap xs) {k : Nat} (hk : k ≤ len) : SL w (cutAt a cap k) (len - k) (cap - k) (xs.drop k) := by
  obtain ⟨a', hr, hS⟩ := h.fromRun hk (lo := k) rfl
  have := hr w
  rw [run_from w a len cap k hk rfl] at this
  cases this
  exact hS
theorem SL.heq {w w' : World} {a : Option Addr} {len cap : Nat} {xs : List Int} (h : SL w a len cap xs) (e : w'.heap = w.heap) : SL w' a len cap xs :=
  h.world fun b o _ => by simp [World.cell?, e]
theorem Fr.heq {S : List Nat} {a b c : World} (h : Fr S a b) (e : c.heap = b.heap) (e1 : c.os = b.os) (e2 : c.tape = b.tape) (e3 : c.output = b.output) : Fr S a c :=
  ⟨by rw [e1, h.os], by rw [e2, h.tape], by rw [e3, h.output], by rw [e]; exact h.size, fun k hk hs => by rw [e]; exact h.block k hk hs⟩
theorem run_to (W : World) (a : Option Addr) (len cap m : Nat) (hm : m ≤ cap) {hi : Int} (hhi : hi = m) :
    (Instr.slice 22 (.slice a len cap) none (some (.int .i64 hi)) none).run Tryd.prog W = .ok (.slice a m cap) W := by
  subst hhi
  rw [run_slice_h W 22 a len cap slice22 .i64 m (by omega) (by omega), size22]
  simp only [Result.andThen, sliced, Int.toNat_natCast]
  have : a.map (·.add (0 * 1)) = a := by cases a <;> simp [Addr.add]
  simp [Addr.add]
theorem Fr.ofEq {S : List Nat} {a b c : World} (h : Fr S b c) (e : b.heap = a.heap) (e1 : b.os = a.os) (e2 : b.tape = a.tape) (e3 : b.output = a.output) : Fr S a c :=
  ⟨by rw [h.os, e1], by rw [h.tape, e2], by rw [h.output, e3], by rw [← e]; exact h.size, fun k hk hs => by rw [← e] at hk ⊢; exact h.block k hk hs⟩
end Go.Proofs.YtjajhpgodijeoaaDoor
