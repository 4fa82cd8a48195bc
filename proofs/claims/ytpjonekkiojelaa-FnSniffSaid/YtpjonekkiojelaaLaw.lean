/-
  What the code's signatures tell and what the reference tells is the same type, but for parameters. Plain lemmas: no program in sight. Condition: the bytes are none of those that the reference leaves out.
-/
import Derived.Test.YtpjonekkiojelaaDet
import Derived.Test.YtpjonekkiojelaaSpf
namespace Go.Proofs.Ytpjonekkiojelaa
open Go.RowKit Go.PlainAid

theorem and_all : ∀ d : Nat, d < 256 → bits .and .u8 (d : Int) 223 = (if 97 ≤ d ∧ d ≤ 122 then (d : Int) - 32 else bits .and .u8 (d : Int) 223) ∧ (65 ≤ bits .and .u8 (d : Int) 223 → bits .and .u8 (d : Int) 223 ≤ 90 → (65 ≤ d ∧ d ≤ 90 ∧ bits .and .u8 (d : Int) 223 = d) ∨ (97 ≤ d ∧ d ≤ 122)) ∧ ((65 ≤ d ∧ d ≤ 90) → bits .and .u8 (d : Int) 223 = d) ∧ bits .and .u8 (d : Int) 255 = d ∧ bits .and .u8 (d : Int) 0 = 0 := by decide +kernel
/-- A byte of a tag: a capital, or below the capitals. -/
def okc (c : Int) : Bool := decide (c ≤ 90)
theorem hEq_up {c d : Int} (h0 : 0 ≤ d) (h1 : d ≤ 255) (hc : okc c = true) : hEq c d = (up d == c) := by
  have hc' : c ≤ 90 := of_decide_eq_true hc
  obtain ⟨n, rfl⟩ := Int.eq_ofNat_of_zero_le h0
  obtain ⟨a1, a2, a3, _, _⟩ := and_all n (by omega)
  rw [Bool.eq_iff_iff]
  unfold hEq up
  by_cases hL : 65 ≤ c ∧ c ≤ 90
  · rw [if_pos hL, beq_iff_eq, beq_iff_eq]
    by_cases hl : 97 ≤ n ∧ n ≤ 122
    · rw [if_pos hl] at a1
      rw [if_pos (by omega), a1]
      exact eq_comm
    · rw [if_neg (by omega)]
      constructor
      · intro h
        rcases a2 (by omega) (by omega) with ⟨_, _, h3⟩ | h3
        · omega
        · exact absurd h3 hl
      · intro h
        rw [a3 (by omega)]
        exact h.symm
  · rw [if_neg hL, beq_iff_eq, beq_iff_eq]
    by_cases hl : (97 : Int) ≤ n ∧ (n : Int) ≤ 122
    · rw [if_pos hl]
      omega
    · rw [if_neg hl]
      exact eq_comm
theorem By.bd {l : List Int} (h : By l) (i : Nat) : 0 ≤ l.getD i 0 ∧ l.getD i 0 ≤ 255 := by
  rcases Nat.lt_or_ge i l.length with hi | hi
  · rw [List.getD, List.getElem?_eq_getElem hi, Option.getD_some]
    exact h _ (List.getElem_mem hi)
  · rw [List.getD, List.getElem?_eq_none hi]
    simp
theorem htmlB_tagB {z p : List Int} {P : ByteArray} (hz : By z) (hp : P.size = p.length) (hy : ∀ i, i < p.length → bt P i = p.getD i 0 ∧ okc (p.getD i 0) = true) : htmlB z p = tagB z P := by
  unfold htmlB tagB
  rw [hp]
  congr 2
  rw [Bool.eq_iff_iff, List.all_eq_true, List.all_eq_true]
  constructor
  · intro h i hi
    have h1 := h i hi
    rw [hEq_up (hz.bd i).1 (hz.bd i).2 (hy i (List.mem_range.1 hi)).2] at h1
    rw [(hy i (List.mem_range.1 hi)).1]
    exact h1
  · intro h i hi
    have h1 := h i hi
    rw [(hy i (List.mem_range.1 hi)).1] at h1
    rw [hEq_up (hz.bd i).1 (hz.bd i).2 (hy i (List.mem_range.1 hi)).2]
    exact h1
theorem mEq_all {d : Int} (h0 : 0 ≤ d) (h1 : d ≤ 255) (c : Int) : mEq 255 c d = (d == c) := by
  obtain ⟨n, rfl⟩ := Int.eq_ofNat_of_zero_le h0
  obtain ⟨_, _, _, a4, _⟩ := and_all n (by omega)
  unfold mEq
  rw [a4]
theorem mEq_none {d : Int} (h0 : 0 ≤ d) (h1 : d ≤ 255) : mEq 0 0 d = true := by
  obtain ⟨n, rfl⟩ := Int.eq_ofNat_of_zero_le h0
  obtain ⟨_, _, _, _, a5⟩ := and_all n (by omega)
  unfold mEq
  rw [a5]
  rfl
/-- A mask is all or nothing, and a question mark stands where it is nothing. -/
def okm (m p q : Int) : Bool := (m == 255 && q == p && !(p == 63)) || (m == 0 && p == 0 && q == 63)
theorem maskB_begB {zs m p : List Int} {P : ByteArray} (hz : By zs) (hp : P.size = p.length) (hy : ∀ i, i < p.length → okm (m.getD i 0) (p.getD i 0) (bt P i) = true) : maskB zs m p = begB zs P := by
  unfold maskB begB
  rw [hp]
  congr 1
  rw [Bool.eq_iff_iff, List.all_eq_true, List.all_eq_true]
  have key : ∀ i, i < p.length → mEq (m.getD i 0) (p.getD i 0) (zs.getD i 0) = begAt zs P i := fun i hi => by
    have h := hy i hi
    unfold okm at h
    unfold begAt
    simp only [Bool.or_eq_true, Bool.and_eq_true, beq_iff_eq, Bool.not_eq_true'] at h
    rcases h with ⟨⟨h1, h2⟩, h3⟩ | ⟨⟨h1, h2⟩, h3⟩
    · rw [h1, h2, mEq_all (hz.bd i).1 (hz.bd i).2, h3, Bool.false_or]
    · rw [h1, h2, h3, mEq_none (hz.bd i).1 (hz.bd i).2]
      rfl
  exact ⟨fun h i hi => by rw [← key i (List.mem_range.1 hi)]; exact h i hi, fun h i hi => by rw [key i (List.mem_range.1 hi)]; exact h i hi⟩
theorem mask_xml {z : List Int} (hz : By z) : maskB z [255, 255, 255, 255, 255] [60, 63, 120, 109, 108] = xmlB z := by
  unfold maskB xmlB begB
  have e : ∀ i c, mEq 255 c (z.getD i 0) = (z.getD i 0 == c) := fun i c => mEq_all (hz.bd i).1 (hz.bd i).2 c
  have hs : xmlP.size = 5 := rfl
  have hl : ([60, 63, 120, 109, 108] : List Int).length = 5 := rfl
  have r5 : List.range 5 = [0, 1, 2, 3, 4] := by decide
  have b0 : bt xmlP 0 = 60 := by decide
  have b1 : bt xmlP 1 = 63 := by decide
  have b2 : bt xmlP 2 = 120 := by decide
  have b3 : bt xmlP 3 = 109 := by decide
  have b4 : bt xmlP 4 = 108 := by decide
  rw [hs, hl, r5]
  simp only [List.all_cons, List.all_nil, begAt, b0, b1, b2, b3, b4]
  have g0 : ([255, 255, 255, 255, 255] : List Int).getD 0 0 = 255 := rfl
  have g1 : ([255, 255, 255, 255, 255] : List Int).getD 1 0 = 255 := rfl
  have g2 : ([255, 255, 255, 255, 255] : List Int).getD 2 0 = 255 := rfl
  have g3 : ([255, 255, 255, 255, 255] : List Int).getD 3 0 = 255 := rfl
  have g4 : ([255, 255, 255, 255, 255] : List Int).getD 4 0 = 255 := rfl
  have p0 : ([60, 63, 120, 109, 108] : List Int).getD 0 0 = 60 := rfl
  have p1 : ([60, 63, 120, 109, 108] : List Int).getD 1 0 = 63 := rfl
  have p2 : ([60, 63, 120, 109, 108] : List Int).getD 2 0 = 120 := rfl
  have p3 : ([60, 63, 120, 109, 108] : List Int).getD 3 0 = 109 := rfl
  have p4 : ([60, 63, 120, 109, 108] : List Int).getD 4 0 = 108 := rfl
  rw [g0, g1, g2, g3, g4, p0, p1, p2, p3, p4, e, e, e, e, e]
  have q60 : ((60 : Int) == 63) = false := rfl
  have q63 : ((63 : Int) == 63) = true := rfl
  have q120 : ((120 : Int) == 63) = false := rfl
  have q109 : ((109 : Int) == 63) = false := rfl
  have q108 : ((108 : Int) == 63) = false := rfl
  rw [q60, q63, q120, q109, q108]
  generalize (z.getD 0 0 == 60) = x0
  generalize (z.getD 1 0 == 63) = x1
  generalize (z.getD 2 0 == 120) = x2
  generalize (z.getD 3 0 == 109) = x3
  generalize (z.getD 4 0 == 108) = x4
  generalize decide (5 ≤ z.length) = x5
  revert x0 x1 x2 x3 x4 x5
  decide
theorem pre_out {ys p q : List Int} {P : ByteArray} (h : begB ys P = false) (hq : begB ys P = pre ys q) (hp : p.take q.length = q) : pre ys p = false := by
  rw [hq] at h
  rw [Bool.eq_false_iff]
  intro hc
  obtain ⟨h1, h2⟩ := pre_iff.1 hc
  have hl : q.length ≤ p.length := by have := congrArg List.length hp; rw [List.length_take] at this; omega
  have : pre ys q = true := pre_iff.2 ⟨by omega, fun i hi => by
    rw [h2 i (by omega)]
    have := congrArg (fun l => List.getD l i 0) hp
    simp only [List.getD, List.getElem?_take, if_pos hi] at this
    exact this⟩
  rw [this] at h
  cases h
theorem mask_font {ys : List Int} (h : ¬ (36 ≤ ys.length ∧ mEq 255 76 (ys.getD 34 0) = true ∧ mEq 255 80 (ys.getD 35 0) = true)) : maskB ys [0, 0, 0, 0, 0, 0, 0, 0, 0, 0, 0, 0, 0, 0, 0, 0, 0, 0, 0, 0, 0, 0, 0, 0, 0, 0, 0, 0, 0, 0, 0, 0, 0, 0, 255, 255] [0, 0, 0, 0, 0, 0, 0, 0, 0, 0, 0, 0, 0, 0, 0, 0, 0, 0, 0, 0, 0, 0, 0, 0, 0, 0, 0, 0, 0, 0, 0, 0, 0, 0, 76, 80] = false := by
  rw [Bool.eq_false_iff]
  intro hc
  unfold maskB at hc
  rw [Bool.and_eq_true, decide_eq_true_eq, List.all_eq_true] at hc
  exact h ⟨hc.1, hc.2 34 (List.mem_range.2 (by decide)), hc.2 35 (List.mem_range.2 (by decide))⟩

theorem nil_or (b : Bool) (a : UInt8) (l : List UInt8) : (orNil b ⟨(a :: l).toArray⟩).toList.isEmpty = !b := by
  cases b <;> rw [ByteArray.toList_eq] <;> rfl
theorem fo_or {f : Sig → ByteArray} {s : Sig} {r : List Sig} {b : Bool} {a : UInt8} {l : List UInt8} (h : f s = orNil b ⟨(a :: l).toArray⟩) : firstOf f (s :: r) = if b then ⟨(a :: l).toArray⟩ else firstOf f r := by
  conv => lhs; unfold firstOf
  rw [h, nil_or]
  cases b <;> rfl
theorem fo_html (ys : List Int) (k : Nat) (p : List Int) (r : List Sig) : firstOf (matchS ys k) (.html p :: r) = if htmlB (ys.drop k) p then htmlOut else firstOf (matchS ys k) r := fo_or rfl
theorem fo_mask0 (ys : List Int) (k : Nat) (m p : List Int) (a : UInt8) (l : List UInt8) (r : List Sig) : firstOf (matchS ys k) (.masked m p false ⟨(a :: l).toArray⟩ :: r) = if maskB ys m p then ⟨(a :: l).toArray⟩ else firstOf (matchS ys k) r := fo_or rfl
theorem fo_mask1 (ys : List Int) (k : Nat) (m p : List Int) (a : UInt8) (l : List UInt8) (r : List Sig) : firstOf (matchS ys k) (.masked m p true ⟨(a :: l).toArray⟩ :: r) = if maskB (ys.drop k) m p then ⟨(a :: l).toArray⟩ else firstOf (matchS ys k) r := fo_or rfl
theorem fo_exact (ys : List Int) (k : Nat) (p : List Int) (a : UInt8) (l : List UInt8) (r : List Sig) : firstOf (matchS ys k) (.fixd p ⟨(a :: l).toArray⟩ :: r) = if pre ys p then ⟨(a :: l).toArray⟩ else firstOf (matchS ys k) r := fo_or rfl
theorem fo_mp4 (ys : List Int) (k : Nat) (r : List Sig) : firstOf (matchS ys k) (.mp4 :: r) = if mp4B ys then mp4Out else firstOf (matchS ys k) r := by
  conv => lhs; unfold firstOf
  show (if (outOf (mp4B ys)).toList.isEmpty then _ else outOf (mp4B ys)) = _
  rw [out_empty]
  cases mp4B ys <;> rfl
theorem fo_text (ys : List Int) (k : Nat) (r : List Sig) : firstOf (matchS ys k) (.text :: r) = if hasBin (ys.drop k) then firstOf (matchS ys k) r else txtS := by
  conv => lhs; unfold firstOf
  show (if (txt (hasBin (ys.drop k))).toList.isEmpty then _ else txt (hasBin (ys.drop k))) = _
  rw [txt_empty]
  cases hasBin (ys.drop k) <;> rfl
theorem fo_nil (f : Sig → ByteArray) : firstOf f [] = octet := rfl
theorem ess_ite (b : Bool) (x y : ByteArray) : ess (if b then x else y) = if b then ess x else ess y := by cases b <;> rfl
theorem or_ite (b c : Bool) (x y : ByteArray) : (if (b || c) then x else y) = if b then x else if c then x else y := by cases b <;> rfl
theorem no_ite (x y : ByteArray) : (if false then x else y) = y := rfl
theorem fp_cons (ys : List Int) (q : ByteArray × ByteArray) (r : List (ByteArray × ByteArray)) (d : ByteArray) : firstPat ys (q :: r) d = if patHit ys q then q.2 else firstPat ys r d := rfl
theorem fp_nil (ys : List Int) (d : ByteArray) : firstPat ys [] d = d := rfl
theorem ph_some (ys : List Int) (a : UInt8) (l : List UInt8) (n : ByteArray) : patHit ys (⟨(a :: l).toArray⟩, n) = begB ys ⟨(a :: l).toArray⟩ := by
  unfold patHit
  rw [ByteArray.toList_eq]
  rfl
theorem ph_none (ys : List Int) (n : ByteArray) : patHit ys (⟨#[]⟩, n) = mp4B ys := by
  unfold patHit
  rw [ByteArray.toList_eq]
  rfl
theorem ess0 : ess ⟨#[97, 112, 112, 108, 105, 99, 97, 116, 105, 111, 110, 47, 111, 103, 103]⟩ = ⟨#[97, 112, 112, 108, 105, 99, 97, 116, 105, 111, 110, 47, 111, 103, 103]⟩ := rfl
theorem ess1 : ess ⟨#[97, 112, 112, 108, 105, 99, 97, 116, 105, 111, 110, 47, 112, 100, 102]⟩ = ⟨#[97, 112, 112, 108, 105, 99, 97, 116, 105, 111, 110, 47, 112, 100, 102]⟩ := rfl
theorem ess2 : ess ⟨#[97, 112, 112, 108, 105, 99, 97, 116, 105, 111, 110, 47, 112, 111, 115, 116, 115, 99, 114, 105, 112, 116]⟩ = ⟨#[97, 112, 112, 108, 105, 99, 97, 116, 105, 111, 110, 47, 112, 111, 115, 116, 115, 99, 114, 105, 112, 116]⟩ := rfl
theorem ess3 : ess ⟨#[97, 112, 112, 108, 105, 99, 97, 116, 105, 111, 110, 47, 120, 45, 103, 122, 105, 112]⟩ = ⟨#[97, 112, 112, 108, 105, 99, 97, 116, 105, 111, 110, 47, 120, 45, 103, 122, 105, 112]⟩ := rfl
theorem ess4 : ess ⟨#[97, 112, 112, 108, 105, 99, 97, 116, 105, 111, 110, 47, 122, 105, 112]⟩ = ⟨#[97, 112, 112, 108, 105, 99, 97, 116, 105, 111, 110, 47, 122, 105, 112]⟩ := rfl
theorem ess5 : ess ⟨#[97, 117, 100, 105, 111, 47, 97, 105, 102, 102]⟩ = ⟨#[97, 117, 100, 105, 111, 47, 97, 105, 102, 102]⟩ := rfl
theorem ess6 : ess ⟨#[97, 117, 100, 105, 111, 47, 109, 105, 100, 105]⟩ = ⟨#[97, 117, 100, 105, 111, 47, 109, 105, 100, 105]⟩ := rfl
theorem ess7 : ess ⟨#[97, 117, 100, 105, 111, 47, 109, 112, 101, 103]⟩ = ⟨#[97, 117, 100, 105, 111, 47, 109, 112, 101, 103]⟩ := rfl
theorem ess8 : ess ⟨#[97, 117, 100, 105, 111, 47, 119, 97, 118, 101]⟩ = ⟨#[97, 117, 100, 105, 111, 47, 119, 97, 118, 101]⟩ := rfl
theorem ess9 : ess ⟨#[105, 109, 97, 103, 101, 47, 98, 109, 112]⟩ = ⟨#[105, 109, 97, 103, 101, 47, 98, 109, 112]⟩ := rfl
theorem ess10 : ess ⟨#[105, 109, 97, 103, 101, 47, 103, 105, 102]⟩ = ⟨#[105, 109, 97, 103, 101, 47, 103, 105, 102]⟩ := rfl
theorem ess11 : ess ⟨#[105, 109, 97, 103, 101, 47, 106, 112, 101, 103]⟩ = ⟨#[105, 109, 97, 103, 101, 47, 106, 112, 101, 103]⟩ := rfl
theorem ess12 : ess ⟨#[105, 109, 97, 103, 101, 47, 112, 110, 103]⟩ = ⟨#[105, 109, 97, 103, 101, 47, 112, 110, 103]⟩ := rfl
theorem ess13 : ess ⟨#[105, 109, 97, 103, 101, 47, 119, 101, 98, 112]⟩ = ⟨#[105, 109, 97, 103, 101, 47, 119, 101, 98, 112]⟩ := rfl
theorem ess14 : ess ⟨#[105, 109, 97, 103, 101, 47, 120, 45, 105, 99, 111, 110]⟩ = ⟨#[105, 109, 97, 103, 101, 47, 120, 45, 105, 99, 111, 110]⟩ := rfl
theorem ess15 : ess ⟨#[116, 101, 120, 116, 47, 112, 108, 97, 105, 110, 59, 32, 99, 104, 97, 114, 115, 101, 116, 61, 117, 116, 102, 45, 49, 54, 98, 101]⟩ = ⟨#[116, 101, 120, 116, 47, 112, 108, 97, 105, 110]⟩ := rfl
theorem ess16 : ess ⟨#[116, 101, 120, 116, 47, 112, 108, 97, 105, 110, 59, 32, 99, 104, 97, 114, 115, 101, 116, 61, 117, 116, 102, 45, 49, 54, 108, 101]⟩ = ⟨#[116, 101, 120, 116, 47, 112, 108, 97, 105, 110]⟩ := rfl
theorem ess17 : ess ⟨#[116, 101, 120, 116, 47, 112, 108, 97, 105, 110, 59, 32, 99, 104, 97, 114, 115, 101, 116, 61, 117, 116, 102, 45, 56]⟩ = ⟨#[116, 101, 120, 116, 47, 112, 108, 97, 105, 110]⟩ := rfl
theorem ess18 : ess ⟨#[116, 101, 120, 116, 47, 120, 109, 108, 59, 32, 99, 104, 97, 114, 115, 101, 116, 61, 117, 116, 102, 45, 56]⟩ = ⟨#[116, 101, 120, 116, 47, 120, 109, 108]⟩ := rfl
theorem ess19 : ess ⟨#[118, 105, 100, 101, 111, 47, 97, 118, 105]⟩ = ⟨#[118, 105, 100, 101, 111, 47, 97, 118, 105]⟩ := rfl
theorem essHtml : ess htmlOut = htmlN := rfl
theorem essMp4 : ess mp4Out = mp4Out := rfl
theorem essTxt : ess txtS = plainN := rfl
theorem essOctet : ess octet = octetN := rfl

set_option maxHeartbeats 4000000 in
set_option maxRecDepth 100000 in
theorem same_type {ys : List Int} (hy : By ys) (hodd : ∀ i, i < 8 → begB ys (oddP.getD i ⟨#[]⟩) = false) (hfont : ¬ (36 ≤ ys.length ∧ mEq 255 76 (ys.getD 34 0) = true ∧ mEq 255 80 (ys.getD 35 0) = true)) : ess (det ys) = sniffed ys := by
  unfold det sniffed restN
  generalize wsn ys = k
  have hz : By (ys.drop k) := fun n hn => hy n (List.mem_of_mem_drop hn)
  simp only [sigs, fo_html, fo_mask0, fo_mask1, fo_exact, fo_mp4, fo_text, fo_nil]
  generalize ys.drop k = z at hz ⊢
  have e0 : htmlB z [60, 33, 68, 79, 67, 84, 89, 80, 69, 32, 72, 84, 77, 76] = tagB z ⟨#[60, 33, 68, 79, 67, 84, 89, 80, 69, 32, 72, 84, 77, 76]⟩ := htmlB_tagB hz rfl (by decide)
  have e1 : htmlB z [60, 72, 84, 77, 76] = tagB z ⟨#[60, 72, 84, 77, 76]⟩ := htmlB_tagB hz rfl (by decide)
  have e2 : htmlB z [60, 72, 69, 65, 68] = tagB z ⟨#[60, 72, 69, 65, 68]⟩ := htmlB_tagB hz rfl (by decide)
  have e3 : htmlB z [60, 83, 67, 82, 73, 80, 84] = tagB z ⟨#[60, 83, 67, 82, 73, 80, 84]⟩ := htmlB_tagB hz rfl (by decide)
  have e4 : htmlB z [60, 73, 70, 82, 65, 77, 69] = tagB z ⟨#[60, 73, 70, 82, 65, 77, 69]⟩ := htmlB_tagB hz rfl (by decide)
  have e5 : htmlB z [60, 72, 49] = tagB z ⟨#[60, 72, 49]⟩ := htmlB_tagB hz rfl (by decide)
  have e6 : htmlB z [60, 68, 73, 86] = tagB z ⟨#[60, 68, 73, 86]⟩ := htmlB_tagB hz rfl (by decide)
  have e7 : htmlB z [60, 70, 79, 78, 84] = tagB z ⟨#[60, 70, 79, 78, 84]⟩ := htmlB_tagB hz rfl (by decide)
  have e8 : htmlB z [60, 84, 65, 66, 76, 69] = tagB z ⟨#[60, 84, 65, 66, 76, 69]⟩ := htmlB_tagB hz rfl (by decide)
  have e9 : htmlB z [60, 65] = tagB z ⟨#[60, 65]⟩ := htmlB_tagB hz rfl (by decide)
  have e10 : htmlB z [60, 83, 84, 89, 76, 69] = tagB z ⟨#[60, 83, 84, 89, 76, 69]⟩ := htmlB_tagB hz rfl (by decide)
  have e11 : htmlB z [60, 84, 73, 84, 76, 69] = tagB z ⟨#[60, 84, 73, 84, 76, 69]⟩ := htmlB_tagB hz rfl (by decide)
  have e12 : htmlB z [60, 66] = tagB z ⟨#[60, 66]⟩ := htmlB_tagB hz rfl (by decide)
  have e13 : htmlB z [60, 66, 79, 68, 89] = tagB z ⟨#[60, 66, 79, 68, 89]⟩ := htmlB_tagB hz rfl (by decide)
  have e14 : htmlB z [60, 66, 82] = tagB z ⟨#[60, 66, 82]⟩ := htmlB_tagB hz rfl (by decide)
  have e15 : htmlB z [60, 80] = tagB z ⟨#[60, 80]⟩ := htmlB_tagB hz rfl (by decide)
  have e16 : htmlB z [60, 33, 45, 45] = tagB z ⟨#[60, 33, 45, 45]⟩ := htmlB_tagB hz rfl (by decide)
  have e17 : maskB z [255, 255, 255, 255, 255] [60, 63, 120, 109, 108] = xmlB z := mask_xml hz
  have e18 : pre ys [37, 80, 68, 70, 45] = begB ys ⟨#[37, 80, 68, 70, 45]⟩ := (begB_pre rfl (by decide)).symm
  have e19 : pre ys [37, 33, 80, 83, 45, 65, 100, 111, 98, 101, 45] = begB ys ⟨#[37, 33, 80, 83, 45, 65, 100, 111, 98, 101, 45]⟩ := (begB_pre rfl (by decide)).symm
  have e20 : maskB ys [255, 255, 0, 0] [254, 255, 0, 0] = begB ys ⟨#[254, 255, 63, 63]⟩ := maskB_begB hy rfl (by decide)
  have e21 : maskB ys [255, 255, 0, 0] [255, 254, 0, 0] = begB ys ⟨#[255, 254, 63, 63]⟩ := maskB_begB hy rfl (by decide)
  have e22 : maskB ys [255, 255, 255, 0] [239, 187, 191, 0] = begB ys ⟨#[239, 187, 191, 63]⟩ := maskB_begB hy rfl (by decide)
  have e23 : pre ys [0, 0, 1, 0] = begB ys ⟨#[0, 0, 1, 0]⟩ := (begB_pre rfl (by decide)).symm
  have e24 : pre ys [0, 0, 2, 0] = begB ys ⟨#[0, 0, 2, 0]⟩ := (begB_pre rfl (by decide)).symm
  have e25 : pre ys [66, 77] = begB ys ⟨#[66, 77]⟩ := (begB_pre rfl (by decide)).symm
  have e26 : pre ys [71, 73, 70, 56, 55, 97] = begB ys ⟨#[71, 73, 70, 56, 55, 97]⟩ := (begB_pre rfl (by decide)).symm
  have e27 : pre ys [71, 73, 70, 56, 57, 97] = begB ys ⟨#[71, 73, 70, 56, 57, 97]⟩ := (begB_pre rfl (by decide)).symm
  have e28 : maskB ys [255, 255, 255, 255, 0, 0, 0, 0, 255, 255, 255, 255, 255, 255] [82, 73, 70, 70, 0, 0, 0, 0, 87, 69, 66, 80, 86, 80] = begB ys ⟨#[82, 73, 70, 70, 63, 63, 63, 63, 87, 69, 66, 80, 86, 80]⟩ := maskB_begB hy rfl (by decide)
  have e29 : pre ys [137, 80, 78, 71, 13, 10, 26, 10] = begB ys ⟨#[137, 80, 78, 71, 13, 10, 26, 10]⟩ := (begB_pre rfl (by decide)).symm
  have e30 : pre ys [255, 216, 255] = begB ys ⟨#[255, 216, 255]⟩ := (begB_pre rfl (by decide)).symm
  have e31 : maskB ys [255, 255, 255, 255, 0, 0, 0, 0, 255, 255, 255, 255] [70, 79, 82, 77, 0, 0, 0, 0, 65, 73, 70, 70] = begB ys ⟨#[70, 79, 82, 77, 63, 63, 63, 63, 65, 73, 70, 70]⟩ := maskB_begB hy rfl (by decide)
  have e32 : maskB ys [255, 255, 255] [73, 68, 51] = begB ys ⟨#[73, 68, 51]⟩ := maskB_begB hy rfl (by decide)
  have e33 : maskB ys [255, 255, 255, 255, 255] [79, 103, 103, 83, 0] = begB ys ⟨#[79, 103, 103, 83, 0]⟩ := maskB_begB hy rfl (by decide)
  have e34 : maskB ys [255, 255, 255, 255, 255, 255, 255, 255] [77, 84, 104, 100, 0, 0, 0, 6] = begB ys ⟨#[77, 84, 104, 100, 0, 0, 0, 6]⟩ := maskB_begB hy rfl (by decide)
  have e35 : maskB ys [255, 255, 255, 255, 0, 0, 0, 0, 255, 255, 255, 255] [82, 73, 70, 70, 0, 0, 0, 0, 65, 86, 73, 32] = begB ys ⟨#[82, 73, 70, 70, 63, 63, 63, 63, 65, 86, 73, 32]⟩ := maskB_begB hy rfl (by decide)
  have e36 : maskB ys [255, 255, 255, 255, 0, 0, 0, 0, 255, 255, 255, 255] [82, 73, 70, 70, 0, 0, 0, 0, 87, 65, 86, 69] = begB ys ⟨#[82, 73, 70, 70, 63, 63, 63, 63, 87, 65, 86, 69]⟩ := maskB_begB hy rfl (by decide)
  have e38 : pre ys [26, 69, 223, 163] = false := pre_out (q := [26, 69, 223, 163]) (hodd 6 (by decide)) (P := ⟨#[26, 69, 223, 163]⟩) (begB_pre rfl (by decide)) (by decide)
  have e39 : maskB ys [0, 0, 0, 0, 0, 0, 0, 0, 0, 0, 0, 0, 0, 0, 0, 0, 0, 0, 0, 0, 0, 0, 0, 0, 0, 0, 0, 0, 0, 0, 0, 0, 0, 0, 255, 255] [0, 0, 0, 0, 0, 0, 0, 0, 0, 0, 0, 0, 0, 0, 0, 0, 0, 0, 0, 0, 0, 0, 0, 0, 0, 0, 0, 0, 0, 0, 0, 0, 0, 0, 76, 80] = false := mask_font hfont
  have e40 : pre ys [0, 1, 0, 0] = false := pre_out (q := [0, 1, 0, 0]) (hodd 0 (by decide)) (P := ⟨#[0, 1, 0, 0]⟩) (begB_pre rfl (by decide)) (by decide)
  have e41 : pre ys [79, 84, 84, 79] = false := pre_out (q := [79, 84, 84, 79]) (hodd 1 (by decide)) (P := ⟨#[79, 84, 84, 79]⟩) (begB_pre rfl (by decide)) (by decide)
  have e42 : pre ys [116, 116, 99, 102] = false := pre_out (q := [116, 116, 99, 102]) (hodd 2 (by decide)) (P := ⟨#[116, 116, 99, 102]⟩) (begB_pre rfl (by decide)) (by decide)
  have e43 : pre ys [119, 79, 70, 70] = false := pre_out (q := [119, 79, 70]) (hodd 3 (by decide)) (P := ⟨#[119, 79, 70]⟩) (begB_pre rfl (by decide)) (by decide)
  have e44 : pre ys [119, 79, 70, 50] = false := pre_out (q := [119, 79, 70]) (hodd 3 (by decide)) (P := ⟨#[119, 79, 70]⟩) (begB_pre rfl (by decide)) (by decide)
  have e45 : pre ys [31, 139, 8] = begB ys ⟨#[31, 139, 8]⟩ := (begB_pre rfl (by decide)).symm
  have e46 : pre ys [80, 75, 3, 4] = begB ys ⟨#[80, 75, 3, 4]⟩ := (begB_pre rfl (by decide)).symm
  have e47 : pre ys [82, 97, 114, 33, 26, 7, 0] = false := pre_out (q := [82, 97, 114]) (hodd 5 (by decide)) (P := ⟨#[82, 97, 114]⟩) (begB_pre rfl (by decide)) (by decide)
  have e48 : pre ys [82, 97, 114, 33, 26, 7, 1, 0] = false := pre_out (q := [82, 97, 114]) (hodd 5 (by decide)) (P := ⟨#[82, 97, 114]⟩) (begB_pre rfl (by decide)) (by decide)
  have e49 : pre ys [0, 97, 115, 109] = false := pre_out (q := [0, 97, 115, 109]) (hodd 4 (by decide)) (P := ⟨#[0, 97, 115, 109]⟩) (begB_pre rfl (by decide)) (by decide)
  rw [e0, e1, e2, e3, e4, e5, e6, e7, e8, e9, e10, e11, e12, e13, e14, e15, e16, e17, e18, e19, e20, e21, e22, e23, e24, e25, e26, e27, e28, e29, e30, e31, e32, e33, e34, e35, e36, e38, e39, e40, e41, e42, e43, e44, e45, e46, e47, e48, e49]
  simp only [no_ite, ess_ite, markupB, tagsP, List.any_cons, List.any_nil, Bool.or_false, or_ite, patsL, fp_cons, fp_nil, ph_some, ph_none, essHtml, essMp4, essTxt, essOctet, ess0, ess1, ess2, ess3, ess4, ess5, ess6, ess7, ess8, ess9, ess10, ess11, ess12, ess13, ess14, ess15, ess16, ess17, ess18, ess19]
  rfl
end Go.Proofs.Ytpjonekkiojelaa
