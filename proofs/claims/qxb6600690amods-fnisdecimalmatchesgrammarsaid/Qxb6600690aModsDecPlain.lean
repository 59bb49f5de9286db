/-
  The plain law behind 'FnIsDecimalMatchesGrammar': no Go in sight. The one-pass reader 'decLoop' (digits seen, point seen) answers as the grammar does: digits, or digits, a point, digits.
-/
namespace Go.Proofs.Qxb6600690aMods.Dec

/-- Is this byte an ASCII digit? -/
def digB (c : UInt8) : Bool := decide (48 ≤ c.toNat ∧ c.toNat ≤ 57)
def allD (l : List UInt8) : Bool := l.all digB
/-- What 'isDecimal' does behind the sign. -/
def decLoop : List UInt8 → Nat → Bool → Bool
  | [], d, _ => decide (0 < d)
  | c :: r, d, p => if digB c then decLoop r (d + 1) p else if c.toNat = 46 ∧ p = false ∧ 0 < d then decLoop r 0 true else false
/-- What 'decimalGrammar' does behind the sign, the first point's place given. -/
def gram (l : List UInt8) : Bool :=
  match l.findIdx? (fun c => c.toNat == 46) with
  | none => decide (0 < l.length) && allD l
  | some i => decide (0 < i) && decide (0 < (l.drop (i + 1)).length) && allD (l.take i) && allD (l.drop (i + 1))

theorem digB_not_dot {c : UInt8} (h : c.toNat = 46) : digB c = false := by
  unfold digB; rw [h]; decide

theorem decLoop_true (l : List UInt8) (d : Nat) : decLoop l d true = (allD l && decide (0 < d + l.length)) := by
  induction l generalizing d with
  | nil => simp [decLoop, allD]
  | cons c r ih =>
    unfold decLoop
    by_cases h : digB c = true
    · rw [if_pos h, ih]
      simp only [allD, List.all_cons, h, Bool.true_and, List.length_cons]
      rw [show d + 1 + r.length = d + (r.length + 1) from by omega]
    · rw [if_neg h, if_neg (by simp)]
      simp [allD, h]

theorem decLoop_nodot (l : List UInt8) (d : Nat) (p : Bool) (hn : ∀ c ∈ l, c.toNat ≠ 46) : decLoop l d p = (allD l && decide (0 < d + l.length)) := by
  induction l generalizing d with
  | nil => simp [decLoop, allD]
  | cons c r ih =>
    unfold decLoop
    by_cases h : digB c = true
    · rw [if_pos h, ih _ (fun c hc => hn c (by simp [hc]))]
      simp only [allD, List.all_cons, h, Bool.true_and, List.length_cons]
      rw [show d + 1 + r.length = d + (r.length + 1) from by omega]
    · rw [if_neg h, if_neg (by have := hn c (by simp); simp [this])]
      simp [allD, h]

theorem decLoop_dot (l r : List UInt8) (c : UInt8) (d : Nat) (hn : ∀ c ∈ l, c.toNat ≠ 46) (hc : c.toNat = 46) :
    decLoop (l ++ c :: r) d false = (allD l && decide (0 < d + l.length) && decLoop r 0 true) := by
  induction l generalizing d with
  | nil =>
    rw [List.nil_append, decLoop, if_neg (by rw [digB_not_dot hc]; simp)]
    by_cases hd : 0 < d <;> simp [hd, hc, allD]
  | cons x xs ih =>
    rw [List.cons_append, decLoop]
    by_cases h : digB x = true
    · rw [if_pos h, ih _ (fun c hc => hn c (by simp [hc]))]
      simp only [allD, List.all_cons, h, Bool.true_and, List.length_cons]
      rw [show d + 1 + xs.length = d + (xs.length + 1) from by omega]
    · rw [if_neg h, if_neg (by have := hn x (by simp); simp [this])]
      simp [allD, h]

theorem decLoop_gram (l : List UInt8) : decLoop l 0 false = gram l := by
  unfold gram
  cases h : l.findIdx? (fun c => c.toNat == 46) with
  | none =>
    rw [List.findIdx?_eq_none_iff] at h
    rw [decLoop_nodot l 0 false (fun c hc => by simpa using h c hc)]
    simp [Bool.and_comm]
  | some i =>
    rw [List.findIdx?_eq_some_iff_getElem] at h
    obtain ⟨hi, h1, h2⟩ := h
    have e : l = l.take i ++ l[i] :: l.drop (i + 1) := by
      rw [List.getElem_cons_drop]; simp
    have hn : ∀ c ∈ l.take i, c.toNat ≠ 46 := by
      intro c hc
      rw [List.mem_take_iff_getElem] at hc
      obtain ⟨j, hj, rfl⟩ := hc
      have := h2 j (by omega)
      simpa using this
    have := decLoop_dot (l.take i) (l.drop (i + 1)) l[i] 0 hn (by simpa using h1)
    rw [← e] at this
    rw [this, decLoop_true]
    have hl : (l.take i).length = i := by rw [List.length_take]; omega
    rw [hl]
    simp only [Nat.zero_add]
    cases allD (l.take i) <;> cases allD (l.drop (i + 1)) <;> cases decide (0 < i) <;> simp

/-- The body behind an optional sign. -/
def body (l : List UInt8) : List UInt8 :=
  match l with
  | [] => []
  | c :: r => if c.toNat = 43 ∨ c.toNat = 45 then r else c :: r
end Go.Proofs.Qxb6600690aMods.Dec
