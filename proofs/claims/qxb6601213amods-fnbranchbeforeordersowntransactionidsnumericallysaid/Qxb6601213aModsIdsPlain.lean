/-
  The plain law behind 'FnBranchBeforeOrdersOwnTransactionIdsNumerically': schoolbook subtraction of two decimal texts without leading zeros leaves a borrow exactly when the first comes before the second in the order 'by length, then bytewise'.
-/
import Derived.Test.Qxb6601213aModsBranch
namespace Go.Proofs.Qxb6601213aMods.Brn
open Go.RowKit
set_option linter.unusedVariables false

/-- The digit at place i from the right; 0 beyond the text. -/
def dr (l : List UInt8) (i : Nat) : Int := if i < l.length then ((l.getD (l.length - 1 - i) 0).toNat : Int) - 48 else 0
/-- Is a borrow left over behind the lowest i places? -/
def borrow (dx dy : Nat → Int) : Nat → Bool
  | 0 => false
  | i + 1 => if dx i < dy i then true else if dy i < dx i then false else borrow dx dy i
/-- A decimal text without leading zeros. -/
def Own (l : List UInt8) : Prop := 0 < l.length ∧ (∀ k, k < l.length → 48 ≤ ((l.getD k 0).toNat : Int) ∧ ((l.getD k 0).toNat : Int) ≤ 57) ∧ (l.length = 1 ∨ ((l.getD 0 0).toNat : Int) ≠ 48)

theorem borrow_congr {dx dy dx' dy' : Nat → Int} (n : Nat) (h1 : ∀ i, i < n → dx i = dx' i) (h2 : ∀ i, i < n → dy i = dy' i) : borrow dx dy n = borrow dx' dy' n := by
  induction n with
  | zero => rfl
  | succ n ih => rw [borrow, borrow, h1 n (by omega), h2 n (by omega), ih (fun i hi => h1 i (by omega)) (fun i hi => h2 i (by omega))]
theorem dr_cons (a : UInt8) (l : List UInt8) (i : Nat) (hi : i < l.length) : dr (a :: l) i = dr l i := by
  unfold dr
  rw [if_pos (by simp; omega), if_pos hi]
  have e : (a :: l).length - 1 - i = (l.length - 1 - i) + 1 := by simp; omega
  rw [e, List.getD_cons_succ]
theorem dr_head (a : UInt8) (l : List UInt8) : dr (a :: l) l.length = (a.toNat : Int) - 48 := by
  unfold dr
  rw [if_pos (by simp)]
  simp
theorem borrow_same (x y : List UInt8) (h : x.length = y.length) : borrow (dr x) (dr y) x.length = Op.bytesLess x y := by
  induction x generalizing y with
  | nil =>
    cases y with
    | nil => rfl
    | cons b y => simp at h
  | cons a x ih =>
    cases y with
    | nil => simp at h
    | cons b y =>
      have hl : x.length = y.length := by simpa using h
      rw [List.length_cons, borrow, Op.bytesLess, dr_head]
      rw [show dr (b :: y) x.length = (b.toNat : Int) - 48 from by rw [hl]; exact dr_head b y]
      rw [borrow_congr x.length (fun i hi => dr_cons a x i hi) (fun i hi => dr_cons b y i (by omega)), ih y hl]
      by_cases h1 : a < b
      · have := UInt8.lt_iff_toNat_lt.1 h1
        rw [if_pos (by omega)]
        simp [h1]
      · have h1' : ¬ a.toNat < b.toNat := fun e => h1 (UInt8.lt_iff_toNat_lt.2 e)
        rw [if_neg (by omega)]
        by_cases h2 : a = b
        · subst h2
          rw [if_neg (by omega)]
          simp
        · have hne : a.toNat ≠ b.toNat := fun e => h2 (UInt8.toNat_inj.1 e)
          rw [if_pos (by omega)]
          simp [h1, h2]
theorem dr_top {l : List UInt8} (h : Own l) (h1 : 1 < l.length) : 0 < dr l (l.length - 1) := by
  unfold dr
  rw [if_pos (by omega), show l.length - 1 - (l.length - 1) = 0 from by omega]
  have h2 := h.2.1 0 (by omega)
  rcases h.2.2 with h3 | h3 <;> omega
theorem dr_off {l : List UInt8} {i : Nat} (h : l.length ≤ i) : dr l i = 0 := by
  unfold dr; rw [if_neg (by omega)]
theorem borrow_shorter {x y : List UInt8} (hx : Own x) (hy : Own y) (h : x.length < y.length) : borrow (dr x) (dr y) y.length = true := by
  obtain ⟨m, hm⟩ : ∃ m, y.length = m + 1 := ⟨y.length - 1, by omega⟩
  have h1 := dr_top hy (by have := hx.1; omega)
  rw [show y.length - 1 = m from by omega] at h1
  rw [hm, borrow, if_pos]
  rw [dr_off (l := x) (by omega)]; exact h1
theorem borrow_longer {x y : List UInt8} (hx : Own x) (hy : Own y) (h : y.length < x.length) : borrow (dr x) (dr y) x.length = false := by
  obtain ⟨m, hm⟩ : ∃ m, x.length = m + 1 := ⟨x.length - 1, by omega⟩
  have h1 := dr_top hx (by have := hy.1; omega)
  rw [show x.length - 1 = m from by omega] at h1
  rw [hm, borrow, dr_off (l := y) (by omega), if_neg (by omega), if_pos h1]

theorem less_pre (p x y : List UInt8) : Op.bytesLess (p ++ x) (p ++ y) = Op.bytesLess x y := by
  induction p with
  | nil => rfl
  | cons a p ih => simp [Op.bytesLess, ih]
theorem less_post (x y s : List UInt8) (h : x.length = y.length) : Op.bytesLess (x ++ s) (y ++ s) = Op.bytesLess x y := by
  induction x generalizing y with
  | nil =>
    cases y with
    | nil => simpa [Op.bytesLess] using less_irrefl s
    | cons b y => simp at h
  | cons a x ih =>
    cases y with
    | nil => simp at h
    | cons b y => simp [Op.bytesLess, ih y (by simpa using h)]

/-- The digits as the walk reads them. -/
def drB (x : ByteArray) (i : Nat) : Int := dr x.data.toList i
theorem len_data (x : ByteArray) : x.data.toList.length = x.size := by rw [Array.length_toList]; rfl

theorem ids (r p x y s : ByteArray) (hx : Own x.data.toList) (hy : Own y.data.toList) (N : Nat) (hN : N = max x.size y.size) :
    bb r (p ++ x ++ s) r (p ++ y ++ s) = borrow (drB x) (drB y) N := by
  have hsx : (p ++ x ++ s).size = p.size + x.size + s.size := by rw [ByteArray.size_append, ByteArray.size_append]
  have hsy : (p ++ y ++ s).size = p.size + y.size + s.size := by rw [ByteArray.size_append, ByteArray.size_append]
  have lx := len_data x
  have ly := len_data y
  unfold bb
  rw [if_pos rfl, hsx, hsy]
  show _ = borrow (dr x.data.toList) (dr y.data.toList) N
  by_cases h1 : x.size = y.size
  · rw [if_pos (by omega)]
    have := borrow_same x.data.toList y.data.toList (by omega)
    rw [show N = x.data.toList.length from by omega, this]
    unfold lt
    rw [ByteArray.toList_eq, ByteArray.toList_eq, ByteArray.data_append, ByteArray.data_append, ByteArray.data_append, ByteArray.data_append]
    simp only [Array.toList_append, List.append_assoc]
    rw [less_pre, less_post _ _ _ (by omega)]
  · rw [if_neg (by omega)]
    by_cases h2 : x.size < y.size
    · have := borrow_shorter hx hy (by omega)
      rw [show N = y.data.toList.length from by omega, this]
      apply decide_eq_true; omega
    · have := borrow_longer hx hy (by omega)
      rw [show N = x.data.toList.length from by omega, this]
      apply decide_eq_false; omega
end Go.Proofs.Qxb6601213aMods.Brn
