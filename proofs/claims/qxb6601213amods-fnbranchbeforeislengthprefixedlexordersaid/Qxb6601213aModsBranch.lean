/-
  The seat's plain order on byte strings, and the walk of 'branchBefore'.
-/
import Derived.Test.Qxb6601213aModsRows
import Derived.WalkKit
import Derived.WalkSpells
import Derived.WalkLawsBesides
namespace Go.Proofs.Qxb6601213aMods.Brn
open Go.RowKit
set_option linter.unusedVariables false

/-- Bytewise lexicographic order of two strings, as Go's '<' has it. -/
def lt (x y : ByteArray) : Bool := Op.bytesLess x.toList y.toList
/-- The order of branches: by resource, then by the gtrid's length, then by the gtrid. -/
def bb (ra a rb b : ByteArray) : Bool := if ra = rb then (if a.size = b.size then lt a b else decide (a.size < b.size)) else lt ra rb

theorem less_irrefl (l : List UInt8) : Op.bytesLess l l = false := by
  induction l with
  | nil => rfl
  | cons a x ih => simp [Op.bytesLess, ih]
theorem less_total (x y : List UInt8) (h : x ≠ y) : Op.bytesLess x y = !Op.bytesLess y x := by
  induction x generalizing y with
  | nil =>
    cases y with
    | nil => exact absurd rfl h
    | cons b y => rfl
  | cons a x ih =>
    cases y with
    | nil => rfl
    | cons b y =>
      simp only [Op.bytesLess]
      by_cases hab : a = b
      · subst hab
        have hxy : x ≠ y := fun e => h (by rw [e])
        simp [ih y hxy]
      · have h1 : (a == b) = false := by simpa using hab
        have h2 : (b == a) = false := by simpa using fun e : b = a => hab e.symm
        rw [h1, h2]
        simp only [Bool.false_and, Bool.or_false]
        by_cases hlt : a < b
        · have : ¬ b < a := by rw [UInt8.lt_iff_toNat_lt] at hlt ⊢; omega
          simp [hlt, this]
        · have hne : a.toNat ≠ b.toNat := fun e => hab (UInt8.toNat_inj.1 e)
          have : b < a := by rw [UInt8.lt_iff_toNat_lt] at hlt ⊢; omega
          simp [hlt, this]
theorem less_trans (x y z : List UInt8) (h1 : Op.bytesLess x y = true) (h2 : Op.bytesLess y z = true) : Op.bytesLess x z = true := by
  induction x generalizing y z with
  | nil =>
    cases z with
    | nil => cases y <;> simp [Op.bytesLess] at h2
    | cons c z => rfl
  | cons a x ih =>
    cases y with
    | nil => simp [Op.bytesLess] at h1
    | cons b y =>
      cases z with
      | nil => simp [Op.bytesLess] at h2
      | cons c z =>
        simp only [Op.bytesLess, Bool.or_eq_true, Bool.and_eq_true, decide_eq_true_eq, beq_iff_eq] at h1 h2 ⊢
        rcases h1 with h1 | ⟨rfl, h1⟩
        · rcases h2 with h2 | ⟨rfl, h2⟩
          · left; rw [UInt8.lt_iff_toNat_lt] at h1 h2 ⊢; omega
          · exact .inl h1
        · rcases h2 with h2 | ⟨rfl, h2⟩
          · exact .inl h2
          · exact .inr ⟨rfl, ih y z h1 h2⟩
theorem toList_inj {x y : ByteArray} (h : x.toList = y.toList) : x = y := by
  rw [ByteArray.toList_eq, ByteArray.toList_eq] at h
  exact ByteArray.ext (Array.toList_inj.mp h)
theorem beq_yes {a b : ByteArray} (h : (a.toList == b.toList) = true) : a = b := toList_inj (eq_of_beq h)
theorem beq_no {a b : ByteArray} (h : (a.toList == b.toList) = false) : a ≠ b := by
  rintro rfl
  simp at h
theorem lt_irrefl (x : ByteArray) : lt x x = false := less_irrefl _
theorem lt_total {x y : ByteArray} (h : x ≠ y) : lt x y = !lt y x := less_total _ _ (fun e => h (toList_inj e))
theorem lt_trans {x y z : ByteArray} (h1 : lt x y = true) (h2 : lt y z = true) : lt x z = true := less_trans _ _ _ h1 h2

theorem bb_irrefl (r a : ByteArray) : bb r a r a = false := by
  unfold bb; rw [if_pos rfl, if_pos rfl]; exact lt_irrefl a
theorem bb_total {ra a rb b : ByteArray} (h : ¬ (ra = rb ∧ a = b)) : bb ra a rb b = !bb rb b ra a := by
  unfold bb
  by_cases hr : ra = rb
  · subst hr
    rw [if_pos rfl, if_pos rfl]
    have hab : a ≠ b := fun e => h ⟨rfl, e⟩
    by_cases hs : a.size = b.size
    · rw [if_pos hs, if_pos hs.symm]; exact lt_total hab
    · rw [if_neg hs, if_neg (fun e => hs e.symm), ← decide_not]
      apply decide_eq_decide.2; omega
  · rw [if_neg hr, if_neg (fun e => hr e.symm)]; exact lt_total hr
theorem bb_trans {ra a rb b rc c : ByteArray} (h1 : bb ra a rb b = true) (h2 : bb rb b rc c = true) : bb ra a rc c = true := by
  unfold bb at *
  by_cases hr1 : ra = rb
  · subst hr1
    rw [if_pos rfl] at h1
    by_cases hr2 : ra = rc
    · subst hr2
      rw [if_pos rfl] at h2 ⊢
      by_cases s1 : a.size = b.size
      · rw [if_pos s1] at h1
        by_cases s2 : b.size = c.size
        · rw [if_pos s2] at h2; rw [if_pos (by omega)]; exact lt_trans h1 h2
        · rw [if_neg s2] at h2; rw [if_neg (by omega)]
          simp only [decide_eq_true_eq] at h2 ⊢; omega
      · rw [if_neg s1] at h1
        simp only [decide_eq_true_eq] at h1
        by_cases s2 : b.size = c.size
        · rw [if_neg (by omega)]; simp only [decide_eq_true_eq]; omega
        · rw [if_neg s2] at h2
          simp only [decide_eq_true_eq] at h2
          rw [if_neg (by omega)]; simp only [decide_eq_true_eq]; omega
    · rw [if_neg hr2] at h2 ⊢; exact h2
  · rw [if_neg hr1] at h1
    by_cases hr2 : rb = rc
    · subst hr2; rw [if_neg hr1]; exact h1
    · rw [if_neg hr2] at h2
      have h3 := lt_trans h1 h2
      rw [if_neg (fun e => by subst e; rw [lt_irrefl] at h3; cases h3)]
      exact h3

theorem ret_bool {a b : Bool} (h : a = b) : Ending.returned (.bool a) = .returned (.bool b) := by rw [h]

set_option maxHeartbeats 400000 in
theorem branch_any (ra a rb b : ByteArray) (w : World) (ha : a.size ≤ maxLen) (hb : b.size ≤ maxLen) :
    Calls Trym.prog 28 #[.string ra, .string a, .string rb, .string b] w fun e w' => e = .returned (.bool (bb ra a rb b)) ∧ w' = w := by
  unfold maxLen at ha hb
  cases hr : (ra.toList == rb.toList) with
  | false =>
    have HR : Hid ((ra.toList == rb.toList) = false) := hr
    go_enter Trym.func28, Trym.ntmps28
    go_wp2
    go_ret
    exact ⟨ret_bool (by unfold bb; rw [if_neg (beq_no HR.out)]; rfl), rfl⟩
  | true =>
    have HR : Hid ((ra.toList == rb.toList) = true) := hr
    by_cases hs : a.size = b.size
    · have hs1 : ((a.size : Int) == (b.size : Int)) = true := by simp; omega
      have HS : Hid (a.size = b.size) := hs
      clear hs
      go_enter Trym.func28, Trym.ntmps28
      go_wp2
      go_ret
      exact ⟨ret_bool (by unfold bb; rw [if_pos (beq_yes HR.out), if_pos HS.out]; rfl), rfl⟩
    · have hs1 : ((a.size : Int) == (b.size : Int)) = false := by simp; omega
      have HS : Hid (¬ a.size = b.size) := hs
      clear hs
      go_enter Trym.func28, Trym.ntmps28
      go_wp2
      go_ret
      exact ⟨ret_bool (by unfold bb; rw [if_pos (beq_yes HR.out), if_neg HS.out]), rfl⟩

set_option maxHeartbeats 400000 in
theorem zzBranch_any (ra a rb b : ByteArray) (w : World) (ha : a.size ≤ maxLen) (hb : b.size ≤ maxLen) :
    Calls Trym.prog 11 #[.string ra, .string a, .string rb, .string b] w fun e w' => e = .returned (.bool (bb ra a rb b)) ∧ w' = w := by
  go_enter Trym.func11, Trym.ntmps11
  go_wp2_with fail
  refine (branch_any _ _ _ _ _ ha hb).mono ?_
  rintro e w' ⟨rfl, rfl⟩
  go_wp2_with fail
  go_ret
  exact ⟨rfl, rfl⟩

/-- The call has returned some bool. -/
def RetBool (e : Ending) : Prop := ∃ r : Bool, e = .returned (.bool r)
end Go.Proofs.Qxb6601213aMods.Brn
