/-
  The walks of 'isOwnID' and 'decimalLess'.
-/
import Derived.Test.Qxb6601213aModsIdsPlain
namespace Go.Proofs.Qxb6601213aMods.Brn
open Go.RowKit
set_option linter.unusedVariables false

/-- If the call has returned true, P holds. -/
def RetIf (P : Prop) (e : Ending) : Prop := ∃ r : Bool, e = .returned (.bool r) ∧ (r = true → P)
theorem at_data (x : ByteArray) (k : Nat) (h : k < x.size) : ((x.data.toList.getD k 0).toNat : Int) = (x[k].toNat : Int) := by
  have hl : k < x.data.toList.length := by rw [len_data]; exact h
  rw [List.getD_eq_getElem?_getD, List.getElem?_eq_getElem hl]
  rfl
def Digs (x : ByteArray) (n : Nat) : Prop := ∀ k, k < n → 48 ≤ ((x.data.toList.getD k 0).toNat : Int) ∧ ((x.data.toList.getD k 0).toNat : Int) ≤ 57
theorem digs_succ {x : ByteArray} {k : Nat} (h : Digs x k) (hk : k < x.size) (h1 : 48 ≤ (x[k].toNat : Int)) (h2 : (x[k].toNat : Int) ≤ 57) : Digs x (k + 1) := by
  intro j hj
  by_cases e : j = k
  · subst e; rw [at_data x j hk]; exact ⟨h1, h2⟩
  · exact h j (by omega)

set_option maxHeartbeats 400000 in
theorem own_any (x : ByteArray) (w : World) (hx : x.size ≤ maxLen) :
    Calls Trym.prog 17 #[.string x] w fun e w' => RetIf (Own x.data.toList) e ∧ w' = w := by
  unfold maxLen at hx
  by_cases h0 : x.size = 0
  · have hb : ((x.size : Int) == 0) = true := beq_iff_eq.2 (by omega)
    have H0 : Hid (x.size = 0) := h0
    clear h0
    go_enter Trym.func17, Trym.ntmps17
    go_wp2
    go_ret
    exact ⟨⟨_, rfl, fun h => by cases h⟩, rfl⟩
  have hb : ((x.size : Int) == 0) = false := beq_eq_false_iff_ne.2 (by omega)
  go_enter Trym.func17, Trym.ntmps17
  go_wp2
  go_loop [3] (fun i => ∃ k : Nat, k ≤ x.size ∧ i = .int .i64 k ∧ Digs x k) (fun i => x.size - (intOf i).toNat)
  case atStart => exact ⟨0, Nat.zero_le _, rfl, fun j hj => by omega⟩
  case round =>
    obtain ⟨k, hk, rfl, hd⟩ := hrel
    have HD : Hid (Digs x k) := hd
    clear hd
    by_cases hlt : k < x.size
    · by_cases h1 : (x[k].toNat : Int) < 48
      · go_wp2
        go_ret
        exact ⟨⟨_, rfl, fun h => by cases h⟩, rfl⟩
      · by_cases h2 : 57 < (x[k].toNat : Int)
        · go_wp2
          go_ret
          exact ⟨⟨_, rfl, fun h => by cases h⟩, rfl⟩
        · go_wp2
          go_round
          case rel => exact ⟨k + 1, by omega, by go_num, digs_succ HD.out hlt (by omega) (by omega)⟩
          case measure => simp [intOf]; omega
    · have hl := len_data x
      have HDD : Hid (Digs x x.size) := fun j hj => HD.out j (by omega)
      by_cases h1 : x.size = 1
      · have hb1 : ((x.size : Int) == 1) = true := beq_iff_eq.2 (by omega)
        have H1 : Hid (x.size = 1) := h1
        have HL : Hid (x.data.toList.length = x.size) := hl
        clear h1 hl
        go_wp2
        go_ret
        exact ⟨⟨_, rfl, fun _ => ⟨by rw [HL.out, H1.out]; omega, by rw [HL.out]; exact HDD.out, .inl (by rw [HL.out, H1.out])⟩⟩, rfl⟩
      · have hb1 : ((x.size : Int) == 1) = false := beq_eq_false_iff_ne.2 (by omega)
        have HL : Hid (x.data.toList.length = x.size) := hl
        clear h1 hl
        have hp : 0 < x.size := by omega
        cases hz : ((x[0].toNat : Int) == 48) with
        | true =>
          have HZ : Hid (((x[0].toNat : Int) == 48) = true) := hz
          go_wp2
          go_ret
          exact ⟨⟨_, rfl, fun h => by simp [eq_of_beq HZ.out] at h⟩, rfl⟩
        | false =>
          have HZ : Hid (((x[0].toNat : Int) == 48) = false) := hz
          go_wp2
          go_ret
          exact ⟨⟨_, rfl, fun _ => ⟨by rw [HL.out]; exact hp, by rw [HL.out]; exact HDD.out, .inr (by rw [at_data x 0 hp]; simpa using HZ.out)⟩⟩, rfl⟩

theorem drB_in (x : ByteArray) (i : Nat) (h : i < x.size) : drB x i = (((x[x.size - 1 - i]'(by omega)).toNat : Int) - 48) := by
  unfold drB dr
  rw [len_data, if_pos h, at_data x (x.size - 1 - i) (by omega)]
theorem drB_out (x : ByteArray) (i : Nat) (h : ¬ i < x.size) : drB x i = 0 := by
  unfold drB dr
  rw [len_data, if_neg h]
/-- A borrow as a number. -/
def bn (b : Bool) : Int := if b then 1 else 0
theorem bn_step (dx dy : Nat → Int) (i : Nat) : bn (borrow dx dy (i + 1)) = if dx i - dy i - bn (borrow dx dy i) < 0 then 1 else 0 := by
  rw [borrow]
  unfold bn
  by_cases h1 : dx i < dy i
  · rw [if_pos h1, if_pos rfl, if_pos (by split <;> omega)]
  · rw [if_neg h1]
    by_cases h2 : dy i < dx i
    · rw [if_pos h2, if_neg Bool.false_ne_true, if_neg (by split <;> omega)]
    · rw [if_neg h2]
      cases borrow dx dy i
      · rw [if_neg Bool.false_ne_true, if_neg (by omega)]
      · rw [if_pos rfl, if_pos (by omega)]
theorem bn_bd (b : Bool) : 0 ≤ bn b ∧ bn b ≤ 1 := by cases b <;> simp [bn]
theorem bn_one (b : Bool) : (bn b == 1) = b := by cases b <;> rfl

set_option maxHeartbeats 1000000 in
theorem decX (x y : ByteArray) (w : World) (hx : x.size ≤ maxLen) (hy : y.size ≤ maxLen) (ox : Digs x x.size) (oy : Digs y y.size) (h : ¬ x.size < y.size) :
    Calls Trym.prog 18 #[.string x, .string y] w fun e w' => e = .returned (.bool (borrow (drB x) (drB y) x.size)) ∧ w' = w := by
  unfold maxLen at hx hy
  have OX : Hid (Digs x x.size) := ox
  have OY : Hid (Digs y y.size) := oy
  clear ox oy
  go_enter Trym.func18, Trym.ntmps18
  go_wp2
  go_loop [6, 7, 8, 9] (fun bv i _ _ => ∃ k : Nat, ∃ z : Int, k ≤ x.size ∧ i = .int .i64 k ∧ bv = .int .i64 z ∧ z = bn (borrow (drB x) (drB y) k)) (fun _ i _ _ => x.size - (intOf i).toNat)
  case atStart => exact ⟨0, 0, Nat.zero_le _, rfl, rfl, rfl⟩
  case round =>
    obtain ⟨k, z, hk, rfl, rfl, hz⟩ := hrel
    have hzb := bn_bd (borrow (drB x) (drB y) k)
    rw [← hz] at hzb
    obtain ⟨hz0, hz1⟩ := hzb
    have HZ : Hid (z = bn (borrow (drB x) (drB y) k)) := hz
    clear hz
    by_cases hlt : k < x.size
    · have HS := (show Hid _ from bn_step (drB x) (drB y) k)
      by_cases h1 : k < x.size
      · obtain ⟨b1, b2⟩ := OX.out (x.size - 1 - k) (by omega)
        rw [at_data x (x.size - 1 - k) (by omega)] at b1 b2
        have DX : Hid (drB x k = (((x[x.size - 1 - k]'(by omega)).toNat : Int) - 48)) := drB_in x k h1
        by_cases h2 : k < y.size
        · obtain ⟨c1, c2⟩ := OY.out (y.size - 1 - k) (by omega)
          rw [at_data y (y.size - 1 - k) (by omega)] at c1 c2
          have DY : Hid (drB y k = (((y[y.size - 1 - k]'(by omega)).toNat : Int) - 48)) := drB_in y k h2
          go_wp2
          all_goals
            go_round
            case rel => exact ⟨k + 1, _, by omega, by go_num, rfl, by rw [HS.out, DX.out, DY.out, ← HZ.out]; first | rw [if_pos (by omega)] | rw [if_neg (by omega)]⟩
            case measure => simp [intOf]; omega
        · have DY : Hid (drB y k = 0) := drB_out y k h2
          go_wp2
          all_goals
            go_round
            case rel => exact ⟨k + 1, _, by omega, by go_num, rfl, by rw [HS.out, DX.out, DY.out, ← HZ.out]; first | rw [if_pos (by omega)] | rw [if_neg (by omega)]⟩
            case measure => simp [intOf]; omega
      · first
          | (exfalso; omega)
          | (obtain ⟨c1, c2⟩ := OY.out (y.size - 1 - k) (by omega)
             rw [at_data y (y.size - 1 - k) (by omega)] at c1 c2
             have h2 : k < y.size := by omega
             have DY : Hid (drB y k = (((y[y.size - 1 - k]'(by omega)).toNat : Int) - 48)) := drB_in y k h2
             have DX : Hid (drB x k = 0) := drB_out x k h1
             go_wp2
             all_goals
               go_round
               case rel => exact ⟨k + 1, _, by omega, by go_num, rfl, by rw [HS.out, DX.out, DY.out, ← HZ.out]; first | rw [if_pos (by omega)] | rw [if_neg (by omega)]⟩
               case measure => simp [intOf]; omega)
    · go_wp2
      go_ret
      exact ⟨ret_bool (by rw [HZ.out, show k = x.size from by omega]; exact bn_one _), rfl⟩

set_option maxHeartbeats 1000000 in
theorem decY (x y : ByteArray) (w : World) (hx : x.size ≤ maxLen) (hy : y.size ≤ maxLen) (ox : Digs x x.size) (oy : Digs y y.size) (h : x.size < y.size) :
    Calls Trym.prog 18 #[.string x, .string y] w fun e w' => e = .returned (.bool (borrow (drB x) (drB y) y.size)) ∧ w' = w := by
  unfold maxLen at hx hy
  have OX : Hid (Digs x x.size) := ox
  have OY : Hid (Digs y y.size) := oy
  clear ox oy
  go_enter Trym.func18, Trym.ntmps18
  go_wp2
  go_loop [6, 7, 8, 9] (fun bv i _ _ => ∃ k : Nat, ∃ z : Int, k ≤ y.size ∧ i = .int .i64 k ∧ bv = .int .i64 z ∧ z = bn (borrow (drB x) (drB y) k)) (fun _ i _ _ => y.size - (intOf i).toNat)
  case atStart => exact ⟨0, 0, Nat.zero_le _, rfl, rfl, rfl⟩
  case round =>
    obtain ⟨k, z, hk, rfl, rfl, hz⟩ := hrel
    have hzb := bn_bd (borrow (drB x) (drB y) k)
    rw [← hz] at hzb
    obtain ⟨hz0, hz1⟩ := hzb
    have HZ : Hid (z = bn (borrow (drB x) (drB y) k)) := hz
    clear hz
    by_cases hlt : k < y.size
    · have HS := (show Hid _ from bn_step (drB x) (drB y) k)
      by_cases h1 : k < x.size
      · obtain ⟨b1, b2⟩ := OX.out (x.size - 1 - k) (by omega)
        rw [at_data x (x.size - 1 - k) (by omega)] at b1 b2
        have DX : Hid (drB x k = (((x[x.size - 1 - k]'(by omega)).toNat : Int) - 48)) := drB_in x k h1
        by_cases h2 : k < y.size
        · obtain ⟨c1, c2⟩ := OY.out (y.size - 1 - k) (by omega)
          rw [at_data y (y.size - 1 - k) (by omega)] at c1 c2
          have DY : Hid (drB y k = (((y[y.size - 1 - k]'(by omega)).toNat : Int) - 48)) := drB_in y k h2
          go_wp2
          all_goals
            go_round
            case rel => exact ⟨k + 1, _, by omega, by go_num, rfl, by rw [HS.out, DX.out, DY.out, ← HZ.out]; first | rw [if_pos (by omega)] | rw [if_neg (by omega)]⟩
            case measure => simp [intOf]; omega
        · have DY : Hid (drB y k = 0) := drB_out y k h2
          go_wp2
          all_goals
            go_round
            case rel => exact ⟨k + 1, _, by omega, by go_num, rfl, by rw [HS.out, DX.out, DY.out, ← HZ.out]; first | rw [if_pos (by omega)] | rw [if_neg (by omega)]⟩
            case measure => simp [intOf]; omega
      · first
          | (exfalso; omega)
          | (obtain ⟨c1, c2⟩ := OY.out (y.size - 1 - k) (by omega)
             rw [at_data y (y.size - 1 - k) (by omega)] at c1 c2
             have h2 : k < y.size := by omega
             have DY : Hid (drB y k = (((y[y.size - 1 - k]'(by omega)).toNat : Int) - 48)) := drB_in y k h2
             have DX : Hid (drB x k = 0) := drB_out x k h1
             go_wp2
             all_goals
               go_round
               case rel => exact ⟨k + 1, _, by omega, by go_num, rfl, by rw [HS.out, DX.out, DY.out, ← HZ.out]; first | rw [if_pos (by omega)] | rw [if_neg (by omega)]⟩
               case measure => simp [intOf]; omega)
    · go_wp2
      go_ret
      exact ⟨ret_bool (by rw [HZ.out, show k = y.size from by omega]; exact bn_one _), rfl⟩

end Go.Proofs.Qxb6601213aMods.Brn
