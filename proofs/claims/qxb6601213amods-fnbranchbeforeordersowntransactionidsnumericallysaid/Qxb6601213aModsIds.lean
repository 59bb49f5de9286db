/-
  The walk of 'FnBranchBeforeOrdersOwnTransactionIdsNumerically'.
-/
import Derived.Test.Qxb6601213aModsIdsWalks
namespace Go.Proofs.Qxb6601213aMods.Brn
open Go.RowKit
set_option linter.unusedVariables false

set_option maxHeartbeats 400000 in
theorem zzBytes16_any (r p x y s : ByteArray) (w : World) (hr : r.size ≤ maxLen) (hp : p.size ≤ maxLen) (hx : x.size ≤ maxLen) (hy : y.size ≤ maxLen) (hs : s.size ≤ maxLen) :
    Calls Trym.prog 16 #[.string r, .string p, .string x, .string y, .string s] w fun e w' => RetBool e ∧ w' = w := by
  unfold maxLen at hr hp hx hy hs
  go_enter Trym.func16, Trym.ntmps16
  go_wp2
  all_goals
    go_ret
    exact ⟨⟨_, rfl⟩, rfl⟩

set_option maxHeartbeats 1000000 in
theorem ids_off (r p x y s : ByteArray) (w : World) (hr : r.size ≤ maxLen) (hp : p.size ≤ maxLen) (hx : x.size ≤ maxLen) (hy : y.size ≤ maxLen) (hs : s.size ≤ maxLen)
    (h : ¬ (r.size ≤ 65536 ∧ p.size ≤ 65536 ∧ x.size ≤ 65536 ∧ y.size ≤ 65536 ∧ s.size ≤ 65536)) :
    Calls Trym.prog 5 #[.string r, .string p, .string x, .string y, .string s] w fun e w' => e = .returned (.bool true) ∧ w' = w := by
  by_cases kr : (65536 : Int) < (r.size : Int)
  · clear h
    have dr : decide ((65536 : Int) < (r.size : Int)) = true := decide_eq_true kr
    go_enter Trym.func5, Trym.ntmps5
    go_wp2_with fail
    refine (zzBytes16_any _ _ _ _ _ _ hr hp hx hy hs).mono ?_
    rintro e w' ⟨⟨q, rfl⟩, rfl⟩
    cases q <;> (go_wp2_with fail; go_ret; exact ⟨rfl, rfl⟩)
  by_cases kp : (65536 : Int) < (p.size : Int)
  · clear h
    have dr : decide ((65536 : Int) < (r.size : Int)) = false := decide_eq_false kr
    have dp : decide ((65536 : Int) < (p.size : Int)) = true := decide_eq_true kp
    go_enter Trym.func5, Trym.ntmps5
    go_wp2_with fail
    refine (zzBytes16_any _ _ _ _ _ _ hr hp hx hy hs).mono ?_
    rintro e w' ⟨⟨q, rfl⟩, rfl⟩
    cases q <;> (go_wp2_with fail; go_ret; exact ⟨rfl, rfl⟩)
  by_cases kx : (65536 : Int) < (x.size : Int)
  · clear h
    have dr : decide ((65536 : Int) < (r.size : Int)) = false := decide_eq_false kr
    have dp : decide ((65536 : Int) < (p.size : Int)) = false := decide_eq_false kp
    have dx : decide ((65536 : Int) < (x.size : Int)) = true := decide_eq_true kx
    go_enter Trym.func5, Trym.ntmps5
    go_wp2_with fail
    refine (zzBytes16_any _ _ _ _ _ _ hr hp hx hy hs).mono ?_
    rintro e w' ⟨⟨q, rfl⟩, rfl⟩
    cases q <;> (go_wp2_with fail; go_ret; exact ⟨rfl, rfl⟩)
  by_cases ky : (65536 : Int) < (y.size : Int)
  · clear h
    have dr : decide ((65536 : Int) < (r.size : Int)) = false := decide_eq_false kr
    have dp : decide ((65536 : Int) < (p.size : Int)) = false := decide_eq_false kp
    have dx : decide ((65536 : Int) < (x.size : Int)) = false := decide_eq_false kx
    have dy : decide ((65536 : Int) < (y.size : Int)) = true := decide_eq_true ky
    go_enter Trym.func5, Trym.ntmps5
    go_wp2_with fail
    refine (zzBytes16_any _ _ _ _ _ _ hr hp hx hy hs).mono ?_
    rintro e w' ⟨⟨q, rfl⟩, rfl⟩
    cases q <;> (go_wp2_with fail; go_ret; exact ⟨rfl, rfl⟩)
  by_cases ks : (65536 : Int) < (s.size : Int)
  · clear h
    have dr : decide ((65536 : Int) < (r.size : Int)) = false := decide_eq_false kr
    have dp : decide ((65536 : Int) < (p.size : Int)) = false := decide_eq_false kp
    have dx : decide ((65536 : Int) < (x.size : Int)) = false := decide_eq_false kx
    have dy : decide ((65536 : Int) < (y.size : Int)) = false := decide_eq_false ky
    have ds : decide ((65536 : Int) < (s.size : Int)) = true := decide_eq_true ks
    go_enter Trym.func5, Trym.ntmps5
    go_wp2_with fail
    refine (zzBytes16_any _ _ _ _ _ _ hr hp hx hy hs).mono ?_
    rintro e w' ⟨⟨q, rfl⟩, rfl⟩
    cases q <;> (go_wp2_with fail; go_ret; exact ⟨rfl, rfl⟩)
  exact absurd ⟨by omega, by omega, by omega, by omega, by omega⟩ h

theorem dec_any (x y : ByteArray) (w : World) (hx : x.size ≤ maxLen) (hy : y.size ≤ maxLen) (ox : Own x.data.toList) (oy : Own y.data.toList) (B : Bool) (hB : B = borrow (drB x) (drB y) (max x.size y.size)) :
    Calls Trym.prog 18 #[.string x, .string y] w fun e w' => e = .returned (.bool B) ∧ w' = w := by
  have dx : Digs x x.size := by have := ox.2.1; rw [len_data] at this; exact this
  have dy : Digs y y.size := by have := oy.2.1; rw [len_data] at this; exact this
  by_cases h : x.size < y.size
  · rw [hB, show max x.size y.size = y.size from by omega]
    exact decY x y w hx hy dx dy h
  · rw [hB, show max x.size y.size = x.size from by omega]
    exact decX x y w hx hy dx dy h

set_option maxHeartbeats 1000000 in
theorem ids_main (r p x y s : ByteArray) (w : World) (hr : r.size ≤ 65536) (hp : p.size ≤ 65536) (hx : x.size ≤ 65536) (hy : y.size ≤ 65536) (hs : s.size ≤ 65536) :
    Calls Trym.prog 5 #[.string r, .string p, .string x, .string y, .string s] w fun e w' => e = .returned (.bool true) ∧ w' = w := by
  have mr : r.size ≤ maxLen := by unfold maxLen; omega
  have mp : p.size ≤ maxLen := by unfold maxLen; omega
  have mx : x.size ≤ maxLen := by unfold maxLen; omega
  have my : y.size ≤ maxLen := by unfold maxLen; omega
  have ms : s.size ≤ maxLen := by unfold maxLen; omega
  have dr : decide ((65536 : Int) < (r.size : Int)) = false := decide_eq_false (by omega)
  have dp : decide ((65536 : Int) < (p.size : Int)) = false := decide_eq_false (by omega)
  have dx : decide ((65536 : Int) < (x.size : Int)) = false := decide_eq_false (by omega)
  have dy : decide ((65536 : Int) < (y.size : Int)) = false := decide_eq_false (by omega)
  have ds : decide ((65536 : Int) < (s.size : Int)) = false := decide_eq_false (by omega)
  have mA : (p ++ x ++ s).size ≤ maxLen := by rw [ByteArray.size_append, ByteArray.size_append]; unfold maxLen; omega
  have mB : (p ++ y ++ s).size ≤ maxLen := by rw [ByteArray.size_append, ByteArray.size_append]; unfold maxLen; omega
  go_enter Trym.func5, Trym.ntmps5
  go_wp2_with fail
  refine (zzBytes16_any _ _ _ _ _ _ mr mp mx my ms).mono ?_
  rintro e w' ⟨⟨q, rfl⟩, rfl⟩
  cases q with
  | false =>
    go_wp2_with fail
    go_ret
    exact ⟨rfl, rfl⟩
  | true =>
  go_wp2_with fail
  refine (own_any _ _ mx).mono ?_
  rintro e w' ⟨⟨q, rfl, ox⟩, rfl⟩
  cases q with
  | false =>
    clear ox
    go_wp2_with fail
    go_ret
    exact ⟨rfl, rfl⟩
  | true =>
  have OX : Hid (Own x.data.toList) := ox rfl
  clear ox
  go_wp2_with fail
  refine (own_any _ _ my).mono ?_
  rintro e w' ⟨⟨q, rfl, oy⟩, rfl⟩
  cases q with
  | false =>
    clear oy
    go_wp2_with fail
    go_ret
    exact ⟨rfl, rfl⟩
  | true =>
  have OY : Hid (Own y.data.toList) := oy rfl
  clear oy
  obtain ⟨B, hB⟩ : ∃ B, B = borrow (drB x) (drB y) (max x.size y.size) := ⟨_, rfl⟩
  have HB : Hid (B = borrow (drB x) (drB y) (max x.size y.size)) := hB
  clear hB
  go_wp2_with fail
  refine (zzBranch_any _ _ _ _ _ mA mB).mono ?_
  rintro e w' ⟨rfl, rfl⟩
  rw [ids r p x y s OX.out OY.out _ rfl, ← HB.out]
  go_wp2_with fail
  refine (dec_any _ _ _ mx my OX.out OY.out B HB.out).mono ?_
  rintro e w' ⟨rfl, rfl⟩
  cases B <;> (go_wp2_with fail; go_ret; exact ⟨rfl, rfl⟩)

theorem ids_any (r p x y s : ByteArray) (w : World) (hr : r.size ≤ maxLen) (hp : p.size ≤ maxLen) (hx : x.size ≤ maxLen) (hy : y.size ≤ maxLen) (hs : s.size ≤ maxLen) :
    Calls Trym.prog 5 #[.string r, .string p, .string x, .string y, .string s] w fun e w' => e = .returned (.bool true) ∧ w' = w := by
  by_cases h : r.size ≤ 65536 ∧ p.size ≤ 65536 ∧ x.size ≤ 65536 ∧ y.size ≤ 65536 ∧ s.size ≤ 65536
  · obtain ⟨kr, kp, kx, ky, ks⟩ := h
    exact ids_main r p x y s w kr kp kx ky ks
  · exact ids_off r p x y s w hr hp hx hy hs h
end Go.Proofs.Qxb6601213aMods.Brn
