/-
  The walks behind 'FnIsPrintableASCIIMatchesTable'.
-/
import Derived.Test.Qxb6600872aModsBytes
namespace Go.Proofs.Qxb6600872aMods.Prn
open Go.RowKit Byt

/-- Is this number a printable ASCII code? -/
def prB (c : Int) : Bool := decide (32 ≤ c ∧ c ≤ 126)

theorem tbl_fin : ∀ k : Fin 95, ((ByteArray.mk #[32, 33, 34, 35, 36, 37, 38, 39, 40, 41, 42, 43, 44, 45, 46, 47, 48, 49, 50, 51, 52, 53, 54, 55, 56, 57, 58, 59, 60, 61, 62, 63, 64, 65, 66, 67, 68, 69, 70, 71, 72, 73, 74, 75, 76, 77, 78, 79, 80, 81, 82, 83, 84, 85, 86, 87, 88, 89, 90, 91, 92, 93, 94, 95, 96, 97, 98, 99, 100, 101, 102, 103, 104, 105, 106, 107, 108, 109, 110, 111, 112, 113, 114, 115, 116, 117, 118, 119, 120, 121, 122, 123, 124, 125, 126]).get! k.val).toNat = 32 + k.val := by decide +kernel
theorem tbl (k : Nat) (h : k < 95) (h' : k < (ByteArray.mk #[32, 33, 34, 35, 36, 37, 38, 39, 40, 41, 42, 43, 44, 45, 46, 47, 48, 49, 50, 51, 52, 53, 54, 55, 56, 57, 58, 59, 60, 61, 62, 63, 64, 65, 66, 67, 68, 69, 70, 71, 72, 73, 74, 75, 76, 77, 78, 79, 80, 81, 82, 83, 84, 85, 86, 87, 88, 89, 90, 91, 92, 93, 94, 95, 96, 97, 98, 99, 100, 101, 102, 103, 104, 105, 106, 107, 108, 109, 110, 111, 112, 113, 114, 115, 116, 117, 118, 119, 120, 121, 122, 123, 124, 125, 126]).size) : (((ByteArray.mk #[32, 33, 34, 35, 36, 37, 38, 39, 40, 41, 42, 43, 44, 45, 46, 47, 48, 49, 50, 51, 52, 53, 54, 55, 56, 57, 58, 59, 60, 61, 62, 63, 64, 65, 66, 67, 68, 69, 70, 71, 72, 73, 74, 75, 76, 77, 78, 79, 80, 81, 82, 83, 84, 85, 86, 87, 88, 89, 90, 91, 92, 93, 94, 95, 96, 97, 98, 99, 100, 101, 102, 103, 104, 105, 106, 107, 108, 109, 110, 111, 112, 113, 114, 115, 116, 117, 118, 119, 120, 121, 122, 123, 124, 125, 126])[k]'h').toNat : Int) = 32 + (k : Int) := by
  have e := tbl_fin ⟨k, h⟩
  have e2 : (ByteArray.mk #[32, 33, 34, 35, 36, 37, 38, 39, 40, 41, 42, 43, 44, 45, 46, 47, 48, 49, 50, 51, 52, 53, 54, 55, 56, 57, 58, 59, 60, 61, 62, 63, 64, 65, 66, 67, 68, 69, 70, 71, 72, 73, 74, 75, 76, 77, 78, 79, 80, 81, 82, 83, 84, 85, 86, 87, 88, 89, 90, 91, 92, 93, 94, 95, 96, 97, 98, 99, 100, 101, 102, 103, 104, 105, 106, 107, 108, 109, 110, 111, 112, 113, 114, 115, 116, 117, 118, 119, 120, 121, 122, 123, 124, 125, 126]).get! k = (ByteArray.mk #[32, 33, 34, 35, 36, 37, 38, 39, 40, 41, 42, 43, 44, 45, 46, 47, 48, 49, 50, 51, 52, 53, 54, 55, 56, 57, 58, 59, 60, 61, 62, 63, 64, 65, 66, 67, 68, 69, 70, 71, 72, 73, 74, 75, 76, 77, 78, 79, 80, 81, 82, 83, 84, 85, 86, 87, 88, 89, 90, 91, 92, 93, 94, 95, 96, 97, 98, 99, 100, 101, 102, 103, 104, 105, 106, 107, 108, 109, 110, 111, 112, 113, 114, 115, 116, 117, 118, 119, 120, 121, 122, 123, 124, 125, 126])[k]'h' := by
    show (#[32, 33, 34, 35, 36, 37, 38, 39, 40, 41, 42, 43, 44, 45, 46, 47, 48, 49, 50, 51, 52, 53, 54, 55, 56, 57, 58, 59, 60, 61, 62, 63, 64, 65, 66, 67, 68, 69, 70, 71, 72, 73, 74, 75, 76, 77, 78, 79, 80, 81, 82, 83, 84, 85, 86, 87, 88, 89, 90, 91, 92, 93, 94, 95, 96, 97, 98, 99, 100, 101, 102, 103, 104, 105, 106, 107, 108, 109, 110, 111, 112, 113, 114, 115, 116, 117, 118, 119, 120, 121, 122, 123, 124, 125, 126] : Array UInt8)[k]! = (#[32, 33, 34, 35, 36, 37, 38, 39, 40, 41, 42, 43, 44, 45, 46, 47, 48, 49, 50, 51, 52, 53, 54, 55, 56, 57, 58, 59, 60, 61, 62, 63, 64, 65, 66, 67, 68, 69, 70, 71, 72, 73, 74, 75, 76, 77, 78, 79, 80, 81, 82, 83, 84, 85, 86, 87, 88, 89, 90, 91, 92, 93, 94, 95, 96, 97, 98, 99, 100, 101, 102, 103, 104, 105, 106, 107, 108, 109, 110, 111, 112, 113, 114, 115, 116, 117, 118, 119, 120, 121, 122, 123, 124, 125, 126] : Array UInt8)[k]
    exact getElem!_pos _ _ _
  simp only at e
  rw [e2] at e
  omega
theorem prB_yes {c : Int} {k : Nat} (h : k < 95) (e : (32 + (k : Int) == c) = true) : prB c = true := by
  have := eq_of_beq e
  unfold prB; apply decide_eq_true; omega
theorem prB_no {c : Int} {k : Nat} (h : ¬ k < 95) (hk : k ≤ 95) (hn : ∀ j : Nat, j < k → (32 + (j : Int) == c) = false) : prB c = false := by
  unfold prB; apply decide_eq_false
  intro hc
  have := hn (c - 32).toNat (by omega)
  rw [show (32 + ((c - 32).toNat : Int)) = c from by omega] at this
  simp at this

set_option maxHeartbeats 400000 in
theorem inPrintable_any (c : Int) (w : World) :
    Calls Trym.prog 8 #[.int .u8 c] w fun e w' => e = .returned (.bool (prB c)) ∧ w' = w := by
  go_enter Trym.func8, Trym.ntmps8
  go_wp2
  go_loop [3] (fun i => ∃ k : Nat, k ≤ 95 ∧ i = .int .i64 k ∧ ∀ j : Nat, j < k → (32 + (j : Int) == c) = false) (fun i => 95 - (intOf i).toNat)
  case atStart => exact ⟨0, Nat.zero_le _, rfl, fun j hj => by omega⟩
  case round =>
    obtain ⟨k, hk, rfl, hne⟩ := hrel
    have HN : Hid (∀ j : Nat, j < k → (32 + (j : Int) == c) = false) := hne
    clear hne
    by_cases hlt : k < 95
    · have ht := tbl k hlt (by exact hlt)
      cases he : (32 + (k : Int) == c) with
      | true =>
        have HE : Hid ((32 + (k : Int) == c) = true) := he
        go_wp2
        go_ret
        exact ⟨ret_bool (prB_yes hlt HE.out).symm, rfl⟩
      | false =>
        have HE : Hid ((32 + (k : Int) == c) = false) := he
        go_wp2
        go_round
        case rel =>
          refine ⟨k + 1, by omega, by go_num, fun j hj => ?_⟩
          by_cases e : j = k
          · subst e; exact HE.out
          · exact HN.out j (by omega)
        case measure => simp [intOf]; omega
    · go_wp2
      go_ret
      exact ⟨ret_bool (prB_no hlt hk HN.out).symm, rfl⟩

/-- The call has returned the bool that says whether P. -/
def RetIff (P : Prop) (e : Ending) : Prop := ∃ r : Bool, e = .returned (.bool r) ∧ (r = true ↔ P)
/-- The first n bytes are all printable. -/
def AllPr (f : Nat → Int) (n : Nat) : Prop := ∀ j, j < n → prB (f j) = true
theorem allPr_succ {f : Nat → Int} {k : Nat} (h : AllPr f k) (e : prB (f k) = true) : AllPr f (k + 1) := by
  intro j hj
  by_cases hjk : j = k
  · subst hjk; exact e
  · exact h j (by omega)

set_option maxHeartbeats 400000 in
theorem isPrintable_any (a : Option Addr) (n c : Nat) (f : Nat → Int) (w : World) (hn : n ≤ maxLen) (hr : RowB w a f n) :
    Calls Trym.prog 14 #[.slice a n c] w fun e w' => RetIff (AllPr f n) e ∧ w' = w := by
  unfold maxLen at hn
  have HR : Hid (RowB w a f n) := hr
  clear hr
  go_enter Trym.func14, Trym.ntmps14
  go_wp2
  go_loop [4, 7] (fun _ i => ∃ k : Nat, k ≤ n ∧ i = .int .i64 k ∧ AllPr f k) (fun _ i => n - (intOf i).toNat)
  case atStart => exact ⟨0, Nat.zero_le _, rfl, fun j hj => by omega⟩
  case round =>
    obtain ⟨k, hk, rfl, hne⟩ := hrel
    have HN : Hid (AllPr f k) := hne
    clear hne
    by_cases hlt : k < n
    · obtain ⟨b, off, rfl, hcell⟩ := HR.out k hlt
      obtain ⟨y, hy⟩ : ∃ y, y = f k := ⟨_, rfl⟩
      rw [← hy] at hcell
      have HY : Hid (y = f k) := hy
      clear hy
      by_cases h1 : y < 32
      · go_wp2
        go_ret
        exact ⟨⟨_, rfl, ⟨fun h => Bool.noConfusion h, fun h => by have := h k hlt; rw [← HY.out] at this; simp [prB] at this; omega⟩⟩, rfl⟩
      · by_cases h2 : 126 < y
        · go_wp2
          go_ret
          exact ⟨⟨_, rfl, ⟨fun h => Bool.noConfusion h, fun h => by have := h k hlt; rw [← HY.out] at this; simp [prB] at this; omega⟩⟩, rfl⟩
        · go_wp2
          go_round
          case rel => exact ⟨k + 1, by omega, by go_num, allPr_succ HN.out (by rw [← HY.out]; unfold prB; apply decide_eq_true; omega)⟩
          case measure => simp [intOf]; omega
    · go_wp2
      go_ret
      exact ⟨⟨_, rfl, ⟨fun _ j hj => HN.out j (by omega), fun _ => rfl⟩⟩, rfl⟩

set_option maxHeartbeats 400000 in
theorem zzIs_any (a : Option Addr) (n c : Nat) (f : Nat → Int) (w : World) (hn : n ≤ maxLen) (hr : RowB w a f n) :
    Calls Trym.prog 9 #[.slice a n c] w fun e w' => RetIff (AllPr f n) e ∧ w' = w := by
  go_enter Trym.func9, Trym.ntmps9
  go_wp2_with fail
  refine (isPrintable_any _ _ _ f _ hn hr).mono ?_
  rintro e w' ⟨⟨r, rfl, h⟩, rfl⟩
  have HR : Hid (r = true ↔ AllPr f n) := h
  clear h
  go_wp2_with fail
  go_ret
  exact ⟨⟨_, rfl, HR.out⟩, rfl⟩

set_option maxHeartbeats 1000000 in
theorem law_any (a : Option Addr) (n c : Nat) (f : Nat → Int) (w : World) (hn : n ≤ maxLen) (ha : a = none → n = 0 ∧ c = 0) (hr : RowB w a f n) :
    Calls Trym.prog 3 #[.slice a n c] w fun e w' => e = .returned (.bool true) ∧ Below w.heap.size w w' := by
  unfold maxLen at hn
  by_cases hbig : (1048576 : Int) < (n : Int)
  · go_enter Trym.func3, Trym.ntmps3
    go_wp2
    go_ret
    exact ⟨rfl, Below.refl _ _⟩
  have hx : n ≤ maxLen := by unfold maxLen; omega
  have HR : Hid (RowB w a f n) := hr
  have HA : Hid (a = none → n = 0 ∧ c = 0) := ha
  clear hr ha
  go_enter Trym.func3, Trym.ntmps3
  go_wp2_with (first | (go_at_call 6; go_in))
  refine (clone_any _ _ _ f _ (by omega) HA.out HR.out).mono ?_
  rintro e w1 ⟨x, d, rfl, hd, hm, r1, b1⟩
  have R1 : Hid (RowB w1 x f n) := r1
  have B1 : Hid (Below w.heap.size w w1) := b1
  clear r1 b1 HR HA
  unfold maxLen at hm
  go_wp2_with fail
  go_loop [3, 4] (fun bv i => ∃ k : Nat, ∃ b : Bool, k ≤ n ∧ i = .int .i64 k ∧ bv = .bool b ∧ (b = true ↔ AllPr f k)) (fun _ i => n - (intOf i).toNat)
  case atStart => exact ⟨0, true, Nat.zero_le _, rfl, rfl, ⟨fun _ j hj => by omega, fun _ => rfl⟩⟩
  case round =>
    obtain ⟨k, b, hk, rfl, rfl, hb⟩ := hrel
    have HB : Hid (b = true ↔ AllPr f k) := hb
    clear hb
    by_cases hlt : k < n
    · obtain ⟨bl, off, rfl, hcell⟩ := R1.out k hlt
      obtain ⟨y, hy⟩ : ∃ y, y = f k := ⟨_, rfl⟩
      rw [← hy] at hcell
      have HY : Hid (y = f k) := hy
      clear hy
      cases hp : prB y with
      | true =>
        go_wp2_with fail
        refine (inPrintable_any _ _).mono ?_
        rintro e w' ⟨rfl, rfl⟩
        rw [hp]
        go_wp2_with fail
        go_round
        case rel => exact ⟨k + 1, b, by omega, by go_num, rfl, ⟨fun h => allPr_succ (HB.out.1 h) (by rw [← HY.out]; exact hp), fun h => HB.out.2 (fun j hj => h j (by omega))⟩⟩
        case measure => simp [intOf]; omega
      | false =>
        go_wp2_with fail
        refine (inPrintable_any _ _).mono ?_
        rintro e w' ⟨rfl, rfl⟩
        rw [hp]
        go_wp2_with fail
        go_round
        case rel => exact ⟨k + 1, false, by omega, by go_num, rfl, ⟨fun h => Bool.noConfusion h, fun h => by have := h k (by omega); rw [← HY.out, hp] at this; exact this⟩⟩
        case measure => simp [intOf]; omega
    · go_wp2_with fail
      refine (zzIs_any _ _ _ f _ hx R1.out).mono ?_
      rintro e w' ⟨⟨r, rfl, h⟩, rfl⟩
      have hkn : k = n := by omega
      have hrb : r = b := by
        have h2 := HB.out
        rw [hkn] at h2
        cases r <;> cases b <;> simp_all
      clear hkn h
      subst hrb
      cases r
      · go_wp2_with fail
        go_ret
        exact ⟨rfl, B1.out⟩
      · go_wp2_with fail
        go_ret
        exact ⟨rfl, B1.out⟩
end Go.Proofs.Qxb6600872aMods.Prn
