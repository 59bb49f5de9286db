/-
  The walks behind 'FnRefIsTheWholeListBranchesFirst', first part: the size guards.
-/
import Derived.Test.Qxb6601599aModsRows
import Derived.WalkKit
import Derived.WalkSpells
import Derived.WalkLawsBesides
import Derived.Deep.QuietTactic
import Derived.BigQuiet
import Derived.Lib.SliceRun
namespace Go.Proofs.Qxb6601599aMods.Rfs
open Go.RowKit
set_option linter.unusedVariables false

/-- The slice whose elements begin at 'a' holds n rows of two strings: (f 0, g 0), .. -/
def RowR (w : World) (a : Option Addr) (f g : Nat → ByteArray) (n : Nat) : Prop :=
  ∀ j, j < n → ∃ b off, a = some ⟨b, off, none⟩ ∧ w.cell? ⟨b, off + j * 2, none⟩ = some (.string (f j)) ∧ w.cell? ⟨b, off + j * 2 + 1, none⟩ = some (.string (g j))
/-- The call has returned some int. -/
def RetInt (e : Ending) : Prop := ∃ r : Int, e = .returned (.int .i64 r)
/-- The first n names are short. -/
def Short (f : Nat → ByteArray) (n : Nat) : Prop := ∀ j, j < n → (f j).size ≤ 1048576
theorem short_succ {f : Nat → ByteArray} {k : Nat} (h : Short f k) (e : (f k).size ≤ 1048576) : Short f (k + 1) := by
  intro j hj
  by_cases hjk : j = k
  · subst hjk; exact e
  · exact h j (by omega)
/-- The call has returned a bool, and if it is true the two lengths are small and the names short. -/
def RetSmall (f1 f2 : Nat → ByteArray) (n1 n2 : Nat) (e : Ending) : Prop := ∃ r : Bool, e = .returned (.bool r) ∧ (r = true → n1 ≤ 1048576 ∧ n2 ≤ 1048576 ∧ Short f1 n1 ∧ Short f2 n2)
theorem cell_lt {w : World} {a : Addr} {v : Value} (hc : w.cell? a = some v) : a.block < w.heap.size := by
  unfold World.cell? at hc
  by_cases h : a.block < w.heap.size
  · exact h
  · exfalso
    rw [show w.heap[a.block]? = none from Array.getElem?_eq_none (by omega)] at hc
    simp at hc
theorem RowR.below {w w' : World} {a : Option Addr} {f g : Nat → ByteArray} {n : Nat} (h : RowR w a f g n) (hb : Below w.heap.size w w') : RowR w' a f g n := by
  intro j hj
  obtain ⟨b, off, rfl, hc, hd⟩ := h j hj
  exact ⟨b, off, rfl, (hb.cell (p := ⟨b, off + j * 2, none⟩) (cell_lt hc)).trans hc, (hb.cell (p := ⟨b, off + j * 2 + 1, none⟩) (cell_lt hd)).trans hd⟩

set_option maxHeartbeats 400000 in
theorem addLen_any (x y : Int) (w : World) :
    Calls Trym.prog 10 #[.int .i64 x, .int .i64 y] w fun e w' => RetInt e ∧ w' = w := by
  by_cases h1 : 1048576 < x
  · go_enter Trym.func10, Trym.ntmps10
    go_wp2
    go_ret
    exact ⟨⟨_, rfl⟩, rfl⟩
  · by_cases h2 : 1048576 < y
    · go_enter Trym.func10, Trym.ntmps10
      go_wp2
      go_ret
      exact ⟨⟨_, rfl⟩, rfl⟩
    · go_enter Trym.func10, Trym.ntmps10
      go_wp2
      go_ret
      exact ⟨⟨_, rfl⟩, rfl⟩

set_option maxHeartbeats 400000 in
theorem rowsBytes_any (a : Option Addr) (n c : Nat) (f g : Nat → ByteArray) (w : World) (hn : n ≤ maxLen) (hr : RowR w a f g n) :
    Calls Trym.prog 11 #[.slice a n c] w fun e w' => RetInt e ∧ w' = w := by
  unfold maxLen at hn
  have HR : Hid (RowR w a f g n) := hr
  clear hr
  go_enter Trym.func11, Trym.ntmps11
  go_wp2
  go_loop [3, 4] (fun zv i => ∃ k : Nat, ∃ y : Int, k ≤ n ∧ i = .int .i64 k ∧ zv = .int .i64 y) (fun _ i => n - (intOf i).toNat)
  case atStart => exact ⟨0, 0, Nat.zero_le _, rfl, rfl⟩
  case round =>
    obtain ⟨k, y, hk, rfl, rfl⟩ := hrel
    by_cases hlt : k < n
    · obtain ⟨b, off, rfl, hc1, hc2⟩ := HR.out k hlt
      go_wp2_with fail
      refine (addLen_any _ _ _).mono ?_
      rintro e w' ⟨⟨r1, rfl⟩, rfl⟩
      go_wp2_with fail
      refine (addLen_any _ _ _).mono ?_
      rintro e w' ⟨⟨r2, rfl⟩, rfl⟩
      go_wp2_with fail
      refine (addLen_any _ _ _).mono ?_
      rintro e w' ⟨⟨r3, rfl⟩, rfl⟩
      go_wp2_with fail
      · go_ret
        exact ⟨⟨_, rfl⟩, rfl⟩
      · go_round
        case rel => exact ⟨k + 1, _, by omega, by go_num, rfl⟩
        case measure => simp [intOf]; omega
    · go_wp2
      go_ret
      exact ⟨⟨_, rfl⟩, rfl⟩

set_option maxHeartbeats 1000000 in
theorem zzBytes_any (a1 a2 : Option Addr) (n1 n2 c1 c2 : Nat) (f1 g1 f2 g2 : Nat → ByteArray) (z : Int) (w : World) (hn1 : n1 ≤ maxLen) (hn2 : n2 ≤ maxLen) (hr1 : RowR w a1 f1 g1 n1) (hr2 : RowR w a2 f2 g2 n2) :
    Calls Trym.prog 19 #[.slice a1 n1 c1, .slice a2 n2 c2, .int .i64 z] w fun e w' => RetSmall f1 f2 n1 n2 e ∧ w' = w := by
  unfold maxLen at hn1 hn2
  have HR1 : Hid (RowR w a1 f1 g1 n1) := hr1
  have HR2 : Hid (RowR w a2 f2 g2 n2) := hr2
  clear hr1 hr2
  by_cases h1 : (1048576 : Int) < (n1 : Int)
  · go_enter Trym.func19, Trym.ntmps19
    go_wp2
    go_ret
    exact ⟨⟨_, rfl, fun h => by cases h⟩, rfl⟩
  go_enter Trym.func19, Trym.ntmps19
  go_wp2
  go_loop [7, 8] (fun zv i => ∃ k : Nat, ∃ y : Int, k ≤ n1 ∧ i = .int .i64 k ∧ zv = .int .i64 y ∧ Short f1 k) (fun _ i => n1 - (intOf i).toNat)
  case atStart => exact ⟨0, _, Nat.zero_le _, rfl, rfl, fun j hj => by omega⟩
  case round =>
    obtain ⟨k, y, hk, rfl, rfl, hsh⟩ := hrel
    have HS1 : Hid (Short f1 k) := hsh
    clear hsh
    by_cases hlt : k < n1
    · obtain ⟨b, off, rfl, hc1, hc2⟩ := HR1.out k hlt
      go_wp2
      · go_ret
        exact ⟨⟨_, rfl, fun h => by cases h⟩, rfl⟩
      · go_ret
        exact ⟨⟨_, rfl, fun h => by cases h⟩, rfl⟩
      · go_ret
        exact ⟨⟨_, rfl, fun h => by cases h⟩, rfl⟩
      · go_ret
        exact ⟨⟨_, rfl, fun h => by cases h⟩, rfl⟩
      · go_round
        case rel => exact ⟨k + 1, _, by omega, by go_num, rfl, short_succ HS1.out (by omega)⟩
        case measure => simp [intOf]; omega
    · have HN1 : Hid (Short f1 n1) := fun j hj => HS1.out j (by omega)
      by_cases h2 : (1048576 : Int) < (n2 : Int)
      · go_wp2
        go_ret
        exact ⟨⟨_, rfl, fun h => by cases h⟩, rfl⟩
      go_wp2
      · go_ret
        exact ⟨⟨_, rfl, fun h => by cases h⟩, rfl⟩
      go_loop [7, 9] (fun zv i => ∃ k : Nat, ∃ y : Int, k ≤ n2 ∧ i = .int .i64 k ∧ zv = .int .i64 y ∧ Short f2 k) (fun _ i => n2 - (intOf i).toNat)
      case atStart => exact ⟨0, _, Nat.zero_le _, rfl, rfl, fun j hj => by omega⟩
      case round =>
        obtain ⟨k, y, hk, rfl, rfl, hsh⟩ := hrel
        have HS2 : Hid (Short f2 k) := hsh
        clear hsh
        by_cases hlt : k < n2
        · obtain ⟨b, off, rfl, hc1, hc2⟩ := HR2.out k hlt
          go_wp2
          · go_ret
            exact ⟨⟨_, rfl, fun h => by cases h⟩, rfl⟩
          · go_ret
            exact ⟨⟨_, rfl, fun h => by cases h⟩, rfl⟩
          · go_ret
            exact ⟨⟨_, rfl, fun h => by cases h⟩, rfl⟩
          · go_ret
            exact ⟨⟨_, rfl, fun h => by cases h⟩, rfl⟩
          · go_round
            case rel => exact ⟨k + 1, _, by omega, by go_num, rfl, short_succ HS2.out (by omega)⟩
            case measure => simp [intOf]; omega
        · have HN2 : Hid (Short f2 n2) := fun j hj => HS2.out j (by omega)
          go_wp2
          go_ret
          exact ⟨⟨_, rfl, fun _ => ⟨by omega, by omega, HN1.out, HN2.out⟩⟩, rfl⟩
end Go.Proofs.Qxb6601599aMods.Rfs
