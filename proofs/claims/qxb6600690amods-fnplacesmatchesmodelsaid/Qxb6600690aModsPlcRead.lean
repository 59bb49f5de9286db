/-
  The walks behind 'FnPlacesMatchesModel', first part: the functions that only read slices of strings (or of ints).
-/
import Derived.Test.Qxb6600690aModsRows
import Derived.WalkKit
import Derived.WalkSpells
import Derived.WalkLawsBesides
import Derived.Deep.QuietTactic
import Derived.BigQuiet
namespace Go.Proofs.Qxb6600690aMods.Plc
open Go.RowKit

/-- The slice whose elements begin at 'a' holds the strings f 0, .., f (n - 1). -/
def RowF (w : World) (a : Option Addr) (f : Nat → ByteArray) (n : Nat) : Prop :=
  ∀ j, j < n → ∃ b off, a = some ⟨b, off, none⟩ ∧ w.cell? ⟨b, off + j, none⟩ = some (.string (f j))
/-- The call has returned some int. -/
def RetInt (e : Ending) : Prop := ∃ r : Int, e = .returned (.int .i64 r)
/-- The call has returned some bool. -/
def RetBool (e : Ending) : Prop := ∃ r : Bool, e = .returned (.bool r)
/-- The call has returned a bool, and if it is false the three lengths are small. -/
def RetBudget (n1 n2 n3 : Nat) (e : Ending) : Prop := ∃ r : Bool, e = .returned (.bool r) ∧ (r = false → n1 ≤ 4096 ∧ n2 ≤ 4096 ∧ n3 ≤ 4096)

set_option maxHeartbeats 400000 in
theorem stringsBytes_any (z : Int) (a : Option Addr) (n c : Nat) (f : Nat → ByteArray) (w : World) (hn : n ≤ maxLen) (hr : RowF w a f n) :
    Calls Trym.prog 25 #[.int .i64 z, .slice a n c] w fun e w' => RetInt e ∧ w' = w := by
  unfold maxLen at hn
  have HR : Hid (RowF w a f n) := hr
  clear hr
  go_enter Trym.func25, Trym.ntmps25
  go_wp2
  go_loop [0, 5] (fun zv i => ∃ k : Nat, ∃ y : Int, k ≤ n ∧ i = .int .i64 k ∧ zv = .int .i64 y) (fun _ i => n - (intOf i).toNat)
  case atStart => exact ⟨0, z, Nat.zero_le _, rfl, rfl⟩
  case round =>
    obtain ⟨k, y, hk, rfl, rfl⟩ := hrel
    by_cases hlt : k < n
    · obtain ⟨b, off, rfl, hcell⟩ := HR.out k hlt
      go_wp2
      · go_ret
        exact ⟨⟨_, rfl⟩, rfl⟩
      · go_ret
        exact ⟨⟨_, rfl⟩, rfl⟩
      · go_round
        case rel => exact ⟨k + 1, _, by omega, by go_num, rfl⟩
        case measure => simp [intOf]; omega
    · go_wp2
      go_ret
      exact ⟨⟨_, rfl⟩, rfl⟩

set_option maxHeartbeats 400000 in
theorem overBudget_any (a1 a2 a3 : Option Addr) (n1 n2 n3 c1 c2 c3 : Nat) (f1 f2 f3 : Nat → ByteArray) (w : World) (hn1 : n1 ≤ maxLen) (hn2 : n2 ≤ maxLen) (hn3 : n3 ≤ maxLen)
    (hr1 : RowF w a1 f1 n1) (hr2 : RowF w a2 f2 n2) (hr3 : RowF w a3 f3 n3) :
    Calls Trym.prog 16 #[.slice a1 n1 c1, .slice a2 n2 c2, .slice a3 n3 c3] w fun e w' => RetBudget n1 n2 n3 e ∧ w' = w := by
  by_cases h1 : (4096 : Int) < (n1 : Int)
  · go_enter Trym.func16, Trym.ntmps16
    go_wp2
    go_ret
    exact ⟨⟨_, rfl, fun h => by cases h⟩, rfl⟩
  by_cases h2 : (4096 : Int) < (n2 : Int)
  · go_enter Trym.func16, Trym.ntmps16
    go_wp2
    go_ret
    exact ⟨⟨_, rfl, fun h => by cases h⟩, rfl⟩
  by_cases h3 : (4096 : Int) < (n3 : Int)
  · go_enter Trym.func16, Trym.ntmps16
    go_wp2
    go_ret
    exact ⟨⟨_, rfl, fun h => by cases h⟩, rfl⟩
  go_enter Trym.func16, Trym.ntmps16
  go_wp2_with fail
  refine (stringsBytes_any _ _ _ _ f1 _ hn1 hr1).mono ?_
  rintro e w' ⟨⟨r1, rfl⟩, rfl⟩
  go_wp2_with fail
  refine (stringsBytes_any _ _ _ _ f2 _ hn2 hr2).mono ?_
  rintro e w' ⟨⟨r2, rfl⟩, rfl⟩
  go_wp2_with fail
  refine (stringsBytes_any _ _ _ _ f3 _ hn3 hr3).mono ?_
  rintro e w' ⟨⟨r3, rfl⟩, rfl⟩
  go_wp2_with fail
  go_ret
  exact ⟨⟨_, rfl, fun _ => ⟨by omega, by omega, by omega⟩⟩, rfl⟩

set_option maxHeartbeats 1000000 in
theorem zzBytes_any (a1 a2 a3 : Option Addr) (n1 n2 n3 c1 c2 c3 : Nat) (f1 f2 f3 : Nat → ByteArray) (w : World) (hn1 : n1 ≤ maxLen) (hn2 : n2 ≤ maxLen) (hn3 : n3 ≤ maxLen)
    (hr1 : RowF w a1 f1 n1) (hr2 : RowF w a2 f2 n2) (hr3 : RowF w a3 f3 n3) :
    Calls Trym.prog 15 #[.slice a1 n1 c1, .slice a2 n2 c2, .slice a3 n3 c3] w fun e w' => RetBool e ∧ w' = w := by
  unfold maxLen at hn1 hn2 hn3
  have HR1 : Hid (RowF w a1 f1 n1) := hr1
  have HR2 : Hid (RowF w a2 f2 n2) := hr2
  have HR3 : Hid (RowF w a3 f3 n3) := hr3
  clear hr1 hr2 hr3
  go_enter Trym.func15, Trym.ntmps15
  go_wp2
  · go_ret
    exact ⟨⟨_, rfl⟩, rfl⟩
  go_loop [7, 8] (fun zv i => ∃ k : Nat, ∃ y : Int, k ≤ n1 ∧ i = .int .i64 k ∧ zv = .int .i64 y) (fun _ i => n1 - (intOf i).toNat)
  case atStart => exact ⟨0, _, Nat.zero_le _, rfl, rfl⟩
  case round =>
    obtain ⟨k, y, hk, rfl, rfl⟩ := hrel
    by_cases hlt : k < n1
    · obtain ⟨b, off, rfl, hcell⟩ := HR1.out k hlt
      go_wp2
      · go_ret
        exact ⟨⟨_, rfl⟩, rfl⟩
      · go_ret
        exact ⟨⟨_, rfl⟩, rfl⟩
      · go_round
        case rel => exact ⟨k + 1, _, by omega, by go_num, rfl⟩
        case measure => simp [intOf]; omega
    · go_wp2
      · go_ret
        exact ⟨⟨_, rfl⟩, rfl⟩
      · go_ret
        exact ⟨⟨_, rfl⟩, rfl⟩
      go_loop [7, 9] (fun zv i => ∃ k : Nat, ∃ y : Int, k ≤ n2 ∧ i = .int .i64 k ∧ zv = .int .i64 y) (fun _ i => n2 - (intOf i).toNat)
      case atStart => exact ⟨0, _, Nat.zero_le _, rfl, rfl⟩
      case round =>
        obtain ⟨k, y, hk, rfl, rfl⟩ := hrel
        by_cases hlt : k < n2
        · obtain ⟨b, off, rfl, hcell⟩ := HR2.out k hlt
          go_wp2
          · go_ret
            exact ⟨⟨_, rfl⟩, rfl⟩
          · go_ret
            exact ⟨⟨_, rfl⟩, rfl⟩
          · go_round
            case rel => exact ⟨k + 1, _, by omega, by go_num, rfl⟩
            case measure => simp [intOf]; omega
        · go_wp2
          · go_ret
            exact ⟨⟨_, rfl⟩, rfl⟩
          · go_ret
            exact ⟨⟨_, rfl⟩, rfl⟩
          go_loop [7, 10] (fun zv i => ∃ k : Nat, ∃ y : Int, k ≤ n3 ∧ i = .int .i64 k ∧ zv = .int .i64 y) (fun _ i => n3 - (intOf i).toNat)
          case atStart => exact ⟨0, _, Nat.zero_le _, rfl, rfl⟩
          case round =>
            obtain ⟨k, y, hk, rfl, rfl⟩ := hrel
            by_cases hlt : k < n3
            · obtain ⟨b, off, rfl, hcell⟩ := HR3.out k hlt
              go_wp2
              · go_ret
                exact ⟨⟨_, rfl⟩, rfl⟩
              · go_ret
                exact ⟨⟨_, rfl⟩, rfl⟩
              · go_round
                case rel => exact ⟨k + 1, _, by omega, by go_num, rfl⟩
                case measure => simp [intOf]; omega
            · go_wp2
              go_ret
              exact ⟨⟨_, rfl⟩, rfl⟩

/-- The place of the first of f 0, .., f (n - 1) that is s; -1 where there is none. -/
def fidx {α : Type} [DecidableEq α] (f : Nat → α) : Nat → α → Int
  | 0, _ => -1
  | n + 1, s => if fidx f n s = -1 then (if f n = s then (n : Int) else -1) else fidx f n s
theorem fidx_none {α : Type} [DecidableEq α] (f : Nat → α) (n : Nat) (s : α) (h : ∀ j, j < n → f j ≠ s) : fidx f n s = -1 := by
  induction n with
  | zero => rfl
  | succ n ih => rw [fidx, if_pos (ih (fun j hj => h j (by omega))), if_neg (h n (by omega))]
theorem fidx_some {α : Type} [DecidableEq α] (f : Nat → α) (n : Nat) (s : α) (k : Nat) (hk : k < n) (h : ∀ j, j < k → f j ≠ s) (e : f k = s) : fidx f n s = (k : Int) := by
  induction n with
  | zero => omega
  | succ n ih =>
    by_cases hkn : k = n
    · subst hkn
      rw [fidx, if_pos (fidx_none f k s h), if_pos e]
    · have := ih (by omega)
      rw [fidx, this, if_neg (by omega)]
theorem beq_yes {a b : ByteArray} (h : (a.toList == b.toList) = true) : a = b := by
  have := eq_of_beq h
  rw [ByteArray.toList_eq, ByteArray.toList_eq] at this
  exact ByteArray.ext (Array.toList_inj.mp this)
theorem beq_no {a b : ByteArray} (h : (a.toList == b.toList) = false) : a ≠ b := by
  rintro rfl
  simp at h
theorem none_succ {α : Type} {f : Nat → α} {k : Nat} {s : α} (h : ∀ j, j < k → f j ≠ s) (e : f k ≠ s) : ∀ j, j < k + 1 → f j ≠ s := by
  intro j hj
  by_cases hjk : j = k
  · subst hjk; exact e
  · exact h j (by omega)
theorem ret_int {k : IntKind} {a b : Int} (h : a = b) : Ending.returned (.int k a) = .returned (.int k b) := by rw [h]
theorem ret_bool {a b : Bool} (h : a = b) : Ending.returned (.bool a) = .returned (.bool b) := by rw [h]

set_option maxHeartbeats 400000 in
theorem firstIndex_any (a : Option Addr) (n c : Nat) (f : Nat → ByteArray) (s : ByteArray) (w : World) (hn : n ≤ maxLen) (hr : RowF w a f n) :
    Calls Trym.prog 20 #[.slice a n c, .string s] w fun e w' => e = .returned (.int .i64 (fidx f n s)) ∧ w' = w := by
  unfold maxLen at hn
  have HR : Hid (RowF w a f n) := hr
  clear hr
  go_enter Trym.func20, Trym.ntmps20
  go_wp2
  go_loop [5] (fun i => ∃ k : Nat, k ≤ n ∧ i = .int .i64 k ∧ ∀ j, j < k → f j ≠ s) (fun i => n - (intOf i).toNat)
  case atStart => exact ⟨0, Nat.zero_le _, rfl, fun j hj => by omega⟩
  case round =>
    obtain ⟨k, hk, rfl, hne⟩ := hrel
    have HN : Hid (∀ j, j < k → f j ≠ s) := hne
    clear hne
    by_cases hlt : k < n
    · obtain ⟨b, off, rfl, hcell⟩ := HR.out k hlt
      cases he : ((f k).toList == s.toList) with
      | true =>
        go_wp2
        go_ret
        exact ⟨ret_int (fidx_some f n s k hlt HN.out (beq_yes he)).symm, rfl⟩
      | false =>
        go_wp2
        go_round
        case rel => exact ⟨k + 1, by omega, by go_num, none_succ HN.out (beq_no he)⟩
        case measure => simp [intOf]; omega
    · go_wp2
      go_ret
      exact ⟨ret_int (fidx_none f n s (fun j hj => HN.out j (by omega))).symm, rfl⟩

set_option maxHeartbeats 400000 in
theorem index_any (a : Option Addr) (n c : Nat) (f : Nat → ByteArray) (s : ByteArray) (w : World) (hn : n ≤ maxLen) (hr : RowF w a f n) :
    Calls Trym.prog 28 #[.slice a n c, .string s] w fun e w' => e = .returned (.int .i64 (fidx f n s)) ∧ w' = w := by
  unfold maxLen at hn
  have HR : Hid (RowF w a f n) := hr
  clear hr
  go_enter Trym.func28, Trym.ntmps28
  go_wp2
  go_loop [8] (fun i => ∃ k : Nat, k ≤ n ∧ i = .int .i64 k ∧ ∀ j, j < k → f j ≠ s) (fun i => n - (intOf i).toNat)
  case atStart => exact ⟨0, Nat.zero_le _, rfl, fun j hj => by omega⟩
  case round =>
    obtain ⟨k, hk, rfl, hne⟩ := hrel
    have HN : Hid (∀ j, j < k → f j ≠ s) := hne
    clear hne
    by_cases hlt : k < n
    · obtain ⟨b, off, rfl, hcell⟩ := HR.out k hlt
      cases he : (s.toList == (f k).toList) with
      | true =>
        go_wp2
        go_ret
        exact ⟨ret_int (fidx_some f n s k hlt HN.out (beq_yes he).symm).symm, rfl⟩
      | false =>
        go_wp2
        go_round
        case rel => exact ⟨k + 1, by omega, by go_num, none_succ HN.out (fun e => beq_no he e.symm)⟩
        case measure => simp [intOf]; omega
    · go_wp2
      go_ret
      exact ⟨ret_int (fidx_none f n s (fun j hj => HN.out j (by omega))).symm, rfl⟩

/-- The slice whose elements begin at 'a' holds the ints f 0, .., f (n - 1). -/
def RowI (w : World) (a : Option Addr) (f : Nat → Int) (n : Nat) : Prop :=
  ∀ j, j < n → ∃ b off, a = some ⟨b, off, none⟩ ∧ w.cell? ⟨b, off + j, none⟩ = some (.int .i64 (f j))

set_option maxHeartbeats 400000 in
theorem indexInt_any (a : Option Addr) (n c : Nat) (f : Nat → Int) (s : Int) (w : World) (hn : n ≤ maxLen) (hr : RowI w a f n) :
    Calls Trym.prog 30 #[.slice a n c, .int .i64 s] w fun e w' => e = .returned (.int .i64 (fidx f n s)) ∧ w' = w := by
  unfold maxLen at hn
  have HR : Hid (RowI w a f n) := hr
  clear hr
  go_enter Trym.func30, Trym.ntmps30
  go_wp2
  go_loop [8] (fun i => ∃ k : Nat, k ≤ n ∧ i = .int .i64 k ∧ ∀ j, j < k → f j ≠ s) (fun i => n - (intOf i).toNat)
  case atStart => exact ⟨0, Nat.zero_le _, rfl, fun j hj => by omega⟩
  case round =>
    obtain ⟨k, hk, rfl, hne⟩ := hrel
    have HN : Hid (∀ j, j < k → f j ≠ s) := hne
    clear hne
    by_cases hlt : k < n
    · obtain ⟨b, off, rfl, hcell⟩ := HR.out k hlt
      obtain ⟨y, hy⟩ : ∃ y, y = f k := ⟨_, rfl⟩
      rw [← hy] at hcell
      have HY : Hid (y = f k) := hy
      clear hy
      cases he : (s == y) with
      | true =>
        have HE : Hid ((s == y) = true) := he
        go_wp2
        go_ret
        exact ⟨ret_int (fidx_some f n s k hlt HN.out (HY.out.symm.trans (eq_of_beq HE.out).symm)).symm, rfl⟩
      | false =>
        have HE : Hid ((s == y) = false) := he
        go_wp2
        go_round
        case rel => exact ⟨k + 1, by omega, by go_num, none_succ HN.out (fun e => by have h := HE.out; rw [HY.out, e] at h; simp at h)⟩
        case measure => simp [intOf]; omega
    · go_wp2
      go_ret
      exact ⟨ret_int (fidx_none f n s (fun j hj => HN.out j (by omega))).symm, rfl⟩

theorem fidx_cases {α : Type} [DecidableEq α] (f : Nat → α) (n : Nat) (s : α) : (fidx f n s = -1 ∧ ∀ j, j < n → f j ≠ s) ∨ ∃ k : Nat, fidx f n s = (k : Int) ∧ k < n ∧ f k = s ∧ ∀ j, j < k → f j ≠ s := by
  induction n with
  | zero => exact .inl ⟨rfl, fun j hj => by omega⟩
  | succ n ih =>
    rcases ih with ⟨h1, h2⟩ | ⟨k, h1, h2, h3, h4⟩
    · by_cases e : f n = s
      · exact .inr ⟨n, by rw [fidx, if_pos h1, if_pos e], by omega, e, h2⟩
      · refine .inl ⟨by rw [fidx, if_pos h1, if_neg e], fun j hj => ?_⟩
        by_cases hj' : j = n
        · subst hj'; exact e
        · exact h2 j (by omega)
    · exact .inr ⟨k, by rw [fidx, if_neg (by omega)]; exact h1, by omega, h3, h4⟩

/-- The call has returned the bool that says whether P. -/
def RetIff (P : Prop) (e : Ending) : Prop := ∃ r : Bool, e = .returned (.bool r) ∧ (r = true ↔ P)

set_option maxHeartbeats 400000 in
theorem contains_any (a : Option Addr) (n c : Nat) (f : Nat → Int) (s : Int) (w : World) (hn : n ≤ maxLen) (hr : RowI w a f n) :
    Calls Trym.prog 29 #[.slice a n c, .int .i64 s] w fun e w' => RetIff (∃ j, j < n ∧ f j = s) e ∧ w' = w := by
  go_enter Trym.func29, Trym.ntmps29
  go_wp2_with fail
  refine (indexInt_any _ _ _ f _ _ hn hr).mono ?_
  rintro e w' ⟨rfl, rfl⟩
  go_wp2_with fail
  go_ret
  refine ⟨⟨_, rfl, ?_⟩, rfl⟩
  rcases fidx_cases f n s with ⟨h1, h2⟩ | ⟨k, h1, h2, h3, h4⟩
  · rw [h1]
    simp only [decide_eq_true_eq]
    exact ⟨fun h => by omega, fun ⟨j, hj, e⟩ => absurd e (h2 j hj)⟩
  · rw [h1]
    simp only [decide_eq_true_eq]
    exact ⟨fun _ => ⟨k, h2, h3⟩, fun _ => by omega⟩

theorem RowF.drewN {w : World} {a : Option Addr} {f : Nat → ByteArray} {n : Nat} (h : RowF w a f n) (q : Nat) : RowF (w.drewN q) a f n := h
theorem same_succ {f g : Nat → ByteArray} {k : Nat} (h : ∀ j, j < k → f j = g j) (e : f k = g k) : ∀ j, j < k + 1 → f j = g j := by
  intro j hj
  by_cases hjk : j = k
  · subst hjk; exact e
  · exact h j (by omega)

set_option maxHeartbeats 400000 in
theorem sameStrings_any (a b : Option Addr) (n c d : Nat) (f g : Nat → ByteArray) (w : World) (hn : n ≤ maxLen) (hf : RowF w a f n) (hg : RowF w b g n) :
    Calls Trym.prog 19 #[.slice a n c, .slice b n d] w fun e w' => RetIff (∀ j, j < n → f j = g j) e ∧ ∃ q, w' = w.drewN q := by
  unfold maxLen at hn
  have HF : Hid (RowF w a f n) := hf
  have HG : Hid (RowF w b g n) := hg
  clear hf hg
  go_enter Trym.func19, Trym.ntmps19
  go_wp2
  go_loopw [5] (fun i wr => ∃ k q : Nat, k ≤ n ∧ i = .int .i64 k ∧ wr = w.drewN q ∧ ∀ j, j < k → f j = g j) (fun i _ => n - (intOf i).toNat)
  case atStart => exact ⟨0, 0, Nat.zero_le _, rfl, rfl, fun j hj => by omega⟩
  case round =>
    obtain ⟨k, q, hk, rfl, rfl, hne⟩ := hrel
    have HN : Hid (∀ j, j < k → f j = g j) := hne
    clear hne
    by_cases hlt : k < n
    · obtain ⟨b1, off1, rfl, hcell1⟩ := HF.out k hlt
      obtain ⟨b2, off2, rfl, hcell2⟩ := HG.out k hlt
      have hlt' : (k : Int) < (n : Int) := by omega
      cases he : ((f k).toList == (g k).toList) with
      | true =>
        go_wp2
        go_quiet (fail)
        go_wp2
        go_roundw
        case rel => exact ⟨k + 1, _, by omega, by go_num, rfl, same_succ HN.out (beq_yes he)⟩
        case measure => simp [intOf]; omega
      | false =>
        go_wp2
        go_quiet (fail)
        go_wp2
        go_ret
        exact ⟨⟨_, rfl, ⟨fun h => (Bool.noConfusion h), fun h => absurd (h k hlt) (beq_no he)⟩⟩, q + nq, World.drewN_drewN _ _ _⟩
    · go_wp2
      go_ret
      exact ⟨⟨_, rfl, ⟨fun _ j hj => HN.out j (by omega), fun _ => rfl⟩⟩, _, rfl⟩

set_option maxHeartbeats 400000 in
theorem equal_any (a b : Option Addr) (n c d : Nat) (f g : Nat → ByteArray) (w : World) (hn : n ≤ maxLen) (hf : RowF w a f n) (hg : RowF w b g n) :
    Calls Trym.prog 27 #[.slice a n c, .slice b n d] w fun e w' => RetIff (∀ j, j < n → f j = g j) e ∧ ∃ q, w' = w.drewN q := by
  unfold maxLen at hn
  have HF : Hid (RowF w a f n) := hf
  have HG : Hid (RowF w b g n) := hg
  clear hf hg
  go_enter Trym.func27, Trym.ntmps27
  go_wp2
  go_loopw [13] (fun i wr => ∃ k q : Nat, k ≤ n ∧ i = .int .i64 k ∧ wr = w.drewN q ∧ ∀ j, j < k → f j = g j) (fun i _ => n - (intOf i).toNat)
  case atStart => exact ⟨0, 0, Nat.zero_le _, rfl, rfl, fun j hj => by omega⟩
  case round =>
    obtain ⟨k, q, hk, rfl, rfl, hne⟩ := hrel
    have HN : Hid (∀ j, j < k → f j = g j) := hne
    clear hne
    by_cases hlt : k < n
    · obtain ⟨b1, off1, rfl, hcell1⟩ := HF.out k hlt
      obtain ⟨b2, off2, rfl, hcell2⟩ := HG.out k hlt
      have hlt' : (k : Int) < (n : Int) := by omega
      cases he : ((f k).toList == (g k).toList) with
      | true =>
        go_wp2
        go_quiet (fail)
        go_wp2
        go_roundw
        case rel => exact ⟨k + 1, _, by omega, by go_num, rfl, same_succ HN.out (beq_yes he)⟩
        case measure => simp [intOf]; omega
      | false =>
        go_wp2
        go_quiet (fail)
        go_wp2
        go_ret
        exact ⟨⟨_, rfl, ⟨fun h => (Bool.noConfusion h), fun h => absurd (h k hlt) (beq_no he)⟩⟩, q + nq, World.drewN_drewN _ _ _⟩
    · go_wp2
      go_ret
      exact ⟨⟨_, rfl, ⟨fun _ j hj => HN.out j (by omega), fun _ => rfl⟩⟩, _, rfl⟩
end Go.Proofs.Qxb6600690aMods.Plc
