/-
  The walks behind 'FnAppendPathNodeSeparatorEitherSide', first part: the callees.
-/
import Derived.Test.Qxb6600872aModsBytes
import Derived.Lib.AppendStr
namespace Go.Proofs.Qxb6600872aMods.Pth
open Go.RowKit Byt

/-- Does the text begin with a backslash? -/
def hasB (s : ByteArray) : Bool := decide (0 < s.size) && ((s.extract 0 1).toList == [92])
/-- The text without a leading backslash. -/
def trim (s : ByteArray) : ByteArray := if hasB s then s.extract 1 s.size else s
theorem ret_str {a b : ByteArray} (h : a = b) : Ending.returned (.string a) = .returned (.string b) := by rw [h]

set_option maxHeartbeats 400000 in
theorem has_any (s : ByteArray) (w : World) (hs : s.size ≤ maxLen) :
    Calls Trym.prog 18 #[.string s, .string ⟨#[92]⟩] w fun e w' => e = .returned (.bool (hasB s)) ∧ w' = w := by
  unfold maxLen at hs
  by_cases h : 0 < s.size
  · go_enter Trym.func18, Trym.ntmps18
    go_wp2
    go_ret
    exact ⟨ret_bool (by unfold hasB; rw [decide_eq_true h]; rfl), rfl⟩
  · go_enter Trym.func18, Trym.ntmps18
    go_wp2
    go_ret
    exact ⟨ret_bool (by unfold hasB; rw [decide_eq_false h]; rfl), rfl⟩

set_option maxHeartbeats 400000 in
theorem trim17_any (s : ByteArray) (w : World) (hs : s.size ≤ maxLen) :
    Calls Trym.prog 17 #[.string s, .string ⟨#[92]⟩] w fun e w' => e = .returned (.string (trim s)) ∧ w' = w := by
  have hx : s.size ≤ maxLen := hs
  unfold maxLen at hs
  cases hb : hasB s with
  | true =>
    have h0 : 0 < s.size := by
      unfold hasB at hb
      simp only [Bool.and_eq_true, decide_eq_true_eq] at hb
      exact hb.1
    go_enter Trym.func17, Trym.ntmps17
    go_wp2_with fail
    refine (has_any _ _ hx).mono ?_
    rintro e w' ⟨rfl, rfl⟩
    rw [hb]
    go_wp2_with fail
    go_ret
    exact ⟨ret_str (by unfold trim; rw [if_pos hb]), rfl⟩
  | false =>
    go_enter Trym.func17, Trym.ntmps17
    go_wp2_with fail
    refine (has_any _ _ hx).mono ?_
    rintro e w' ⟨rfl, rfl⟩
    rw [hb]
    go_wp2_with fail
    go_ret
    exact ⟨ret_str (by unfold trim; rw [if_neg (by rw [hb]; exact Bool.false_ne_true)]), rfl⟩

set_option maxHeartbeats 400000 in
theorem trim16_any (s : ByteArray) (w : World) (hs : s.size ≤ maxLen) :
    Calls Trym.prog 16 #[.string s, .string ⟨#[92]⟩] w fun e w' => e = .returned (.string (trim s)) ∧ w' = w := by
  go_enter Trym.func16, Trym.ntmps16
  go_wp2_with fail
  refine (trim17_any _ _ hs).mono ?_
  rintro e w' ⟨rfl, rfl⟩
  go_wp2_with fail
  go_ret
  exact ⟨rfl, rfl⟩

theorem trim_size (s : ByteArray) : (trim s).size ≤ s.size := by
  unfold trim
  split
  · rw [ByteArray.size_extract]; omega
  · exact Nat.le_refl _

/-- The call has returned the bool that says whether P. -/
def RetIff (P : Prop) (e : Ending) : Prop := ∃ r : Bool, e = .returned (.bool r) ∧ (r = true ↔ P)
theorem same_succ {f g : Nat → Int} {k : Nat} (h : ∀ j, j < k → f j = g j) (e : f k = g k) : ∀ j, j < k + 1 → f j = g j := by
  intro j hj
  by_cases hjk : j = k
  · subst hjk; exact e
  · exact h j (by omega)

set_option maxHeartbeats 400000 in
theorem equal_any (a b : Option Addr) (n c d : Nat) (f : Nat → Int) (w : World) (hn : n ≤ maxLen) (hf : RowB w a f n) (hg : RowB w b f n) :
    Calls Trym.prog 13 #[.slice a n c, .slice b n d] w fun e w' => e = .returned (.bool true) ∧ ∃ q, w' = w.drewN q := by
  unfold maxLen at hn
  have HF : Hid (RowB w a f n) := hf
  have HG : Hid (RowB w b f n) := hg
  clear hf hg
  go_enter Trym.func13, Trym.ntmps13
  go_wp2
  go_loopw [5] (fun i wr => ∃ k q : Nat, k ≤ n ∧ i = .int .i64 k ∧ wr = w.drewN q) (fun i _ => n - (intOf i).toNat)
  case atStart => exact ⟨0, 0, Nat.zero_le _, rfl, rfl⟩
  case round =>
    obtain ⟨k, q, hk, rfl, rfl⟩ := hrel
    by_cases hlt : k < n
    · obtain ⟨b1, off1, rfl, hcell1⟩ := HF.out k hlt
      obtain ⟨b2, off2, rfl, hcell2⟩ := HG.out k hlt
      have hlt' : (k : Int) < (n : Int) := by omega
      go_wp2
      go_quiet (fail)
      go_wp2
      go_roundw
      case rel => exact ⟨k + 1, _, by omega, by go_num, rfl⟩
      case measure => simp [intOf]; omega
    · go_wp2
      go_ret
      exact ⟨rfl, _, rfl⟩

/-- What 'zzCloneBytes' leaves of a slice that is not nil: a row of the call's own. -/
def ClonedOwn (f : Nat → Int) (n : Nat) (w : World) (e : Ending) (w' : World) : Prop :=
  e = .returned (.slice (some ⟨w.heap.size, 0, none⟩) n n) ∧ Below w.heap.size w w' ∧ ∃ xs, w'.ownsRow w.heap.size 5 1 (.slice (some ⟨w.heap.size, 0, none⟩) n n) n xs ∧ ∀ j, j < n → xs[j]? = some (.int .u8 (f j))

set_option maxHeartbeats 400000 in
theorem clone_own (x : Addr) (n c : Nat) (f : Nat → Int) (w : World) (hn : n ≤ 4194304) (hr : RowB w (some x) f n) :
    Calls Trym.prog 7 #[.slice (some x) n c] w fun e w' => ClonedOwn f n w e w' := by
  have HR : Hid (RowB w (some x) f n) := hr
  clear hr
  have q := q22
  obtain ⟨i5, hi, hz0, hz1, hz2⟩ := info_parts info5
  go_enter Trym.func7, Trym.ntmps7
  go_wp2_with (at_make; refine wpList_make_full _ rfl _ _ 22 rfl w.heap.size 5 i5 (.int .u8 0) 1 Trym.underlying22 hi hz0 hz1 _ _ _ _ n rfl rfl rfl rfl (by rw [hz2]; omega) (by unfold maxLen; omega) (Nat.le_refl _) ?_; intro w1 hown hgrow)
  have hb1 : Below w.heap.size w w1 := (Below.refl _ _).grown hgrow (Nat.le_refl _) (fun k h => by cases h)
  have HO : Hid (w1.ownsRow w.heap.size 5 1 (.slice (some ⟨w.heap.size, 0, none⟩) n n) n (madeCells (Value.int .u8 0).cells (n * 1)).toList) := hown
  clear hown hgrow
  go_loopw [4] (fun i wr => ∃ k : Nat, ∃ xs : List Value, k ≤ n ∧ i = .int .i64 k ∧ wr.ownsRow w.heap.size 5 1 (.slice (some ⟨w.heap.size, 0, none⟩) n n) n xs ∧ (∀ j, j < k → xs[j]? = some (.int .u8 (f j))) ∧ Below w.heap.size w wr) (fun i _ => n - (intOf i).toNat)
  case atStart => exact ⟨0, _, Nat.zero_le _, rfl, HO.out, fun j hj => by omega, hb1⟩
  case round =>
    obtain ⟨k, xs, hk, rfl, hown, hx, hb⟩ := hrel
    by_cases hlt : k < n
    · obtain ⟨b, off, hxe, hcell0⟩ := HR.out k hlt
      simp only [Option.some.injEq] at hxe
      subst hxe
      have hcell : wr.cell? ⟨b, off + k, none⟩ = some (.int .u8 (f k)) := (hb.cell (p := ⟨b, off + k, none⟩) (cell_lt hcell0)).trans hcell0
      obtain ⟨v, hv⟩ : ∃ v, wr.cell? ⟨w.heap.size, k, none⟩ = some v := by
        rw [hown.cellAt k (by omega)]
        exact ⟨_, List.getElem?_eq_getElem (by rw [hown.1]; omega)⟩
      have hfz := hown.frozenAt k
      have R : Hid _ := clone_step hlt hown hx hb
      clear hcell0 hx hown hb1
      go_wp2
      go_roundw
      case rel => exact ⟨k + 1, _, by omega, by go_num, R.out.1, R.out.2.1, R.out.2.2⟩
      case measure => simp [intOf]; omega
    · go_wp2
      go_ret
      exact ⟨rfl, hb, xs, hown, fun j hj => hx j (by omega)⟩

/-- What 'appendPathNode' leaves: a row of the call's own, with one backslash between path and text. -/
def Node (base : Nat) (xs : List Value) (y : Int) (s : ByteArray) (w : World) (e : Ending) (w' : World) : Prop :=
  Below base w w' ∧ ∃ v m, e = .returned v ∧ w'.ownsRow base 5 1 v m ((if y = 92 then xs else xs ++ [.int .u8 92]) ++ Lib.strCells (trim s))

theorem below_own {base : Nat} {w w' : World} {e : TypeId} {size n : Nat} {v : Value} {xs : List Value} (hown : w.ownsRow base e size v n xs) (hg : w.grownBy w' v.ownBlock) (hbase : base ≤ w.heap.size) : Below base w w' :=
  (Below.refl _ _).grown hg hbase (fun k hk => (hown.lt k hk).1)

set_option maxHeartbeats 1000000 in
theorem node_sep (g n cap base : Nat) (xs : List Value) (s : ByteArray) (w : World) (hn : 0 < n) (hn' : n ≤ 4194304) (hs : s.size ≤ 4194304)
    (hown : w.ownsRow base 5 1 (.slice (some ⟨g, 0, none⟩) n cap) n xs) (hbase : base ≤ w.heap.size) (hlast : xs[n - 1]? = some (.int .u8 92)) :
    Calls Trym.prog 15 #[.slice (some ⟨g, 0, none⟩) n cap, .string s] w fun e w' => Node base xs 92 s w e w' := by
  have hcell : w.cell? ⟨g, n - 1, none⟩ = some (.int .u8 92) := by rw [hown.cellAt (n - 1) (by omega)]; exact hlast
  have HO : Hid (w.ownsRow base 5 1 (.slice (some ⟨g, 0, none⟩) n cap) n xs) := hown
  have hl := trim_size s
  have hsm : s.size ≤ maxLen := by unfold maxLen; omega
  clear hown hlast
  obtain ⟨i5, hi, hz0, hz1, hz2⟩ := info_parts info5
  go_enter Trym.func15, Trym.ntmps15
  go_wp2_with fail
  refine (trim16_any _ _ hsm).mono ?_
  rintro e w' ⟨rfl, rfl⟩
  obtain ⟨t, ht⟩ : ∃ t, t = trim s := ⟨_, rfl⟩
  rw [← ht] at hl ⊢
  have HT : Hid (t = trim s) := ht
  clear ht
  go_wp2_with (at_builtin; refine Lib.wpList_append_own_string _ rfl (.tmp 21) (.tmp 23) 22 9 rfl base 5 i5 Trym.underlying22 Trym.underlying9 hi hz0 hz1 hz2 _ _ _ rfl HO.out t rfl (by unfold maxLen; omega) (by omega) hbase ?_; intro v2 w2 hown2 hgrow2 _)
  go_ret
  exact ⟨below_own HO.out hgrow2 hbase, v2, _, rfl, by rw [if_pos rfl, ← HT.out]; exact hown2⟩

set_option maxHeartbeats 1000000 in
theorem node_bare (g n cap base : Nat) (xs : List Value) (y : Int) (s : ByteArray) (w : World) (hn : 0 < n) (hn' : n ≤ 4194304) (hs : s.size ≤ 4194304) (hy : y ≠ 92)
    (hown : w.ownsRow base 5 1 (.slice (some ⟨g, 0, none⟩) n cap) n xs) (hbase : base ≤ w.heap.size) (hlast : xs[n - 1]? = some (.int .u8 y)) :
    Calls Trym.prog 15 #[.slice (some ⟨g, 0, none⟩) n cap, .string s] w fun e w' => Node base xs y s w e w' := by
  have hcell : w.cell? ⟨g, n - 1, none⟩ = some (.int .u8 y) := by rw [hown.cellAt (n - 1) (by omega)]; exact hlast
  have HO : Hid (w.ownsRow base 5 1 (.slice (some ⟨g, 0, none⟩) n cap) n xs) := hown
  have hl := trim_size s
  have hsm : s.size ≤ maxLen := by unfold maxLen; omega
  have hyb : (y == 92) = false := by simpa using hy
  clear hown hlast
  obtain ⟨i5, hi, hz0, hz1, hz2⟩ := info_parts info5
  go_enter Trym.func15, Trym.ntmps15
  go_wp2_with (at_builtin; refine wpList_append_own _ rfl (.tmp 18) (.tmp 19) 22 rfl base 5 i5 (.int .u8 0) 1 1 Trym.underlying22 hi hz0 hz1 hz2 rfl (by decide) _ _ _ rfl (HO.out.alloc _) ⟨w.heap.size, 0, none⟩ 1 1 [.int .u8 92] rfl rfl ?c1 ?c2 ?c3 ?c4 ?c5 ?_)
  case c1 =>
    intro j u hj
    match j, hj with
    | 0, hj => simp at hj; subst hj; simp [Addr.add]
  case c2 => intro u hu; simp at hu; subst hu; rfl
  case c3 => unfold maxLen; omega
  case c4 => omega
  case c5 => simp; omega
  intro v1 w1 hown1 hgrow1 _
  have B1 : Hid (Below base w w1) := ((Below.refl _ _).alloc hbase _).trans (below_own (HO.out.alloc _) hgrow1 (by simp; omega))
  have HO1 : Hid (w1.ownsRow base 5 1 v1 (n + 1) (xs ++ [.int .u8 92])) := hown1
  have hb1 : base ≤ w1.heap.size := Nat.le_trans hbase B1.out.size
  clear hown1 hgrow1
  go_wp2_with fail
  refine (trim16_any _ _ hsm).mono ?_
  rintro e w' ⟨rfl, rfl⟩
  obtain ⟨t, ht⟩ : ∃ t, t = trim s := ⟨_, rfl⟩
  rw [← ht] at hl ⊢
  have HT : Hid (t = trim s) := ht
  clear ht
  go_wp2_with (at_builtin; refine Lib.wpList_append_own_string _ rfl (.tmp 21) (.tmp 23) 22 9 rfl base 5 i5 Trym.underlying22 Trym.underlying9 hi hz0 hz1 hz2 _ _ _ rfl HO1.out t rfl (by unfold maxLen; omega) (by omega) hb1 ?_; intro v2 w2 hown2 hgrow2 _)
  go_ret
  exact ⟨B1.out.trans (below_own HO1.out hgrow2 hb1), v2, _, rfl, by rw [if_neg hy, ← HT.out]; exact hown2⟩

set_option maxHeartbeats 400000 in
theorem zzNode_any (g n cap base : Nat) (xs : List Value) (y : Int) (s : ByteArray) (w : World) (hn : 0 < n) (hn' : n ≤ 4194304) (hs : s.size ≤ 4194304)
    (hown : w.ownsRow base 5 1 (.slice (some ⟨g, 0, none⟩) n cap) n xs) (hbase : base ≤ w.heap.size) (hlast : xs[n - 1]? = some (.int .u8 y)) :
    Calls Trym.prog 12 #[.slice (some ⟨g, 0, none⟩) n cap, .string s] w fun e w' => Node base xs y s w e w' := by
  have key : Hid (Calls Trym.prog 15 #[.slice (some ⟨g, 0, none⟩) n cap, .string s] w fun e w' => Node base xs y s w e w') := by
    by_cases hy : y = 92
    · subst hy; exact node_sep g n cap base xs s w hn hn' hs hown hbase hlast
    · exact node_bare g n cap base xs y s w hn hn' hs hy hown hbase hlast
  clear hown hlast
  go_enter Trym.func12, Trym.ntmps12
  go_wp2_with fail
  refine key.out.mono ?_
  rintro e w' ⟨hb, v, m, rfl, ho⟩
  have HB : Hid (Below base w w') := hb
  have HO : Hid _ := ho
  clear hb ho key
  go_wp2_with fail
  go_ret
  exact ⟨HB.out, v, m, rfl, HO.out⟩
end Go.Proofs.Qxb6600872aMods.Pth
