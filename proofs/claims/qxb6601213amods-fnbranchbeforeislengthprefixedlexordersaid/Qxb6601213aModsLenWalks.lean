/-
  The walks of 'lengthPrefixed', 'cmpText', 'cmpBytes'.
-/
import Derived.Test.Qxb6601213aModsBranch
import Derived.Deep.QuietTactic
import Derived.BigQuiet
namespace Go.Proofs.Qxb6601213aMods.Brn
open Go.RowKit
set_option linter.unusedVariables false

/-- The slice whose elements begin at 'a' holds the bytes f 0, .., f (n - 1). -/
def RowB (w : World) (a : Option Addr) (f : Nat → Int) (n : Nat) : Prop :=
  ∀ j, j < n → ∃ b off, a = some ⟨b, off, none⟩ ∧ w.cell? ⟨b, off + j, none⟩ = some (.int .u8 (f j))
theorem cell_lt {w : World} {a : Addr} {v : Value} (hc : w.cell? a = some v) : a.block < w.heap.size := by
  unfold World.cell? at hc
  by_cases h : a.block < w.heap.size
  · exact h
  · exfalso
    rw [show w.heap[a.block]? = none from Array.getElem?_eq_none (by omega)] at hc
    simp at hc
theorem RowB.below {w w' : World} {a : Option Addr} {f : Nat → Int} {n : Nat} (h : RowB w a f n) (hb : Below w.heap.size w w') : RowB w' a f n := by
  intro j hj
  obtain ⟨b, off, rfl, hc⟩ := h j hj
  exact ⟨b, off, rfl, (hb.cell (p := ⟨b, off + j, none⟩) (cell_lt hc)).trans hc⟩
theorem info5 : (Trym.prog.info? 5).map (fun i => (i.zero, i.size, i.bytes)) = some (some (.int .u8 0), 1, 1) := by kernel_rfl

/-- The byte at place j, as a number. -/
def byt (x : ByteArray) (j : Nat) : Int := ((x.data.toList.getD j 0).toNat : Int)
theorem byt_at (x : ByteArray) (k : Nat) (h : k < x.size) : byt x k = (x[k].toNat : Int) := by
  have hl : k < x.data.toList.length := by rw [Array.length_toList]; exact h
  unfold byt
  rw [List.getD_eq_getElem?_getD, List.getElem?_eq_getElem hl]
  rfl
/-- Four bytes of big-endian length, then the text. -/
def lpF (s : ByteArray) (j : Nat) : Int :=
  if j = 0 then (s.size : Int) / 16777216 else if j = 1 then (s.size : Int) / 65536 else if j = 2 then (s.size : Int) / 256 % 256 else if j = 3 then (s.size : Int) % 256 else byt s (j - 4)

/-- The new row inside 'lengthPrefixed'. -/
def LpInv (s : ByteArray) (w wr : World) (m : Nat) : Prop :=
  Below w.heap.size w wr ∧ ∃ xs, wr.ownsRow w.heap.size 5 1 (.slice (some ⟨w.heap.size, 0, none⟩) (4 + s.size) (4 + s.size)) (4 + s.size) xs ∧ ∀ j, j < m → xs[j]? = some (.int .u8 (lpF s j))
theorem LpInv.store {s : ByteArray} {w wr : World} {m : Nat} (h : LpInv s w wr m) (hm : m < 4 + s.size) {u : Int} (hu : u = lpF s m) : LpInv s w (wr.setCell ⟨w.heap.size, m, none⟩ (.int .u8 u)) (m + 1) := by
  obtain ⟨hb, xs, hown, hx⟩ := h
  refine ⟨hb.setCell (Nat.le_refl _) _, _, (hown.stored m _).1, fun j hj => ?_⟩
  have hl : xs.length = (4 + s.size) * 1 := hown.1
  rw [List.getElem?_set]
  by_cases e : m = j
  · subst e; rw [if_pos rfl, if_pos (by omega), hu]
  · rw [if_neg e]; exact hx j (by omega)
theorem LpInv.cell {s : ByteArray} {w wr : World} {m : Nat} (h : LpInv s w wr m) (j : Nat) (hj : j < 4 + s.size) : ∃ v, wr.cell? ⟨w.heap.size, j, none⟩ = some v := by
  obtain ⟨_, xs, hown, _⟩ := h
  rw [hown.cellAt j (by omega)]
  exact ⟨_, List.getElem?_eq_getElem (by rw [hown.1]; omega)⟩
theorem LpInv.frozen {s : ByteArray} {w wr : World} {m : Nat} (h : LpInv s w wr m) (j : Nat) : wr.frozen? ⟨w.heap.size, j, none⟩ = false := by
  obtain ⟨_, xs, hown, _⟩ := h
  exact hown.frozenAt j

/-- What 'lengthPrefixed' leaves. -/
def Lp (s : ByteArray) (w : World) (e : Ending) (w' : World) : Prop :=
  Below w.heap.size w w' ∧ e = .returned (.slice (some ⟨w.heap.size, 0, none⟩) (4 + s.size) (4 + s.size)) ∧ RowB w' (some ⟨w.heap.size, 0, none⟩) (lpF s) (4 + s.size)

set_option maxHeartbeats 400000 in
theorem lp_any (s : ByteArray) (w : World) (hs : s.size ≤ 131072) :
    Calls Trym.prog 14 #[.string s] w fun e w' => Lp s w e w' := by
  obtain ⟨i5, hi, hz0, hz1, hz2⟩ := info_parts info5
  go_enter Trym.func14, Trym.ntmps14
  go_wp2_with (at_make; refine wpList_make_full _ rfl _ _ 25 rfl w.heap.size 5 i5 (.int .u8 0) 1 Trym.underlying25 hi hz0 hz1 _ _ _ _ (4 + s.size) rfl rfl (by omega) (by omega) (by rw [hz2]; omega) (by unfold maxLen; omega) (Nat.le_refl _) ?_; intro w1 hown hgrow; have HV : Hid (LpInv s w w1 0) := ⟨(Below.refl _ _).grown hgrow (Nat.le_refl _) (fun k h => by cases h), _, hown, fun j hj => by omega⟩; obtain ⟨v0, hv0⟩ := HV.out.cell 0 (by omega); obtain ⟨v1, hv1⟩ := HV.out.cell 1 (by omega); obtain ⟨v2, hv2⟩ := HV.out.cell 2 (by omega); obtain ⟨v3, hv3⟩ := HV.out.cell 3 (by omega); have hf0 := HV.out.frozen 0; have hf1 := HV.out.frozen 1; have hf2 := HV.out.frozen 2; have hf3 := HV.out.frozen 3; clear hown hgrow)
  have H4 : Hid (LpInv s w _ 4) := (((HV.out.store (u := (s.size : Int) / 16777216) (by omega) rfl).store (u := (s.size : Int) / 65536) (by omega) rfl).store (u := (s.size : Int) / 256 % 256) (by omega) rfl).store (u := (s.size : Int) % 256) (by omega) rfl
  clear HV hv0 hv1 hv2 hv3 hf0 hf1 hf2 hf3
  go_loopw [5] (fun i wr => ∃ k : Nat, k ≤ s.size ∧ i = .int .i64 k ∧ LpInv s w wr (4 + k)) (fun i _ => s.size - (intOf i).toNat)
  case atStart => exact ⟨0, Nat.zero_le _, rfl, H4.out⟩
  case round =>
    obtain ⟨k, hk, rfl, hinv⟩ := hrel
    clear H4
    have HV : Hid (LpInv s w wr (4 + k)) := hinv
    clear hinv
    by_cases hlt : k < s.size
    · obtain ⟨v, hv⟩ := HV.out.cell (4 + k) (by omega)
      have hfz := HV.out.frozen (4 + k)
      have R : Hid (LpInv s w (wr.setCell ⟨w.heap.size, 4 + k, none⟩ (.int .u8 (s[k].toNat : Int))) (4 + k + 1)) := HV.out.store (by omega) (by unfold lpF; rw [if_neg (by omega), if_neg (by omega), if_neg (by omega), if_neg (by omega), show 4 + k - 4 = k from by omega, byt_at s k hlt])
      have hlt' : (4 : Int) + (k : Int) < 4 + (s.size : Int) := by omega
      go_wp2
      go_roundw
      case rel => exact ⟨k + 1, by omega, by go_num, R.out⟩
      case measure => simp [intOf]; omega
    · go_wp2
      go_ret
      obtain ⟨hb, xs, hown, hx⟩ := HV.out
      refine ⟨hb, rfl, fun j hj => ⟨_, _, rfl, ?_⟩⟩
      rw [Nat.zero_add, hown.cellAt j (by omega)]
      exact hx j (by omega)

theorem drew3 (w : World) (a b c : Nat) : ((w.drewN a).drewN b).drewN c = w.drewN (a + b + c) := by rw [World.drewN_drewN, World.drewN_drewN, Nat.add_assoc]
/-- The first sequence comes before the second, bytewise. -/
def LexLess (f : Nat → Int) (n : Nat) (g : Nat → Int) (m : Nat) : Prop :=
  ∃ k, (∀ j, j < k → f j = g j) ∧ k ≤ n ∧ k ≤ m ∧ ((k < n ∧ k < m ∧ f k < g k) ∨ (k = n ∧ n < m))
/-- The call has returned the comparison of the two. -/
def RetCmp (f : Nat → Int) (n : Nat) (g : Nat → Int) (m : Nat) (e : Ending) : Prop :=
  (e = .returned (.int .i64 (-1)) ∧ LexLess f n g m) ∨ (e = .returned (.int .i64 0) ∧ n = m ∧ ∀ j, j < n → f j = g j) ∨ (e = .returned (.int .i64 1) ∧ LexLess g m f n)
theorem same_succ {f g : Nat → Int} {k : Nat} (h : ∀ j, j < k → f j = g j) (e : f k = g k) : ∀ j, j < k + 1 → f j = g j := by
  intro j hj
  by_cases hjk : j = k
  · subst hjk; exact e
  · exact h j (by omega)

set_option maxHeartbeats 1000000 in
theorem textY (x y : ByteArray) (w : World) (hx : x.size ≤ maxLen) (hy : y.size ≤ maxLen) (h : y.size < x.size) :
    Calls Trym.prog 12 #[.string x, .string y] w fun e w' => RetCmp (byt x) x.size (byt y) y.size e ∧ ∃ q, w' = w.drewN q := by
  unfold maxLen at hx hy
  go_enter Trym.func12, Trym.ntmps12
  go_wp2
  go_loopw [6] (fun i wr => ∃ k q : Nat, k ≤ y.size ∧ i = .int .i64 k ∧ wr = w.drewN q ∧ ∀ j, j < k → (byt x) j = (byt y) j) (fun i _ => y.size - (intOf i).toNat)
  case atStart => exact ⟨0, 0, Nat.zero_le _, rfl, rfl, fun j hj => by omega⟩
  case round =>
    obtain ⟨k, q, hk, rfl, rfl, hs⟩ := hrel
    have HS : Hid (∀ j, j < k → (byt x) j = (byt y) j) := hs
    clear hs
    by_cases hlt : k < y.size
    · have h1x : k < x.size := by omega
      have h1y : k < y.size := by omega
      have EX : Hid (byt x k = (x[k].toNat : Int)) := byt_at x k h1x
      have EY : Hid (byt y k = (y[k].toNat : Int)) := byt_at y k h1y
      have hkx : (k : Int) < (x.size : Int) := by omega
      have hky : (k : Int) < (y.size : Int) := by omega
      cases he : ((x[k].toNat : Int) == (y[k].toNat : Int)) with
      | true =>
        have HE : Hid (((x[k].toNat : Int) == (y[k].toNat : Int)) = true) := he
        go_wp2
        go_quiet (fail)
        go_wp2
        go_roundw
        case rel => exact ⟨k + 1, _, by omega, by go_num, rfl, same_succ HS.out (by rw [EX.out, EY.out]; exact eq_of_beq HE.out)⟩
        case measure => simp [intOf]; omega
      | false =>
        have HE : Hid (¬ (x[k].toNat : Int) = (y[k].toNat : Int)) := beq_eq_false_iff_ne.1 he
        by_cases hl : (x[k].toNat : Int) < (y[k].toNat : Int)
        · have HL : Hid ((x[k].toNat : Int) < (y[k].toNat : Int)) := hl
          go_wp2
          go_quiet (fail)
          go_wp2
          go_quiet (fail)
          go_wp2
          go_ret
          exact ⟨.inl ⟨rfl, k, HS.out, by omega, by omega, .inl ⟨by omega, by omega, by rw [EX.out, EY.out]; exact HL.out⟩⟩, _, drew3 _ _ _ _⟩
        · have HL : Hid (¬ (x[k].toNat : Int) < (y[k].toNat : Int)) := hl
          go_wp2
          go_quiet (fail)
          go_wp2
          go_quiet (fail)
          go_wp2
          go_ret
          exact ⟨.inr (.inr ⟨rfl, k, fun j hj => (HS.out j hj).symm, by omega, by omega, .inl ⟨by omega, by omega, by rw [EX.out, EY.out]; have h1 := HL.out; have h2 := HE.out; omega⟩⟩), _, drew3 _ _ _ _⟩
    · by_cases h1 : (x.size : Int) < (y.size : Int)
      · go_wp2
        go_ret
        exact ⟨.inl ⟨rfl, x.size, fun j hj => HS.out j (by omega), by omega, by omega, .inr ⟨rfl, by omega⟩⟩, _, rfl⟩
      · by_cases h2 : (y.size : Int) < (x.size : Int)
        · go_wp2
          go_ret
          exact ⟨.inr (.inr ⟨rfl, y.size, fun j hj => (HS.out j (by omega)).symm, by omega, by omega, .inr ⟨rfl, by omega⟩⟩), _, rfl⟩
        · go_wp2
          go_ret
          exact ⟨.inr (.inl ⟨rfl, by omega, fun j hj => HS.out j (by omega)⟩), _, rfl⟩

set_option maxHeartbeats 1000000 in
theorem textX (x y : ByteArray) (w : World) (hx : x.size ≤ maxLen) (hy : y.size ≤ maxLen) (h : ¬ y.size < x.size) :
    Calls Trym.prog 12 #[.string x, .string y] w fun e w' => RetCmp (byt x) x.size (byt y) y.size e ∧ ∃ q, w' = w.drewN q := by
  unfold maxLen at hx hy
  go_enter Trym.func12, Trym.ntmps12
  go_wp2
  go_loopw [6] (fun i wr => ∃ k q : Nat, k ≤ x.size ∧ i = .int .i64 k ∧ wr = w.drewN q ∧ ∀ j, j < k → (byt x) j = (byt y) j) (fun i _ => x.size - (intOf i).toNat)
  case atStart => exact ⟨0, 0, Nat.zero_le _, rfl, rfl, fun j hj => by omega⟩
  case round =>
    obtain ⟨k, q, hk, rfl, rfl, hs⟩ := hrel
    have HS : Hid (∀ j, j < k → (byt x) j = (byt y) j) := hs
    clear hs
    by_cases hlt : k < x.size
    · have h1x : k < x.size := by omega
      have h1y : k < y.size := by omega
      have EX : Hid (byt x k = (x[k].toNat : Int)) := byt_at x k h1x
      have EY : Hid (byt y k = (y[k].toNat : Int)) := byt_at y k h1y
      have hkx : (k : Int) < (x.size : Int) := by omega
      have hky : (k : Int) < (y.size : Int) := by omega
      cases he : ((x[k].toNat : Int) == (y[k].toNat : Int)) with
      | true =>
        have HE : Hid (((x[k].toNat : Int) == (y[k].toNat : Int)) = true) := he
        go_wp2
        go_quiet (fail)
        go_wp2
        go_roundw
        case rel => exact ⟨k + 1, _, by omega, by go_num, rfl, same_succ HS.out (by rw [EX.out, EY.out]; exact eq_of_beq HE.out)⟩
        case measure => simp [intOf]; omega
      | false =>
        have HE : Hid (¬ (x[k].toNat : Int) = (y[k].toNat : Int)) := beq_eq_false_iff_ne.1 he
        by_cases hl : (x[k].toNat : Int) < (y[k].toNat : Int)
        · have HL : Hid ((x[k].toNat : Int) < (y[k].toNat : Int)) := hl
          go_wp2
          go_quiet (fail)
          go_wp2
          go_quiet (fail)
          go_wp2
          go_ret
          exact ⟨.inl ⟨rfl, k, HS.out, by omega, by omega, .inl ⟨by omega, by omega, by rw [EX.out, EY.out]; exact HL.out⟩⟩, _, drew3 _ _ _ _⟩
        · have HL : Hid (¬ (x[k].toNat : Int) < (y[k].toNat : Int)) := hl
          go_wp2
          go_quiet (fail)
          go_wp2
          go_quiet (fail)
          go_wp2
          go_ret
          exact ⟨.inr (.inr ⟨rfl, k, fun j hj => (HS.out j hj).symm, by omega, by omega, .inl ⟨by omega, by omega, by rw [EX.out, EY.out]; have h1 := HL.out; have h2 := HE.out; omega⟩⟩), _, drew3 _ _ _ _⟩
    · by_cases h1 : (x.size : Int) < (y.size : Int)
      · go_wp2
        go_ret
        exact ⟨.inl ⟨rfl, x.size, fun j hj => HS.out j (by omega), by omega, by omega, .inr ⟨rfl, by omega⟩⟩, _, rfl⟩
      · by_cases h2 : (y.size : Int) < (x.size : Int)
        · go_wp2
          go_ret
          exact ⟨.inr (.inr ⟨rfl, y.size, fun j hj => (HS.out j (by omega)).symm, by omega, by omega, .inr ⟨rfl, by omega⟩⟩), _, rfl⟩
        · go_wp2
          go_ret
          exact ⟨.inr (.inl ⟨rfl, by omega, fun j hj => HS.out j (by omega)⟩), _, rfl⟩

set_option maxHeartbeats 1000000 in
theorem bytesY (a b : Option Addr) (n m c d : Nat) (f g : Nat → Int) (w : World) (hx : n ≤ maxLen) (hy : m ≤ maxLen) (hf : RowB w a f n) (hg : RowB w b g m) (h : m < n) :
    Calls Trym.prog 13 #[.slice a n c, .slice b m d] w fun e w' => RetCmp f n g m e ∧ ∃ q, w' = w.drewN q := by
  unfold maxLen at hx hy
  have HF : Hid (RowB w a f n) := hf
  have HG : Hid (RowB w b g m) := hg
  clear hf hg
  go_enter Trym.func13, Trym.ntmps13
  go_wp2
  go_loopw [6] (fun i wr => ∃ k q : Nat, k ≤ m ∧ i = .int .i64 k ∧ wr = w.drewN q ∧ ∀ j, j < k → f j = g j) (fun i _ => m - (intOf i).toNat)
  case atStart => exact ⟨0, 0, Nat.zero_le _, rfl, rfl, fun j hj => by omega⟩
  case round =>
    obtain ⟨k, q, hk, rfl, rfl, hs⟩ := hrel
    have HS : Hid (∀ j, j < k → f j = g j) := hs
    clear hs
    by_cases hlt : k < m
    · obtain ⟨b1, off1, rfl, hc1⟩ := HF.out k (by omega)
      obtain ⟨b2, off2, rfl, hc2⟩ := HG.out k (by omega)
      obtain ⟨u, hu⟩ : ∃ u, f k = u := ⟨_, rfl⟩
      obtain ⟨v, hv⟩ : ∃ v, g k = v := ⟨_, rfl⟩
      rw [hu] at hc1
      rw [hv] at hc2
      have EX : Hid (f k = u) := hu
      have EY : Hid (g k = v) := hv
      clear hu hv
      have hkx : (k : Int) < (n : Int) := by omega
      have hky : (k : Int) < (m : Int) := by omega
      cases he : (u == v) with
      | true =>
        have HE : Hid ((u == v) = true) := he
        go_wp2
        go_quiet (fail)
        go_wp2
        go_roundw
        case rel => exact ⟨k + 1, _, by omega, by go_num, rfl, same_succ HS.out (by rw [EX.out, EY.out]; exact eq_of_beq HE.out)⟩
        case measure => simp [intOf]; omega
      | false =>
        have HE : Hid (¬ u = v) := beq_eq_false_iff_ne.1 he
        by_cases hl : u < v
        · have HL : Hid (u < v) := hl
          go_wp2
          go_quiet (fail)
          go_wp2
          go_quiet (fail)
          go_wp2
          go_ret
          exact ⟨.inl ⟨rfl, k, HS.out, by omega, by omega, .inl ⟨by omega, by omega, by rw [EX.out, EY.out]; exact HL.out⟩⟩, _, drew3 _ _ _ _⟩
        · have HL : Hid (¬ u < v) := hl
          go_wp2
          go_quiet (fail)
          go_wp2
          go_quiet (fail)
          go_wp2
          go_ret
          exact ⟨.inr (.inr ⟨rfl, k, fun j hj => (HS.out j hj).symm, by omega, by omega, .inl ⟨by omega, by omega, by rw [EX.out, EY.out]; have h1 := HL.out; have h2 := HE.out; omega⟩⟩), _, drew3 _ _ _ _⟩
    · by_cases h1 : (n : Int) < (m : Int)
      · go_wp2
        go_ret
        exact ⟨.inl ⟨rfl, n, fun j hj => HS.out j (by omega), by omega, by omega, .inr ⟨rfl, by omega⟩⟩, _, rfl⟩
      · by_cases h2 : (m : Int) < (n : Int)
        · go_wp2
          go_ret
          exact ⟨.inr (.inr ⟨rfl, m, fun j hj => (HS.out j (by omega)).symm, by omega, by omega, .inr ⟨rfl, by omega⟩⟩), _, rfl⟩
        · go_wp2
          go_ret
          exact ⟨.inr (.inl ⟨rfl, by omega, fun j hj => HS.out j (by omega)⟩), _, rfl⟩

set_option maxHeartbeats 1000000 in
theorem bytesX (a b : Option Addr) (n m c d : Nat) (f g : Nat → Int) (w : World) (hx : n ≤ maxLen) (hy : m ≤ maxLen) (hf : RowB w a f n) (hg : RowB w b g m) (h : ¬ m < n) :
    Calls Trym.prog 13 #[.slice a n c, .slice b m d] w fun e w' => RetCmp f n g m e ∧ ∃ q, w' = w.drewN q := by
  unfold maxLen at hx hy
  have HF : Hid (RowB w a f n) := hf
  have HG : Hid (RowB w b g m) := hg
  clear hf hg
  go_enter Trym.func13, Trym.ntmps13
  go_wp2
  go_loopw [6] (fun i wr => ∃ k q : Nat, k ≤ n ∧ i = .int .i64 k ∧ wr = w.drewN q ∧ ∀ j, j < k → f j = g j) (fun i _ => n - (intOf i).toNat)
  case atStart => exact ⟨0, 0, Nat.zero_le _, rfl, rfl, fun j hj => by omega⟩
  case round =>
    obtain ⟨k, q, hk, rfl, rfl, hs⟩ := hrel
    have HS : Hid (∀ j, j < k → f j = g j) := hs
    clear hs
    by_cases hlt : k < n
    · obtain ⟨b1, off1, rfl, hc1⟩ := HF.out k (by omega)
      obtain ⟨b2, off2, rfl, hc2⟩ := HG.out k (by omega)
      obtain ⟨u, hu⟩ : ∃ u, f k = u := ⟨_, rfl⟩
      obtain ⟨v, hv⟩ : ∃ v, g k = v := ⟨_, rfl⟩
      rw [hu] at hc1
      rw [hv] at hc2
      have EX : Hid (f k = u) := hu
      have EY : Hid (g k = v) := hv
      clear hu hv
      have hkx : (k : Int) < (n : Int) := by omega
      have hky : (k : Int) < (m : Int) := by omega
      cases he : (u == v) with
      | true =>
        have HE : Hid ((u == v) = true) := he
        go_wp2
        go_quiet (fail)
        go_wp2
        go_roundw
        case rel => exact ⟨k + 1, _, by omega, by go_num, rfl, same_succ HS.out (by rw [EX.out, EY.out]; exact eq_of_beq HE.out)⟩
        case measure => simp [intOf]; omega
      | false =>
        have HE : Hid (¬ u = v) := beq_eq_false_iff_ne.1 he
        by_cases hl : u < v
        · have HL : Hid (u < v) := hl
          go_wp2
          go_quiet (fail)
          go_wp2
          go_quiet (fail)
          go_wp2
          go_ret
          exact ⟨.inl ⟨rfl, k, HS.out, by omega, by omega, .inl ⟨by omega, by omega, by rw [EX.out, EY.out]; exact HL.out⟩⟩, _, drew3 _ _ _ _⟩
        · have HL : Hid (¬ u < v) := hl
          go_wp2
          go_quiet (fail)
          go_wp2
          go_quiet (fail)
          go_wp2
          go_ret
          exact ⟨.inr (.inr ⟨rfl, k, fun j hj => (HS.out j hj).symm, by omega, by omega, .inl ⟨by omega, by omega, by rw [EX.out, EY.out]; have h1 := HL.out; have h2 := HE.out; omega⟩⟩), _, drew3 _ _ _ _⟩
    · by_cases h1 : (n : Int) < (m : Int)
      · go_wp2
        go_ret
        exact ⟨.inl ⟨rfl, n, fun j hj => HS.out j (by omega), by omega, by omega, .inr ⟨rfl, by omega⟩⟩, _, rfl⟩
      · by_cases h2 : (m : Int) < (n : Int)
        · go_wp2
          go_ret
          exact ⟨.inr (.inr ⟨rfl, m, fun j hj => (HS.out j (by omega)).symm, by omega, by omega, .inr ⟨rfl, by omega⟩⟩), _, rfl⟩
        · go_wp2
          go_ret
          exact ⟨.inr (.inl ⟨rfl, by omega, fun j hj => HS.out j (by omega)⟩), _, rfl⟩


theorem cmpText_any (x y : ByteArray) (w : World) (hx : x.size ≤ maxLen) (hy : y.size ≤ maxLen) :
    Calls Trym.prog 12 #[.string x, .string y] w fun e w' => RetCmp (byt x) x.size (byt y) y.size e ∧ ∃ q, w' = w.drewN q := by
  by_cases h : y.size < x.size
  · exact textY x y w hx hy h
  · exact textX x y w hx hy h
theorem cmpBytes_any (a b : Option Addr) (n m c d : Nat) (f g : Nat → Int) (w : World) (hx : n ≤ maxLen) (hy : m ≤ maxLen) (hf : RowB w a f n) (hg : RowB w b g m) :
    Calls Trym.prog 13 #[.slice a n c, .slice b m d] w fun e w' => RetCmp f n g m e ∧ ∃ q, w' = w.drewN q := by
  by_cases h : m < n
  · exact bytesY a b n m c d f g w hx hy hf hg h
  · exact bytesX a b n m c d f g w hx hy hf hg h
end Go.Proofs.Qxb6601213aMods.Brn
