/-
  Shared walks of the seat: bytes read from a slice, 'zzCloneBytes'.
-/
import Derived.Test.Qxb6600872aModsRows
import Derived.WalkKit
import Derived.WalkSpells
import Derived.WalkLawsBesides
import Derived.Deep.QuietTactic
import Derived.BigQuiet
import Derived.Lib.SliceRun
namespace Go.Proofs.Qxb6600872aMods.Byt
open Go.RowKit

/-- The slice whose elements begin at 'a' holds the bytes f 0, .., f (n - 1). -/
def RowB (w : World) (a : Option Addr) (f : Nat → Int) (n : Nat) : Prop :=
  ∀ j, j < n → ∃ b off, a = some ⟨b, off, none⟩ ∧ w.cell? ⟨b, off + j, none⟩ = some (.int .u8 (f j))

theorem ret_bool {a b : Bool} (h : a = b) : Ending.returned (.bool a) = .returned (.bool b) := by rw [h]
theorem cell_lt {w : World} {a : Addr} {v : Value} (hc : w.cell? a = some v) : a.block < w.heap.size := by
  unfold World.cell? at hc
  by_cases h : a.block < w.heap.size
  · exact h
  · exfalso
    rw [show w.heap[a.block]? = none from Array.getElem?_eq_none (by omega)] at hc
    simp at hc
theorem RowB.below {w w' : World} {a : Option Addr} {f : Nat → Int} {n : Nat} (h : RowB w a f n) (hb : Below w.heap.size w w') : RowB w' a f n := by
  intro j hj
  obtain ⟨b, off, rfl, hc⟩ := h j hj
  exact ⟨b, off, rfl, (hb.cell (p := ⟨b, off + j, none⟩) (cell_lt hc)).trans hc⟩
theorem RowB.drewN {w : World} {a : Option Addr} {f : Nat → Int} {n : Nat} (h : RowB w a f n) (q : Nat) : RowB (w.drewN q) a f n := h

theorem q22 : ∀ (w : World) (a : Option Addr) (n c n' c' : Nat), (binOp .eql 22 (.slice a n c) (.slice none n' c')).run Trym.prog w = .ok (.bool a.isNone) w := fun w a n c n' c' => Lib.run_eql_slice_nil w _ _ a n c n' c' Trym.underlying22
theorem info5 : (Trym.prog.info? 5).map (fun i => (i.zero, i.size, i.bytes)) = some (some (.int .u8 0), 1, 1) := by kernel_rfl

/-- What 'zzCloneBytes' leaves. -/
def Cloned (f : Nat → Int) (n : Nat) (w : World) (e : Ending) (w' : World) : Prop :=
  ∃ a' c', e = .returned (.slice a' n c') ∧ n ≤ c' ∧ c' ≤ maxLen ∧ RowB w' a' f n ∧ Below w.heap.size w w'

set_option maxHeartbeats 400000 in
theorem clone_nil (n c : Nat) (f : Nat → Int) (w : World) (hn : n = 0) (hc : c = 0) :
    Calls Trym.prog 7 #[.slice none n c] w fun e w' => Cloned f n w e w' := by
  subst hn hc
  have q := q22
  go_enter Trym.func7, Trym.ntmps7
  go_wp2
  go_ret
  exact ⟨none, 0, rfl, Nat.le_refl _, Nat.zero_le _, fun j hj => by omega, Below.refl _ _⟩

theorem clone_step {w wr : World} {n k : Nat} {f : Nat → Int} {xs : List Value} (hk : k < n)
    (hown : wr.ownsRow w.heap.size 5 1 (.slice (some ⟨w.heap.size, 0, none⟩) n n) n xs) (hx : ∀ j, j < k → xs[j]? = some (.int .u8 (f j))) (hb : Below w.heap.size w wr) :
    (wr.setCell ⟨w.heap.size, k, none⟩ (.int .u8 (f k))).ownsRow w.heap.size 5 1 (.slice (some ⟨w.heap.size, 0, none⟩) n n) n (xs.set k (.int .u8 (f k))) ∧
    (∀ j, j < k + 1 → (xs.set k (.int .u8 (f k)))[j]? = some (.int .u8 (f j))) ∧ Below w.heap.size w (wr.setCell ⟨w.heap.size, k, none⟩ (.int .u8 (f k))) := by
  refine ⟨(hown.stored k _).1, fun j hj => ?_, hb.setCell (Nat.le_refl _) _⟩
  have hl : xs.length = n * 1 := hown.1
  rw [List.getElem?_set]
  by_cases e : k = j
  · subst e; rw [if_pos rfl, if_pos (by omega)]
  · rw [if_neg e]; exact hx j (by omega)

set_option maxHeartbeats 400000 in
theorem clone_some (x : Addr) (n c : Nat) (f : Nat → Int) (w : World) (hn : n ≤ 4194304) (hr : RowB w (some x) f n) :
    Calls Trym.prog 7 #[.slice (some x) n c] w fun e w' => Cloned f n w e w' := by
  have HR : Hid (RowB w (some x) f n) := hr
  clear hr
  have q := q22
  obtain ⟨i5, hi, hz0, hz1, hz2⟩ := info_parts info5
  go_enter Trym.func7, Trym.ntmps7
  go_wp2_with (at_make; refine wpList_make_full _ rfl _ _ 22 rfl w.heap.size 5 i5 (.int .u8 0) 1 Trym.underlying22 hi hz0 hz1 _ _ _ _ n rfl rfl rfl rfl (by rw [hz2]; omega) (by unfold maxLen; omega) (Nat.le_refl _) ?_; intro w1 hown hgrow)
  have hb1 : Below w.heap.size w w1 := (Below.refl _ _).grown hgrow (Nat.le_refl _) (fun k h => by cases h)
  have HO : Hid (w1.ownsRow w.heap.size 5 1 (.slice (some ⟨w.heap.size, 0, none⟩) n n) n (madeCells (Value.int .u8 0).cells (n * 1)).toList) := hown
  clear hown hgrow
  go_loopw [4] (fun i wr => ∃ k : Nat, ∃ xs : List Value, k ≤ n ∧ i = .int .i64 k ∧ wr.ownsRow w.heap.size 5 1 (.slice (some ⟨w.heap.size, 0, none⟩) n n) n xs ∧ (∀ j, j < k → xs[j]? = some (.int .u8 (f j))) ∧ Below w.heap.size w wr) (fun i _ => n - (intOf i).toNat)
  case atStart => exact ⟨0, _, Nat.zero_le _, rfl, HO.out, fun j hj => by omega, hb1⟩
  case round =>
    obtain ⟨k, xs, hk, rfl, hown, hx, hb⟩ := hrel
    by_cases hlt : k < n
    · obtain ⟨b, off, hxe, hcell0⟩ := HR.out k hlt
      simp only [Option.some.injEq] at hxe
      subst hxe
      have hcell : wr.cell? ⟨b, off + k, none⟩ = some (.int .u8 (f k)) := (hb.cell (p := ⟨b, off + k, none⟩) (cell_lt hcell0)).trans hcell0
      obtain ⟨v, hv⟩ : ∃ v, wr.cell? ⟨w.heap.size, k, none⟩ = some v := by
        rw [hown.cellAt k (by omega)]
        exact ⟨_, List.getElem?_eq_getElem (by rw [hown.1]; omega)⟩
      have hfz := hown.frozenAt k
      have R : Hid _ := clone_step hlt hown hx hb
      clear hcell0 hx hown hb1
      go_wp2
      go_roundw
      case rel => exact ⟨k + 1, _, by omega, by go_num, R.out.1, R.out.2.1, R.out.2.2⟩
      case measure => simp [intOf]; omega
    · go_wp2
      go_ret
      refine ⟨_, _, rfl, Nat.le_refl _, by unfold maxLen; omega, fun j hj => ⟨_, 0, rfl, ?_⟩, hb⟩
      rw [Nat.zero_add, hown.cellAt j (by omega)]
      exact hx j (by omega)

theorem clone_any (a : Option Addr) (n c : Nat) (f : Nat → Int) (w : World) (hn : n ≤ 4194304) (hnil : a = none → n = 0 ∧ c = 0) (hr : RowB w a f n) :
    Calls Trym.prog 7 #[.slice a n c] w fun e w' => Cloned f n w e w' := by
  cases a with
  | none => exact clone_nil n c f w (hnil rfl).1 (hnil rfl).2
  | some x => exact clone_some x n c f w hn hr
end Go.Proofs.Qxb6600872aMods.Byt
