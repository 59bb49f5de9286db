/-
  The walks behind 'FnRefIsTheWholeListBranchesFirst', second part: 'toRefs'.
-/
import Derived.Test.Qxb6601599aModsGuards
import Derived.Deep.RegionHeld3
import Derived.Deep.AppendLies
import Derived.RegionTactic
import Derived.BigRegion
namespace Go.Proofs.Qxb6601599aMods.Rfs
open Go.RowKit
set_option linter.unusedVariables false

theorem q22 : ∀ (w : World) (a : Option Addr) (n c n' c' : Nat), (binOp .eql 22 (.slice a n c) (.slice none n' c')).run Trym.prog w = .ok (.bool a.isNone) w := fun w a n c n' c' => Lib.run_eql_slice_nil w _ _ a n c n' c' Trym.underlying22
theorem info35 : (Trym.prog.info? 35).map (fun i => (i.zero, i.size, i.bytes)) = some (some (.agg #[.string ByteArray.empty, .string ByteArray.empty]), 2, 32) := by kernel_rfl

/-- The new row inside 'toRefs'. -/
def TrInv (f g : Nat → ByteArray) (n : Nat) (w wr : World) (m : Nat) : Prop :=
  Below w.heap.size w wr ∧ ∃ xs, wr.ownsRow w.heap.size 35 2 (.slice (some ⟨w.heap.size, 0, none⟩) n n) n xs ∧ ∀ j, j < m → xs[j * 2]? = some (.string (f j)) ∧ xs[j * 2 + 1]? = some (.string (g j))
theorem TrInv.cell {f g : Nat → ByteArray} {n : Nat} {w wr : World} {m : Nat} (h : TrInv f g n w wr m) (j : Nat) (hj : j < n * 2) : ∃ v, wr.cell? ⟨w.heap.size, j, none⟩ = some v := by
  obtain ⟨_, xs, hown, _⟩ := h
  rw [hown.cellAt j hj]
  exact ⟨_, List.getElem?_eq_getElem (by rw [hown.1]; exact hj)⟩
theorem TrInv.frozen {f g : Nat → ByteArray} {n : Nat} {w wr : World} {m : Nat} (h : TrInv f g n w wr m) (j : Nat) : wr.frozen? ⟨w.heap.size, j, none⟩ = false := by
  obtain ⟨_, xs, hown, _⟩ := h
  exact hown.frozenAt j

theorem TrInv.store2 {f g : Nat → ByteArray} {n : Nat} {w wr : World} {k : Nat} (h : TrInv f g n w wr k) (hk : k < n) :
    TrInv f g n w ((wr.setCell ⟨w.heap.size, k * 2, none⟩ (.string (f k))).setCell ⟨w.heap.size, k * 2 + 1, none⟩ (.string (g k))).drew (k + 1) := by
  obtain ⟨hb, xs, hown, hx⟩ := h
  have hl : xs.length = n * 2 := hown.1
  refine ⟨((hb.setCell (Nat.le_refl _) _).setCell (Nat.le_refl _) _).drew, _, (((hown.stored (k * 2) _).1.stored (k * 2 + 1) _).1).drew, fun j hj => ?_⟩
  rw [List.getElem?_set, List.getElem?_set, List.getElem?_set, List.getElem?_set]
  by_cases e : j = k
  · subst e
    refine ⟨?_, ?_⟩
    · rw [if_neg (by omega), if_pos rfl, if_pos (by omega)]
    · rw [if_pos rfl, if_pos (by simp; omega)]
  · have := hx j (by omega)
    refine ⟨?_, ?_⟩
    · rw [if_neg (by omega), if_neg (by omega)]; exact this.1
    · rw [if_neg (by omega), if_neg (by omega)]; exact this.2

/-- What 'toRefs' leaves. -/
def Refs (f g : Nat → ByteArray) (n : Nat) (w : World) (e : Ending) (w' : World) : Prop :=
  ∃ a' c', e = .returned (.slice a' n c') ∧ RowR w' a' f g n ∧ Below w.heap.size w w'

set_option maxHeartbeats 400000 in
theorem toRefs_nil (n c : Nat) (f g : Nat → ByteArray) (w : World) (hn : n = 0) (hc : c = 0) :
    Calls Trym.prog 14 #[.slice none n c] w fun e w' => Refs f g n w e w' := by
  subst hn hc
  have q := q22
  go_enter Trym.func14, Trym.ntmps14
  go_wp2
  go_ret
  exact ⟨none, 0, rfl, fun j hj => by omega, Below.refl _ _⟩

set_option maxHeartbeats 1000000 in
theorem toRefs_some (x : Addr) (n c : Nat) (f g : Nat → ByteArray) (w : World) (hn : n ≤ 1048576) (hr : RowR w (some x) f g n) :
    Calls Trym.prog 14 #[.slice (some x) n c] w fun e w' => Refs f g n w e w' := by
  have HR : Hid (RowR w (some x) f g n) := hr
  clear hr
  have q := q22
  obtain ⟨i35, hi, hz0, hz1, hz2⟩ := info_parts info35
  go_enter Trym.func14, Trym.ntmps14
  go_wp2_with (at_make; refine wpList_make_full _ rfl _ _ 30 rfl w.heap.size 35 i35 _ 2 Trym.underlying30 hi hz0 hz1 _ _ _ _ n rfl rfl rfl rfl (by rw [hz2]; omega) (by unfold maxLen; omega) (Nat.le_refl _) ?_; intro w1 hown hgrow)
  have HV : Hid (TrInv f g n w w1 0) := ⟨(Below.refl _ _).grown hgrow (Nat.le_refl _) (fun k h => by cases h), _, hown, fun j hj => by omega⟩
  clear hown hgrow
  go_loopw [4] (fun i wr => ∃ k : Nat, k ≤ n ∧ i = .int .i64 k ∧ TrInv f g n w wr k) (fun i _ => n - (intOf i).toNat)
  case atStart => exact ⟨0, Nat.zero_le _, rfl, HV.out⟩
  case round =>
    obtain ⟨k, hk, rfl, hinv⟩ := hrel
    clear HV
    have HV : Hid (TrInv f g n w wr k) := hinv
    clear hinv
    by_cases hlt : k < n
    · obtain ⟨b, off, hxe, hc1', hc2'⟩ := HR.out k hlt
      simp only [Option.some.injEq] at hxe
      subst hxe
      have hc1 : wr.cell? ⟨b, off + k * 2, none⟩ = some (.string (f k)) := (HV.out.1.cell (p := ⟨b, off + k * 2, none⟩) (cell_lt hc1')).trans hc1'
      have hc2 : wr.cell? ⟨b, off + k * 2 + 1, none⟩ = some (.string (g k)) := (HV.out.1.cell (p := ⟨b, off + k * 2 + 1, none⟩) (cell_lt hc2')).trans hc2'
      obtain ⟨v1, hv1⟩ := HV.out.cell (k * 2) (by omega)
      obtain ⟨v2, hv2⟩ := HV.out.cell (k * 2 + 1) (by omega)
      have hf1 := HV.out.frozen (k * 2)
      have hf2 := HV.out.frozen (k * 2 + 1)
      have hlt' : (k : Int) < (n : Int) := by omega
      clear hc1' hc2'
      go_wp2
      go_region
      go_wp2
      go_roundw
      case rel =>
        refine ⟨k + 1, by omega, by go_num, ?_⟩
        exact HV.out.store2 hlt
      case measure => simp [intOf]; omega
    · go_wp2
      go_ret
      obtain ⟨hb, xs, hown, hx⟩ := HV.out
      refine ⟨_, _, rfl, fun j hj => ⟨_, 0, rfl, ?_, ?_⟩, hb⟩
      · rw [Nat.zero_add, hown.cellAt (j * 2) (by omega)]
        exact (hx j (by omega)).1
      · rw [Nat.zero_add, hown.cellAt (j * 2 + 1) (by omega)]
        exact (hx j (by omega)).2

theorem toRefs_any (a : Option Addr) (n c : Nat) (f g : Nat → ByteArray) (w : World) (hn : n ≤ 1048576) (hnil : a = none → n = 0 ∧ c = 0) (hr : RowR w a f g n) :
    Calls Trym.prog 14 #[.slice a n c] w fun e w' => Refs f g n w e w' := by
  cases a with
  | none => exact toRefs_nil n c f g w (hnil rfl).1 (hnil rfl).2
  | some x => exact toRefs_some x n c f g w hn hr

set_option maxHeartbeats 1000000 in
theorem sameRef_any (s t : ByteArray) (w : World) :
    Calls Trym.prog 17 #[.agg #[.string s, .string t], .agg #[.string s, .string t]] w fun e w' => e = .returned (.bool true) ∧ Below w.heap.size w w' := by
  go_enter Trym.func17, Trym.ntmps17
  go_wp2
  go_ret
  exact ⟨rfl, ((Below.refl _ _).alloc (Nat.le_refl _) _).alloc (by simp) _⟩

set_option maxHeartbeats 1000000 in
theorem ref_b (R k n1 c1 n2 c2 : Nat) (a1 a2 : Option Addr) (f1 g1 f2 g2 : Nat → ByteArray) (w : World) (hk : k < n1) (hn1 : n1 ≤ 1048576)
    (hsz : (f1 k).size ≤ 1048576) (h0 : w.cell? ⟨R, 0, none⟩ = some (.slice a1 n1 c1)) (h1 : w.cell? ⟨R, 1, none⟩ = some (.slice a2 n2 c2)) (hr1 : RowR w a1 f1 g1 n1) :
    Calls Trym.prog 32 #[.agg #[.pointer (some ⟨R, 0, none⟩)], .int .i64 k] w fun e w' => e = .returned (.tuple #[.agg #[.string (f1 k), .string (g1 k)], .string (ByteArray.mk #[114, 101, 102, 115, 47, 104, 101, 97, 100, 115, 47] ++ f1 k), .bool false]) ∧ Below w.heap.size w w' := by
  obtain ⟨b, off, rfl, hc1, hc2⟩ := hr1 k hk
  clear hr1
  have hRl : R < w.heap.size := cell_lt h0
  have hbl : b < w.heap.size := cell_lt hc1
  have hlt : (k : Int) < (n1 : Int) := by omega
  go_enter Trym.func32, Trym.ntmps32
  go_wp2
  go_region
  all_goals
    try go_wp2
    refine bodyPost_ret (v := .tuple #[.agg #[.string (f1 k), .string (g1 k)], .string (ByteArray.mk #[114, 101, 102, 115, 47, 104, 101, 97, 100, 115, 47] ++ f1 k), .bool false]) (by simp [results, Trym.results32, go_sem]) rfl ⟨rfl, ?_⟩
    exact ((((Below.refl _ _).alloc (Nat.le_refl _) _).alloc (by simp) _).alloc (by simp; omega) _).drew

theorem pair_at {W : World} {B : Nat} (hB : B < W.heap.size) {u v : Value} (h0 : W.cell? ⟨B, 0, none⟩ = some u) (h1 : W.cell? ⟨B, 1, none⟩ = some v) (x y : Value) (o : Obj) :
    (((W.setCell ⟨B, 0, none⟩ x).setCell ⟨B, 1, none⟩ y).alloc o).cell? ⟨B, 0, none⟩ = some x ∧ (((W.setCell ⟨B, 0, none⟩ x).setCell ⟨B, 1, none⟩ y).alloc o).cell? ⟨B, 1, none⟩ = some y := by
  have g0 : (W.setCell ⟨B, 0, none⟩ x).cell? ⟨B, 0, none⟩ = some x := World.cell?_setCell_same _ _ _ h0
  have g1 : (W.setCell ⟨B, 0, none⟩ x).cell? ⟨B, 1, none⟩ = some v := (World.cell?_setCell_other _ _ _ _ (by simp)).trans h1
  constructor
  · rw [World.cell?_alloc_past _ _ _ (by simpa using hB), World.cell?_setCell_other _ _ _ _ (by simp)]; exact g0
  · rw [World.cell?_alloc_past _ _ _ (by simpa using hB)]; exact World.cell?_setCell_same _ _ _ g1

set_option maxHeartbeats 1000000 in
theorem ref_t (R k n1 c1 n2 c2 : Nat) (a1 a2 : Option Addr) (f1 g1 f2 g2 : Nat → ByteArray) (w : World) (hk : n1 ≤ k) (hk2 : k - n1 < n2) (hn1 : n1 ≤ 1048576) (hn2 : n2 ≤ 1048576)
    (hsz : (f2 (k - n1)).size ≤ 1048576) (h0 : w.cell? ⟨R, 0, none⟩ = some (.slice a1 n1 c1)) (h1 : w.cell? ⟨R, 1, none⟩ = some (.slice a2 n2 c2)) (hr2 : RowR w a2 f2 g2 n2) :
    Calls Trym.prog 32 #[.agg #[.pointer (some ⟨R, 0, none⟩)], .int .i64 k] w fun e w' => e = .returned (.tuple #[.agg #[.string (f2 (k - n1)), .string (g2 (k - n1))], .string (ByteArray.mk #[114, 101, 102, 115, 47, 116, 97, 103, 115, 47] ++ f2 (k - n1)), .bool true]) ∧ Below w.heap.size w w' := by
  obtain ⟨j, hj⟩ : ∃ j, k - n1 = j := ⟨_, rfl⟩
  rw [hj] at hk2 hsz ⊢
  obtain ⟨b, off, rfl, hc1, hc2⟩ := hr2 j hk2
  obtain rfl : k = n1 + j := by omega
  clear hr2 hj
  have hRl : R < w.heap.size := cell_lt h0
  have hbl : b < w.heap.size := cell_lt hc1
  have hlt : (j : Int) < (n2 : Int) := by omega
  have hd : decide (((n1 + j : Nat) : Int) < (n1 : Int)) = false := decide_eq_false (by omega)
  obtain ⟨s, hs⟩ : ∃ s, s = f2 j := ⟨_, rfl⟩
  obtain ⟨t, ht⟩ : ∃ t, t = g2 j := ⟨_, rfl⟩
  rw [← hs] at hc1 hsz ⊢
  rw [← ht] at hc2 ⊢
  clear hs ht
  go_enter Trym.func32, Trym.ntmps32
  go_wp2
  obtain ⟨W, hW⟩ : ∃ W, W = (w.alloc (Obj.cells #[Value.pointer (some ⟨R, 0, none⟩)] 59)).alloc (Obj.cells #[Value.string ⟨#[]⟩, Value.string ⟨#[]⟩] 35) := ⟨_, rfl⟩
  rw [← hW]
  have hBW : Below w.heap.size w W := by rw [hW]; exact ((Below.refl _ _).alloc (Nat.le_refl _) _).alloc (by simp) _
  have hWs : W.heap.size = w.heap.size + 2 := by rw [hW]; simp
  have k0 : W.cell? ⟨w.heap.size, 0, none⟩ = some (.pointer (some ⟨R, 0, none⟩)) := by rw [hW]; simp
  have k1 : W.cell? ⟨R, 0, none⟩ = some (.slice a1 n1 c1) := (hBW.cell (p := ⟨R, 0, none⟩) hRl).trans h0
  have k2 : W.cell? ⟨R, 1, none⟩ = some (.slice (some ⟨b, off, none⟩) n2 c2) := (hBW.cell (p := ⟨R, 1, none⟩) hRl).trans h1
  have k3 : W.cell? ⟨b, off + j * 2, none⟩ = some (.string s) := (hBW.cell (p := ⟨b, off + j * 2, none⟩) hbl).trans hc1
  have k4 : W.cell? ⟨b, off + j * 2 + 1, none⟩ = some (.string t) := (hBW.cell (p := ⟨b, off + j * 2 + 1, none⟩) hbl).trans hc2
  have k5 : W.cell? ⟨w.heap.size + 1, 0, none⟩ = some (.string ⟨#[]⟩) := by rw [hW]; simp
  have k6 : W.cell? ⟨w.heap.size + 1, 1, none⟩ = some (.string ⟨#[]⟩) := by rw [hW]; simp
  have k7 : W.frozen? ⟨w.heap.size + 1, 0, none⟩ = false := by rw [hW]; simp
  have k8 : W.frozen? ⟨w.heap.size + 1, 1, none⟩ = false := by rw [hW]; simp
  have HBW : Hid (Below w.heap.size w W) := hBW
  have hWl : w.heap.size + 1 < W.heap.size := by omega
  clear hW hBW hWs
  have l1 : W.heap.size ≠ R := by omega
  have l2 : W.heap.size ≠ b := by omega
  have l3 : W.heap.size ≠ w.heap.size := by omega
  have l4 : W.heap.size ≠ w.heap.size + 1 := by omega
  have hwrap : IntKind.i64.wrap ((n1 : Int) + (j : Int) - (n1 : Int)) = (j : Int) := by rw [IntWalk.i64_in _ (by omega)]; omega
  go_region_held3 (fun w' => w'.cell? ⟨w.heap.size, 0, none⟩ = some (.pointer (some ⟨R, 0, none⟩)) ∧ w'.cell? ⟨R, 0, none⟩ = some (.slice a1 n1 c1) ∧ w'.cell? ⟨R, 1, none⟩ = some (.slice (some ⟨b, off, none⟩) n2 c2) ∧ w'.cell? ⟨b, off + j * 2, none⟩ = some (.string s) ∧ w'.cell? ⟨b, off + j * 2 + 1, none⟩ = some (.string t)) (go_keep) (fail)
  clear hwrap
  go_wp2
  go_region
  try go_wp2
  obtain ⟨r0, r1⟩ := pair_at hWl k5 k6 (.string s) (.string t) (Obj.cells #[Value.string s, Value.string t] 35)
  refine bodyPost_ret (v := .tuple #[.agg #[.string s, .string t], .string (ByteArray.mk #[114, 101, 102, 115, 47, 116, 97, 103, 115, 47] ++ s), .bool true]) (by simp [results, Trym.results32, go_sem, r0, r1]) rfl ⟨rfl, ?_⟩
  exact ((((HBW.out.setCell (by simp) _).setCell (by simp) _).alloc (by simp; omega) _).drew).drew
end Go.Proofs.Qxb6601599aMods.Rfs
