/-
  The walks behind 'FnRefIsTheWholeListBranchesFirst', third part: 'ZZRef'.
-/
import Derived.Test.Qxb6601599aModsToRefs
namespace Go.Proofs.Qxb6601599aMods.Rfs
open Go.RowKit
set_option linter.unusedVariables false

/-- Row k of the branches, else row k - n1 of the tags. -/
def nth (f1 f2 : Nat → ByteArray) (n1 k : Nat) : ByteArray := if k < n1 then f1 k else f2 (k - n1)
/-- The full name of row k. -/
def full (f1 f2 : Nat → ByteArray) (n1 k : Nat) : ByteArray :=
  if k < n1 then ByteArray.mk #[114, 101, 102, 115, 47, 104, 101, 97, 100, 115, 47] ++ f1 k else ByteArray.mk #[114, 101, 102, 115, 47, 116, 97, 103, 115, 47] ++ f2 (k - n1)
/-- Is row k a tag? -/
def isTag (n1 k : Nat) : Bool := decide (n1 ≤ k)

theorem pair_here {W : World} {B : Nat} {u v : Value} (h0 : W.cell? ⟨B, 0, none⟩ = some u) (h1 : W.cell? ⟨B, 1, none⟩ = some v) (x y : Value) :
    ((W.setCell ⟨B, 0, none⟩ x).setCell ⟨B, 1, none⟩ y).cell? ⟨B, 0, none⟩ = some x ∧ ((W.setCell ⟨B, 0, none⟩ x).setCell ⟨B, 1, none⟩ y).cell? ⟨B, 1, none⟩ = some y := by
  have g0 : (W.setCell ⟨B, 0, none⟩ x).cell? ⟨B, 0, none⟩ = some x := World.cell?_setCell_same _ _ _ h0
  have g1 : (W.setCell ⟨B, 0, none⟩ x).cell? ⟨B, 1, none⟩ = some v := (World.cell?_setCell_other _ _ _ _ (by simp)).trans h1
  constructor
  · rw [World.cell?_setCell_other _ _ _ _ (by simp)]; exact g0
  · exact World.cell?_setCell_same _ _ _ g1

theorem ref_any (R k n1 c1 n2 c2 : Nat) (a1 a2 : Option Addr) (f1 g1 f2 g2 : Nat → ByteArray) (w : World) (hk : k < n1 + n2) (hn1 : n1 ≤ 1048576) (hn2 : n2 ≤ 1048576) (hs1 : Short f1 n1) (hs2 : Short f2 n2)
    (h0 : w.cell? ⟨R, 0, none⟩ = some (.slice a1 n1 c1)) (h1 : w.cell? ⟨R, 1, none⟩ = some (.slice a2 n2 c2)) (hr1 : RowR w a1 f1 g1 n1) (hr2 : RowR w a2 f2 g2 n2) :
    Calls Trym.prog 32 #[.agg #[.pointer (some ⟨R, 0, none⟩)], .int .i64 k] w fun e w' => e = .returned (.tuple #[.agg #[.string (nth f1 f2 n1 k), .string (nth g1 g2 n1 k)], .string (full f1 f2 n1 k), .bool (isTag n1 k)]) ∧ Below w.heap.size w w' := by
  unfold nth full isTag
  by_cases h : k < n1
  · rw [if_pos h, if_pos h, if_pos h, decide_eq_false (by omega)]
    exact ref_b R k n1 c1 n2 c2 a1 a2 f1 g1 f2 g2 w h hn1 (hs1 k h) h0 h1 hr1
  · rw [if_neg h, if_neg h, if_neg h, decide_eq_true (by omega)]
    exact ref_t R k n1 c1 n2 c2 a1 a2 f1 g1 f2 g2 w (by omega) (by omega) hn1 hn2 (hs2 _ (by omega)) h0 h1 hr2

set_option maxHeartbeats 1000000 in
theorem zzRef_any (R k n1 c1 n2 c2 : Nat) (a1 a2 : Option Addr) (f1 g1 f2 g2 : Nat → ByteArray) (w : World) (hk : k < n1 + n2) (hn1 : n1 ≤ 1048576) (hn2 : n2 ≤ 1048576) (hs1 : Short f1 n1) (hs2 : Short f2 n2)
    (h0 : w.cell? ⟨R, 0, none⟩ = some (.slice a1 n1 c1)) (h1 : w.cell? ⟨R, 1, none⟩ = some (.slice a2 n2 c2)) (hr1 : RowR w a1 f1 g1 n1) (hr2 : RowR w a2 f2 g2 n2) :
    Calls Trym.prog 20 #[.pointer (some ⟨R, 0, none⟩), .int .i64 k] w fun e w' => e = .returned (.tuple #[.agg #[.string (nth f1 f2 n1 k), .string (nth g1 g2 n1 k)], .string (full f1 f2 n1 k), .bool (isTag n1 k)]) ∧ Below w.heap.size w w' := by
  have H1 : Hid (RowR w a1 f1 g1 n1) := hr1
  have H2 : Hid (RowR w a2 f2 g2 n2) := hr2
  have S1 : Hid (Short f1 n1) := hs1
  have S2 : Hid (Short f2 n2) := hs2
  have hRl : R < w.heap.size := cell_lt h0
  clear hr1 hr2 hs1 hs2
  obtain ⟨s, hs⟩ : ∃ s, nth f1 f2 n1 k = s := ⟨_, rfl⟩
  obtain ⟨t, ht⟩ : ∃ s, nth g1 g2 n1 k = s := ⟨_, rfl⟩
  obtain ⟨u, hu⟩ : ∃ s, full f1 f2 n1 k = s := ⟨_, rfl⟩
  obtain ⟨v, hv⟩ : ∃ s, isTag n1 k = s := ⟨_, rfl⟩
  rw [hs, ht, hu, hv]
  have HS : Hid (nth f1 f2 n1 k = s) := hs
  have HT : Hid (nth g1 g2 n1 k = t) := ht
  have HU : Hid (full f1 f2 n1 k = u) := hu
  have HV : Hid (isTag n1 k = v) := hv
  clear hs ht hu hv
  have HB : Hid (∀ o, Below w.heap.size w (w.alloc o)) := fun o => (Below.refl _ _).alloc (Nat.le_refl _) o
  go_enter Trym.func20, Trym.ntmps20
  go_wp2_with fail
  refine (ref_any R k n1 c1 n2 c2 a1 a2 f1 g1 f2 g2 _ hk hn1 hn2 S1.out S2.out (((HB.out _).cell (p := ⟨R, 0, none⟩) hRl).trans h0) (((HB.out _).cell (p := ⟨R, 1, none⟩) hRl).trans h1) (H1.out.below (HB.out _)) (H2.out.below (HB.out _))).mono ?_
  rw [HS.out, HT.out, HU.out, HV.out]
  rintro e w2 ⟨rfl, b2⟩
  have c0 := b2.cell (p := ⟨w.heap.size, 0, none⟩) (by simp)
  have c1 := b2.cell (p := ⟨w.heap.size, 1, none⟩) (by simp)
  have d0 := b2.frozen (p := ⟨w.heap.size, 0, none⟩) (by simp)
  have d1 := b2.frozen (p := ⟨w.heap.size, 1, none⟩) (by simp)
  simp at c0 c1 d0 d1
  have B2 : Hid (Below w.heap.size w w2) := (HB.out _).trans (b2.mono (by simp))
  clear b2 HB H1 H2
  obtain ⟨r0, r1⟩ := pair_here c0 c1 (.string s) (.string t)
  go_wp2_with fail
  refine bodyPost_ret (v := .tuple #[.agg #[.string s, .string t], .string u, .bool v]) (by simp [results, Trym.results20, go_sem, r0, r1]) rfl ⟨rfl, ?_⟩
  exact (B2.out.setCell (Nat.le_refl _) _).setCell (Nat.le_refl _) _
end Go.Proofs.Qxb6601599aMods.Rfs
