/-
  A PROOF OF 'Rows.FnRefIsTheWholeListBranchesFirstSaid': its frame after the frames that the shells give for slices of integers, turned to slices of structs of two strings.
-/
import Derived.Test.Qxb6601599aModsRows
import Derived.Test.Qxb6601599aModsLaw
import Derived.WalkKit
import Derived.ProofKit
import Derived.OpenShut
import Derived.ChangeOld
import Derived.Below
import Derived.Deep.SlicePairs
namespace Go.Proofs.Qxb6601599aMods.fnRefIsTheWholeListBranchesFirst
open Go.ChangeShapes Go.WideShapes Go.ChangeAt Go.RowKit
set_option linter.unusedVariables false

theorem own : ownKnob Trym.prog.godebug = none := by kernel_rfl
theorem laidOut : laidOutB Trym.prog = true := by kernel_rfl

/-- What the walk is told of a slice of rows that came in. -/
def IsRefs (w : World) (a : Option Addr) (len cap : Nat) : Prop :=
  len ≤ maxLen ∧ (a = none → len = 0 ∧ cap = 0) ∧ ∃ f g, Rfs.RowR w a f g len

theorem opened {H : Type} {enc : TypeId × Value → H} {W : World} {spare : Nat → Bool} {held : Bool} {fuel : Nat} {a : Option Addr} {len cap : Nat} {x : DataW H × List MemPlace}
    (hf : DataW.trod enc Trym.prog W 0 spare held fuel 22 (Value.slice a len cap).cells.toList = some x) : IsRefs W a len cap := by
  rcases Deep.open_slice_pairs Trym.underlying22 Trym.underlying38 (by kernel_rfl) rfl rfl (by kernel_rfl) (by kernel_rfl) hf with ⟨hcs, _⟩ | ⟨y, l, c, m, n, V0, V1, D0, D1, P0, P1, hcs, _, hl, hm, hz, _, hall⟩
  · simp [Value.cells] at hcs
    obtain ⟨rfl, rfl, rfl⟩ := hcs
    exact ⟨Nat.zero_le _, fun _ => ⟨rfl, rfl⟩, fun _ => ByteArray.empty, fun _ => ByteArray.empty, fun j hj => by omega⟩
  · simp [Value.cells] at hcs
    obtain ⟨rfl, rfl, rfl⟩ := hcs
    have hlm : len ≤ m := by rw [hz]; split <;> omega
    have each : ∀ i, i < len → ∃ q : ByteArray × ByteArray, W.cell? (y.add (i * 2)) = some (.string q.1) ∧ W.cell? (y.add (i * 2 + 1)) = some (.string q.2) := by
      intro i hi
      obtain ⟨h0, h1, t0, t1⟩ := hall i (by omega)
      obtain ⟨s, e0, _, _⟩ := DataW.trod_string Trym.underlying9 t0
      obtain ⟨t, e1, _, _⟩ := DataW.trod_string Trym.underlying9 t1
      simp only [List.cons.injEq, and_true] at e0 e1
      exact ⟨(s, t), by rw [h0, e0], by rw [h1, e1]⟩
    obtain ⟨q, hq⟩ := Deep.choose_lt (α := ByteArray × ByteArray) each
    refine ⟨by omega, (fun h => by cases h), fun j => (q j).1, fun j => (q j).2, fun j hj => ?_⟩
    obtain ⟨b, off, spot⟩ := y
    have hspot : spot = none := by simpa [Addr.add] using World.cell?_spot (hq 0 (by omega)).1
    subst hspot
    refine ⟨b, off, rfl, ?_, ?_⟩
    · rw [← add_plain]; exact (hq j hj).1
    · rw [Nat.add_assoc, ← add_plain]; exact (hq j hj).2

theorem walk (a0 a1 : Option Addr) (len0 cap0 len1 cap1 : Nat) (z : Int) (w : World) (w0 : IsRefs w a0 len0 cap0) (w1 : IsRefs w a1 len1 cap1) :
    Calls Trym.prog 5 #[.slice a0 len0 cap0, .slice a1 len1 cap1, .int .i64 z] w fun e w' => e = .returned (.bool true) ∧ Below w.heap.size w w' := by
  obtain ⟨m0, n0, f0, g0, r0⟩ := w0
  obtain ⟨m1, n1, f1, g1, r1⟩ := w1
  exact Rfs.law_any a0 a1 len0 len1 cap0 cap1 z f0 g0 f1 g1 w m0 m1 n0 n1 r0 r1

set_option maxRecDepth 100000 in
theorem lifted (os : Os) (started : os.Started) (H : Type) (enc : TypeId × Value → H) :
    ReturnsInHanded {} Trym.checked os 5 .any (Rows.fnRefIsTheWholeListBranchesFirstSpec.pre6 enc Trym.prog Trym.f5 Rows.fnRefIsTheWholeListBranchesFirstRow.domain false) (Rows.fnRefIsTheWholeListBranchesFirstSpec.post enc Trym.prog Trym.f5 false true false false) := by
  refine returnsInHanded_of_change (C := Trym.checked) own started (by kernel_rfl) Trym.func5
    (ChangeSpec.witness6 (enc := enc) (C := Trym.checked) false ⟨#[], #[.slice none 0 0, .slice none 0 0, .int .i64 0], []⟩ 8 (by kernel_rfl) (by kernel_rfl) (by kernel_rfl) (by kernel_rfl)) ?_
  intro W base args ds gs before hval0 hW hcnd _
  have hval : ∀ (j : Nat) t v, Trym.f5.params[j]? = some t → args[j]? = some v → Value.okWide Trym.prog W .any base t v := hval0
  have hW' := hW
  obtain ⟨p, q, hA0, hV, rfl, hfz, hnd⟩ := hW
  have hA : DataW.TrodAll enc Trym.prog W 0 (fun _ => true) true Trym.f5.params.toList args.toList ds p := hA0
  rw [Trym.params5] at hA hval
  obtain ⟨v0, vs0, d0, ds0, p0, q0, hargs, rfl, rfl, h0, r0⟩ := trodAll_cons hA
  obtain ⟨v1, vs1, d1, ds1, p1, q1, rfl, rfl, rfl, h1, r1⟩ := trodAll_cons r0
  obtain ⟨v2, vs2, d2, ds2, p2, q2, rfl, rfl, rfl, h2, r2⟩ := trodAll_cons r1
  obtain ⟨rfl, rfl, rfl⟩ := trodAll_nil r2
  obtain rfl : args = #[v0, v1, v2] := by cases args; simp_all
  obtain ⟨rfl, rfl⟩ := trodVars_none hV
  obtain ⟨a0, len0, cap0, rfl⟩ := okWide_slice Trym.underlying22 (hval 0 22 v0 rfl rfl)
  obtain ⟨a1, len1, cap1, rfl⟩ := okWide_slice Trym.underlying22 (hval 1 22 v1 rfl rfl)
  obtain ⟨z, rfl, rfl, rfl, wz⟩ := open_int Trym.underlying3 (hval 2 3 v2 rfl rfl) h2
  have k0 := h0
  have k1 := h1
  have lt0 : ∀ x ∈ p0, x.block < W.heap.size := by obtain ⟨m, hm⟩ := k0; exact DataW.trod_lt m _ _ _ hm
  have lt1 : ∀ x ∈ p1, x.block < W.heap.size := by obtain ⟨m, hm⟩ := k1; exact DataW.trod_lt m _ _ _ hm
  have w0 : IsRefs W a0 len0 cap0 := by obtain ⟨fuel, hf⟩ := h0; exact opened hf
  have w1 : IsRefs W a1 len1 cap1 := by obtain ⟨fuel, hf⟩ := h1; exact opened hf
  clear hA0 hval0
  refine (walk a0 a1 len0 cap0 len1 cap1 z W w0 w1).mono fun e W' ⟨he, bel⟩ => ?_
  subst he
  exact ⟨_, rfl, _, _, _, [], _, [], hW', trodAll_mk1 (shut_bool Trym.underlying4 _), (trodAll_cons_mk (Below.trod laidOut (by kernel_rfl) (of_decide_eq_true (by kernel_rfl)) k0 bel lt0) (trodAll_cons_mk (Below.trod laidOut (by kernel_rfl) (of_decide_eq_true (by kernel_rfl)) k1 bel lt1) (trodAll_cons_mk (shut_int Trym.underlying3 wz) trodAll_mk0))), rfl, bel.frame _, fun h => by cases h⟩

theorem over : Rows.fnRefIsTheWholeListBranchesFirstRow.holds Trym.pinned (OpenSpec.ofChange Rows.fnRefIsTheWholeListBranchesFirstSpec) :=
  OpenClaim.holds_of_wide 5 Trym.f5 rfl rfl rfl rfl rfl rfl rfl ⟨rfl, rfl, rfl, rfl, rfl⟩ rfl rfl rfl rfl rfl (by kernel_rfl) Trym.func5 (by kernel_rfl)
    (of_decide_eq_true (by kernel_rfl)) (by unfold Func.isWrapper; first | (rw [if_pos (by decide +kernel)]; kernel_rfl) | (rw [if_neg (by decide +kernel)]; exact ⟨rfl, rfl⟩))
    (fun os started H enc _ => lifted os started H enc)

end Go.Proofs.Qxb6601599aMods.fnRefIsTheWholeListBranchesFirst
namespace Go.Proofs.Qxb6601599aMods
/-- THE STATEMENT. -/
theorem fnRefIsTheWholeListBranchesFirst_proved : Rows.FnRefIsTheWholeListBranchesFirstSaid := fnRefIsTheWholeListBranchesFirst.over
end Go.Proofs.Qxb6601599aMods
