/-
  The walks behind 'FnPlacesMatchesModel', fourth part: '(Layout).places' where there are optional columns.
-/
import Derived.Test.Qxb6600690aModsPlcPlaces
namespace Go.Proofs.Qxb6600690aMods.Plc
open Go.RowKit
set_option linter.unusedVariables false

set_option maxHeartbeats 1000000 in
theorem places_C5a (a1 a2 a3 : Option Addr) (n1 n2 n3 c1 c2 c3 : Nat) (f1 f2 f3 : Nat → ByteArray) (w : World) (hn1 : n1 ≤ 4096) (hn2 : n2 ≤ 4096) (hn3 : n3 ≤ 4096) (hc3 : n3 ≤ c3) (hm3 : c3 ≤ maxLen)
    (hr1 : RowF w a1 f1 n1) (hr2 : RowF w a2 f2 n2) (hr3 : RowF w a3 f3 n3) (hle : n1 ≤ n3) (heq : ∀ j, j < n1 → f3 j = f1 j) (h0 : n2 ≠ 0) (h13 : n3 ≤ n1) :
    Calls Trym.prog 26 #[.agg #[.slice a1 n1 c1, .slice a2 n2 c2, .bool false, .slice none 0 0, .string ⟨#[]⟩, .bool false], .slice a3 n3 c3] w fun e w' => Placed f1 f2 f3 n1 n2 n3 w e w' := by
  have H1 : Hid (RowF w a1 f1 n1) := hr1
  have H3 : Hid (RowF w _ f3 n3) := hr3
  have H2 : Hid (RowF w a2 f2 n2) := hr2
  have HE : Hid (∀ j, j < n1 → f3 j = f1 j) := heq
  clear hr1 hr2 hr3 heq
  have hx : n1 ≤ maxLen := by unfold maxLen; omega
  unfold maxLen at hm3
  have hd : decide ((n3 : Int) < (n1 : Int)) = false := decide_eq_false (by omega)
  have hb1 : (n1 : Int) ≤ (c3 : Int) := by omega
  have hd2 : ((n2 : Int) == 0) = false := by simp; omega
  obtain ⟨i3, hi, hz0, hz1, hz2⟩ := info_parts info3
  go_enter Trym.func26, Trym.ntmps26
  go_wp2
  go_quiet ((go_at_call 27; refine Calls.quiet_of (equal_yes _ _ _ _ _ f3 f1 _ hx ?_ ?_ HE.out); exact ((H3.out.less hle).alloc _).drewN _; exact (H1.out.alloc _).drewN _))
  go_wp2_with (at_make; refine wpList_make_full _ rfl _ _ 26 rfl (w.heap.size + 1) 3 i3 (.int .i64 0) 1 Trym.underlying26 hi hz0 hz1 _ _ _ _ n3 rfl rfl rfl rfl (by rw [hz2]; omega) (by unfold maxLen; omega) (by simp) ?_; intro w1 hown hgrow)
  have HI : Hid (Inv w a2 n2 c2 n3 w1 (madeCells (Value.int IntKind.i64 0).cells (n3 * 1)).toList) := by
    have hs : ((w.alloc (Obj.cells #[Value.slice a1 n1 c1, Value.slice a2 n2 c2, Value.bool false, Value.slice none 0 0, Value.string { data := #[] }, Value.bool false] 35)).drewN nq).heap.size = w.heap.size + 1 := by simp
    rw [hs] at hown
    refine ⟨(below_drewN ((Below.refl _ _).alloc (Nat.le_refl _) _) _).grown hgrow (by simp) (fun k h => by cases h), ?_, hown⟩
    rw [World.cell?_of_block (hgrow.block w.heap.size (by simp) (by simp))]
    simp
  clear hown hgrow
  go_loopw [8, 40] (fun _ i wr => ∃ k : Nat, ∃ xs : List Value, k ≤ n1 ∧ i = .int .i64 k ∧ Inv w a2 n2 c2 n3 wr xs ∧ ∀ j, j < k → xs[j]? = some (.int .i64 (place f2 f3 n1 n2 j))) (fun _ i _ => n1 - (intOf i).toNat)
  case atStart => exact ⟨0, _, Nat.zero_le _, rfl, HI.out, fun j hj => by omega⟩
  case round =>
    obtain ⟨k, xs, hk, rfl, hinv, hx⟩ := hrel
    clear HI
    have HX : Hid (∀ j, j < k → xs[j]? = some (.int .i64 (place f2 f3 n1 n2 j))) := hx
    have HV : Hid (Inv w a2 n2 c2 n3 wr xs) := hinv
    clear hx hinv
    by_cases hlt : k < n1
    · obtain ⟨v, hv⟩ := HV.out.cell k (by omega)
      have hfz := HV.out.2.2.frozenAt k
      have hk3 : (k : Int) < (n3 : Int) := by omega
      go_wp2
      go_roundw
      case rel =>
        refine ⟨k + 1, _, by omega, by go_num, HV.out.store k _, ?_⟩
        have := set_upto (g := place f2 f3 n1 n2) (by rw [HV.out.length]; omega) HX.out
        rwa [show place f2 f3 n1 n2 k = (k : Int) from if_pos hlt] at this
      case measure => simp [intOf]; omega
    · go_wp2
      all_goals
        go_loop [52] (fun i => i = .int .i64 0) (fun _ => 0)
        case atStart => rfl
        case round =>
          subst hrel
          have hz : ¬ (0 : Int) < ((n3 - n1 : Nat) : Int) := by omega
          go_wp2
          go_ret2
          refine ⟨HV.out.1, .inr (.inr ⟨_, rfl, h0, ⟨hle, HE.out, fun h => absurd h h0, fun _ i hi => by omega⟩, fun j hj => ⟨_, _, rfl, ?_⟩⟩)⟩
          rw [Nat.zero_add, HV.out.2.2.cellAt j (by omega)]
          exact HX.out j (by omega)

set_option maxHeartbeats 1000000 in
theorem places_C5b (a1 a2 a3 : Option Addr) (n1 n2 n3 c1 c2 c3 : Nat) (f1 f2 f3 : Nat → ByteArray) (w : World) (hn1 : n1 ≤ 4096) (hn2 : n2 ≤ 4096) (hn3 : n3 ≤ 4096) (hc3 : n3 ≤ c3) (hm3 : c3 ≤ maxLen)
    (hr1 : RowF w a1 f1 n1) (hr2 : RowF w a2 f2 n2) (hr3 : RowF w a3 f3 n3) (hle : n1 ≤ n3) (heq : ∀ j, j < n1 → f3 j = f1 j) (h0 : n2 ≠ 0) (h13 : n1 < n3) :
    Calls Trym.prog 26 #[.agg #[.slice a1 n1 c1, .slice a2 n2 c2, .bool false, .slice none 0 0, .string ⟨#[]⟩, .bool false], .slice a3 n3 c3] w fun e w' => Placed f1 f2 f3 n1 n2 n3 w e w' := by
  obtain ⟨b, off, rfl, _⟩ := hr3 0 (by omega)
  have H1 : Hid (RowF w a1 f1 n1) := hr1
  have H3 : Hid (RowF w _ f3 n3) := hr3
  have H2 : Hid (RowF w a2 f2 n2) := hr2
  have HE : Hid (∀ j, j < n1 → f3 j = f1 j) := heq
  clear hr1 hr2 hr3 heq
  have hx : n1 ≤ maxLen := by unfold maxLen; omega
  unfold maxLen at hm3
  have hd : decide ((n3 : Int) < (n1 : Int)) = false := decide_eq_false (by omega)
  have hb1 : (n1 : Int) ≤ (c3 : Int) := by omega
  have hd2 : ((n2 : Int) == 0) = false := by simp; omega
  obtain ⟨i3, hi, hz0, hz1, hz2⟩ := info_parts info3
  go_enter Trym.func26, Trym.ntmps26
  go_wp2
  go_quiet ((go_at_call 27; refine Calls.quiet_of (equal_yes _ _ _ _ _ f3 f1 _ hx ?_ ?_ HE.out); exact ((H3.out.less hle).alloc _).drewN _; exact (H1.out.alloc _).drewN _))
  go_wp2_with (at_make; refine wpList_make_full _ rfl _ _ 26 rfl (w.heap.size + 1) 3 i3 (.int .i64 0) 1 Trym.underlying26 hi hz0 hz1 _ _ _ _ n3 rfl rfl rfl rfl (by rw [hz2]; omega) (by unfold maxLen; omega) (by simp) ?_; intro w1 hown hgrow)
  have HI : Hid (Inv w a2 n2 c2 n3 w1 (madeCells (Value.int IntKind.i64 0).cells (n3 * 1)).toList) := by
    have hs : ((w.alloc (Obj.cells #[Value.slice a1 n1 c1, Value.slice a2 n2 c2, Value.bool false, Value.slice none 0 0, Value.string { data := #[] }, Value.bool false] 35)).drewN nq).heap.size = w.heap.size + 1 := by simp
    rw [hs] at hown
    refine ⟨(below_drewN ((Below.refl _ _).alloc (Nat.le_refl _) _) _).grown hgrow (by simp) (fun k h => by cases h), ?_, hown⟩
    rw [World.cell?_of_block (hgrow.block w.heap.size (by simp) (by simp))]
    simp
  clear hown hgrow
  go_loopw [8, 40] (fun _ i wr => ∃ k : Nat, ∃ xs : List Value, k ≤ n1 ∧ i = .int .i64 k ∧ Inv w a2 n2 c2 n3 wr xs ∧ ∀ j, j < k → xs[j]? = some (.int .i64 (place f2 f3 n1 n2 j))) (fun _ i _ => n1 - (intOf i).toNat)
  case atStart => exact ⟨0, _, Nat.zero_le _, rfl, HI.out, fun j hj => by omega⟩
  case round =>
    obtain ⟨k, xs, hk, rfl, hinv, hx⟩ := hrel
    clear HI
    have HX : Hid (∀ j, j < k → xs[j]? = some (.int .i64 (place f2 f3 n1 n2 j))) := hx
    have HV : Hid (Inv w a2 n2 c2 n3 wr xs) := hinv
    clear hx hinv
    by_cases hlt : k < n1
    · obtain ⟨v, hv⟩ := HV.out.cell k (by omega)
      have hfz := HV.out.2.2.frozenAt k
      have hk3 : (k : Int) < (n3 : Int) := by omega
      go_wp2
      go_roundw
      case rel =>
        refine ⟨k + 1, _, by omega, by go_num, HV.out.store k _, ?_⟩
        have := set_upto (g := place f2 f3 n1 n2) (by rw [HV.out.length]; omega) HX.out
        rwa [show place f2 f3 n1 n2 k = (k : Int) from if_pos hlt] at this
      case measure => simp [intOf]; omega
    · have hcn : ¬ c3 = n1 := by omega
      go_wp2
      go_loopw [9, 10, 11, 52] (fun _ _ _ i wr => ∃ k : Nat, ∃ xs : List Value, k ≤ n3 - n1 ∧ i = .int .i64 k ∧ Inv w a2 n2 c2 n3 wr xs ∧ (∀ j, j < n1 + k → xs[j]? = some (.int .i64 (place f2 f3 n1 n2 j))) ∧ TailOK f2 f3 n1 n2 k) (fun _ _ _ i _ => n3 - n1 - (intOf i).toNat)
      case atStart => exact ⟨0, xs, Nat.zero_le _, rfl, HV.out, fun j hj => HX.out j (by omega), fun i hi => by omega⟩
      case round =>
        obtain ⟨i, ys, hi', rfl, hinv, hy, htl⟩ := hrel
        clear HX HV
        have HY : Hid (∀ j, j < n1 + i → ys[j]? = some (.int .i64 (place f2 f3 n1 n2 j))) := hy
        have HV : Hid (Inv w a2 n2 c2 n3 wr ys) := hinv
        have HT : Hid (TailOK f2 f3 n1 n2 i) := htl
        clear hy hinv htl
        by_cases hlt2 : i < n3 - n1
        · obtain ⟨s, hs⟩ : ∃ s, s = f3 (n1 + i) := ⟨_, rfl⟩
          have hcell0 := H3.out.tail (m := n1) i (by omega)
          have hcell : wr.cell? ⟨b, off + n1 + i, none⟩ = some (.string s) := by
            rw [hs]; exact (HV.out.1.cell (p := ⟨b, off + n1 + i, none⟩) (cell_lt hcell0)).trans hcell0
          have HS : Hid (s = f3 (n1 + i)) := hs
          clear hcell0 hs
          have hopt := HV.out.2.1
          have hx2 : n2 ≤ maxLen := by unfold maxLen; omega
          have hlt3 : (i : Int) < ((n3 - n1 : Nat) : Int) := by omega
          rcases fidx_cases f2 n2 s with ⟨e1, _⟩ | ⟨j, e1, hj, _, _⟩
          · have E1 : Hid (fidx f2 n2 s = -1) := e1
            clear e1
            go_wp2_with fail
            refine (index_any _ _ _ f2 _ _ hx2 (H2.out.below HV.out.1)).mono ?_
            rintro e w' ⟨rfl, rfl⟩
            rw [E1.out]
            go_wp2
            go_ret2
            exact ⟨HV.out.1, .inl ⟨rfl, fun hw => tail_bad1 hlt2 (by rw [← HS.out]; exact E1.out) (hw.2.2.2 h0)⟩⟩
          · have E1 : Hid (fidx f2 n2 s = (j : Int)) := e1
            clear e1
            go_wp2_with fail
            refine (index_any _ _ _ f2 _ _ hx2 (H2.out.below HV.out.1)).mono ?_
            rintro e w' ⟨rfl, rfl⟩
            rw [E1.out]
            go_wp2_with fail
            refine (contains_any _ _ _ (fun k => place f2 f3 n1 n2 (n1 + k)) _ _ (by unfold maxLen; omega) (HV.out.rowI (by omega) HY.out)).mono ?_
            rintro e w'' ⟨⟨r, rfl, hr⟩, rfl⟩
            have HRR : Hid (r = true ↔ ∃ k, k < i ∧ place f2 f3 n1 n2 (n1 + k) = (n1 : Int) + j) := hr
            clear hr
            cases r with
            | true =>
              go_wp2
              go_ret2
              exact ⟨HV.out.1, .inl ⟨rfl, fun hw => tail_bad2 hlt2 (by rw [← HS.out]; exact E1.out) (HRR.out.1 (by simp)) (hw.2.2.2 h0)⟩⟩
            | false =>
              obtain ⟨v, hv⟩ := HV.out.cell (n1 + i) (by omega)
              have hfz := HV.out.2.2.frozenAt (n1 + i)
              have hni : (n1 : Int) + (i : Int) < (n3 : Int) := by omega
              go_wp2
              go_roundw
              case rel =>
                refine ⟨i + 1, _, by omega, by go_num, HV.out.store (n1 + i) _, ?_, tail_good HT.out (by rw [← HS.out]; exact E1.out) (fun h => by have := HRR.out.2 h; cases this)⟩
                have := set_upto (g := place f2 f3 n1 n2) (by rw [HV.out.length]; omega) HY.out
                rw [place_tail, ← HS.out, E1.out] at this
                exact this
              case measure => simp [intOf]; omega
        · go_wp2
          go_ret2
          refine ⟨HV.out.1, .inr (.inr ⟨_, rfl, h0, ⟨hle, HE.out, fun h => absurd h h0, fun _ => ?_⟩, fun j hj => ⟨_, _, rfl, ?_⟩⟩)⟩
          · rw [show n3 - n1 = i from by omega]; exact HT.out
          · rw [Nat.zero_add, HV.out.2.2.cellAt j (by omega)]
            exact HY.out j (by omega)

theorem places_any (a1 a2 a3 : Option Addr) (n1 n2 n3 c1 c2 c3 : Nat) (f1 f2 f3 : Nat → ByteArray) (w : World) (hn1 : n1 ≤ 4096) (hn2 : n2 ≤ 4096) (hn3 : n3 ≤ 4096) (hc3 : n3 ≤ c3) (hm3 : c3 ≤ maxLen)
    (hr1 : RowF w a1 f1 n1) (hr2 : RowF w a2 f2 n2) (hr3 : RowF w a3 f3 n3) :
    Calls Trym.prog 26 #[.agg #[.slice a1 n1 c1, .slice a2 n2 c2, .bool false, .slice none 0 0, .string ⟨#[]⟩, .bool false], .slice a3 n3 c3] w fun e w' => Placed f1 f2 f3 n1 n2 n3 w e w' := by
  by_cases h : n3 < n1
  · exact places_C1 a1 a2 a3 n1 n2 n3 c1 c2 c3 f1 f2 f3 w hn1 hn2 hn3 hc3 hm3 hr1 hr2 hr3 h
  by_cases heq : ∀ j, j < n1 → f3 j = f1 j
  · by_cases h0 : n2 = 0
    · by_cases h31 : n3 = n1
      · exact places_C4 a1 a2 a3 n1 n2 n3 c1 c2 c3 f1 f2 f3 w hn1 hn2 hn3 hc3 hm3 hr1 hr2 hr3 heq h0 h31
      · exact places_C3 a1 a2 a3 n1 n2 n3 c1 c2 c3 f1 f2 f3 w hn1 hn2 hn3 hc3 hm3 hr1 hr2 hr3 (by omega) heq h0 h31
    · by_cases h31 : n3 ≤ n1
      · exact places_C5a a1 a2 a3 n1 n2 n3 c1 c2 c3 f1 f2 f3 w hn1 hn2 hn3 hc3 hm3 hr1 hr2 hr3 (by omega) heq h0 h31
      · exact places_C5b a1 a2 a3 n1 n2 n3 c1 c2 c3 f1 f2 f3 w hn1 hn2 hn3 hc3 hm3 hr1 hr2 hr3 (by omega) heq h0 (by omega)
  · exact places_C2 a1 a2 a3 n1 n2 n3 c1 c2 c3 f1 f2 f3 w hn1 hn2 hn3 hc3 hm3 hr1 hr2 hr3 (by omega) heq

set_option maxHeartbeats 400000 in
theorem zzPlaces_any (a1 a2 a3 : Option Addr) (n1 n2 n3 c1 c2 c3 : Nat) (f1 f2 f3 : Nat → ByteArray) (w : World) (hn1 : n1 ≤ 4096) (hn2 : n2 ≤ 4096) (hn3 : n3 ≤ 4096) (hc3 : n3 ≤ c3) (hm3 : c3 ≤ maxLen)
    (hr1 : RowF w a1 f1 n1) (hr2 : RowF w a2 f2 n2) (hr3 : RowF w a3 f3 n3) :
    Calls Trym.prog 18 #[.slice a1 n1 c1, .slice a2 n2 c2, .slice a3 n3 c3] w fun e w' => Placed f1 f2 f3 n1 n2 n3 w e w' := by
  go_enter Trym.func18, Trym.ntmps18
  go_wp2_with fail
  refine (places_any _ _ _ _ _ _ _ _ _ f1 f2 f3 _ hn1 hn2 hn3 hc3 hm3 hr1 hr2 hr3).mono ?_
  rintro e w' ⟨hb, hp⟩
  have HB : Hid (Below w.heap.size w w') := hb
  clear hb
  rcases hp with ⟨rfl, hp⟩ | ⟨rfl, hp⟩ | ⟨pb, rfl, hp⟩
  · have HP := (show Hid _ from hp)
    clear hp
    go_wp2_with fail
    go_ret2
    exact ⟨HB.out, .inl ⟨rfl, HP.out⟩⟩
  · have HP := (show Hid _ from hp)
    clear hp
    go_wp2_with fail
    go_ret2
    exact ⟨HB.out, .inr (.inl ⟨rfl, HP.out⟩)⟩
  · have HP := (show Hid _ from hp)
    clear hp
    go_wp2_with fail
    go_ret2
    exact ⟨HB.out, .inr (.inr ⟨_, rfl, HP.out⟩)⟩
end Go.Proofs.Qxb6600690aMods.Plc
