/-
  The walks behind 'FnAppendPathNodeSeparatorEitherSide', second part: the law.
-/
import Derived.Test.Qxb6600872aModsPath
namespace Go.Proofs.Qxb6600872aMods.Pth
open Go.RowKit Byt
set_option linter.unusedVariables false

/-- Path, one backslash, text: byte by byte. -/
def joined (f : Nat → Int) (n : Nat) (t : ByteArray) (j : Nat) : Int := if j < n then f j else if j = n then 92 else ((t.data.toList.getD (j - n - 1) 0).toNat : Int)
/-- The path with a backslash behind it. -/
def withSep (f : Nat → Int) (n : Nat) (j : Nat) : Int := if j < n then f j else 92

theorem strCells_at (t : ByteArray) (j : Nat) (hj : j < t.size) : (Lib.strCells t)[j]? = some (.int .u8 ((t.data.toList.getD j 0).toNat : Int)) := by
  unfold Lib.strCells
  have h : j < t.data.toList.length := by simpa using hj
  rw [List.getElem?_map, List.getElem?_eq_getElem h, List.getD_eq_getElem?_getD, List.getElem?_eq_getElem h]
  rfl

theorem rowOf {base L m : Nat} {v : Value} {zs : List Value} {F : Nat → Int} {w : World} (hown : w.ownsRow base 5 1 v m zs) (hl : zs.length = L) (h0 : 0 < L) (hz : ∀ j, j < L → zs[j]? = some (.int .u8 (F j))) :
    ∃ g c, v = .slice (some ⟨g, 0, none⟩) L c ∧ RowB w (some ⟨g, 0, none⟩) F L := by
  have hlen := hown.1
  rcases hown.2 with ⟨_, hm⟩ | ⟨g, cap, cur, hv, _⟩
  · omega
  · obtain rfl : m = L := by omega
    refine ⟨g, cap, hv, fun j hj => ⟨g, 0, rfl, ?_⟩⟩
    rw [hv] at hown
    rw [Nat.zero_add, hown.cellAt j (by omega)]
    exact hz j hj

/-- What a path node appended to a copy leaves. -/
def Made (base : Nat) (F : Nat → Int) (L : Nat) (w : World) (e : Ending) (w' : World) : Prop :=
  Below base w w' ∧ ∃ g c, e = .returned (.slice (some ⟨g, 0, none⟩) L c) ∧ RowB w' (some ⟨g, 0, none⟩) F L

theorem made_bare (g n cap base : Nat) (xs : List Value) (f : Nat → Int) (s t : ByteArray) (w : World) (hn : 0 < n) (hn' : n ≤ 4194304) (hs : s.size ≤ 4194304) (hy : f (n - 1) ≠ 92) (ht : trim s = t)
    (hown : w.ownsRow base 5 1 (.slice (some ⟨g, 0, none⟩) n cap) n xs) (hbase : base ≤ w.heap.size) (hx : ∀ j, j < n → xs[j]? = some (.int .u8 (f j))) :
    Calls Trym.prog 12 #[.slice (some ⟨g, 0, none⟩) n cap, .string s] w fun e w' => Made base (joined f n t) (n + 1 + t.size) w e w' := by
  have hxl : xs.length = n := by rw [hown.1]; omega
  refine (zzNode_any g n cap base xs (f (n - 1)) s w hn hn' hs hown hbase (hx (n - 1) (by omega))).mono ?_
  rintro e w' ⟨hb, v, m, rfl, ho⟩
  rw [if_neg hy, ht] at ho
  obtain ⟨g', c', hv, hr⟩ := rowOf (L := n + 1 + t.size) (F := joined f n t) ho (by simp [hxl, Lib.strCells_length]; omega) (by omega) (fun j hj => by
    unfold joined
    by_cases h1 : j < n
    · rw [if_pos h1, List.getElem?_append_left (by simp; omega), List.getElem?_append_left (by omega)]
      exact hx j h1
    · by_cases h2 : j = n
      · subst h2
        rw [if_neg h1, if_pos rfl, List.getElem?_append_left (by simp; omega), List.getElem?_append_right (by omega), hxl]
        simp
      · rw [if_neg h1, if_neg h2, List.getElem?_append_right (by simp; omega)]
        rw [show j - (xs ++ [Value.int .u8 92]).length = j - n - 1 from by simp; omega]
        exact strCells_at t _ (by omega))
  exact ⟨hb, g', c', by rw [hv], hr⟩

theorem made_sep (g n cap base : Nat) (xs : List Value) (f : Nat → Int) (s t : ByteArray) (w : World) (hn' : n + 1 ≤ 4194304) (hs : s.size ≤ 4194304) (ht : trim s = t)
    (hown : w.ownsRow base 5 1 (.slice (some ⟨g, 0, none⟩) (n + 1) cap) (n + 1) xs) (hbase : base ≤ w.heap.size) (hx : ∀ j, j < n + 1 → xs[j]? = some (.int .u8 (withSep f n j))) :
    Calls Trym.prog 12 #[.slice (some ⟨g, 0, none⟩) (n + 1) cap, .string s] w fun e w' => Made base (joined f n t) (n + 1 + t.size) w e w' := by
  have hxl : xs.length = n + 1 := by rw [hown.1]; omega
  have hlast : xs[n + 1 - 1]? = some (.int .u8 92) := by
    rw [hx (n + 1 - 1) (by omega)]
    unfold withSep
    rw [if_neg (by omega)]
  refine (zzNode_any g (n + 1) cap base xs 92 s w (by omega) hn' hs hown hbase hlast).mono ?_
  rintro e w' ⟨hb, v, m, rfl, ho⟩
  rw [if_pos rfl, ht] at ho
  obtain ⟨g', c', hv, hr⟩ := rowOf (L := n + 1 + t.size) (F := joined f n t) ho (by simp [hxl, Lib.strCells_length]) (by omega) (fun j hj => by
    unfold joined
    by_cases h1 : j < n
    · rw [if_pos h1, List.getElem?_append_left (by omega), hx j (by omega)]
      unfold withSep
      rw [if_pos h1]
    · by_cases h2 : j = n
      · subst h2
        rw [if_neg h1, if_pos rfl, List.getElem?_append_left (by omega), hx j (by omega)]
        unfold withSep
        rw [if_neg h1]
      · rw [if_neg h1, if_neg h2, List.getElem?_append_right (by omega), hxl]
        rw [show j - (n + 1) = j - n - 1 from by omega]
        exact strCells_at t _ (by omega))
  exact ⟨hb, g', c', by rw [hv], hr⟩

/-- The call has returned some bool. -/
def RetBool (e : Ending) : Prop := ∃ r : Bool, e = .returned (.bool r)

set_option maxHeartbeats 400000 in
theorem zzBytes_any (a : Option Addr) (n c : Nat) (s : ByteArray) (w : World) (hn : n ≤ maxLen) (hs : s.size ≤ maxLen) :
    Calls Trym.prog 11 #[.slice a n c, .string s] w fun e w' => RetBool e ∧ w' = w := by
  unfold maxLen at hn hs
  go_enter Trym.func11, Trym.ntmps11
  go_wp2
  all_goals
    go_ret
    exact ⟨⟨_, rfl⟩, rfl⟩

theorem trim_plain (s : ByteArray) (h : ∀ h0 : 0 < s.size, ¬ (s[0].toNat : Int) = 92) : trim s = s := by
  unfold trim
  rw [if_neg]
  intro hb
  unfold hasB at hb
  simp only [Bool.and_eq_true, decide_eq_true_eq] at hb
  obtain ⟨h0, hb⟩ := hb
  have e := eq_of_beq hb
  rw [ByteArray.toList_eq, ByteArray.data_extract, Array.toList_extract, List.extract_eq_take_drop] at e
  have hl : 0 < s.data.toList.length := by simpa using h0
  have e2 : s.data.toList = s[0] :: s.data.toList.drop 1 := by
    have := List.drop_eq_getElem_cons hl
    rw [List.drop_zero] at this
    exact this
  rw [e2] at e
  simp at e
  exact h h0 (by rw [e]; rfl)
theorem trim_sep (s : ByteArray) : trim (ByteArray.mk #[92] ++ s) = s := by
  have hd : (ByteArray.mk #[92] ++ s).data.toList = 92 :: s.data.toList := by
    rw [ByteArray.data_append]; simp
  have hsz : (ByteArray.mk #[92] ++ s).size = s.size + 1 := by
    rw [ByteArray.size_append]
    show 1 + s.size = s.size + 1
    omega
  unfold trim
  rw [if_pos]
  · apply ByteArray.ext
    apply Array.toList_inj.1
    rw [ByteArray.data_extract, Array.toList_extract, List.extract_eq_take_drop, hd, hsz]
    rw [List.take_of_length_le (by simp)]
    rfl
  · unfold hasB
    rw [ByteArray.toList_eq, ByteArray.data_extract, Array.toList_extract, List.extract_eq_take_drop, hd, hsz]
    simp

theorem sep_step {w wr : World} {n k B : Nat} {f : Nat → Int} {xs : List Value} (hk : k < n) (hB : w.heap.size ≤ B)
    (hown : wr.ownsRow B 5 1 (.slice (some ⟨B, 0, none⟩) (n + 1) (n + 1)) (n + 1) xs) (hx : ∀ j, j < k → xs[j]? = some (.int .u8 (f j))) (hb : Below B w wr) :
    (wr.setCell ⟨B, k, none⟩ (.int .u8 (f k))).ownsRow B 5 1 (.slice (some ⟨B, 0, none⟩) (n + 1) (n + 1)) (n + 1) (xs.set k (.int .u8 (f k))) ∧
    (∀ j, j < k + 1 → (xs.set k (.int .u8 (f k)))[j]? = some (.int .u8 (f j))) ∧ Below B w (wr.setCell ⟨B, k, none⟩ (.int .u8 (f k))) := by
  refine ⟨(hown.stored k _).1, fun j hj => ?_, hb.setCell (Nat.le_refl _) _⟩
  have hl : xs.length = (n + 1) * 1 := hown.1
  rw [List.getElem?_set]
  by_cases e : k = j
  · subst e; rw [if_pos rfl, if_pos (by omega)]
  · rw [if_neg e]; exact hx j (by omega)

theorem sep_done {w1 wr : World} {n : Nat} {f : Nat → Int} {xs : List Value}
    (hown : wr.ownsRow w1.heap.size 5 1 (.slice (some ⟨w1.heap.size, 0, none⟩) (n + 1) (n + 1)) (n + 1) xs) (hx : ∀ j, j < n → xs[j]? = some (.int .u8 (f j))) (hb : Below w1.heap.size w1 wr) :
    Below w1.heap.size w1 (wr.setCell ⟨w1.heap.size, n, none⟩ (.int .u8 92)) ∧ RowB (wr.setCell ⟨w1.heap.size, n, none⟩ (.int .u8 92)) (some ⟨w1.heap.size, 0, none⟩) (withSep f n) (n + 1) := by
  have hl : xs.length = n + 1 := by rw [hown.1]; omega
  refine ⟨hb.setCell (Nat.le_refl _) _, fun j hj => ⟨_, _, rfl, ?_⟩⟩
  rw [Nat.zero_add, (hown.stored n (.int .u8 92)).1.cellAt j (by omega), List.getElem?_set]
  unfold withSep
  by_cases e : n = j
  · subst e; rw [if_pos rfl, if_pos (by omega), if_neg (by omega)]
  · rw [if_neg e, if_pos (by omega)]; exact hx j (by omega)

set_option maxHeartbeats 4000000 in
theorem law_main (x : Addr) (n c : Nat) (f : Nat → Int) (s : ByteArray) (w : World) (hn0 : 0 < n) (hn : n ≤ 524288) (hs : s.size ≤ 524288)
    (hr : RowB w (some x) f n) (hy : f (n - 1) ≠ 92) (ht : ∀ h0 : 0 < s.size, ¬ (s[0].toNat : Int) = 92) :
    Calls Trym.prog 5 #[.slice (some x) n c, .string s] w fun e w' => e = .returned (.bool true) ∧ Below w.heap.size w w' := by
  have HR : Hid (RowB w (some x) f n) := hr
  have HT : Hid (trim s = s) := trim_plain s ht
  obtain ⟨b, off, rfl, hlast⟩ : ∃ b off, x = ⟨b, off, none⟩ ∧ w.cell? ⟨b, off + (n - 1), none⟩ = some (.int .u8 (f (n - 1))) := by
    obtain ⟨b, off, h1, h2⟩ := hr (n - 1) (by omega)
    exact ⟨b, off, by simpa using h1, h2⟩
  obtain ⟨y, hyf⟩ : ∃ y, y = f (n - 1) := ⟨_, rfl⟩
  rw [← hyf] at hlast hy
  have HYF : Hid (y = f (n - 1)) := hyf
  have hyb : (y == 92) = false := by simpa using hy
  clear hr hyf
  have hnm : n ≤ maxLen := by unfold maxLen; omega
  have hsm : s.size ≤ maxLen := by unfold maxLen; omega
  obtain ⟨i5, hi, hz0, hz1, hz2⟩ := info_parts info5
  have hq : Hid (decide ((0 : Int) < (s.size : Int)) = true → (decide ((0 : Int) < (s.size : Int)) = true)) := id
  go_enter Trym.func5, Trym.ntmps5
  go_wp2_with fail
  refine (zzBytes_any _ _ _ _ _ hnm hsm).mono ?_
  rintro e w' ⟨⟨r, rfl⟩, rfl⟩
  cases r with
  | false =>
    go_wp2_with fail
    go_ret
    exact ⟨rfl, Below.refl _ _⟩
  | true =>
  go_wp2_with fail
  · go_ret
    exact ⟨rfl, Below.refl _ _⟩
  all_goals
    refine (clone_own _ _ _ f _ (by omega) HR.out).mono ?_
    rintro e w1 ⟨rfl, b1, xs1, o1, x1⟩
    have B1 : Hid (Below w'.heap.size w' w1) := b1
    have P1 : Hid (RowB w1 (some ⟨w'.heap.size, 0, none⟩) f n) := fun j hj => ⟨_, _, rfl, by rw [Nat.zero_add, o1.cellAt j (by omega)]; exact x1 j hj⟩
    clear b1 o1 x1 HR
    go_wp2_with (at_make; refine wpList_make_full _ rfl _ _ 22 rfl w1.heap.size 5 i5 (.int .u8 0) 1 Trym.underlying22 hi hz0 hz1 _ _ _ _ (n + 1) rfl rfl (by omega) (by omega) (by rw [hz2]; omega) (by unfold maxLen; omega) (Nat.le_refl _) ?_; intro w2 hown2 hgrow2)
    have HO2 : Hid (w2.ownsRow w1.heap.size 5 1 (.slice (some ⟨w1.heap.size, 0, none⟩) (n + 1) (n + 1)) (n + 1) (madeCells (Value.int .u8 0).cells ((n + 1) * 1)).toList) := hown2
    have B2 : Hid (Below w1.heap.size w1 w2) := (Below.refl _ _).grown hgrow2 (Nat.le_refl _) (fun k h => by cases h)
    clear hown2 hgrow2
    go_loopw [6] (fun i wr => ∃ k : Nat, ∃ xs : List Value, k ≤ n ∧ i = .int .i64 k ∧ wr.ownsRow w1.heap.size 5 1 (.slice (some ⟨w1.heap.size, 0, none⟩) (n + 1) (n + 1)) (n + 1) xs ∧ (∀ j, j < k → xs[j]? = some (.int .u8 (f j))) ∧ Below w1.heap.size w1 wr) (fun i _ => n - (intOf i).toNat)
    case atStart => exact ⟨0, _, Nat.zero_le _, rfl, HO2.out, fun j hj => by omega, B2.out⟩
    case round =>
      obtain ⟨k, xs, hk, rfl, hown, hx, hb⟩ := hrel
      clear HO2 B2
      have HO : Hid (wr.ownsRow w1.heap.size 5 1 (.slice (some ⟨w1.heap.size, 0, none⟩) (n + 1) (n + 1)) (n + 1) xs) := hown
      have HX : Hid (∀ j, j < k → xs[j]? = some (.int .u8 (f j))) := hx
      have HB : Hid (Below w1.heap.size w1 wr) := hb
      clear hown hx hb
      by_cases hlt : k < n
      · obtain ⟨b', off', hxe, hcell0⟩ := P1.out k hlt
        simp only [Option.some.injEq, Addr.mk.injEq, and_true] at hxe
        obtain ⟨rfl, rfl⟩ := hxe
        rw [Nat.zero_add] at hcell0
        have hcell : wr.cell? ⟨w'.heap.size, k, none⟩ = some (.int .u8 (f k)) := (HB.out.cell (p := ⟨w'.heap.size, k, none⟩) (cell_lt hcell0)).trans hcell0
        obtain ⟨v, hv⟩ : ∃ v, wr.cell? ⟨w1.heap.size, k, none⟩ = some v := by
          rw [HO.out.cellAt k (by omega)]
          exact ⟨_, List.getElem?_eq_getElem (by rw [HO.out.1]; omega)⟩
        have hfz := HO.out.frozenAt k
        have hlt' : (k : Int) < (n : Int) + 1 := by omega
        have R : Hid _ := sep_step hlt (Nat.le_refl _) HO.out HX.out HB.out
        clear hcell0
        go_wp2_with fail
        go_roundw
        case rel => exact ⟨k + 1, _, by omega, by go_num, R.out.1, R.out.2.1, R.out.2.2⟩
        case measure => simp [intOf]; omega
      · obtain ⟨v, hv⟩ : ∃ v, wr.cell? ⟨w1.heap.size, n, none⟩ = some v := by
          rw [HO.out.cellAt n (by omega)]
          exact ⟨_, List.getElem?_eq_getElem (by rw [HO.out.1]; omega)⟩
        have hfz := HO.out.frozenAt n
        have Q3 : Hid (Below w1.heap.size w1 (wr.setCell ⟨w1.heap.size, n, none⟩ (.int .u8 92)) ∧ RowB (wr.setCell ⟨w1.heap.size, n, none⟩ (.int .u8 92)) (some ⟨w1.heap.size, 0, none⟩) (withSep f n) (n + 1)) := sep_done HO.out (fun j hj => HX.out j (by omega)) HB.out
        clear HO HX HB
        go_wp2_with fail
        clear hv hfz
        generalize wr.setCell ⟨w1.heap.size, n, none⟩ (.int .u8 92) = w3 at Q3 ⊢
        have P3 : Hid (RowB w3 (some ⟨w'.heap.size, 0, none⟩) f n) := P1.out.below Q3.out.1
        have S3 : Hid (RowB w3 (some ⟨w1.heap.size, 0, none⟩) (withSep f n) (n + 1)) := Q3.out.2
        have B3 : Hid (Below w'.heap.size w' w3) := B1.out.trans (Q3.out.1.mono B1.out.size)
        have hyf : f (n - 1) ≠ 92 := by rw [← HYF.out]; exact hy
        have hss : (ByteArray.mk #[92] ++ s).size ≤ 4194304 := by rw [ByteArray.size_append]; show 1 + s.size ≤ 4194304; omega
        have HTS : Hid (trim (ByteArray.mk #[92] ++ s) = s) := trim_sep s
        clear P1 Q3 B1
        refine (clone_own _ _ _ f _ (by omega) P3.out).mono ?_
        rintro e w4 ⟨rfl, b4, xs4, o4, x4⟩
        have HB4 : Hid (Below w3.heap.size w3 w4) := b4
        have HO4 : Hid _ := o4
        have HX4 : Hid (∀ j, j < n → xs4[j]? = some (.int .u8 (f j))) := x4
        clear b4 o4 x4
        go_wp2_with fail
        refine (made_bare _ n n w3.heap.size xs4 f s s _ hn0 (by omega) (by omega) hyf HT.out HO4.out HB4.out.size HX4.out).mono ?_
        rintro e w5 ⟨b5, g1, c1, rfl, r1⟩
        have D5 : Below w3.heap.size w3 w5 := HB4.out.trans b5
        have P5 : Hid (RowB w5 (some ⟨w'.heap.size, 0, none⟩) f n) := P3.out.below D5
        have S5 : Hid (RowB w5 (some ⟨w1.heap.size, 0, none⟩) (withSep f n) (n + 1)) := S3.out.below D5
        have B5 : Hid (Below w'.heap.size w' w5) := B3.out.trans (D5.mono B3.out.size)
        have R5 : Hid (RowB w5 (some ⟨g1, 0, none⟩) (joined f n s) (n + 1 + s.size)) := r1
        clear P3 S3 B3 D5 b5 r1 HB4 HO4 HX4
        go_wp2_with fail
        refine (clone_own _ _ _ (withSep f n) _ (by omega) S5.out).mono ?_
        rintro e w6 ⟨rfl, b6, xs6, o6, x6⟩
        have HB6 : Hid (Below w5.heap.size w5 w6) := b6
        have HO6 : Hid _ := o6
        have HX6 : Hid (∀ j, j < n + 1 → xs6[j]? = some (.int .u8 (withSep f n j))) := x6
        clear b6 o6 x6
        go_wp2_with fail
        refine (made_sep _ n (n + 1) w5.heap.size xs6 f s s _ (by omega) (by omega) HT.out HO6.out HB6.out.size HX6.out).mono ?_
        rintro e w7 ⟨b7, g2, c2, rfl, r2⟩
        have D7 : Below w5.heap.size w5 w7 := HB6.out.trans b7
        have P7 : Hid (RowB w7 (some ⟨w'.heap.size, 0, none⟩) f n) := P5.out.below D7
        have S7 : Hid (RowB w7 (some ⟨w1.heap.size, 0, none⟩) (withSep f n) (n + 1)) := S5.out.below D7
        have B7 : Hid (Below w'.heap.size w' w7) := B5.out.trans (D7.mono B5.out.size)
        have R7 : Hid (RowB w7 (some ⟨g1, 0, none⟩) (joined f n s) (n + 1 + s.size)) := R5.out.below D7
        have T7 : Hid (RowB w7 (some ⟨g2, 0, none⟩) (joined f n s) (n + 1 + s.size)) := r2
        clear P5 S5 B5 R5 D7 b7 r2 HB6 HO6 HX6
        go_wp2_with fail
        refine (clone_own _ _ _ f _ (by omega) P7.out).mono ?_
        rintro e w8 ⟨rfl, b8, xs8, o8, x8⟩
        have HB8 : Hid (Below w7.heap.size w7 w8) := b8
        have HO8 : Hid _ := o8
        have HX8 : Hid (∀ j, j < n → xs8[j]? = some (.int .u8 (f j))) := x8
        clear b8 o8 x8
        go_wp2_with fail
        refine (made_bare _ n n w7.heap.size xs8 f _ s _ hn0 (by omega) hss hyf HTS.out HO8.out HB8.out.size HX8.out).mono ?_
        rintro e w9 ⟨b9, g3, c3, rfl, r3⟩
        have D9 : Below w7.heap.size w7 w9 := HB8.out.trans b9
        have S9 : Hid (RowB w9 (some ⟨w1.heap.size, 0, none⟩) (withSep f n) (n + 1)) := S7.out.below D9
        have B9 : Hid (Below w'.heap.size w' w9) := B7.out.trans (D9.mono B7.out.size)
        have R9 : Hid (RowB w9 (some ⟨g1, 0, none⟩) (joined f n s) (n + 1 + s.size)) := R7.out.below D9
        have T9 : Hid (RowB w9 (some ⟨g2, 0, none⟩) (joined f n s) (n + 1 + s.size)) := T7.out.below D9
        have U9 : Hid (RowB w9 (some ⟨g3, 0, none⟩) (joined f n s) (n + 1 + s.size)) := r3
        clear P7 S7 B7 R7 T7 D9 b9 r3 HB8 HO8 HX8
        go_wp2_with fail
        refine (clone_own _ _ _ (withSep f n) _ (by omega) S9.out).mono ?_
        rintro e wa ⟨rfl, ba, xsa, oa, xa⟩
        have HBa : Hid (Below w9.heap.size w9 wa) := ba
        have HOa : Hid _ := oa
        have HXa : Hid (∀ j, j < n + 1 → xsa[j]? = some (.int .u8 (withSep f n j))) := xa
        clear ba oa xa
        go_wp2_with fail
        refine (made_sep _ n (n + 1) w9.heap.size xsa f _ s _ (by omega) hss HTS.out HOa.out HBa.out.size HXa.out).mono ?_
        rintro e wb ⟨bb, g4, c4, rfl, r4⟩
        have Db : Below w9.heap.size w9 wb := HBa.out.trans bb
        have Bb : Hid (Below w'.heap.size w' wb) := B9.out.trans (Db.mono B9.out.size)
        have Rb : Hid (RowB wb (some ⟨g1, 0, none⟩) (joined f n s) (n + 1 + s.size)) := R9.out.below Db
        have Tb : Hid (RowB wb (some ⟨g2, 0, none⟩) (joined f n s) (n + 1 + s.size)) := T9.out.below Db
        have Ub : Hid (RowB wb (some ⟨g3, 0, none⟩) (joined f n s) (n + 1 + s.size)) := U9.out.below Db
        have Vb : Hid (RowB wb (some ⟨g4, 0, none⟩) (joined f n s) (n + 1 + s.size)) := r4
        clear S9 B9 R9 T9 U9 Db bb r4 HBa HOa HXa
        have hLm : n + 1 + s.size ≤ maxLen := by unfold maxLen; omega
        go_wp2_with fail
        refine (equal_any _ _ _ _ _ (joined f n s) _ hLm Rb.out Tb.out).mono ?_
        rintro e wc ⟨rfl, qc, rfl⟩
        go_wp2_with fail
        refine (equal_any _ _ _ _ _ (joined f n s) _ hLm (Rb.out.drewN _) (Ub.out.drewN _)).mono ?_
        rintro e wd ⟨rfl, qd, rfl⟩
        go_wp2_with fail
        refine (equal_any _ _ _ _ _ (joined f n s) _ hLm (Rb.out.drewN _) (Vb.out.drewN _)).mono ?_
        rintro e we ⟨rfl, qe, rfl⟩
        go_wp2_with fail
        go_ret
        exact ⟨rfl, below_drewN Bb.out _⟩

set_option maxHeartbeats 1000000 in
theorem law_off (a : Option Addr) (n c : Nat) (f : Nat → Int) (s : ByteArray) (w : World) (hnm : n ≤ maxLen) (hsm : s.size ≤ maxLen)
    (h : 524288 < n ∨ 524288 < s.size ∨ n = 0) :
    Calls Trym.prog 5 #[.slice a n c, .string s] w fun e w' => e = .returned (.bool true) ∧ Below w.heap.size w w' := by
  by_cases h1 : (524288 : Int) < (n : Int)
  · clear h
    go_enter Trym.func5, Trym.ntmps5
    go_wp2_with fail
    refine (zzBytes_any _ _ _ _ _ hnm hsm).mono ?_
    rintro e w' ⟨⟨r, rfl⟩, rfl⟩
    cases r <;> (go_wp2_with fail; go_ret; exact ⟨rfl, Below.refl _ _⟩)
  by_cases h2 : (524288 : Int) < (s.size : Int)
  · clear h
    go_enter Trym.func5, Trym.ntmps5
    go_wp2_with fail
    refine (zzBytes_any _ _ _ _ _ hnm hsm).mono ?_
    rintro e w' ⟨⟨r, rfl⟩, rfl⟩
    cases r <;> (go_wp2_with fail; go_ret; exact ⟨rfl, Below.refl _ _⟩)
  have h3 : n = 0 := by omega
  subst h3
  clear h
  go_enter Trym.func5, Trym.ntmps5
  go_wp2_with fail
  refine (zzBytes_any _ _ _ _ _ hnm hsm).mono ?_
  rintro e w' ⟨⟨r, rfl⟩, rfl⟩
  cases r <;> (go_wp2_with fail; go_ret; exact ⟨rfl, Below.refl _ _⟩)

set_option maxHeartbeats 1000000 in
theorem law_last (b off n c : Nat) (s : ByteArray) (w : World) (hn0 : 0 < n) (hn : n ≤ 524288) (hs : s.size ≤ 524288) (hlast : w.cell? ⟨b, off + (n - 1), none⟩ = some (.int .u8 92)) :
    Calls Trym.prog 5 #[.slice (some ⟨b, off, none⟩) n c, .string s] w fun e w' => e = .returned (.bool true) ∧ Below w.heap.size w w' := by
  have hnm : n ≤ maxLen := by unfold maxLen; omega
  have hsm : s.size ≤ maxLen := by unfold maxLen; omega
  go_enter Trym.func5, Trym.ntmps5
  go_wp2_with fail
  refine (zzBytes_any _ _ _ _ _ hnm hsm).mono ?_
  rintro e w' ⟨⟨r, rfl⟩, rfl⟩
  cases r <;> (go_wp2_with fail; go_ret; exact ⟨rfl, Below.refl _ _⟩)

set_option maxHeartbeats 1000000 in
theorem law_text (b off n c : Nat) (y : Int) (s : ByteArray) (w : World) (hn0 : 0 < n) (hn : n ≤ 524288) (hs : s.size ≤ 524288) (hlast : w.cell? ⟨b, off + (n - 1), none⟩ = some (.int .u8 y)) (hy : y ≠ 92)
    (h0 : 0 < s.size) (ht : (s[0].toNat : Int) = 92) :
    Calls Trym.prog 5 #[.slice (some ⟨b, off, none⟩) n c, .string s] w fun e w' => e = .returned (.bool true) ∧ Below w.heap.size w w' := by
  have hnm : n ≤ maxLen := by unfold maxLen; omega
  have hsm : s.size ≤ maxLen := by unfold maxLen; omega
  have hyb : (y == 92) = false := by simpa using hy
  go_enter Trym.func5, Trym.ntmps5
  go_wp2_with fail
  refine (zzBytes_any _ _ _ _ _ hnm hsm).mono ?_
  rintro e w' ⟨⟨r, rfl⟩, rfl⟩
  cases r <;> (go_wp2_with fail; go_ret; exact ⟨rfl, Below.refl _ _⟩)

theorem law_any (a : Option Addr) (n c : Nat) (f : Nat → Int) (s : ByteArray) (w : World) (hnm : n ≤ maxLen) (hsm : s.size ≤ maxLen) (hr : RowB w a f n) :
    Calls Trym.prog 5 #[.slice a n c, .string s] w fun e w' => e = .returned (.bool true) ∧ Below w.heap.size w w' := by
  by_cases h : 524288 < n ∨ 524288 < s.size ∨ n = 0
  · exact law_off a n c f s w hnm hsm h
  have e1 : 0 < n := by omega
  have e2 : n ≤ 524288 := by omega
  have e3 : s.size ≤ 524288 := by omega
  obtain ⟨b, off, rfl, hlast⟩ := hr (n - 1) (by omega)
  by_cases hy : f (n - 1) = 92
  · exact law_last b off n c s w e1 e2 e3 (by rw [← hy]; exact hlast)
  by_cases ht : ∀ h0 : 0 < s.size, ¬ (s[0].toNat : Int) = 92
  · exact law_main _ n c f s w e1 e2 e3 hr hy ht
  · obtain ⟨h0, h1⟩ : ∃ h0 : 0 < s.size, (s[0].toNat : Int) = 92 := by
      by_cases h0 : 0 < s.size
      · by_cases h1 : (s[0].toNat : Int) = 92
        · exact ⟨h0, h1⟩
        · exact absurd (fun _ => h1) ht
      · exact absurd (fun h => absurd h h0) ht
    exact law_text b off n c _ s w e1 e2 e3 hlast hy h0 h1
end Go.Proofs.Qxb6600872aMods.Pth
