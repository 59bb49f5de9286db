/-
  The walk of 'FnRefIsTheWholeListBranchesFirst'.
-/
import Derived.Test.Qxb6601599aModsZZRef
namespace Go.Proofs.Qxb6601599aMods.Rfs
open Go.RowKit
set_option linter.unusedVariables false

theorem info46 : (Trym.prog.info? 46).map (fun i => (i.zero, i.size, i.bytes)) = some (some (.agg #[.string ByteArray.empty, .string ByteArray.empty, .string ByteArray.empty, .bool false]), 4, 56) := by kernel_rfl

/-- The whole list as far as it has been gathered: m entries. -/
def EInv (f1 g1 f2 g2 : Nat → ByteArray) (n1 : Nat) (w wr : World) (v : Value) (m : Nat) : Prop :=
  Below w.heap.size w wr ∧ ∃ xs, wr.ownsRow w.heap.size 46 4 v m xs ∧ ∀ j, j < m → xs[j * 4]? = some (.string (nth f1 f2 n1 j)) ∧ xs[j * 4 + 1]? = some (.string (nth g1 g2 n1 j)) ∧ xs[j * 4 + 2]? = some (.string (full f1 f2 n1 j)) ∧ xs[j * 4 + 3]? = some (.bool (isTag n1 j))
theorem EInv.far {f1 g1 f2 g2 : Nat → ByteArray} {n1 : Nat} {w wr : World} {v : Value} {m b : Nat} (h : EInv f1 g1 f2 g2 n1 w wr v m) (hb : b < w.heap.size) : v.ownBlock ≠ some b := by
  obtain ⟨_, xs, hown, _⟩ := h
  intro e
  have := (hown.lt b e).1
  omega
theorem EInv.grow {f1 g1 f2 g2 : Nat → ByteArray} {n1 : Nat} {w wr w1 : World} {v v' : Value} {m : Nat} {xs : List Value} {s t u : ByteArray} {q : Bool} {o : Obj}
    (hb : Below w.heap.size w wr) (hown : wr.ownsRow w.heap.size 46 4 v m xs) (hx : ∀ j, j < m → xs[j * 4]? = some (.string (nth f1 f2 n1 j)) ∧ xs[j * 4 + 1]? = some (.string (nth g1 g2 n1 j)) ∧ xs[j * 4 + 2]? = some (.string (full f1 f2 n1 j)) ∧ xs[j * 4 + 3]? = some (.bool (isTag n1 j)))
    (hs : nth f1 f2 n1 m = s) (ht : nth g1 g2 n1 m = t) (hu : full f1 f2 n1 m = u) (hq : isTag n1 m = q)
    (hown1 : w1.ownsRow w.heap.size 46 4 v' (m + 1) (xs ++ [.string s, .string t, .string u, .bool q])) (hgrow : (wr.alloc o).drew.grownBy w1 v.ownBlock) : EInv f1 g1 f2 g2 n1 w w1 v' (m + 1) := by
  have hl : xs.length = m * 4 := hown.1
  refine ⟨((hb.alloc hb.size o).drew).grown hgrow (by simpa using Nat.le_succ_of_le hb.size) (fun k hk => (hown.lt k hk).1), _, hown1, fun j hj => ?_⟩
  by_cases e : j = m
  · subst e
    refine ⟨?_, ?_, ?_, ?_⟩
    · rw [List.getElem?_append_right (by omega), hl, show j * 4 - j * 4 = 0 from by omega, hs]; rfl
    · rw [List.getElem?_append_right (by omega), hl, show j * 4 + 1 - j * 4 = 1 from by omega, ht]; rfl
    · rw [List.getElem?_append_right (by omega), hl, show j * 4 + 2 - j * 4 = 2 from by omega, hu]; rfl
    · rw [List.getElem?_append_right (by omega), hl, show j * 4 + 3 - j * 4 = 3 from by omega, hq]; rfl
  · have := hx j (by omega)
    rw [List.getElem?_append_left (by omega), List.getElem?_append_left (by omega), List.getElem?_append_left (by omega), List.getElem?_append_left (by omega)]
    exact this

set_option maxRecDepth 100000 in
set_option maxHeartbeats 4000000 in
theorem law_main (a1 a2 : Option Addr) (n1 n2 c1 c2 k : Nat) (f1 g1 f2 g2 : Nat → ByteArray) (w : World) (hn1 : n1 ≤ maxLen) (hn2 : n2 ≤ maxLen) (hk : k < n1 + n2)
    (ha1 : a1 = none → n1 = 0 ∧ c1 = 0) (ha2 : a2 = none → n2 = 0 ∧ c2 = 0) (hr1 : RowR w a1 f1 g1 n1) (hr2 : RowR w a2 f2 g2 n2) :
    Calls Trym.prog 5 #[.slice a1 n1 c1, .slice a2 n2 c2, .int .i64 k] w fun e w' => e = .returned (.bool true) ∧ Below w.heap.size w w' := by
  have H1 : Hid (RowR w a1 f1 g1 n1) := hr1
  have H2 : Hid (RowR w a2 f2 g2 n2) := hr2
  have G1 : Hid (a1 = none → n1 = 0 ∧ c1 = 0) := ha1
  have G2 : Hid (a2 = none → n2 = 0 ∧ c2 = 0) := ha2
  clear hr1 hr2 ha1 ha2
  obtain ⟨i46, hi, hz0, hz1, hz2⟩ := info_parts info46
  go_enter Trym.func5, Trym.ntmps5
  go_wp2_with fail
  refine (zzBytes_any _ _ _ _ _ _ f1 g1 f2 g2 _ _ hn1 hn2 H1.out H2.out).mono ?_
  rintro e w' ⟨⟨r, rfl, hsm⟩, rfl⟩
  cases r with
  | false =>
    clear hsm
    go_wp2_with fail
    go_ret
    exact ⟨rfl, Below.refl _ _⟩
  | true =>
  obtain ⟨m1, m2, s1, s2⟩ := hsm rfl
  have S1 : Hid (Short f1 n1) := s1
  have S2 : Hid (Short f2 n2) := s2
  clear hsm s1 s2
  go_wp2_with fail
  refine (rowsBytes_any _ _ _ f1 g1 _ hn1 H1.out).mono ?_
  rintro e w' ⟨⟨r1, rfl⟩, rfl⟩
  go_wp2_with fail
  refine (rowsBytes_any _ _ _ f2 g2 _ hn2 H2.out).mono ?_
  rintro e w' ⟨⟨r2, rfl⟩, rfl⟩
  go_wp2_with fail
  refine (addLen_any _ _ _).mono ?_
  rintro e w' ⟨⟨r3, rfl⟩, rfl⟩
  by_cases hr3 : 1048576 < r3
  · go_wp2_with fail
    go_ret
    exact ⟨rfl, Below.refl _ _⟩
  have d0 : decide ((k : Int) < 0) = false := decide_eq_false (by omega)
  have d1 : decide ((n1 : Int) + (n2 : Int) ≤ (k : Int)) = false := decide_eq_false (by omega)
  go_wp2_with (at_make; refine wpList_make_own _ rfl _ _ 44 rfl w'.heap.size 46 i46 _ 4 Trym.underlying44 hi hz0 hz1 _ _ _ (n1 + n2) rfl rfl (by omega) (by rw [hz2]; omega) (by unfold maxLen; omega) (Nat.le_refl _) ?_; intro w1 hown hgrow)
  have HV : Hid (EInv f1 g1 f2 g2 n1 w' w1 (.slice (some ⟨w'.heap.size, 0, none⟩) 0 (n1 + n2)) 0) := ⟨(Below.refl _ _).grown hgrow (Nat.le_refl _) (fun k h => by cases h), _, hown, fun j hj => by omega⟩
  clear hown hgrow
  go_loopw [7, 8] (fun v i wr => ∃ j : Nat, j ≤ n1 ∧ i = .int .i64 j ∧ EInv f1 g1 f2 g2 n1 w' wr v (j)) (fun _ i _ => n1 - (intOf i).toNat)
  case atStart => exact ⟨0, Nat.zero_le _, rfl, HV.out⟩
  case round =>
    obtain ⟨j, hj, rfl, hinv⟩ := hrel
    clear HV
    by_cases hlt : j < n1
    · obtain ⟨b, off, rfl, hc1', hc2'⟩ := H1.out j hlt
      have hbl : b < w'.heap.size := cell_lt hc1'
      have ag := hinv.far hbl
      obtain ⟨hb, xs, hown, hx⟩ := hinv
      have hbr : b < wr.heap.size := Nat.lt_of_lt_of_le hbl hb.size
      have hbase : w'.heap.size ≤ wr.heap.size := hb.size
      obtain ⟨s, hs⟩ : ∃ s, f1 j = s := ⟨_, rfl⟩
      obtain ⟨t, ht⟩ : ∃ t, g1 j = t := ⟨_, rfl⟩
      have hc1 : wr.cell? ⟨b, off + j * 2, none⟩ = some (.string s) := by rw [← hs]; exact (hb.cell (p := ⟨b, off + j * 2, none⟩) hbl).trans hc1'
      have hc2 : wr.cell? ⟨b, off + j * 2 + 1, none⟩ = some (.string t) := by rw [← ht]; exact (hb.cell (p := ⟨b, off + j * 2 + 1, none⟩) hbl).trans hc2'
      have hsz : s.size ≤ 1048576 := by rw [← hs]; exact S1.out j hlt
      have ES : Hid (nth f1 f2 n1 (j) = s) := by unfold nth; rw [if_pos hlt]; exact hs
      have ET : Hid (nth g1 g2 n1 (j) = t) := by unfold nth; rw [if_pos hlt]; exact ht
      have EU : Hid (full f1 f2 n1 (j) = ByteArray.mk #[114, 101, 102, 115, 47, 104, 101, 97, 100, 115, 47] ++ s) := by unfold full; rw [if_pos hlt]; rw [hs]; rfl
      have EQ : Hid (isTag n1 (j) = false) := by unfold isTag; exact decide_eq_false (by omega)
      have HB : Hid (Below w'.heap.size w' wr) := hb
      have HX : Hid (∀ j', j' < j → xs[j' * 4]? = some (.string (nth f1 f2 n1 j')) ∧ xs[j' * 4 + 1]? = some (.string (nth g1 g2 n1 j')) ∧ xs[j' * 4 + 2]? = some (.string (full f1 f2 n1 j')) ∧ xs[j' * 4 + 3]? = some (.bool (isTag n1 j'))) := hx
      have HO : Hid (wr.ownsRow w'.heap.size 46 4 u7 (j) xs) := hown
      clear hc1' hc2' hs ht hb hx hown
      have hlt0 : (0 : Int) ≤ (j : Int) := by omega
      have hlt' : (j : Int) < (n1 : Int) := by omega
      have hcat : ¬ 9223372036854775807 < 11 + s.size := by omega
      go_wp2_with fail
      go_region_held3 (fun w'' => w''.cell? ⟨b, off + j * 2, none⟩ = some (.string s) ∧ w''.cell? ⟨b, off + j * 2 + 1, none⟩ = some (.string t))
        (first
          | go_keep
          | (go_split_ands
             refine ⟨?_, ?_⟩
             · (rw [hgrow.cell_far _ (by simp; omega) (Ne.symm ag)]; assumption)
             · (rw [hgrow.cell_far _ (by simp; omega) (Ne.symm ag)]; assumption)))
        ((refine step_append_lies _ (by rfl) _ _ _ (by rfl) w'.heap.size 46 i46 _ 4 56 Trym.underlying44 hi hz0 hz1 hz2 rfl (by omega) u7 (j) xs (by rfl) ((HO.out.alloc _).drew)
            ⟨wr.heap.size, 0, none⟩ 1 1 [.string s, .string t, .string (ByteArray.mk #[114, 101, 102, 115, 47, 104, 101, 97, 100, 115, 47] ++ s), .bool false] (by rfl) (by rfl) (World.news_of_block (cs := #[.string s, .string t, .string (ByteArray.mk #[114, 101, 102, 115, 47, 104, 101, 97, 100, 115, 47] ++ s), .bool false]) (t := 46) (fr := (0, 0)) (heap_alloc_new wr _)) (by simp [Value.oneCell'])
            (by omega) (by unfold maxLen; omega) (by omega) (by simp; omega) (wr.heap.size + 1) (by simp) ?_; intro gg cap w2 hown1 hgrow hat hltg))
      go_wp2_with fail
      go_roundw
      case rel =>
        refine ⟨j + 1, by omega, by go_num, ?_⟩
        exact EInv.grow HB.out HO.out HX.out ES.out ET.out EU.out EQ.out hown1 hgrow
      case measure => simp [intOf]; omega
    · have hjn : j = n1 := by omega
      have HV : Hid (EInv f1 g1 f2 g2 n1 w' wr u7 (n1 + 0)) := by rw [hjn] at hinv; exact hinv
      clear hinv hjn
      go_wp2_with fail
      go_loopw [7, 9] (fun v i wr => ∃ j : Nat, j ≤ n2 ∧ i = .int .i64 j ∧ EInv f1 g1 f2 g2 n1 w' wr v (n1 + j)) (fun _ i _ => n2 - (intOf i).toNat)
      case atStart => exact ⟨0, Nat.zero_le _, rfl, HV.out⟩
      case round =>
        obtain ⟨j, hj, rfl, hinv⟩ := hrel
        clear HV
        by_cases hlt : j < n2
        · obtain ⟨b, off, rfl, hc1', hc2'⟩ := H2.out j hlt
          have hbl : b < w'.heap.size := cell_lt hc1'
          have ag := hinv.far hbl
          obtain ⟨hb, xs, hown, hx⟩ := hinv
          have hbr : b < wr.heap.size := Nat.lt_of_lt_of_le hbl hb.size
          have hbase : w'.heap.size ≤ wr.heap.size := hb.size
          obtain ⟨s, hs⟩ : ∃ s, f2 j = s := ⟨_, rfl⟩
          obtain ⟨t, ht⟩ : ∃ t, g2 j = t := ⟨_, rfl⟩
          have hc1 : wr.cell? ⟨b, off + j * 2, none⟩ = some (.string s) := by rw [← hs]; exact (hb.cell (p := ⟨b, off + j * 2, none⟩) hbl).trans hc1'
          have hc2 : wr.cell? ⟨b, off + j * 2 + 1, none⟩ = some (.string t) := by rw [← ht]; exact (hb.cell (p := ⟨b, off + j * 2 + 1, none⟩) hbl).trans hc2'
          have hsz : s.size ≤ 1048576 := by rw [← hs]; exact S2.out j hlt
          have ES : Hid (nth f1 f2 n1 (n1 + j) = s) := by unfold nth; rw [if_neg (by omega), show n1 + j - n1 = j from by omega]; exact hs
          have ET : Hid (nth g1 g2 n1 (n1 + j) = t) := by unfold nth; rw [if_neg (by omega), show n1 + j - n1 = j from by omega]; exact ht
          have EU : Hid (full f1 f2 n1 (n1 + j) = ByteArray.mk #[114, 101, 102, 115, 47, 116, 97, 103, 115, 47] ++ s) := by unfold full; rw [if_neg (by omega), show n1 + j - n1 = j from by omega]; rw [hs]; rfl
          have EQ : Hid (isTag n1 (n1 + j) = true) := by unfold isTag; exact decide_eq_true (by omega)
          have HB : Hid (Below w'.heap.size w' wr) := hb
          have HX : Hid (∀ j', j' < n1 + j → xs[j' * 4]? = some (.string (nth f1 f2 n1 j')) ∧ xs[j' * 4 + 1]? = some (.string (nth g1 g2 n1 j')) ∧ xs[j' * 4 + 2]? = some (.string (full f1 f2 n1 j')) ∧ xs[j' * 4 + 3]? = some (.bool (isTag n1 j'))) := hx
          have HO : Hid (wr.ownsRow w'.heap.size 46 4 u7 (n1 + j) xs) := hown
          clear hc1' hc2' hs ht hb hx hown
          have hlt0 : (0 : Int) ≤ (j : Int) := by omega
          have hlt' : (j : Int) < (n2 : Int) := by omega
          have hcat : ¬ 9223372036854775807 < 10 + s.size := by omega
          go_wp2_with fail
          go_region_held3 (fun w'' => w''.cell? ⟨b, off + j * 2, none⟩ = some (.string s) ∧ w''.cell? ⟨b, off + j * 2 + 1, none⟩ = some (.string t))
            (first
              | go_keep
              | (go_split_ands
                 refine ⟨?_, ?_⟩
                 · (rw [hgrow.cell_far _ (by simp; omega) (Ne.symm ag)]; assumption)
                 · (rw [hgrow.cell_far _ (by simp; omega) (Ne.symm ag)]; assumption)))
            ((refine step_append_lies _ (by rfl) _ _ _ (by rfl) w'.heap.size 46 i46 _ 4 56 Trym.underlying44 hi hz0 hz1 hz2 rfl (by omega) u7 (n1 + j) xs (by rfl) ((HO.out.alloc _).drew)
                ⟨wr.heap.size, 0, none⟩ 1 1 [.string s, .string t, .string (ByteArray.mk #[114, 101, 102, 115, 47, 116, 97, 103, 115, 47] ++ s), .bool true] (by rfl) (by rfl) (World.news_of_block (cs := #[.string s, .string t, .string (ByteArray.mk #[114, 101, 102, 115, 47, 116, 97, 103, 115, 47] ++ s), .bool true]) (t := 46) (fr := (0, 0)) (heap_alloc_new wr _)) (by simp [Value.oneCell'])
                (by omega) (by unfold maxLen; omega) (by omega) (by simp; omega) (wr.heap.size + 1) (by simp) ?_; intro gg cap w2 hown1 hgrow hat hltg))
          go_wp2_with fail
          go_roundw
          case rel =>
            refine ⟨j + 1, by omega, by go_num, ?_⟩
            exact EInv.grow HB.out HO.out HX.out ES.out ET.out EU.out EQ.out hown1 hgrow
          case measure => simp [intOf]; omega
        · have hjn : j = n2 := by omega
          have HE : Hid (EInv f1 g1 f2 g2 n1 w' wr u7 (n1 + n2)) := by rw [hjn] at hinv; exact hinv
          clear hinv hjn
          obtain ⟨hb, xs, hown, hx⟩ := HE.out
          obtain ⟨g, cap, hu7, hgl⟩ : ∃ g cap, u7 = .slice (some ⟨g, 0, none⟩) (n1 + n2) cap ∧ g < wr.heap.size := by
            rcases hown.2 with ⟨_, h⟩ | ⟨g, cap, cur, hv, _, hh, _⟩
            · omega
            · refine ⟨g, cap, hv, ?_⟩
              by_cases h : g < wr.heap.size
              · exact h
              · rw [Array.getElem?_eq_none (by omega)] at hh; cases hh
          rw [hu7] at hown ⊢
          obtain ⟨x0, x1, x2, x3⟩ := hx k hk
          have y0 : wr.cell? ⟨g, k * 4, none⟩ = some (.string (nth f1 f2 n1 k)) := by rw [hown.cellAt (k * 4) (by omega)]; exact x0
          have y1 : wr.cell? ⟨g, k * 4 + 1, none⟩ = some (.string (nth g1 g2 n1 k)) := by rw [hown.cellAt (k * 4 + 1) (by omega)]; exact x1
          have y2 : wr.cell? ⟨g, k * 4 + 2, none⟩ = some (.string (full f1 f2 n1 k)) := by rw [hown.cellAt (k * 4 + 2) (by omega)]; exact x2
          have y3 : wr.cell? ⟨g, k * 4 + 3, none⟩ = some (.bool (isTag n1 k)) := by rw [hown.cellAt (k * 4 + 3) (by omega)]; exact x3
          obtain ⟨s, hs⟩ : ∃ s, nth f1 f2 n1 k = s := ⟨_, rfl⟩
          obtain ⟨t, ht⟩ : ∃ s, nth g1 g2 n1 k = s := ⟨_, rfl⟩
          obtain ⟨u, hu⟩ : ∃ s, full f1 f2 n1 k = s := ⟨_, rfl⟩
          obtain ⟨q, hq⟩ : ∃ s, isTag n1 k = s := ⟨_, rfl⟩
          rw [hs] at y0
          rw [ht] at y1
          rw [hu] at y2
          rw [hq] at y3
          have Y : Hid (wr.cell? ⟨g, k * 4, none⟩ = some (.string s) ∧ wr.cell? ⟨g, k * 4 + 1, none⟩ = some (.string t) ∧ wr.cell? ⟨g, k * 4 + 2, none⟩ = some (.string u) ∧ wr.cell? ⟨g, k * 4 + 3, none⟩ = some (.bool q)) := ⟨y0, y1, y2, y3⟩
          have HS : Hid (nth f1 f2 n1 k = s) := hs
          have HT : Hid (nth g1 g2 n1 k = t) := ht
          have HU : Hid (full f1 f2 n1 k = u) := hu
          have HQ : Hid (isTag n1 k = q) := hq
          have B0 : Hid (Below w'.heap.size w' wr) := hb
          clear hb hown hx hu7 x0 x1 x2 x3 y0 y1 y2 y3 hs ht hu hq HE
          go_wp2_with fail
          refine (toRefs_any _ _ _ f1 g1 _ m1 G1.out (H1.out.below B0.out)).mono ?_
          rintro e w3 ⟨z1, e1, rfl, rr1, b3⟩
          have B3 : Hid (Below wr.heap.size wr w3) := b3
          have R1 : Hid (RowR w3 z1 f1 g1 n1) := rr1
          clear b3 rr1
          go_wp2_with fail
          refine (toRefs_any _ _ _ f2 g2 _ m2 G2.out ((H2.out.below B0.out).below B3.out)).mono ?_
          rintro e w4 ⟨z2, e2, rfl, rr2, b4⟩
          have B4 : Hid (Below w3.heap.size w3 w4) := b4
          have R2 : Hid (RowR w4 z2 f2 g2 n2) := rr2
          have R1' : Hid (RowR w4 z1 f1 g1 n1) := R1.out.below B4.out
          clear b4 rr2 R1
          have A4 : Hid (∀ o, Below w4.heap.size w4 (w4.alloc o)) := fun o => (Below.refl _ _).alloc (Nat.le_refl _) o
          go_wp2_with fail
          refine (zzRef_any _ _ _ e1 _ e2 z1 z2 f1 g1 f2 g2 _ hk m1 m2 S1.out S2.out (by simp) (by simp) (R1'.out.below (A4.out _)) (R2.out.below (A4.out _))).mono ?_
          rw [HS.out, HT.out, HU.out, HQ.out]
          rintro e w5 ⟨rfl, b5⟩
          have D5 : Hid (Below wr.heap.size wr w5) := ((B3.out.trans (B4.out.mono B3.out.size)).trans ((A4.out _).mono (Nat.le_trans B3.out.size B4.out.size))).trans (b5.mono (by have h1 := B3.out.size; have h2 := B4.out.size; simp; omega))
          clear b5 A4 B3 B4 R1' R2
          have BB : Hid (Below w'.heap.size w' w5) := B0.out.trans (D5.out.mono B0.out.size)
          have y0 : w5.cell? ⟨g, k * 4, none⟩ = some (.string s) := (D5.out.cell (p := ⟨g, k * 4, none⟩) hgl).trans Y.out.1
          have y1 : w5.cell? ⟨g, k * 4 + 1, none⟩ = some (.string t) := (D5.out.cell (p := ⟨g, k * 4 + 1, none⟩) hgl).trans Y.out.2.1
          have y2 : w5.cell? ⟨g, k * 4 + 2, none⟩ = some (.string u) := (D5.out.cell (p := ⟨g, k * 4 + 2, none⟩) hgl).trans Y.out.2.2.1
          have y3 : w5.cell? ⟨g, k * 4 + 3, none⟩ = some (.bool q) := (D5.out.cell (p := ⟨g, k * 4 + 3, none⟩) hgl).trans Y.out.2.2.2
          have hg5 : g < w5.heap.size := Nat.lt_of_lt_of_le hgl D5.out.size
          have hk' : (k : Int) < (n1 : Int) + (n2 : Int) := by omega
          clear D5 Y
          go_wp2_with fail
          refine (sameRef_any _ _ _).mono ?_
          rintro e w6 ⟨rfl, b6⟩
          have o2 := b6.cell (p := ⟨w5.heap.size + 1, 2, none⟩) (by simp)
          have o3 := b6.cell (p := ⟨w5.heap.size + 1, 3, none⟩) (by simp)
          simp at o2 o3
          have B6 : Hid (Below w'.heap.size w' w6) := ((BB.out.alloc BB.out.size _).alloc (by have := BB.out.size; simp; omega) _).trans (b6.mono (by have := BB.out.size; simp; omega))
          clear b6 BB y0 y1 y2 y3
          cases q
          · go_wp2_with fail
            go_ret
            exact ⟨rfl, B6.out⟩
          · go_wp2_with fail
            go_ret
            exact ⟨rfl, B6.out⟩

set_option maxHeartbeats 1000000 in
theorem law_off (a1 a2 : Option Addr) (n1 n2 c1 c2 : Nat) (z : Int) (f1 g1 f2 g2 : Nat → ByteArray) (w : World) (hn1 : n1 ≤ maxLen) (hn2 : n2 ≤ maxLen) (hz : z < 0 ∨ (n1 : Int) + (n2 : Int) ≤ z)
    (hr1 : RowR w a1 f1 g1 n1) (hr2 : RowR w a2 f2 g2 n2) :
    Calls Trym.prog 5 #[.slice a1 n1 c1, .slice a2 n2 c2, .int .i64 z] w fun e w' => e = .returned (.bool true) ∧ Below w.heap.size w w' := by
  have H1 : Hid (RowR w a1 f1 g1 n1) := hr1
  have H2 : Hid (RowR w a2 f2 g2 n2) := hr2
  have HZ : Hid (z < 0 ∨ (n1 : Int) + (n2 : Int) ≤ z) := hz
  clear hr1 hr2 hz
  go_enter Trym.func5, Trym.ntmps5
  go_wp2_with fail
  refine (zzBytes_any _ _ _ _ _ _ f1 g1 f2 g2 _ _ hn1 hn2 H1.out H2.out).mono ?_
  rintro e w' ⟨⟨r, rfl, hsm⟩, rfl⟩
  cases r with
  | false =>
    clear hsm
    go_wp2_with fail
    go_ret
    exact ⟨rfl, Below.refl _ _⟩
  | true =>
  obtain ⟨m1, m2, _, _⟩ := hsm rfl
  clear hsm
  go_wp2_with fail
  refine (rowsBytes_any _ _ _ f1 g1 _ hn1 H1.out).mono ?_
  rintro e w' ⟨⟨r1, rfl⟩, rfl⟩
  go_wp2_with fail
  refine (rowsBytes_any _ _ _ f2 g2 _ hn2 H2.out).mono ?_
  rintro e w' ⟨⟨r2, rfl⟩, rfl⟩
  go_wp2_with fail
  refine (addLen_any _ _ _).mono ?_
  rintro e w' ⟨⟨r3, rfl⟩, rfl⟩
  by_cases hr3 : 1048576 < r3
  · go_wp2_with fail
    go_ret
    exact ⟨rfl, Below.refl _ _⟩
  by_cases d0 : z < 0
  · go_wp2_with fail
    go_ret
    exact ⟨rfl, Below.refl _ _⟩
  · have d1 : (n1 : Int) + (n2 : Int) ≤ z := by
      rcases HZ.out with h | h
      · omega
      · exact h
    go_wp2_with fail
    go_ret
    exact ⟨rfl, Below.refl _ _⟩

theorem law_any (a1 a2 : Option Addr) (n1 n2 c1 c2 : Nat) (z : Int) (f1 g1 f2 g2 : Nat → ByteArray) (w : World) (hn1 : n1 ≤ maxLen) (hn2 : n2 ≤ maxLen)
    (ha1 : a1 = none → n1 = 0 ∧ c1 = 0) (ha2 : a2 = none → n2 = 0 ∧ c2 = 0) (hr1 : RowR w a1 f1 g1 n1) (hr2 : RowR w a2 f2 g2 n2) :
    Calls Trym.prog 5 #[.slice a1 n1 c1, .slice a2 n2 c2, .int .i64 z] w fun e w' => e = .returned (.bool true) ∧ Below w.heap.size w w' := by
  by_cases hz : z < 0 ∨ (n1 : Int) + (n2 : Int) ≤ z
  · exact law_off a1 a2 n1 n2 c1 c2 z f1 g1 f2 g2 w hn1 hn2 hz hr1 hr2
  · obtain ⟨k, rfl⟩ : ∃ k : Nat, z = (k : Int) := ⟨z.toNat, by omega⟩
    exact law_main a1 a2 n1 n2 c1 c2 k f1 g1 f2 g2 w hn1 hn2 (by omega) ha1 ha2 hr1 hr2
end Go.Proofs.Qxb6601599aMods.Rfs
