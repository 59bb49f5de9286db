/-
  The walk of 'FnPlacesMatchesModel' itself.
-/
import Derived.Test.Qxb6600690aModsPlcPlaces2
namespace Go.Proofs.Qxb6600690aMods.Plc
open Go.RowKit
set_option linter.unusedVariables false

theorem q26 : ∀ (w : World) (a : Option Addr) (n c n' c' : Nat), (binOp .eql 26 (.slice a n c) (.slice none n' c')).run Trym.prog w = .ok (.bool a.isNone) w := fun w a n c n' c' => Lib.run_eql_slice_nil w _ _ a n c n' c' Trym.underlying26

theorem Placed.refused {f1 f2 f3 : Nat → ByteArray} {n1 n2 n3 : Nat} {w w' : World} {e : Ending} (h : Placed f1 f2 f3 n1 n2 n3 w e w') (hw : ¬ Want f1 f2 f3 n1 n2 n3) :
    e = .returned (.tuple #[.slice none 0 0, .bool false]) ∧ Below w.heap.size w w' := by
  rcases h with ⟨hb, ⟨he, _⟩ | ⟨_, _, h⟩ | ⟨_, _, _, h, _⟩⟩
  · exact ⟨he, hb⟩
  · exact absurd h hw
  · exact absurd h hw
theorem Placed.bare {f1 f2 f3 : Nat → ByteArray} {n1 n2 n3 : Nat} {w w' : World} {e : Ending} (h : Placed f1 f2 f3 n1 n2 n3 w e w') (hw : Want f1 f2 f3 n1 n2 n3) (h0 : n2 = 0) :
    e = .returned (.tuple #[.slice none 0 0, .bool true]) ∧ Below w.heap.size w w' := by
  rcases h with ⟨hb, ⟨_, h⟩ | ⟨he, _, _⟩ | ⟨_, _, h, _, _⟩⟩
  · exact absurd hw h
  · exact ⟨he, hb⟩
  · exact absurd h0 h
theorem Placed.full {f1 f2 f3 : Nat → ByteArray} {n1 n2 n3 : Nat} {w w' : World} {e : Ending} (h : Placed f1 f2 f3 n1 n2 n3 w e w') (hw : Want f1 f2 f3 n1 n2 n3) (h0 : n2 ≠ 0) :
    ∃ pb, e = .returned (.tuple #[.slice (some ⟨pb, 0, none⟩) n3 n3, .bool true]) ∧ RowI w' (some ⟨pb, 0, none⟩) (place f2 f3 n1 n2) n3 ∧ Below w.heap.size w w' := by
  rcases h with ⟨hb, ⟨_, h⟩ | ⟨_, h, _⟩ | ⟨pb, he, _, _, hr⟩⟩
  · exact absurd hw h
  · exact absurd h h0
  · exact ⟨pb, he, hr, hb⟩
theorem same_yes (a b : Option Addr) (n c d : Nat) (f g : Nat → ByteArray) (w : World) (hn : n ≤ maxLen) (hf : RowF w a f n) (hg : RowF w b g n) (h : ∀ j, j < n → f j = g j) :
    Calls Trym.prog 19 #[.slice a n c, .slice b n d] w fun e w' => e = .returned (.bool true) ∧ ∃ q, w' = w.drewN q :=
  (sameStrings_any a b n c d f g w hn hf hg).mono fun e w' ⟨⟨r, he, hr⟩, hq⟩ => ⟨by rw [he, hr.2 h], hq⟩
theorem same_no (a b : Option Addr) (n c d : Nat) (f g : Nat → ByteArray) (w : World) (hn : n ≤ maxLen) (hf : RowF w a f n) (hg : RowF w b g n) (h : ¬ ∀ j, j < n → f j = g j) :
    Calls Trym.prog 19 #[.slice a n c, .slice b n d] w fun e w' => e = .returned (.bool false) ∧ ∃ q, w' = w.drewN q :=
  (sameStrings_any a b n c d f g w hn hf hg).mono fun e w' ⟨⟨r, he, hr⟩, hq⟩ => ⟨by rw [he]; cases r with | true => exact absurd (hr.1 rfl) h | false => rfl, hq⟩

set_option maxHeartbeats 1000000 in
theorem law_a (a1 a2 a3 : Option Addr) (n1 n2 n3 c1 c2 c3 : Nat) (f1 f2 f3 : Nat → ByteArray) (w : World) (hn1 : n1 ≤ maxLen) (hn2 : n2 ≤ maxLen) (hn3 : n3 ≤ maxLen)
    (ha1 : a1 = none → n1 = 0 ∧ c1 = 0) (ha2 : a2 = none → n2 = 0 ∧ c2 = 0) (ha3 : a3 = none → n3 = 0 ∧ c3 = 0)
    (hr1 : RowF w a1 f1 n1) (hr2 : RowF w a2 f2 n2) (hr3 : RowF w a3 f3 n3) (h : n3 < n1) :
    Calls Trym.prog 6 #[.slice a1 n1 c1, .slice a2 n2 c2, .slice a3 n3 c3] w fun e w' => e = .returned (.bool true) ∧ Below w.heap.size w w' := by
  have H1 : Hid (RowF w a1 f1 n1) := hr1
  have H2 : Hid (RowF w a2 f2 n2) := hr2
  have H3 : Hid (RowF w a3 f3 n3) := hr3
  have G1 : Hid (a1 = none → n1 = 0 ∧ c1 = 0) := ha1
  have G2 : Hid (a2 = none → n2 = 0 ∧ c2 = 0) := ha2
  have G3 : Hid (a3 = none → n3 = 0 ∧ c3 = 0) := ha3
  clear hr1 hr2 hr3 ha1 ha2 ha3
  have NW : Hid (¬ Want f1 f2 f3 n1 n2 n3) := fun hw => by have := hw.1; omega
  have hd : decide ((n1 : Int) ≤ (n3 : Int)) = false := decide_eq_false (by omega)
  go_enter Trym.func6, Trym.ntmps6
  go_wp2_with fail
  refine (zzBytes_any _ _ _ _ _ _ _ _ _ f1 f2 f3 _ hn1 hn2 hn3 H1.out H2.out H3.out).mono ?_
  rintro e w' ⟨⟨r, rfl⟩, rfl⟩
  cases r with
  | false =>
    go_wp2_with fail
    go_ret
    exact ⟨rfl, Below.refl _ _⟩
  | true =>
  go_wp2_with fail
  refine (overBudget_any _ _ _ _ _ _ _ _ _ f1 f2 f3 _ hn1 hn2 hn3 H1.out H2.out H3.out).mono ?_
  rintro e w' ⟨⟨r, rfl, hb⟩, rfl⟩
  cases r with
  | true =>
    clear hb
    go_wp2_with fail
    go_ret
    exact ⟨rfl, Below.refl _ _⟩
  | false =>
  obtain ⟨hb1, hb2, hb3⟩ := hb rfl
  clear hb hn2 hn3
  go_wp2_with fail
  refine (clone_any _ _ _ f1 _ hb1 G1.out H1.out).mono ?_
  rintro e w1 ⟨x1, d1, rfl, hd1, hm1, r1, b1⟩
  have B1 : Hid (Below w'.heap.size w' w1) := b1
  have R1 : Hid (RowF w1 x1 f1 n1) := r1
  clear b1 r1
  go_wp2_with fail
  refine (clone_any _ _ _ f2 _ hb2 G2.out (H2.out.below B1.out)).mono ?_
  rintro e w2 ⟨x2, d2, rfl, hd2, hm2, r2, b2⟩
  have B2 : Hid (Below w1.heap.size w1 w2) := b2
  have R2 : Hid (RowF w2 x2 f2 n2) := r2
  clear b2 r2
  go_wp2_with fail
  refine (clone_any _ _ _ f3 _ hb3 G3.out ((H3.out.below B1.out).below B2.out)).mono ?_
  rintro e w3 ⟨x3, d3, rfl, hd3, hm3, r3, b3⟩
  have B3 : Hid (Below w2.heap.size w2 w3) := b3
  have R3 : Hid (RowF w3 x3 f3 n3) := r3
  clear b3 r3
  go_wp2_with fail
  refine (zzPlaces_any _ _ _ _ _ _ _ _ _ f1 f2 f3 _ hb1 hb2 hb3 hd3 hm3 ((R1.out.below B2.out).below B3.out) (R2.out.below B3.out) R3.out).mono ?_
  rintro e w4 hp
  obtain ⟨rfl, b4⟩ := hp.refused NW.out
  have B4 : Hid (Below w3.heap.size w3 w4) := b4
  clear b4 hp
  have S1 : Hid (RowF w4 x1 f1 n1) := (((R1.out.below B2.out).below B3.out).below B4.out)
  have S2 : Hid (RowF w4 x2 f2 n2) := ((R2.out.below B3.out).below B4.out)
  have S3 : Hid (RowF w4 x3 f3 n3) := R3.out.below B4.out
  have BB : Hid (Below w'.heap.size w' w4) := ((B1.out.trans (B2.out.mono B1.out.size)).trans (B3.out.mono (Nat.le_trans B1.out.size B2.out.size))).trans (B4.out.mono (Nat.le_trans (Nat.le_trans B1.out.size B2.out.size) B3.out.size))
  clear B1 B2 B3 B4 R1 R2 R3 G1 G2 G3 H1 H2 H3
  unfold maxLen at hm1 hm2 hm3
  have q := q26
  go_wp2_with fail
  go_ret
  exact ⟨rfl, BB.out⟩

set_option maxHeartbeats 1000000 in
theorem law_b (a1 a2 a3 : Option Addr) (n1 n2 n3 c1 c2 c3 : Nat) (f1 f2 f3 : Nat → ByteArray) (w : World) (hn1 : n1 ≤ maxLen) (hn2 : n2 ≤ maxLen) (hn3 : n3 ≤ maxLen)
    (ha1 : a1 = none → n1 = 0 ∧ c1 = 0) (ha2 : a2 = none → n2 = 0 ∧ c2 = 0) (ha3 : a3 = none → n3 = 0 ∧ c3 = 0)
    (hr1 : RowF w a1 f1 n1) (hr2 : RowF w a2 f2 n2) (hr3 : RowF w a3 f3 n3) (h : n1 ≤ n3) (hne : ¬ ∀ j, j < n1 → f3 j = f1 j) :
    Calls Trym.prog 6 #[.slice a1 n1 c1, .slice a2 n2 c2, .slice a3 n3 c3] w fun e w' => e = .returned (.bool true) ∧ Below w.heap.size w w' := by
  have H1 : Hid (RowF w a1 f1 n1) := hr1
  have H2 : Hid (RowF w a2 f2 n2) := hr2
  have H3 : Hid (RowF w a3 f3 n3) := hr3
  have G1 : Hid (a1 = none → n1 = 0 ∧ c1 = 0) := ha1
  have G2 : Hid (a2 = none → n2 = 0 ∧ c2 = 0) := ha2
  have G3 : Hid (a3 = none → n3 = 0 ∧ c3 = 0) := ha3
  clear hr1 hr2 hr3 ha1 ha2 ha3
  have HE : Hid (¬ ∀ j, j < n1 → f3 j = f1 j) := hne
  clear hne
  have NW : Hid (¬ Want f1 f2 f3 n1 n2 n3) := fun hw => HE.out hw.2.1
  have hd : decide ((n1 : Int) ≤ (n3 : Int)) = true := decide_eq_true (by omega)
  go_enter Trym.func6, Trym.ntmps6
  go_wp2_with fail
  refine (zzBytes_any _ _ _ _ _ _ _ _ _ f1 f2 f3 _ hn1 hn2 hn3 H1.out H2.out H3.out).mono ?_
  rintro e w' ⟨⟨r, rfl⟩, rfl⟩
  cases r with
  | false =>
    go_wp2_with fail
    go_ret
    exact ⟨rfl, Below.refl _ _⟩
  | true =>
  go_wp2_with fail
  refine (overBudget_any _ _ _ _ _ _ _ _ _ f1 f2 f3 _ hn1 hn2 hn3 H1.out H2.out H3.out).mono ?_
  rintro e w' ⟨⟨r, rfl, hb⟩, rfl⟩
  cases r with
  | true =>
    clear hb
    go_wp2_with fail
    go_ret
    exact ⟨rfl, Below.refl _ _⟩
  | false =>
  obtain ⟨hb1, hb2, hb3⟩ := hb rfl
  clear hb hn2 hn3
  go_wp2_with fail
  refine (clone_any _ _ _ f1 _ hb1 G1.out H1.out).mono ?_
  rintro e w1 ⟨x1, d1, rfl, hd1, hm1, r1, b1⟩
  have B1 : Hid (Below w'.heap.size w' w1) := b1
  have R1 : Hid (RowF w1 x1 f1 n1) := r1
  clear b1 r1
  go_wp2_with fail
  refine (clone_any _ _ _ f2 _ hb2 G2.out (H2.out.below B1.out)).mono ?_
  rintro e w2 ⟨x2, d2, rfl, hd2, hm2, r2, b2⟩
  have B2 : Hid (Below w1.heap.size w1 w2) := b2
  have R2 : Hid (RowF w2 x2 f2 n2) := r2
  clear b2 r2
  go_wp2_with fail
  refine (clone_any _ _ _ f3 _ hb3 G3.out ((H3.out.below B1.out).below B2.out)).mono ?_
  rintro e w3 ⟨x3, d3, rfl, hd3, hm3, r3, b3⟩
  have B3 : Hid (Below w2.heap.size w2 w3) := b3
  have R3 : Hid (RowF w3 x3 f3 n3) := r3
  clear b3 r3
  go_wp2_with fail
  refine (zzPlaces_any _ _ _ _ _ _ _ _ _ f1 f2 f3 _ hb1 hb2 hb3 hd3 hm3 ((R1.out.below B2.out).below B3.out) (R2.out.below B3.out) R3.out).mono ?_
  rintro e w4 hp
  obtain ⟨rfl, b4⟩ := hp.refused NW.out
  have B4 : Hid (Below w3.heap.size w3 w4) := b4
  clear b4 hp
  have S1 : Hid (RowF w4 x1 f1 n1) := (((R1.out.below B2.out).below B3.out).below B4.out)
  have S2 : Hid (RowF w4 x2 f2 n2) := ((R2.out.below B3.out).below B4.out)
  have S3 : Hid (RowF w4 x3 f3 n3) := R3.out.below B4.out
  have BB : Hid (Below w'.heap.size w' w4) := ((B1.out.trans (B2.out.mono B1.out.size)).trans (B3.out.mono (Nat.le_trans B1.out.size B2.out.size))).trans (B4.out.mono (Nat.le_trans (Nat.le_trans B1.out.size B2.out.size) B3.out.size))
  clear B1 B2 B3 B4 R1 R2 R3 G1 G2 G3 H1 H2 H3
  unfold maxLen at hm1 hm2 hm3
  have q := q26
  have hb1' : (n1 : Int) ≤ (d3 : Int) := by omega
  go_wp2_with fail
  refine (same_no _ _ _ _ _ f3 f1 _ hn1 (S3.out.less h) S1.out HE.out).mono ?_
  rintro e w5 ⟨rfl, q5, rfl⟩
  go_wp2_with fail
  go_ret
  exact ⟨rfl, below_drewN BB.out _⟩

set_option maxHeartbeats 1000000 in
theorem law_c (a1 a2 a3 : Option Addr) (n1 n2 n3 c1 c2 c3 : Nat) (f1 f2 f3 : Nat → ByteArray) (w : World) (hn1 : n1 ≤ maxLen) (hn2 : n2 ≤ maxLen) (hn3 : n3 ≤ maxLen)
    (ha1 : a1 = none → n1 = 0 ∧ c1 = 0) (ha2 : a2 = none → n2 = 0 ∧ c2 = 0) (ha3 : a3 = none → n3 = 0 ∧ c3 = 0)
    (hr1 : RowF w a1 f1 n1) (hr2 : RowF w a2 f2 n2) (hr3 : RowF w a3 f3 n3) (h : n1 < n3) (heq : ∀ j, j < n1 → f3 j = f1 j) (h0 : n2 = 0) :
    Calls Trym.prog 6 #[.slice a1 n1 c1, .slice a2 n2 c2, .slice a3 n3 c3] w fun e w' => e = .returned (.bool true) ∧ Below w.heap.size w w' := by
  have H1 : Hid (RowF w a1 f1 n1) := hr1
  have H2 : Hid (RowF w a2 f2 n2) := hr2
  have H3 : Hid (RowF w a3 f3 n3) := hr3
  have G1 : Hid (a1 = none → n1 = 0 ∧ c1 = 0) := ha1
  have G2 : Hid (a2 = none → n2 = 0 ∧ c2 = 0) := ha2
  have G3 : Hid (a3 = none → n3 = 0 ∧ c3 = 0) := ha3
  clear hr1 hr2 hr3 ha1 ha2 ha3
  have HE : Hid (∀ j, j < n1 → f3 j = f1 j) := heq
  clear heq
  have NW : Hid (¬ Want f1 f2 f3 n1 n2 n3) := fun hw => by have := hw.2.2.1 h0; omega
  have H0 : Hid (n2 = 0) := h0
  clear h0
  have hd : decide ((n1 : Int) ≤ (n3 : Int)) = true := decide_eq_true (by omega)
  go_enter Trym.func6, Trym.ntmps6
  go_wp2_with fail
  refine (zzBytes_any _ _ _ _ _ _ _ _ _ f1 f2 f3 _ hn1 hn2 hn3 H1.out H2.out H3.out).mono ?_
  rintro e w' ⟨⟨r, rfl⟩, rfl⟩
  cases r with
  | false =>
    go_wp2_with fail
    go_ret
    exact ⟨rfl, Below.refl _ _⟩
  | true =>
  go_wp2_with fail
  refine (overBudget_any _ _ _ _ _ _ _ _ _ f1 f2 f3 _ hn1 hn2 hn3 H1.out H2.out H3.out).mono ?_
  rintro e w' ⟨⟨r, rfl, hb⟩, rfl⟩
  cases r with
  | true =>
    clear hb
    go_wp2_with fail
    go_ret
    exact ⟨rfl, Below.refl _ _⟩
  | false =>
  obtain ⟨hb1, hb2, hb3⟩ := hb rfl
  clear hb hn2 hn3
  go_wp2_with fail
  refine (clone_any _ _ _ f1 _ hb1 G1.out H1.out).mono ?_
  rintro e w1 ⟨x1, d1, rfl, hd1, hm1, r1, b1⟩
  have B1 : Hid (Below w'.heap.size w' w1) := b1
  have R1 : Hid (RowF w1 x1 f1 n1) := r1
  clear b1 r1
  go_wp2_with fail
  refine (clone_any _ _ _ f2 _ hb2 G2.out (H2.out.below B1.out)).mono ?_
  rintro e w2 ⟨x2, d2, rfl, hd2, hm2, r2, b2⟩
  have B2 : Hid (Below w1.heap.size w1 w2) := b2
  have R2 : Hid (RowF w2 x2 f2 n2) := r2
  clear b2 r2
  go_wp2_with fail
  refine (clone_any _ _ _ f3 _ hb3 G3.out ((H3.out.below B1.out).below B2.out)).mono ?_
  rintro e w3 ⟨x3, d3, rfl, hd3, hm3, r3, b3⟩
  have B3 : Hid (Below w2.heap.size w2 w3) := b3
  have R3 : Hid (RowF w3 x3 f3 n3) := r3
  clear b3 r3
  go_wp2_with fail
  refine (zzPlaces_any _ _ _ _ _ _ _ _ _ f1 f2 f3 _ hb1 hb2 hb3 hd3 hm3 ((R1.out.below B2.out).below B3.out) (R2.out.below B3.out) R3.out).mono ?_
  rintro e w4 hp
  obtain ⟨rfl, b4⟩ := hp.refused NW.out
  have B4 : Hid (Below w3.heap.size w3 w4) := b4
  clear b4 hp
  have S1 : Hid (RowF w4 x1 f1 n1) := (((R1.out.below B2.out).below B3.out).below B4.out)
  have S2 : Hid (RowF w4 x2 f2 n2) := ((R2.out.below B3.out).below B4.out)
  have S3 : Hid (RowF w4 x3 f3 n3) := R3.out.below B4.out
  have BB : Hid (Below w'.heap.size w' w4) := ((B1.out.trans (B2.out.mono B1.out.size)).trans (B3.out.mono (Nat.le_trans B1.out.size B2.out.size))).trans (B4.out.mono (Nat.le_trans (Nat.le_trans B1.out.size B2.out.size) B3.out.size))
  clear B1 B2 B3 B4 R1 R2 R3 G1 G2 G3 H1 H2 H3
  unfold maxLen at hm1 hm2 hm3
  obtain rfl : n2 = 0 := H0.out
  have q := q26
  have hb1' : (n1 : Int) ≤ (d3 : Int) := by omega
  have hcn : ¬ d3 = n1 := by omega
  obtain ⟨b, off, rfl, _⟩ := S3.out 0 (by omega)
  have hd2 : (((n3 - n1 : Nat) : Int) == 0) = false := by simp; omega
  go_wp2_with fail
  refine (same_yes _ _ _ _ _ f3 f1 _ hn1 (S3.out.less (by omega)) S1.out HE.out).mono ?_
  rintro e w5 ⟨rfl, q5, rfl⟩
  go_wp2_with fail
  go_ret
  exact ⟨rfl, below_drewN BB.out _⟩

set_option maxHeartbeats 1000000 in
theorem law_d (a1 a2 a3 : Option Addr) (n1 n2 n3 c1 c2 c3 : Nat) (f1 f2 f3 : Nat → ByteArray) (w : World) (hn1 : n1 ≤ maxLen) (hn2 : n2 ≤ maxLen) (hn3 : n3 ≤ maxLen)
    (ha1 : a1 = none → n1 = 0 ∧ c1 = 0) (ha2 : a2 = none → n2 = 0 ∧ c2 = 0) (ha3 : a3 = none → n3 = 0 ∧ c3 = 0)
    (hr1 : RowF w a1 f1 n1) (hr2 : RowF w a2 f2 n2) (hr3 : RowF w a3 f3 n3) (h : n1 ≤ n3) (hge : n3 ≤ n1) (heq : ∀ j, j < n1 → f3 j = f1 j) (h0 : n2 = 0) :
    Calls Trym.prog 6 #[.slice a1 n1 c1, .slice a2 n2 c2, .slice a3 n3 c3] w fun e w' => e = .returned (.bool true) ∧ Below w.heap.size w w' := by
  have H1 : Hid (RowF w a1 f1 n1) := hr1
  have H2 : Hid (RowF w a2 f2 n2) := hr2
  have H3 : Hid (RowF w a3 f3 n3) := hr3
  have G1 : Hid (a1 = none → n1 = 0 ∧ c1 = 0) := ha1
  have G2 : Hid (a2 = none → n2 = 0 ∧ c2 = 0) := ha2
  have G3 : Hid (a3 = none → n3 = 0 ∧ c3 = 0) := ha3
  clear hr1 hr2 hr3 ha1 ha2 ha3
  have HE : Hid (∀ j, j < n1 → f3 j = f1 j) := heq
  clear heq
  have NW : Hid (Want f1 f2 f3 n1 n2 n3) := ⟨h, HE.out, fun _ => by omega, fun h => absurd h0 h⟩
  have H0 : Hid (n2 = 0) := h0
  clear h0
  have hd : decide ((n1 : Int) ≤ (n3 : Int)) = true := decide_eq_true (by omega)
  go_enter Trym.func6, Trym.ntmps6
  go_wp2_with fail
  refine (zzBytes_any _ _ _ _ _ _ _ _ _ f1 f2 f3 _ hn1 hn2 hn3 H1.out H2.out H3.out).mono ?_
  rintro e w' ⟨⟨r, rfl⟩, rfl⟩
  cases r with
  | false =>
    go_wp2_with fail
    go_ret
    exact ⟨rfl, Below.refl _ _⟩
  | true =>
  go_wp2_with fail
  refine (overBudget_any _ _ _ _ _ _ _ _ _ f1 f2 f3 _ hn1 hn2 hn3 H1.out H2.out H3.out).mono ?_
  rintro e w' ⟨⟨r, rfl, hb⟩, rfl⟩
  cases r with
  | true =>
    clear hb
    go_wp2_with fail
    go_ret
    exact ⟨rfl, Below.refl _ _⟩
  | false =>
  obtain ⟨hb1, hb2, hb3⟩ := hb rfl
  clear hb hn2 hn3
  go_wp2_with fail
  refine (clone_any _ _ _ f1 _ hb1 G1.out H1.out).mono ?_
  rintro e w1 ⟨x1, d1, rfl, hd1, hm1, r1, b1⟩
  have B1 : Hid (Below w'.heap.size w' w1) := b1
  have R1 : Hid (RowF w1 x1 f1 n1) := r1
  clear b1 r1
  go_wp2_with fail
  refine (clone_any _ _ _ f2 _ hb2 G2.out (H2.out.below B1.out)).mono ?_
  rintro e w2 ⟨x2, d2, rfl, hd2, hm2, r2, b2⟩
  have B2 : Hid (Below w1.heap.size w1 w2) := b2
  have R2 : Hid (RowF w2 x2 f2 n2) := r2
  clear b2 r2
  go_wp2_with fail
  refine (clone_any _ _ _ f3 _ hb3 G3.out ((H3.out.below B1.out).below B2.out)).mono ?_
  rintro e w3 ⟨x3, d3, rfl, hd3, hm3, r3, b3⟩
  have B3 : Hid (Below w2.heap.size w2 w3) := b3
  have R3 : Hid (RowF w3 x3 f3 n3) := r3
  clear b3 r3
  go_wp2_with fail
  refine (zzPlaces_any _ _ _ _ _ _ _ _ _ f1 f2 f3 _ hb1 hb2 hb3 hd3 hm3 ((R1.out.below B2.out).below B3.out) (R2.out.below B3.out) R3.out).mono ?_
  rintro e w4 hp
  obtain ⟨rfl, b4⟩ := hp.bare NW.out H0.out
  have B4 : Hid (Below w3.heap.size w3 w4) := b4
  clear b4 hp
  have S1 : Hid (RowF w4 x1 f1 n1) := (((R1.out.below B2.out).below B3.out).below B4.out)
  have S2 : Hid (RowF w4 x2 f2 n2) := ((R2.out.below B3.out).below B4.out)
  have S3 : Hid (RowF w4 x3 f3 n3) := R3.out.below B4.out
  have BB : Hid (Below w'.heap.size w' w4) := ((B1.out.trans (B2.out.mono B1.out.size)).trans (B3.out.mono (Nat.le_trans B1.out.size B2.out.size))).trans (B4.out.mono (Nat.le_trans (Nat.le_trans B1.out.size B2.out.size) B3.out.size))
  clear B1 B2 B3 B4 R1 R2 R3 G1 G2 G3 H1 H2 H3
  unfold maxLen at hm1 hm2 hm3
  obtain rfl : n2 = 0 := H0.out
  have q := q26
  have hb1' : (n1 : Int) ≤ (d3 : Int) := by omega
  have hd2 : (((n3 - n1 : Nat) : Int) == 0) = true := by simp; omega
  go_wp2_with fail
  refine (same_yes _ _ _ _ _ f3 f1 _ hn1 (S3.out.less h) S1.out HE.out).mono ?_
  rintro e w5 ⟨rfl, q5, rfl⟩
  go_wp2_with fail
  all_goals
    go_ret
    exact ⟨rfl, below_drewN BB.out _⟩

end Go.Proofs.Qxb6600690aMods.Plc
