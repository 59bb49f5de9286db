/-
  The walk of 'FnPlacesMatchesModel' itself, where there are optional columns.
-/
import Derived.Test.Qxb6600690aModsPlcLaw
namespace Go.Proofs.Qxb6600690aMods.Plc
open Go.RowKit
set_option linter.unusedVariables false

/-- The inner loop's finding. -/
def Col (f2 f3 : Nat → ByteArray) (n1 n2 i k : Nat) : Prop := 0 ≤ fidx f2 n2 (f3 (n1 + i)) ∧ ∀ l, l < k → f3 (n1 + l) ≠ f3 (n1 + i)
theorem tail_succ {f2 f3 : Nat → ByteArray} {n1 n2 i k : Nat} (ht : TailOK f2 f3 n1 n2 i) (hk : k ≤ i) (hk' : ¬ k < i) : Col f2 f3 n1 n2 i k ↔ TailOK f2 f3 n1 n2 (i + 1) := by
  obtain rfl : k = i := by omega
  constructor
  · intro h l hl
    by_cases e : l = k
    · subst e; exact h
    · exact ht l (by omega)
  · intro h
    exact h k (by omega)
theorem TailOK.less {f2 f3 : Nat → ByteArray} {n1 n2 m i : Nat} (h : TailOK f2 f3 n1 n2 m) (hi : i ≤ m) : TailOK f2 f3 n1 n2 i := fun l hl => h l (by omega)
theorem col_no {f2 f3 : Nat → ByteArray} {n1 n2 i k : Nat} {s : ByteArray} (hs : s = f3 (n1 + i)) (h : ((f3 (n1 + k)).toList == s.toList) = true) : ¬ Col f2 f3 n1 n2 i (k + 1) := by
  intro hc
  exact hc.2 k (by omega) ((beq_yes h).trans hs)
theorem col_yes {f2 f3 : Nat → ByteArray} {n1 n2 i k : Nat} {s : ByteArray} (hs : s = f3 (n1 + i)) (h : ((f3 (n1 + k)).toList == s.toList) = false) : Col f2 f3 n1 n2 i k ↔ Col f2 f3 n1 n2 i (k + 1) := by
  constructor
  · intro hc
    refine ⟨hc.1, fun l hl => ?_⟩
    by_cases e : l = k
    · subst e; rw [← hs]; exact beq_no h
    · exact hc.2 l (by omega)
  · intro hc
    exact ⟨hc.1, fun l hl => hc.2 l (by omega)⟩
theorem col_zero_no {f2 f3 : Nat → ByteArray} {n1 n2 i k : Nat} {s : ByteArray} (hs : s = f3 (n1 + i)) (h : fidx f2 n2 s = -1) : ¬ Col f2 f3 n1 n2 i k := by
  intro hc
  have := hc.1
  rw [← hs] at this
  omega
theorem col_zero_yes {f2 f3 : Nat → ByteArray} {n1 n2 i j : Nat} {s : ByteArray} (hs : s = f3 (n1 + i)) (h : fidx f2 n2 s = (j : Int)) : Col f2 f3 n1 n2 i 0 := by
  refine ⟨?_, fun l hl => by omega⟩
  rw [← hs]; omega

set_option maxHeartbeats 1000000 in
theorem law_e (a1 a2 a3 : Option Addr) (n1 n2 n3 c1 c2 c3 : Nat) (f1 f2 f3 : Nat → ByteArray) (w : World) (hn1 : n1 ≤ maxLen) (hn2 : n2 ≤ maxLen) (hn3 : n3 ≤ maxLen)
    (ha1 : a1 = none → n1 = 0 ∧ c1 = 0) (ha2 : a2 = none → n2 = 0 ∧ c2 = 0) (ha3 : a3 = none → n3 = 0 ∧ c3 = 0)
    (hr1 : RowF w a1 f1 n1) (hr2 : RowF w a2 f2 n2) (hr3 : RowF w a3 f3 n3) (h : n1 < n3) (heq : ∀ j, j < n1 → f3 j = f1 j) (h0 : n2 ≠ 0) (hnt : ¬ TailOK f2 f3 n1 n2 (n3 - n1)) :
    Calls Trym.prog 6 #[.slice a1 n1 c1, .slice a2 n2 c2, .slice a3 n3 c3] w fun e w' => e = .returned (.bool true) ∧ Below w.heap.size w w' := by
  have H1 : Hid (RowF w a1 f1 n1) := hr1
  have H2 : Hid (RowF w a2 f2 n2) := hr2
  have H3 : Hid (RowF w a3 f3 n3) := hr3
  have G1 : Hid (a1 = none → n1 = 0 ∧ c1 = 0) := ha1
  have G2 : Hid (a2 = none → n2 = 0 ∧ c2 = 0) := ha2
  have G3 : Hid (a3 = none → n3 = 0 ∧ c3 = 0) := ha3
  clear hr1 hr2 hr3 ha1 ha2 ha3
  have HE : Hid (∀ j, j < n1 → f3 j = f1 j) := heq
  have HNT : Hid (¬ TailOK f2 f3 n1 n2 (n3 - n1)) := hnt
  clear heq hnt
  have NW : Hid (¬ Want f1 f2 f3 n1 n2 n3) := fun hw => HNT.out (hw.2.2.2 h0)
  have hd : decide ((n1 : Int) ≤ (n3 : Int)) = true := decide_eq_true (by omega)
  go_enter Trym.func6, Trym.ntmps6
  go_wp2_with fail
  refine (zzBytes_any _ _ _ _ _ _ _ _ _ f1 f2 f3 _ hn1 hn2 hn3 H1.out H2.out H3.out).mono ?_
  rintro e w' ⟨⟨r, rfl⟩, rfl⟩
  cases r with
  | false =>
    go_wp2_with fail
    go_ret
    exact ⟨rfl, Below.refl _ _⟩
  | true =>
  go_wp2_with fail
  refine (overBudget_any _ _ _ _ _ _ _ _ _ f1 f2 f3 _ hn1 hn2 hn3 H1.out H2.out H3.out).mono ?_
  rintro e w' ⟨⟨r, rfl, hb⟩, rfl⟩
  cases r with
  | true =>
    clear hb
    go_wp2_with fail
    go_ret
    exact ⟨rfl, Below.refl _ _⟩
  | false =>
  obtain ⟨hb1, hb2, hb3⟩ := hb rfl
  clear hb hn2 hn3
  go_wp2_with fail
  refine (clone_any _ _ _ f1 _ hb1 G1.out H1.out).mono ?_
  rintro e w1 ⟨x1, d1, rfl, hd1, hm1, r1, b1⟩
  have B1 : Hid (Below w'.heap.size w' w1) := b1
  have R1 : Hid (RowF w1 x1 f1 n1) := r1
  clear b1 r1
  go_wp2_with fail
  refine (clone_any _ _ _ f2 _ hb2 G2.out (H2.out.below B1.out)).mono ?_
  rintro e w2 ⟨x2, d2, rfl, hd2, hm2, r2, b2⟩
  have B2 : Hid (Below w1.heap.size w1 w2) := b2
  have R2 : Hid (RowF w2 x2 f2 n2) := r2
  clear b2 r2
  go_wp2_with fail
  refine (clone_any _ _ _ f3 _ hb3 G3.out ((H3.out.below B1.out).below B2.out)).mono ?_
  rintro e w3 ⟨x3, d3, rfl, hd3, hm3, r3, b3⟩
  have B3 : Hid (Below w2.heap.size w2 w3) := b3
  have R3 : Hid (RowF w3 x3 f3 n3) := r3
  clear b3 r3
  go_wp2_with fail
  refine (zzPlaces_any _ _ _ _ _ _ _ _ _ f1 f2 f3 _ hb1 hb2 hb3 hd3 hm3 ((R1.out.below B2.out).below B3.out) (R2.out.below B3.out) R3.out).mono ?_
  rintro e w4 hp
  obtain ⟨rfl, b4⟩ := hp.refused NW.out
  have B4 : Hid (Below w3.heap.size w3 w4) := b4
  clear b4 hp
  have S1 : Hid (RowF w4 x1 f1 n1) := (((R1.out.below B2.out).below B3.out).below B4.out)
  have S2 : Hid (RowF w4 x2 f2 n2) := ((R2.out.below B3.out).below B4.out)
  have S3 : Hid (RowF w4 x3 f3 n3) := R3.out.below B4.out
  have BB : Hid (Below w'.heap.size w' w4) := ((B1.out.trans (B2.out.mono B1.out.size)).trans (B3.out.mono (Nat.le_trans B1.out.size B2.out.size))).trans (B4.out.mono (Nat.le_trans (Nat.le_trans B1.out.size B2.out.size) B3.out.size))
  clear B1 B2 B3 B4 R1 R2 R3 G1 G2 G3 H1 H2 H3
  unfold maxLen at hm1 hm2 hm3
  have q := q26
  have hb1' : (n1 : Int) ≤ (d3 : Int) := by omega
  have hcn : ¬ d3 = n1 := by omega
  obtain ⟨b, off, rfl, _⟩ := S3.out 0 (by omega)
  have hd2 : ((n2 : Int) == 0) = false := by simp; omega
  have hx2 : n2 ≤ maxLen := by unfold maxLen; omega
  go_wp2_with fail
  refine (same_yes _ _ _ _ _ f3 f1 _ hn1 (S3.out.less (by omega)) S1.out HE.out).mono ?_
  rintro e w5 ⟨rfl, q5, rfl⟩
  go_wp2_with fail
  go_loopw [10, 12, 13] (fun bv iv _ wr => ∃ i q : Nat, ∃ b' : Bool, i ≤ n3 - n1 ∧ iv = .int .i64 i ∧ bv = .bool b' ∧ wr = w4.drewN q ∧ (b' = true ↔ TailOK f2 f3 n1 n2 i)) (fun _ iv _ _ => n3 - n1 - (intOf iv).toNat)
  case atStart => exact ⟨0, q5, true, Nat.zero_le _, rfl, rfl, rfl, ⟨fun _ l hl => by omega, fun _ => rfl⟩⟩
  case round =>
    obtain ⟨i, qi, b0, hi, rfl, rfl, rfl, hb0⟩ := hrel
    have HBB : Hid (b0 = true ↔ TailOK f2 f3 n1 n2 i) := hb0
    clear hb0
    by_cases hlt : i < n3 - n1
    · cases b0 with
      | true =>
        obtain ⟨s, hs⟩ : ∃ s, s = f3 (n1 + i) := ⟨_, rfl⟩
        have hcell : w4.cell? ⟨b, off + n1 + i, none⟩ = some (.string s) := by
          rw [hs]; exact S3.out.tail (m := n1) i (by omega)
        have HS : Hid (s = f3 (n1 + i)) := hs
        clear hs
        have hlt2 : (i : Int) < ((n3 - n1 : Nat) : Int) := by omega
        rcases fidx_cases f2 n2 s with ⟨e1, _⟩ | ⟨j, e1, hj, _, _⟩
        · have E1 : Hid (fidx f2 n2 s = -1) := e1
          clear e1
          go_wp2_with fail
          refine (firstIndex_any _ _ _ f2 _ _ hx2 (S2.out.drewN _)).mono ?_
          rintro e w6 ⟨rfl, rfl⟩
          rw [E1.out]
          go_wp2_with fail
          go_loopw [10, 13] (fun bv kv wr => ∃ k q : Nat, ∃ b' : Bool, k ≤ i ∧ kv = .int .i64 k ∧ bv = .bool b' ∧ wr = w4.drewN q ∧ (b' = true ↔ Col f2 f3 n1 n2 i k)) (fun _ kv _ => i - (intOf kv).toNat)
          case atStart => exact ⟨0, qi, false, Nat.zero_le _, rfl, rfl, rfl, ⟨fun h => Bool.noConfusion h, fun h => absurd h (col_zero_no HS.out E1.out)⟩⟩
          case round =>
            obtain ⟨k, qk, b', hk, rfl, rfl, rfl, hb'⟩ := hrel
            have HB' : Hid (b' = true ↔ Col f2 f3 n1 n2 i k) := hb'
            clear hb'
            by_cases hlt3 : k < i
            · obtain ⟨t, ht⟩ : ∃ t, t = f3 (n1 + k) := ⟨_, rfl⟩
              have hcell2 : w4.cell? ⟨b, off + n1 + k, none⟩ = some (.string t) := by
                rw [ht]; exact S3.out.tail (m := n1) k (by omega)
              have HTT : Hid (t = f3 (n1 + k)) := ht
              clear ht
              have hk3 : (k : Int) < ((n3 - n1 : Nat) : Int) := by omega
              cases he : (t.toList == s.toList) with
              | true =>
                have HEE : Hid ((t.toList == s.toList) = true) := he
                go_wp2
                go_quiet (fail)
                go_wp2
                go_roundw
                case rel => exact ⟨k + 1, _, false, by omega, by go_num, rfl, rfl, ⟨fun h => Bool.noConfusion h, fun h => absurd h (col_no HS.out (by rw [← HTT.out]; exact HEE.out))⟩⟩
                case measure => simp [intOf]; omega
              | false =>
                have HEE : Hid ((t.toList == s.toList) = false) := he
                go_wp2
                go_quiet (fail)
                go_wp2
                go_roundw
                case rel => exact ⟨k + 1, _, b', by omega, by go_num, rfl, rfl, HB'.out.trans (col_yes HS.out (by rw [← HTT.out]; exact HEE.out))⟩
                case measure => simp [intOf]; omega
            · go_wp2
              go_roundw
              case rel => exact ⟨i + 1, _, b', by omega, by go_num, rfl, rfl, HB'.out.trans (tail_succ (HBB.out.1 (by simp)) hk hlt3)⟩
              case measure => simp [intOf]; omega
        · have E1 : Hid (fidx f2 n2 s = (j : Int)) := e1
          clear e1
          go_wp2_with fail
          refine (firstIndex_any _ _ _ f2 _ _ hx2 (S2.out.drewN _)).mono ?_
          rintro e w6 ⟨rfl, rfl⟩
          rw [E1.out]
          go_wp2_with fail
          go_loopw [10, 13] (fun bv kv wr => ∃ k q : Nat, ∃ b' : Bool, k ≤ i ∧ kv = .int .i64 k ∧ bv = .bool b' ∧ wr = w4.drewN q ∧ (b' = true ↔ Col f2 f3 n1 n2 i k)) (fun _ kv _ => i - (intOf kv).toNat)
          case atStart => exact ⟨0, qi, true, Nat.zero_le _, rfl, rfl, rfl, ⟨fun _ => col_zero_yes HS.out E1.out, fun _ => rfl⟩⟩
          case round =>
            obtain ⟨k, qk, b', hk, rfl, rfl, rfl, hb'⟩ := hrel
            have HB' : Hid (b' = true ↔ Col f2 f3 n1 n2 i k) := hb'
            clear hb'
            by_cases hlt3 : k < i
            · obtain ⟨t, ht⟩ : ∃ t, t = f3 (n1 + k) := ⟨_, rfl⟩
              have hcell2 : w4.cell? ⟨b, off + n1 + k, none⟩ = some (.string t) := by
                rw [ht]; exact S3.out.tail (m := n1) k (by omega)
              have HTT : Hid (t = f3 (n1 + k)) := ht
              clear ht
              have hk3 : (k : Int) < ((n3 - n1 : Nat) : Int) := by omega
              cases he : (t.toList == s.toList) with
              | true =>
                have HEE : Hid ((t.toList == s.toList) = true) := he
                go_wp2
                go_quiet (fail)
                go_wp2
                go_roundw
                case rel => exact ⟨k + 1, _, false, by omega, by go_num, rfl, rfl, ⟨fun h => Bool.noConfusion h, fun h => absurd h (col_no HS.out (by rw [← HTT.out]; exact HEE.out))⟩⟩
                case measure => simp [intOf]; omega
              | false =>
                have HEE : Hid ((t.toList == s.toList) = false) := he
                go_wp2
                go_quiet (fail)
                go_wp2
                go_roundw
                case rel => exact ⟨k + 1, _, b', by omega, by go_num, rfl, rfl, HB'.out.trans (col_yes HS.out (by rw [← HTT.out]; exact HEE.out))⟩
                case measure => simp [intOf]; omega
            · go_wp2
              go_roundw
              case rel => exact ⟨i + 1, _, b', by omega, by go_num, rfl, rfl, HB'.out.trans (tail_succ (HBB.out.1 (by simp)) hk hlt3)⟩
              case measure => simp [intOf]; omega
      | false =>
        go_wp2_with fail
        go_ret
        exact ⟨rfl, below_drewN BB.out _⟩
    · cases b0 with
      | true =>
        exfalso
        have : i = n3 - n1 := by omega
        exact HNT.out (by rw [← this]; exact HBB.out.1 rfl)
      | false =>
        go_wp2_with fail
        go_ret
        exact ⟨rfl, below_drewN BB.out _⟩

set_option maxHeartbeats 1000000 in
theorem law_f (a1 a2 a3 : Option Addr) (n1 n2 n3 c1 c2 c3 : Nat) (f1 f2 f3 : Nat → ByteArray) (w : World) (hn1 : n1 ≤ maxLen) (hn2 : n2 ≤ maxLen) (hn3 : n3 ≤ maxLen)
    (ha1 : a1 = none → n1 = 0 ∧ c1 = 0) (ha2 : a2 = none → n2 = 0 ∧ c2 = 0) (ha3 : a3 = none → n3 = 0 ∧ c3 = 0)
    (hr1 : RowF w a1 f1 n1) (hr2 : RowF w a2 f2 n2) (hr3 : RowF w a3 f3 n3) (h : n1 ≤ n3) (hge : n3 ≤ n1) (heq : ∀ j, j < n1 → f3 j = f1 j) (h0 : n2 ≠ 0) :
    Calls Trym.prog 6 #[.slice a1 n1 c1, .slice a2 n2 c2, .slice a3 n3 c3] w fun e w' => e = .returned (.bool true) ∧ Below w.heap.size w w' := by
  have H1 : Hid (RowF w a1 f1 n1) := hr1
  have H2 : Hid (RowF w a2 f2 n2) := hr2
  have H3 : Hid (RowF w a3 f3 n3) := hr3
  have G1 : Hid (a1 = none → n1 = 0 ∧ c1 = 0) := ha1
  have G2 : Hid (a2 = none → n2 = 0 ∧ c2 = 0) := ha2
  have G3 : Hid (a3 = none → n3 = 0 ∧ c3 = 0) := ha3
  clear hr1 hr2 hr3 ha1 ha2 ha3
  have HE : Hid (∀ j, j < n1 → f3 j = f1 j) := heq
  clear heq
  have NW : Hid (Want f1 f2 f3 n1 n2 n3) := ⟨h, HE.out, fun _ => by omega, fun _ i hi => by omega⟩
  have hd : decide ((n1 : Int) ≤ (n3 : Int)) = true := decide_eq_true (by omega)
  go_enter Trym.func6, Trym.ntmps6
  go_wp2_with fail
  refine (zzBytes_any _ _ _ _ _ _ _ _ _ f1 f2 f3 _ hn1 hn2 hn3 H1.out H2.out H3.out).mono ?_
  rintro e w' ⟨⟨r, rfl⟩, rfl⟩
  cases r with
  | false =>
    go_wp2_with fail
    go_ret
    exact ⟨rfl, Below.refl _ _⟩
  | true =>
  go_wp2_with fail
  refine (overBudget_any _ _ _ _ _ _ _ _ _ f1 f2 f3 _ hn1 hn2 hn3 H1.out H2.out H3.out).mono ?_
  rintro e w' ⟨⟨r, rfl, hb⟩, rfl⟩
  cases r with
  | true =>
    clear hb
    go_wp2_with fail
    go_ret
    exact ⟨rfl, Below.refl _ _⟩
  | false =>
  obtain ⟨hb1, hb2, hb3⟩ := hb rfl
  clear hb hn2 hn3
  go_wp2_with fail
  refine (clone_any _ _ _ f1 _ hb1 G1.out H1.out).mono ?_
  rintro e w1 ⟨x1, d1, rfl, hd1, hm1, r1, b1⟩
  have B1 : Hid (Below w'.heap.size w' w1) := b1
  have R1 : Hid (RowF w1 x1 f1 n1) := r1
  clear b1 r1
  go_wp2_with fail
  refine (clone_any _ _ _ f2 _ hb2 G2.out (H2.out.below B1.out)).mono ?_
  rintro e w2 ⟨x2, d2, rfl, hd2, hm2, r2, b2⟩
  have B2 : Hid (Below w1.heap.size w1 w2) := b2
  have R2 : Hid (RowF w2 x2 f2 n2) := r2
  clear b2 r2
  go_wp2_with fail
  refine (clone_any _ _ _ f3 _ hb3 G3.out ((H3.out.below B1.out).below B2.out)).mono ?_
  rintro e w3 ⟨x3, d3, rfl, hd3, hm3, r3, b3⟩
  have B3 : Hid (Below w2.heap.size w2 w3) := b3
  have R3 : Hid (RowF w3 x3 f3 n3) := r3
  clear b3 r3
  go_wp2_with fail
  refine (zzPlaces_any _ _ _ _ _ _ _ _ _ f1 f2 f3 _ hb1 hb2 hb3 hd3 hm3 ((R1.out.below B2.out).below B3.out) (R2.out.below B3.out) R3.out).mono ?_
  rintro e w4 hp
  obtain ⟨pb, rfl, rp, b4⟩ := hp.full NW.out h0
  have B4 : Hid (Below w3.heap.size w3 w4) := b4
  have RP : Hid (RowI w4 (some ⟨pb, 0, none⟩) (place f2 f3 n1 n2) n3) := rp
  clear b4 hp rp
  have S1 : Hid (RowF w4 x1 f1 n1) := (((R1.out.below B2.out).below B3.out).below B4.out)
  have S2 : Hid (RowF w4 x2 f2 n2) := ((R2.out.below B3.out).below B4.out)
  have S3 : Hid (RowF w4 x3 f3 n3) := R3.out.below B4.out
  have BB : Hid (Below w'.heap.size w' w4) := ((B1.out.trans (B2.out.mono B1.out.size)).trans (B3.out.mono (Nat.le_trans B1.out.size B2.out.size))).trans (B4.out.mono (Nat.le_trans (Nat.le_trans B1.out.size B2.out.size) B3.out.size))
  clear B1 B2 B3 B4 R1 R2 R3 G1 G2 G3 H1 H2 H3
  unfold maxLen at hm1 hm2 hm3
  have q := q26
  have hb1' : (n1 : Int) ≤ (d3 : Int) := by omega
  have hd2 : ((n2 : Int) == 0) = false := by simp; omega
  go_wp2_with fail
  refine (same_yes _ _ _ _ _ f3 f1 _ hn1 (S3.out.less h) S1.out HE.out).mono ?_
  rintro e w5 ⟨rfl, q5, rfl⟩
  go_wp2_with fail
  all_goals
    go_loop [10, 12, 13] (fun bv iv _ => bv = .bool true ∧ iv = .int .i64 0) (fun _ _ _ => 0)
    case atStart => exact ⟨rfl, rfl⟩
    case round =>
      obtain ⟨rfl, rfl⟩ := hrel
      have hz : decide ((0 : Int) < ((n3 - n1 : Nat) : Int)) = false := decide_eq_false (by omega)
      go_wp2_with fail
      go_loopw [14, 15] (fun iv _ wr => ∃ i : Nat, i ≤ n3 ∧ iv = .int .i64 i ∧ wr = w4.drewN q5) (fun iv _ _ => n3 - (intOf iv).toNat)
      case atStart => exact ⟨0, Nat.zero_le _, rfl, rfl⟩
      case round =>
        obtain ⟨l, hl, rfl, rfl⟩ := hrel
        by_cases hlt : l < n3
        · have hlt' : (l : Int) < (n3 : Int) := by omega
          obtain ⟨pb', poff, pe, hcp⟩ := RP.out l hlt
          simp only [Option.some.injEq, Addr.mk.injEq, and_true] at pe
          obtain ⟨rfl, rfl⟩ := pe
          rw [Nat.zero_add] at hcp
          by_cases h1l : l < n1
          · rw [show place f2 f3 n1 n2 l = (l : Int) from if_pos h1l] at hcp
            go_wp2_with fail
            go_roundw
            case rel => exact ⟨l + 1, by omega, by go_num, by first | rfl | trivial⟩
            case measure => simp [intOf]; omega
          · exfalso; omega
        · go_wp2_with fail
          go_ret
          exact ⟨rfl, below_drewN BB.out _⟩

set_option maxHeartbeats 1000000 in
theorem law_g (a1 a2 a3 : Option Addr) (n1 n2 n3 c1 c2 c3 : Nat) (f1 f2 f3 : Nat → ByteArray) (w : World) (hn1 : n1 ≤ maxLen) (hn2 : n2 ≤ maxLen) (hn3 : n3 ≤ maxLen)
    (ha1 : a1 = none → n1 = 0 ∧ c1 = 0) (ha2 : a2 = none → n2 = 0 ∧ c2 = 0) (ha3 : a3 = none → n3 = 0 ∧ c3 = 0)
    (hr1 : RowF w a1 f1 n1) (hr2 : RowF w a2 f2 n2) (hr3 : RowF w a3 f3 n3) (h : n1 < n3) (heq : ∀ j, j < n1 → f3 j = f1 j) (h0 : n2 ≠ 0) (htl : TailOK f2 f3 n1 n2 (n3 - n1)) :
    Calls Trym.prog 6 #[.slice a1 n1 c1, .slice a2 n2 c2, .slice a3 n3 c3] w fun e w' => e = .returned (.bool true) ∧ Below w.heap.size w w' := by
  have H1 : Hid (RowF w a1 f1 n1) := hr1
  have H2 : Hid (RowF w a2 f2 n2) := hr2
  have H3 : Hid (RowF w a3 f3 n3) := hr3
  have G1 : Hid (a1 = none → n1 = 0 ∧ c1 = 0) := ha1
  have G2 : Hid (a2 = none → n2 = 0 ∧ c2 = 0) := ha2
  have G3 : Hid (a3 = none → n3 = 0 ∧ c3 = 0) := ha3
  clear hr1 hr2 hr3 ha1 ha2 ha3
  have HE : Hid (∀ j, j < n1 → f3 j = f1 j) := heq
  have HTL : Hid (TailOK f2 f3 n1 n2 (n3 - n1)) := htl
  clear heq htl
  have NW : Hid (Want f1 f2 f3 n1 n2 n3) := ⟨by omega, HE.out, fun e => absurd e h0, fun _ => HTL.out⟩
  have hd : decide ((n1 : Int) ≤ (n3 : Int)) = true := decide_eq_true (by omega)
  go_enter Trym.func6, Trym.ntmps6
  go_wp2_with fail
  refine (zzBytes_any _ _ _ _ _ _ _ _ _ f1 f2 f3 _ hn1 hn2 hn3 H1.out H2.out H3.out).mono ?_
  rintro e w' ⟨⟨r, rfl⟩, rfl⟩
  cases r with
  | false =>
    go_wp2_with fail
    go_ret
    exact ⟨rfl, Below.refl _ _⟩
  | true =>
  go_wp2_with fail
  refine (overBudget_any _ _ _ _ _ _ _ _ _ f1 f2 f3 _ hn1 hn2 hn3 H1.out H2.out H3.out).mono ?_
  rintro e w' ⟨⟨r, rfl, hb⟩, rfl⟩
  cases r with
  | true =>
    clear hb
    go_wp2_with fail
    go_ret
    exact ⟨rfl, Below.refl _ _⟩
  | false =>
  obtain ⟨hb1, hb2, hb3⟩ := hb rfl
  clear hb hn2 hn3
  go_wp2_with fail
  refine (clone_any _ _ _ f1 _ hb1 G1.out H1.out).mono ?_
  rintro e w1 ⟨x1, d1, rfl, hd1, hm1, r1, b1⟩
  have B1 : Hid (Below w'.heap.size w' w1) := b1
  have R1 : Hid (RowF w1 x1 f1 n1) := r1
  clear b1 r1
  go_wp2_with fail
  refine (clone_any _ _ _ f2 _ hb2 G2.out (H2.out.below B1.out)).mono ?_
  rintro e w2 ⟨x2, d2, rfl, hd2, hm2, r2, b2⟩
  have B2 : Hid (Below w1.heap.size w1 w2) := b2
  have R2 : Hid (RowF w2 x2 f2 n2) := r2
  clear b2 r2
  go_wp2_with fail
  refine (clone_any _ _ _ f3 _ hb3 G3.out ((H3.out.below B1.out).below B2.out)).mono ?_
  rintro e w3 ⟨x3, d3, rfl, hd3, hm3, r3, b3⟩
  have B3 : Hid (Below w2.heap.size w2 w3) := b3
  have R3 : Hid (RowF w3 x3 f3 n3) := r3
  clear b3 r3
  go_wp2_with fail
  refine (zzPlaces_any _ _ _ _ _ _ _ _ _ f1 f2 f3 _ hb1 hb2 hb3 hd3 hm3 ((R1.out.below B2.out).below B3.out) (R2.out.below B3.out) R3.out).mono ?_
  rintro e w4 hp
  obtain ⟨pb, rfl, rp, b4⟩ := hp.full NW.out h0
  have B4 : Hid (Below w3.heap.size w3 w4) := b4
  have RP : Hid (RowI w4 (some ⟨pb, 0, none⟩) (place f2 f3 n1 n2) n3) := rp
  clear b4 hp rp
  have S1 : Hid (RowF w4 x1 f1 n1) := (((R1.out.below B2.out).below B3.out).below B4.out)
  have S2 : Hid (RowF w4 x2 f2 n2) := ((R2.out.below B3.out).below B4.out)
  have S3 : Hid (RowF w4 x3 f3 n3) := R3.out.below B4.out
  have BB : Hid (Below w'.heap.size w' w4) := ((B1.out.trans (B2.out.mono B1.out.size)).trans (B3.out.mono (Nat.le_trans B1.out.size B2.out.size))).trans (B4.out.mono (Nat.le_trans (Nat.le_trans B1.out.size B2.out.size) B3.out.size))
  clear B1 B2 B3 B4 R1 R2 R3 G1 G2 G3 H1 H2 H3
  unfold maxLen at hm1 hm2 hm3
  have q := q26
  have hb1' : (n1 : Int) ≤ (d3 : Int) := by omega
  have hcn : ¬ d3 = n1 := by omega
  obtain ⟨b, off, rfl, _⟩ := S3.out 0 (by omega)
  have hd2 : ((n2 : Int) == 0) = false := by simp; omega
  have hx2 : n2 ≤ maxLen := by unfold maxLen; omega
  go_wp2_with fail
  refine (same_yes _ _ _ _ _ f3 f1 _ hn1 (S3.out.less (by omega)) S1.out HE.out).mono ?_
  rintro e w5 ⟨rfl, q5, rfl⟩
  go_wp2_with fail
  go_loopw [10, 12, 13] (fun bv iv _ wr => ∃ i q : Nat, ∃ b' : Bool, i ≤ n3 - n1 ∧ iv = .int .i64 i ∧ bv = .bool b' ∧ wr = w4.drewN q ∧ (b' = true ↔ TailOK f2 f3 n1 n2 i)) (fun _ iv _ _ => n3 - n1 - (intOf iv).toNat)
  case atStart => exact ⟨0, q5, true, Nat.zero_le _, rfl, rfl, rfl, ⟨fun _ l hl => by omega, fun _ => rfl⟩⟩
  case round =>
    obtain ⟨i, qi, b0, hi, rfl, rfl, rfl, hb0⟩ := hrel
    have HBB : Hid (b0 = true ↔ TailOK f2 f3 n1 n2 i) := hb0
    clear hb0
    by_cases hlt : i < n3 - n1
    · cases b0 with
      | true =>
        obtain ⟨s, hs⟩ : ∃ s, s = f3 (n1 + i) := ⟨_, rfl⟩
        have hcell : w4.cell? ⟨b, off + n1 + i, none⟩ = some (.string s) := by
          rw [hs]; exact S3.out.tail (m := n1) i (by omega)
        have HS : Hid (s = f3 (n1 + i)) := hs
        clear hs
        have hlt2 : (i : Int) < ((n3 - n1 : Nat) : Int) := by omega
        rcases fidx_cases f2 n2 s with ⟨e1, _⟩ | ⟨j, e1, hj, _, _⟩
        · have E1 : Hid (fidx f2 n2 s = -1) := e1
          clear e1
          go_wp2_with fail
          refine (firstIndex_any _ _ _ f2 _ _ hx2 (S2.out.drewN _)).mono ?_
          rintro e w6 ⟨rfl, rfl⟩
          rw [E1.out]
          go_wp2_with fail
          go_loopw [10, 13] (fun bv kv wr => ∃ k q : Nat, ∃ b' : Bool, k ≤ i ∧ kv = .int .i64 k ∧ bv = .bool b' ∧ wr = w4.drewN q ∧ (b' = true ↔ Col f2 f3 n1 n2 i k)) (fun _ kv _ => i - (intOf kv).toNat)
          case atStart => exact ⟨0, qi, false, Nat.zero_le _, rfl, rfl, rfl, ⟨fun h => Bool.noConfusion h, fun h => absurd h (col_zero_no HS.out E1.out)⟩⟩
          case round =>
            obtain ⟨k, qk, b', hk, rfl, rfl, rfl, hb'⟩ := hrel
            have HB' : Hid (b' = true ↔ Col f2 f3 n1 n2 i k) := hb'
            clear hb'
            by_cases hlt3 : k < i
            · obtain ⟨t, ht⟩ : ∃ t, t = f3 (n1 + k) := ⟨_, rfl⟩
              have hcell2 : w4.cell? ⟨b, off + n1 + k, none⟩ = some (.string t) := by
                rw [ht]; exact S3.out.tail (m := n1) k (by omega)
              have HTT : Hid (t = f3 (n1 + k)) := ht
              clear ht
              have hk3 : (k : Int) < ((n3 - n1 : Nat) : Int) := by omega
              cases he : (t.toList == s.toList) with
              | true =>
                have HEE : Hid ((t.toList == s.toList) = true) := he
                go_wp2
                go_quiet (fail)
                go_wp2
                go_roundw
                case rel => exact ⟨k + 1, _, false, by omega, by go_num, rfl, rfl, ⟨fun h => Bool.noConfusion h, fun h => absurd h (col_no HS.out (by rw [← HTT.out]; exact HEE.out))⟩⟩
                case measure => simp [intOf]; omega
              | false =>
                have HEE : Hid ((t.toList == s.toList) = false) := he
                go_wp2
                go_quiet (fail)
                go_wp2
                go_roundw
                case rel => exact ⟨k + 1, _, b', by omega, by go_num, rfl, rfl, HB'.out.trans (col_yes HS.out (by rw [← HTT.out]; exact HEE.out))⟩
                case measure => simp [intOf]; omega
            · go_wp2
              go_roundw
              case rel => exact ⟨i + 1, _, b', by omega, by go_num, rfl, rfl, HB'.out.trans (tail_succ (HBB.out.1 (by simp)) hk hlt3)⟩
              case measure => simp [intOf]; omega
        · have E1 : Hid (fidx f2 n2 s = (j : Int)) := e1
          clear e1
          go_wp2_with fail
          refine (firstIndex_any _ _ _ f2 _ _ hx2 (S2.out.drewN _)).mono ?_
          rintro e w6 ⟨rfl, rfl⟩
          rw [E1.out]
          go_wp2_with fail
          go_loopw [10, 13] (fun bv kv wr => ∃ k q : Nat, ∃ b' : Bool, k ≤ i ∧ kv = .int .i64 k ∧ bv = .bool b' ∧ wr = w4.drewN q ∧ (b' = true ↔ Col f2 f3 n1 n2 i k)) (fun _ kv _ => i - (intOf kv).toNat)
          case atStart => exact ⟨0, qi, true, Nat.zero_le _, rfl, rfl, rfl, ⟨fun _ => col_zero_yes HS.out E1.out, fun _ => rfl⟩⟩
          case round =>
            obtain ⟨k, qk, b', hk, rfl, rfl, rfl, hb'⟩ := hrel
            have HB' : Hid (b' = true ↔ Col f2 f3 n1 n2 i k) := hb'
            clear hb'
            by_cases hlt3 : k < i
            · obtain ⟨t, ht⟩ : ∃ t, t = f3 (n1 + k) := ⟨_, rfl⟩
              have hcell2 : w4.cell? ⟨b, off + n1 + k, none⟩ = some (.string t) := by
                rw [ht]; exact S3.out.tail (m := n1) k (by omega)
              have HTT : Hid (t = f3 (n1 + k)) := ht
              clear ht
              have hk3 : (k : Int) < ((n3 - n1 : Nat) : Int) := by omega
              cases he : (t.toList == s.toList) with
              | true =>
                have HEE : Hid ((t.toList == s.toList) = true) := he
                go_wp2
                go_quiet (fail)
                go_wp2
                go_roundw
                case rel => exact ⟨k + 1, _, false, by omega, by go_num, rfl, rfl, ⟨fun h => Bool.noConfusion h, fun h => absurd h (col_no HS.out (by rw [← HTT.out]; exact HEE.out))⟩⟩
                case measure => simp [intOf]; omega
              | false =>
                have HEE : Hid ((t.toList == s.toList) = false) := he
                go_wp2
                go_quiet (fail)
                go_wp2
                go_roundw
                case rel => exact ⟨k + 1, _, b', by omega, by go_num, rfl, rfl, HB'.out.trans (col_yes HS.out (by rw [← HTT.out]; exact HEE.out))⟩
                case measure => simp [intOf]; omega
            · go_wp2
              go_roundw
              case rel => exact ⟨i + 1, _, b', by omega, by go_num, rfl, rfl, HB'.out.trans (tail_succ (HBB.out.1 (by simp)) hk hlt3)⟩
              case measure => simp [intOf]; omega
      | false =>
        exfalso
        have : false = true := HBB.out.2 (HTL.out.less (by omega))
        cases this
    · cases b0 with
      | true =>
        go_wp2_with fail
        go_loopw [14, 15] (fun iv _ wr => ∃ i : Nat, i ≤ n3 ∧ iv = .int .i64 i ∧ wr = w4.drewN qi) (fun iv _ _ => n3 - (intOf iv).toNat)
        case atStart => exact ⟨0, Nat.zero_le _, rfl, rfl⟩
        case round =>
          obtain ⟨l, hl, rfl, rfl⟩ := hrel
          by_cases hlt : l < n3
          · have hlt' : (l : Int) < (n3 : Int) := by omega
            obtain ⟨pb', poff, pe, hcp⟩ := RP.out l hlt
            simp only [Option.some.injEq, Addr.mk.injEq, and_true] at pe
            obtain ⟨rfl, rfl⟩ := pe
            rw [Nat.zero_add] at hcp
            by_cases h1l : l < n1
            · rw [show place f2 f3 n1 n2 l = (l : Int) from if_pos h1l] at hcp
              go_wp2_with fail
              go_roundw
              case rel => exact ⟨l + 1, by omega, by go_num, by first | rfl | trivial⟩
              case measure => simp [intOf]; omega
            · obtain ⟨s, hs⟩ : ∃ s, s = f3 l := ⟨_, rfl⟩
              obtain ⟨hb', ho', he', hcell⟩ := S3.out l hlt
              simp only [Option.some.injEq, Addr.mk.injEq, and_true] at he'
              obtain ⟨rfl, rfl⟩ := he'
              rw [← hs] at hcell
              have htl : 0 ≤ fidx f2 n2 s := by
                have := (HTL.out (l - n1) (by omega)).1
                rw [show n1 + (l - n1) = l from by omega, ← hs] at this
                exact this
              rw [show place f2 f3 n1 n2 l = n1 + fidx f2 n2 s from by rw [hs]; exact if_neg h1l] at hcp
              clear hs
              rcases fidx_cases f2 n2 s with ⟨e1, _⟩ | ⟨j, e1, hj, _, _⟩
              · omega
              · rw [e1] at hcp
                have E1 : Hid (fidx f2 n2 s = (j : Int)) := e1
                clear e1 htl
                go_wp2_with fail
                refine (firstIndex_any _ _ _ f2 _ _ hx2 (S2.out.drewN _)).mono ?_
                rintro e w6 ⟨rfl, rfl⟩
                rw [E1.out]
                go_wp2_with fail
                go_roundw
                case rel => exact ⟨l + 1, by omega, by go_num, by first | rfl | trivial⟩
                case measure => simp [intOf]; omega
          · go_wp2_with fail
            go_ret
            exact ⟨rfl, below_drewN BB.out _⟩
      | false =>
        exfalso
        have : false = true := HBB.out.2 (HTL.out.less (by omega))
        cases this

theorem law_any (a1 a2 a3 : Option Addr) (n1 n2 n3 c1 c2 c3 : Nat) (f1 f2 f3 : Nat → ByteArray) (w : World) (hn1 : n1 ≤ maxLen) (hn2 : n2 ≤ maxLen) (hn3 : n3 ≤ maxLen)
    (ha1 : a1 = none → n1 = 0 ∧ c1 = 0) (ha2 : a2 = none → n2 = 0 ∧ c2 = 0) (ha3 : a3 = none → n3 = 0 ∧ c3 = 0)
    (hr1 : RowF w a1 f1 n1) (hr2 : RowF w a2 f2 n2) (hr3 : RowF w a3 f3 n3) :
    Calls Trym.prog 6 #[.slice a1 n1 c1, .slice a2 n2 c2, .slice a3 n3 c3] w fun e w' => e = .returned (.bool true) ∧ Below w.heap.size w w' := by
  by_cases h : n3 < n1
  · exact law_a a1 a2 a3 n1 n2 n3 c1 c2 c3 f1 f2 f3 w hn1 hn2 hn3 ha1 ha2 ha3 hr1 hr2 hr3 h
  by_cases heq : ∀ j, j < n1 → f3 j = f1 j
  · by_cases h0 : n2 = 0
    · by_cases h31 : n3 ≤ n1
      · exact law_d a1 a2 a3 n1 n2 n3 c1 c2 c3 f1 f2 f3 w hn1 hn2 hn3 ha1 ha2 ha3 hr1 hr2 hr3 (by omega) h31 heq h0
      · exact law_c a1 a2 a3 n1 n2 n3 c1 c2 c3 f1 f2 f3 w hn1 hn2 hn3 ha1 ha2 ha3 hr1 hr2 hr3 (by omega) heq h0
    · by_cases h31 : n3 ≤ n1
      · exact law_f a1 a2 a3 n1 n2 n3 c1 c2 c3 f1 f2 f3 w hn1 hn2 hn3 ha1 ha2 ha3 hr1 hr2 hr3 (by omega) h31 heq h0
      · by_cases ht : TailOK f2 f3 n1 n2 (n3 - n1)
        · exact law_g a1 a2 a3 n1 n2 n3 c1 c2 c3 f1 f2 f3 w hn1 hn2 hn3 ha1 ha2 ha3 hr1 hr2 hr3 (by omega) heq h0 ht
        · exact law_e a1 a2 a3 n1 n2 n3 c1 c2 c3 f1 f2 f3 w hn1 hn2 hn3 ha1 ha2 ha3 hr1 hr2 hr3 (by omega) heq h0 ht
  · exact law_b a1 a2 a3 n1 n2 n3 c1 c2 c3 f1 f2 f3 w hn1 hn2 hn3 ha1 ha2 ha3 hr1 hr2 hr3 (by omega) heq

end Go.Proofs.Qxb6600690aMods.Plc
