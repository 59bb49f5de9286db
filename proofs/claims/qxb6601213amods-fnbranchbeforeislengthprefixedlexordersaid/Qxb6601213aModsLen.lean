/-
  The plain law and the walk of 'FnBranchBeforeIsLengthPrefixedLexOrder'.
-/
import Derived.Test.Qxb6601213aModsLenWalks
namespace Go.Proofs.Qxb6601213aMods.Brn
open Go.RowKit
set_option linter.unusedVariables false

theorem less_of (k : Nat) : ∀ x y : List UInt8, (∀ j, j < k → x.getD j 0 = y.getD j 0) → k ≤ x.length → k ≤ y.length →
    ((k < x.length ∧ k < y.length ∧ (x.getD k 0).toNat < (y.getD k 0).toNat) ∨ (k = x.length ∧ x.length < y.length)) → Op.bytesLess x y = true := by
  induction k with
  | zero =>
    intro x y _ _ _ h
    cases x with
    | nil =>
      cases y with
      | nil => simp at h
      | cons b y => rfl
    | cons a x =>
      cases y with
      | nil => simp at h
      | cons b y =>
        rcases h with ⟨_, _, h⟩ | ⟨h, _⟩
        · have : a < b := UInt8.lt_iff_toNat_lt.2 (by simpa using h)
          simp [Op.bytesLess, this]
        · simp at h
  | succ k ih =>
    intro x y h hx hy hk
    cases x with
    | nil => simp at hx
    | cons a x =>
      cases y with
      | nil => simp at hy
      | cons b y =>
        have hab : a = b := by simpa using h 0 (by omega)
        subst hab
        have := ih x y (fun j hj => by simpa using h (j + 1) (by omega)) (by simpa using hx) (by simpa using hy) (by simpa using hk)
        simp [Op.bytesLess, this]
theorem len_data (x : ByteArray) : x.data.toList.length = x.size := by rw [Array.length_toList]; rfl
theorem byt_inj {x y : ByteArray} {j : Nat} (h : byt x j = byt y j) : x.data.toList.getD j 0 = y.data.toList.getD j 0 := by
  unfold byt at h
  exact UInt8.toNat_inj.1 (by omega)
theorem lt_of_lex {x y : ByteArray} (h : LexLess (byt x) x.size (byt y) y.size) : lt x y = true := by
  obtain ⟨k, h1, h2, h3, h4⟩ := h
  unfold lt
  rw [ByteArray.toList_eq, ByteArray.toList_eq]
  refine less_of k _ _ (fun j hj => byt_inj (h1 j hj)) (by rw [len_data]; exact h2) (by rw [len_data]; exact h3) ?_
  rw [len_data, len_data]
  rcases h4 with ⟨a, b, c⟩ | h4
  · refine .inl ⟨a, b, ?_⟩
    unfold byt at c
    omega
  · exact .inr h4
theorem eq_of_byt {x y : ByteArray} (hs : x.size = y.size) (h : ∀ j, j < x.size → byt x j = byt y j) : x = y := by
  apply ByteArray.ext
  apply Array.toList_inj.1
  apply List.ext_getElem
  · rw [len_data, len_data, hs]
  · intro i h1 h2
    have := byt_inj (h i (by rw [← len_data]; exact h1))
    rw [List.getD_eq_getElem?_getD, List.getD_eq_getElem?_getD, List.getElem?_eq_getElem h1, List.getElem?_eq_getElem h2] at this
    simpa using this
theorem ne_of_lt {x y : ByteArray} (h : lt x y = true) : x ≠ y := by
  rintro rfl
  rw [lt_irrefl] at h
  cases h
theorem lt_asymm {x y : ByteArray} (h : lt x y = true) : lt y x = false := by
  have := lt_total (ne_of_lt h)
  rw [h] at this
  simpa using this.symm

theorem lp0 (s : ByteArray) : lpF s 0 = (s.size : Int) / 16777216 := rfl
theorem lp1 (s : ByteArray) : lpF s 1 = (s.size : Int) / 65536 := rfl
theorem lp2 (s : ByteArray) : lpF s 2 = (s.size : Int) / 256 % 256 := rfl
theorem lp3 (s : ByteArray) : lpF s 3 = (s.size : Int) % 256 := rfl
theorem lpT (s : ByteArray) (j : Nat) : lpF s (j + 4) = byt s j := by
  unfold lpF
  rw [if_neg (by omega), if_neg (by omega), if_neg (by omega), if_neg (by omega), Nat.add_sub_cancel]
theorem size_of_head {a b : ByteArray} (ha : a.size ≤ 131072) (hb : b.size ≤ 131072) (h : ∀ j, j < 4 → lpF a j = lpF b j) : a.size = b.size := by
  have h1 := h 1 (by omega)
  have h2 := h 2 (by omega)
  have h3 := h 3 (by omega)
  rw [lp1, lp1] at h1
  rw [lp2, lp2] at h2
  rw [lp3, lp3] at h3
  omega
theorem bb_of_lex {r a b : ByteArray} (ha : a.size ≤ 131072) (hb : b.size ≤ 131072) (h : LexLess (lpF a) (4 + a.size) (lpF b) (4 + b.size)) : bb r a r b = true := by
  obtain ⟨k, h1, h2, h3, h4⟩ := h
  unfold bb
  rw [if_pos rfl]
  by_cases hk : k < 4
  · have hlt : lpF a k < lpF b k := by
      rcases h4 with ⟨_, _, h⟩ | ⟨h, _⟩
      · exact h
      · omega
    have hsz : a.size < b.size := by
      have e0 : ∀ j, j < k → lpF a j = lpF b j := h1
      match k, hk with
      | 0, _ => rw [lp0, lp0] at hlt; omega
      | 1, _ => rw [lp1, lp1] at hlt; omega
      | 2, _ =>
        have f1 := e0 1 (by omega)
        rw [lp1, lp1] at f1
        rw [lp2, lp2] at hlt; omega
      | 3, _ =>
        have f1 := e0 1 (by omega)
        have f2 := e0 2 (by omega)
        rw [lp1, lp1] at f1
        rw [lp2, lp2] at f2
        rw [lp3, lp3] at hlt; omega
    rw [if_neg (by omega)]
    exact decide_eq_true hsz
  · have hs := size_of_head ha hb (fun j hj => h1 j (by omega))
    rw [if_pos hs]
    rcases h4 with ⟨_, _, h4⟩ | ⟨_, h4⟩
    · obtain ⟨l, rfl⟩ : ∃ l, k = l + 4 := ⟨k - 4, by omega⟩
      refine lt_of_lex ⟨l, fun j hj => ?_, by omega, by omega, .inl ⟨by omega, by omega, ?_⟩⟩
      · have := h1 (j + 4) (by omega)
        rw [lpT, lpT] at this
        exact this
      · rw [lpT, lpT] at h4
        exact h4
    · omega
theorem bb_of_same {r a b : ByteArray} (ha : a.size ≤ 131072) (hb : b.size ≤ 131072) (h : ∀ j, j < 4 + a.size → lpF a j = lpF b j) : bb r a r b = false := by
  have hs := size_of_head ha hb (fun j hj => h j (by omega))
  have : a = b := eq_of_byt hs (fun j hj => by
    have := h (j + 4) (by omega)
    rw [lpT, lpT] at this
    exact this)
  subst this
  exact bb_irrefl r a
theorem bb_of_gt {r a b : ByteArray} (ha : a.size ≤ 131072) (hb : b.size ≤ 131072) (h : LexLess (lpF b) (4 + b.size) (lpF a) (4 + a.size)) : bb r a r b = false := by
  have h1 : bb r b r a = true := bb_of_lex hb ha h
  have hne : ¬ (r = r ∧ a = b) := by
    rintro ⟨_, rfl⟩
    rw [bb_irrefl] at h1
    cases h1
  rw [bb_total hne, h1]
  rfl
theorem bb_res {ra a rb b : ByteArray} (h : lt ra rb = true) : bb ra a rb b = true := by
  unfold bb; rw [if_neg (ne_of_lt h)]; exact h
theorem bb_res' {ra a rb b : ByteArray} (h : lt rb ra = true) : bb ra a rb b = false := by
  unfold bb; rw [if_neg (fun e => ne_of_lt h e.symm)]; exact lt_asymm h

set_option maxHeartbeats 400000 in
theorem zzBytes10_any (ra a rb b : ByteArray) (w : World) (hra : ra.size ≤ maxLen) (ha : a.size ≤ maxLen) (hrb : rb.size ≤ maxLen) (hb : b.size ≤ maxLen) :
    Calls Trym.prog 10 #[.string ra, .string a, .string rb, .string b] w fun e w' => RetBool e ∧ w' = w := by
  unfold maxLen at hra ha hrb hb
  go_enter Trym.func10, Trym.ntmps10
  go_wp2
  all_goals
    go_ret
    exact ⟨⟨_, rfl⟩, rfl⟩

set_option maxHeartbeats 1000000 in
theorem len_off (ra a rb b : ByteArray) (w : World) (hra : ra.size ≤ maxLen) (ha : a.size ≤ maxLen) (hrb : rb.size ≤ maxLen) (hb : b.size ≤ maxLen)
    (h : ¬ (ra.size ≤ 131072 ∧ a.size ≤ 131072 ∧ rb.size ≤ 131072 ∧ b.size ≤ 131072)) :
    Calls Trym.prog 3 #[.string ra, .string a, .string rb, .string b] w fun e w' => e = .returned (.bool true) ∧ Below w.heap.size w w' := by
  by_cases kra : (131072 : Int) < (ra.size : Int)
  · clear h
    have dra : decide ((131072 : Int) < (ra.size : Int)) = true := decide_eq_true kra
    go_enter Trym.func3, Trym.ntmps3
    go_wp2_with fail
    refine (zzBytes10_any _ _ _ _ _ hra ha hrb hb).mono ?_
    rintro e w' ⟨⟨q, rfl⟩, rfl⟩
    cases q <;> (go_wp2_with fail; go_ret; exact ⟨rfl, Below.refl _ _⟩)
  by_cases ka : (131072 : Int) < (a.size : Int)
  · clear h
    have dra : decide ((131072 : Int) < (ra.size : Int)) = false := decide_eq_false kra
    have da : decide ((131072 : Int) < (a.size : Int)) = true := decide_eq_true ka
    go_enter Trym.func3, Trym.ntmps3
    go_wp2_with fail
    refine (zzBytes10_any _ _ _ _ _ hra ha hrb hb).mono ?_
    rintro e w' ⟨⟨q, rfl⟩, rfl⟩
    cases q <;> (go_wp2_with fail; go_ret; exact ⟨rfl, Below.refl _ _⟩)
  by_cases krb : (131072 : Int) < (rb.size : Int)
  · clear h
    have dra : decide ((131072 : Int) < (ra.size : Int)) = false := decide_eq_false kra
    have da : decide ((131072 : Int) < (a.size : Int)) = false := decide_eq_false ka
    have drb : decide ((131072 : Int) < (rb.size : Int)) = true := decide_eq_true krb
    go_enter Trym.func3, Trym.ntmps3
    go_wp2_with fail
    refine (zzBytes10_any _ _ _ _ _ hra ha hrb hb).mono ?_
    rintro e w' ⟨⟨q, rfl⟩, rfl⟩
    cases q <;> (go_wp2_with fail; go_ret; exact ⟨rfl, Below.refl _ _⟩)
  by_cases kb : (131072 : Int) < (b.size : Int)
  · clear h
    have dra : decide ((131072 : Int) < (ra.size : Int)) = false := decide_eq_false kra
    have da : decide ((131072 : Int) < (a.size : Int)) = false := decide_eq_false ka
    have drb : decide ((131072 : Int) < (rb.size : Int)) = false := decide_eq_false krb
    have db : decide ((131072 : Int) < (b.size : Int)) = true := decide_eq_true kb
    go_enter Trym.func3, Trym.ntmps3
    go_wp2_with fail
    refine (zzBytes10_any _ _ _ _ _ hra ha hrb hb).mono ?_
    rintro e w' ⟨⟨q, rfl⟩, rfl⟩
    cases q <;> (go_wp2_with fail; go_ret; exact ⟨rfl, Below.refl _ _⟩)
  exact absurd ⟨by omega, by omega, by omega, by omega⟩ h

set_option maxHeartbeats 1000000 in
theorem len_main (ra a rb b : ByteArray) (w : World) (hra : ra.size ≤ 131072) (ha : a.size ≤ 131072) (hrb : rb.size ≤ 131072) (hb : b.size ≤ 131072) :
    Calls Trym.prog 3 #[.string ra, .string a, .string rb, .string b] w fun e w' => e = .returned (.bool true) ∧ Below w.heap.size w w' := by
  have mra : ra.size ≤ maxLen := by unfold maxLen; omega
  have ma : a.size ≤ maxLen := by unfold maxLen; omega
  have mrb : rb.size ≤ maxLen := by unfold maxLen; omega
  have mb : b.size ≤ maxLen := by unfold maxLen; omega
  have dra : decide ((131072 : Int) < (ra.size : Int)) = false := decide_eq_false (by omega)
  have da : decide ((131072 : Int) < (a.size : Int)) = false := decide_eq_false (by omega)
  have drb : decide ((131072 : Int) < (rb.size : Int)) = false := decide_eq_false (by omega)
  have db : decide ((131072 : Int) < (b.size : Int)) = false := decide_eq_false (by omega)
  obtain ⟨B, hB⟩ : ∃ B, bb ra a rb b = B := ⟨_, rfl⟩
  have HB : Hid (bb ra a rb b = B) := hB
  clear hB
  go_enter Trym.func3, Trym.ntmps3
  go_wp2_with fail
  refine (zzBytes10_any _ _ _ _ _ mra ma mrb mb).mono ?_
  rintro e w' ⟨⟨q, rfl⟩, rfl⟩
  cases q with
  | false =>
    go_wp2_with fail
    go_ret
    exact ⟨rfl, Below.refl _ _⟩
  | true =>
  go_wp2_with fail
  refine (zzBranch_any _ _ _ _ _ ma mb).mono ?_
  rintro e w' ⟨rfl, rfl⟩
  rw [HB.out]
  go_wp2_with fail
  refine (cmpText_any _ _ _ mra mrb).mono ?_
  rintro e w1 ⟨hc, q1, rfl⟩
  rcases hc with ⟨rfl, hc⟩ | ⟨rfl, hs, he⟩ | ⟨rfl, hc⟩
  · obtain rfl : B = true := by rw [← HB.out]; exact bb_res (lt_of_lex hc)
    clear hc HB
    go_wp2_with fail
    go_ret
    exact ⟨rfl, below_drewN (Below.refl _ _) _⟩
  · obtain rfl : ra = rb := eq_of_byt hs he
    clear hs he
    go_wp2_with fail
    refine (lp_any _ _ ha).mono ?_
    rintro e w2 ⟨b2, rfl, r2⟩
    have B2 : Hid (Below (w'.drewN q1).heap.size (w'.drewN q1) w2) := b2
    have R2 : Hid (RowB w2 (some ⟨(w'.drewN q1).heap.size, 0, none⟩) (lpF a) (4 + a.size)) := r2
    clear b2 r2
    go_wp2_with fail
    refine (lp_any _ _ hb).mono ?_
    rintro e w3 ⟨b3, rfl, r3⟩
    have B3 : Hid (Below w2.heap.size w2 w3) := b3
    have R3 : Hid (RowB w3 (some ⟨w2.heap.size, 0, none⟩) (lpF b) (4 + b.size)) := r3
    clear b3 r3
    have BB : Hid (Below w'.heap.size w' w3) := ((below_drewN (Below.refl _ _) q1).trans B2.out).trans (B3.out.mono B2.out.size)
    have n1 : 4 + a.size ≤ maxLen := by unfold maxLen; omega
    have n2 : 4 + b.size ≤ maxLen := by unfold maxLen; omega
    go_wp2_with fail
    refine (cmpBytes_any _ _ _ _ _ _ (lpF a) (lpF b) _ n1 n2 (R2.out.below B3.out) R3.out).mono ?_
    rintro e w4 ⟨hc, q4, rfl⟩
    rcases hc with ⟨rfl, hc⟩ | ⟨rfl, _, he⟩ | ⟨rfl, hc⟩
    · obtain rfl : B = true := by rw [← HB.out]; exact bb_of_lex ha hb hc
      clear hc HB
      go_wp2_with fail
      go_ret
      exact ⟨rfl, below_drewN BB.out _⟩
    · obtain rfl : B = false := by rw [← HB.out]; exact bb_of_same ha hb he
      clear he HB
      go_wp2_with fail
      go_ret
      exact ⟨rfl, below_drewN BB.out _⟩
    · obtain rfl : B = false := by rw [← HB.out]; exact bb_of_gt ha hb hc
      clear hc HB
      go_wp2_with fail
      go_ret
      exact ⟨rfl, below_drewN BB.out _⟩
  · obtain rfl : B = false := by rw [← HB.out]; exact bb_res' (lt_of_lex hc)
    clear hc HB
    go_wp2_with fail
    go_ret
    exact ⟨rfl, below_drewN (Below.refl _ _) _⟩

theorem len_any (ra a rb b : ByteArray) (w : World) (hra : ra.size ≤ maxLen) (ha : a.size ≤ maxLen) (hrb : rb.size ≤ maxLen) (hb : b.size ≤ maxLen) :
    Calls Trym.prog 3 #[.string ra, .string a, .string rb, .string b] w fun e w' => e = .returned (.bool true) ∧ Below w.heap.size w w' := by
  by_cases h : ra.size ≤ 131072 ∧ a.size ≤ 131072 ∧ rb.size ≤ 131072 ∧ b.size ≤ 131072
  · obtain ⟨kra, ka, krb, kb⟩ := h
    exact len_main ra a rb b w kra ka krb kb
  · exact len_off ra a rb b w hra ha hrb hb h
end Go.Proofs.Qxb6601213aMods.Brn
