/-
  The walk of 'FnBranchBeforeIsStrictTotalOrder'.
-/
import Derived.Test.Qxb6601213aModsBranch
namespace Go.Proofs.Qxb6601213aMods.Brn
open Go.RowKit
set_option linter.unusedVariables false

set_option maxHeartbeats 400000 in
theorem zzBytes15_any (ra a rb b rc c : ByteArray) (w : World) (hra : ra.size ≤ maxLen) (ha : a.size ≤ maxLen) (hrb : rb.size ≤ maxLen) (hb : b.size ≤ maxLen) (hrc : rc.size ≤ maxLen) (hc : c.size ≤ maxLen) :
    Calls Trym.prog 15 #[.string ra, .string a, .string rb, .string b, .string rc, .string c] w fun e w' => RetBool e ∧ w' = w := by
  unfold maxLen at hra ha hrb hb hrc hc
  go_enter Trym.func15, Trym.ntmps15
  go_wp2
  all_goals
    go_ret
    exact ⟨⟨_, rfl⟩, rfl⟩

set_option maxHeartbeats 1000000 in
theorem total_off (ra a rb b rc c : ByteArray) (w : World) (hra : ra.size ≤ maxLen) (ha : a.size ≤ maxLen) (hrb : rb.size ≤ maxLen) (hb : b.size ≤ maxLen) (hrc : rc.size ≤ maxLen) (hc : c.size ≤ maxLen)
    (h : ¬ (ra.size ≤ 131072 ∧ a.size ≤ 131072 ∧ rb.size ≤ 131072 ∧ b.size ≤ 131072 ∧ rc.size ≤ 131072 ∧ c.size ≤ 131072)) :
    Calls Trym.prog 4 #[.string ra, .string a, .string rb, .string b, .string rc, .string c] w fun e w' => e = .returned (.bool true) ∧ w' = w := by
  by_cases kra : (131072 : Int) < (ra.size : Int)
  · clear h
    have dra : decide ((131072 : Int) < (ra.size : Int)) = true := decide_eq_true kra
    go_enter Trym.func4, Trym.ntmps4
    go_wp2_with fail
    refine (zzBytes15_any _ _ _ _ _ _ _ hra ha hrb hb hrc hc).mono ?_
    rintro e w' ⟨⟨r, rfl⟩, rfl⟩
    cases r <;> (go_wp2_with fail; go_ret; exact ⟨rfl, rfl⟩)
  by_cases ka : (131072 : Int) < (a.size : Int)
  · clear h
    have dra : decide ((131072 : Int) < (ra.size : Int)) = false := decide_eq_false kra
    have da : decide ((131072 : Int) < (a.size : Int)) = true := decide_eq_true ka
    go_enter Trym.func4, Trym.ntmps4
    go_wp2_with fail
    refine (zzBytes15_any _ _ _ _ _ _ _ hra ha hrb hb hrc hc).mono ?_
    rintro e w' ⟨⟨r, rfl⟩, rfl⟩
    cases r <;> (go_wp2_with fail; go_ret; exact ⟨rfl, rfl⟩)
  by_cases krb : (131072 : Int) < (rb.size : Int)
  · clear h
    have dra : decide ((131072 : Int) < (ra.size : Int)) = false := decide_eq_false kra
    have da : decide ((131072 : Int) < (a.size : Int)) = false := decide_eq_false ka
    have drb : decide ((131072 : Int) < (rb.size : Int)) = true := decide_eq_true krb
    go_enter Trym.func4, Trym.ntmps4
    go_wp2_with fail
    refine (zzBytes15_any _ _ _ _ _ _ _ hra ha hrb hb hrc hc).mono ?_
    rintro e w' ⟨⟨r, rfl⟩, rfl⟩
    cases r <;> (go_wp2_with fail; go_ret; exact ⟨rfl, rfl⟩)
  by_cases kb : (131072 : Int) < (b.size : Int)
  · clear h
    have dra : decide ((131072 : Int) < (ra.size : Int)) = false := decide_eq_false kra
    have da : decide ((131072 : Int) < (a.size : Int)) = false := decide_eq_false ka
    have drb : decide ((131072 : Int) < (rb.size : Int)) = false := decide_eq_false krb
    have db : decide ((131072 : Int) < (b.size : Int)) = true := decide_eq_true kb
    go_enter Trym.func4, Trym.ntmps4
    go_wp2_with fail
    refine (zzBytes15_any _ _ _ _ _ _ _ hra ha hrb hb hrc hc).mono ?_
    rintro e w' ⟨⟨r, rfl⟩, rfl⟩
    cases r <;> (go_wp2_with fail; go_ret; exact ⟨rfl, rfl⟩)
  by_cases krc : (131072 : Int) < (rc.size : Int)
  · clear h
    have dra : decide ((131072 : Int) < (ra.size : Int)) = false := decide_eq_false kra
    have da : decide ((131072 : Int) < (a.size : Int)) = false := decide_eq_false ka
    have drb : decide ((131072 : Int) < (rb.size : Int)) = false := decide_eq_false krb
    have db : decide ((131072 : Int) < (b.size : Int)) = false := decide_eq_false kb
    have drc : decide ((131072 : Int) < (rc.size : Int)) = true := decide_eq_true krc
    go_enter Trym.func4, Trym.ntmps4
    go_wp2_with fail
    refine (zzBytes15_any _ _ _ _ _ _ _ hra ha hrb hb hrc hc).mono ?_
    rintro e w' ⟨⟨r, rfl⟩, rfl⟩
    cases r <;> (go_wp2_with fail; go_ret; exact ⟨rfl, rfl⟩)
  by_cases kc : (131072 : Int) < (c.size : Int)
  · clear h
    have dra : decide ((131072 : Int) < (ra.size : Int)) = false := decide_eq_false kra
    have da : decide ((131072 : Int) < (a.size : Int)) = false := decide_eq_false ka
    have drb : decide ((131072 : Int) < (rb.size : Int)) = false := decide_eq_false krb
    have db : decide ((131072 : Int) < (b.size : Int)) = false := decide_eq_false kb
    have drc : decide ((131072 : Int) < (rc.size : Int)) = false := decide_eq_false krc
    have dc : decide ((131072 : Int) < (c.size : Int)) = true := decide_eq_true kc
    go_enter Trym.func4, Trym.ntmps4
    go_wp2_with fail
    refine (zzBytes15_any _ _ _ _ _ _ _ hra ha hrb hb hrc hc).mono ?_
    rintro e w' ⟨⟨r, rfl⟩, rfl⟩
    cases r <;> (go_wp2_with fail; go_ret; exact ⟨rfl, rfl⟩)
  exact absurd ⟨by omega, by omega, by omega, by omega, by omega, by omega⟩ h

/-- One of three, and only one. -/
theorem one_of (xy yx : Bool) (ra a rb b : ByteArray) (h1 : bb ra a rb b = xy) (h2 : bb rb b ra a = yx) :
    (xy = true ∧ yx = false ∧ ¬ (ra = rb ∧ a = b)) ∨ (xy = false ∧ yx = true ∧ ¬ (ra = rb ∧ a = b)) ∨ (xy = false ∧ yx = false ∧ ra = rb ∧ a = b) := by
  by_cases h : ra = rb ∧ a = b
  · obtain ⟨rfl, rfl⟩ := h
    rw [bb_irrefl] at h1 h2
    exact .inr (.inr ⟨h1.symm, h2.symm, rfl, rfl⟩)
  · have := bb_total h
    rw [h1, h2] at this
    cases yx with
    | true => exact .inr (.inl ⟨this, rfl, h⟩)
    | false => exact .inl ⟨this, rfl, h⟩

set_option maxHeartbeats 1000000 in
theorem total_main (ra a rb b rc c : ByteArray) (w : World) (hra : ra.size ≤ 131072) (ha : a.size ≤ 131072) (hrb : rb.size ≤ 131072) (hb : b.size ≤ 131072) (hrc : rc.size ≤ 131072) (hc : c.size ≤ 131072) :
    Calls Trym.prog 4 #[.string ra, .string a, .string rb, .string b, .string rc, .string c] w fun e w' => e = .returned (.bool true) ∧ w' = w := by
  have mra : ra.size ≤ maxLen := by unfold maxLen; omega
  have ma : a.size ≤ maxLen := by unfold maxLen; omega
  have mrb : rb.size ≤ maxLen := by unfold maxLen; omega
  have mb : b.size ≤ maxLen := by unfold maxLen; omega
  have mrc : rc.size ≤ maxLen := by unfold maxLen; omega
  have mc : c.size ≤ maxLen := by unfold maxLen; omega
  have dra : decide ((131072 : Int) < (ra.size : Int)) = false := decide_eq_false (by omega)
  have da : decide ((131072 : Int) < (a.size : Int)) = false := decide_eq_false (by omega)
  have drb : decide ((131072 : Int) < (rb.size : Int)) = false := decide_eq_false (by omega)
  have db : decide ((131072 : Int) < (b.size : Int)) = false := decide_eq_false (by omega)
  have drc : decide ((131072 : Int) < (rc.size : Int)) = false := decide_eq_false (by omega)
  have dc : decide ((131072 : Int) < (c.size : Int)) = false := decide_eq_false (by omega)
  obtain ⟨xy, hxy⟩ : ∃ x, bb ra a rb b = x := ⟨_, rfl⟩
  obtain ⟨yx, hyx⟩ : ∃ x, bb rb b ra a = x := ⟨_, rfl⟩
  obtain ⟨yz, hyz⟩ : ∃ x, bb rb b rc c = x := ⟨_, rfl⟩
  obtain ⟨xz, hxz⟩ : ∃ x, bb ra a rc c = x := ⟨_, rfl⟩
  have X1 : Hid (bb ra a rb b = xy) := hxy
  have X2 : Hid (bb rb b ra a = yx) := hyx
  have X3 : Hid (bb rb b rc c = yz) := hyz
  have X4 : Hid (bb ra a rc c = xz) := hxz
  have HT : Hid (xy = true → yz = true → xz = true) := fun e1 e2 => by rw [← hxz]; exact bb_trans (hxy.trans e1) (hyz.trans e2)
  have HO : Hid _ := one_of xy yx ra a rb b hxy hyx
  clear hxy hyx hyz hxz
  cases he : (ra.toList == rb.toList) with
  | true =>
    cases he2 : (a.toList == b.toList) with
    | true =>
      obtain ⟨rfl, rfl⟩ : xy = false ∧ yx = false := by
        rcases HO.out with ⟨_, _, h⟩ | ⟨_, _, h⟩ | ⟨h1, h2, _⟩
        · exact absurd ⟨beq_yes he, beq_yes he2⟩ h
        · exact absurd ⟨beq_yes he, beq_yes he2⟩ h
        · exact ⟨h1, h2⟩
      clear HO
      go_enter Trym.func4, Trym.ntmps4
      go_wp2_with fail
      refine (zzBytes15_any _ _ _ _ _ _ _ mra ma mrb mb mrc mc).mono ?_
      rintro e w' ⟨⟨r, rfl⟩, rfl⟩
      cases r with
      | false =>
        go_wp2_with fail
        go_ret
        exact ⟨rfl, rfl⟩
      | true =>
      go_wp2_with fail
      refine (zzBranch_any _ _ _ _ _ ma ma).mono ?_
      rintro e w' ⟨rfl, rfl⟩
      rw [bb_irrefl]
      go_wp2_with fail
      refine (zzBranch_any _ _ _ _ _ ma mb).mono ?_
      rintro e w' ⟨rfl, rfl⟩
      rw [X1.out]
      go_wp2_with fail
      refine (zzBranch_any _ _ _ _ _ mb ma).mono ?_
      rintro e w' ⟨rfl, rfl⟩
      rw [X2.out]
      go_wp2_with fail
      refine (zzBranch_any _ _ _ _ _ mb mc).mono ?_
      rintro e w' ⟨rfl, rfl⟩
      rw [X3.out]
      go_wp2_with fail
      refine (zzBranch_any _ _ _ _ _ ma mc).mono ?_
      rintro e w' ⟨rfl, rfl⟩
      rw [X4.out]
      cases yz <;> cases xz <;> first
        | (exfalso; have h := HT.out; simp at h; done)
        | (go_wp2_with fail; go_ret; exact ⟨rfl, rfl⟩)
    | false =>
      rcases HO.out with ⟨h1, h2, _⟩ | ⟨h1, h2, _⟩ | ⟨_, _, h3, h4⟩
      · subst h1 h2
        clear HO
        go_enter Trym.func4, Trym.ntmps4
        go_wp2_with fail
        refine (zzBytes15_any _ _ _ _ _ _ _ mra ma mrb mb mrc mc).mono ?_
        rintro e w' ⟨⟨r, rfl⟩, rfl⟩
        cases r with
        | false =>
          go_wp2_with fail
          go_ret
          exact ⟨rfl, rfl⟩
        | true =>
        go_wp2_with fail
        refine (zzBranch_any _ _ _ _ _ ma ma).mono ?_
        rintro e w' ⟨rfl, rfl⟩
        rw [bb_irrefl]
        go_wp2_with fail
        refine (zzBranch_any _ _ _ _ _ ma mb).mono ?_
        rintro e w' ⟨rfl, rfl⟩
        rw [X1.out]
        go_wp2_with fail
        refine (zzBranch_any _ _ _ _ _ mb ma).mono ?_
        rintro e w' ⟨rfl, rfl⟩
        rw [X2.out]
        go_wp2_with fail
        refine (zzBranch_any _ _ _ _ _ mb mc).mono ?_
        rintro e w' ⟨rfl, rfl⟩
        rw [X3.out]
        go_wp2_with fail
        refine (zzBranch_any _ _ _ _ _ ma mc).mono ?_
        rintro e w' ⟨rfl, rfl⟩
        rw [X4.out]
        cases yz <;> cases xz <;> first
          | (exfalso; have h := HT.out; simp at h; done)
          | (go_wp2_with fail; go_ret; exact ⟨rfl, rfl⟩)
      · subst h1 h2
        clear HO
        go_enter Trym.func4, Trym.ntmps4
        go_wp2_with fail
        refine (zzBytes15_any _ _ _ _ _ _ _ mra ma mrb mb mrc mc).mono ?_
        rintro e w' ⟨⟨r, rfl⟩, rfl⟩
        cases r with
        | false =>
          go_wp2_with fail
          go_ret
          exact ⟨rfl, rfl⟩
        | true =>
        go_wp2_with fail
        refine (zzBranch_any _ _ _ _ _ ma ma).mono ?_
        rintro e w' ⟨rfl, rfl⟩
        rw [bb_irrefl]
        go_wp2_with fail
        refine (zzBranch_any _ _ _ _ _ ma mb).mono ?_
        rintro e w' ⟨rfl, rfl⟩
        rw [X1.out]
        go_wp2_with fail
        refine (zzBranch_any _ _ _ _ _ mb ma).mono ?_
        rintro e w' ⟨rfl, rfl⟩
        rw [X2.out]
        go_wp2_with fail
        refine (zzBranch_any _ _ _ _ _ mb mc).mono ?_
        rintro e w' ⟨rfl, rfl⟩
        rw [X3.out]
        go_wp2_with fail
        refine (zzBranch_any _ _ _ _ _ ma mc).mono ?_
        rintro e w' ⟨rfl, rfl⟩
        rw [X4.out]
        cases yz <;> cases xz <;> first
          | (exfalso; have h := HT.out; simp at h; done)
          | (go_wp2_with fail; go_ret; exact ⟨rfl, rfl⟩)
      · exact absurd h4 (beq_no he2)
  | false =>
    rcases HO.out with ⟨h1, h2, _⟩ | ⟨h1, h2, _⟩ | ⟨_, _, h3, h4⟩
    · subst h1 h2
      clear HO
      go_enter Trym.func4, Trym.ntmps4
      go_wp2_with fail
      refine (zzBytes15_any _ _ _ _ _ _ _ mra ma mrb mb mrc mc).mono ?_
      rintro e w' ⟨⟨r, rfl⟩, rfl⟩
      cases r with
      | false =>
        go_wp2_with fail
        go_ret
        exact ⟨rfl, rfl⟩
      | true =>
      go_wp2_with fail
      refine (zzBranch_any _ _ _ _ _ ma ma).mono ?_
      rintro e w' ⟨rfl, rfl⟩
      rw [bb_irrefl]
      go_wp2_with fail
      refine (zzBranch_any _ _ _ _ _ ma mb).mono ?_
      rintro e w' ⟨rfl, rfl⟩
      rw [X1.out]
      go_wp2_with fail
      refine (zzBranch_any _ _ _ _ _ mb ma).mono ?_
      rintro e w' ⟨rfl, rfl⟩
      rw [X2.out]
      go_wp2_with fail
      refine (zzBranch_any _ _ _ _ _ mb mc).mono ?_
      rintro e w' ⟨rfl, rfl⟩
      rw [X3.out]
      go_wp2_with fail
      refine (zzBranch_any _ _ _ _ _ ma mc).mono ?_
      rintro e w' ⟨rfl, rfl⟩
      rw [X4.out]
      cases yz <;> cases xz <;> first
        | (exfalso; have h := HT.out; simp at h; done)
        | (go_wp2_with fail; go_ret; exact ⟨rfl, rfl⟩)
    · subst h1 h2
      clear HO
      go_enter Trym.func4, Trym.ntmps4
      go_wp2_with fail
      refine (zzBytes15_any _ _ _ _ _ _ _ mra ma mrb mb mrc mc).mono ?_
      rintro e w' ⟨⟨r, rfl⟩, rfl⟩
      cases r with
      | false =>
        go_wp2_with fail
        go_ret
        exact ⟨rfl, rfl⟩
      | true =>
      go_wp2_with fail
      refine (zzBranch_any _ _ _ _ _ ma ma).mono ?_
      rintro e w' ⟨rfl, rfl⟩
      rw [bb_irrefl]
      go_wp2_with fail
      refine (zzBranch_any _ _ _ _ _ ma mb).mono ?_
      rintro e w' ⟨rfl, rfl⟩
      rw [X1.out]
      go_wp2_with fail
      refine (zzBranch_any _ _ _ _ _ mb ma).mono ?_
      rintro e w' ⟨rfl, rfl⟩
      rw [X2.out]
      go_wp2_with fail
      refine (zzBranch_any _ _ _ _ _ mb mc).mono ?_
      rintro e w' ⟨rfl, rfl⟩
      rw [X3.out]
      go_wp2_with fail
      refine (zzBranch_any _ _ _ _ _ ma mc).mono ?_
      rintro e w' ⟨rfl, rfl⟩
      rw [X4.out]
      cases yz <;> cases xz <;> first
        | (exfalso; have h := HT.out; simp at h; done)
        | (go_wp2_with fail; go_ret; exact ⟨rfl, rfl⟩)
    · exact absurd h3 (beq_no he)

theorem total_any (ra a rb b rc c : ByteArray) (w : World) (hra : ra.size ≤ maxLen) (ha : a.size ≤ maxLen) (hrb : rb.size ≤ maxLen) (hb : b.size ≤ maxLen) (hrc : rc.size ≤ maxLen) (hc : c.size ≤ maxLen) :
    Calls Trym.prog 4 #[.string ra, .string a, .string rb, .string b, .string rc, .string c] w fun e w' => e = .returned (.bool true) ∧ w' = w := by
  by_cases h : ra.size ≤ 131072 ∧ a.size ≤ 131072 ∧ rb.size ≤ 131072 ∧ b.size ≤ 131072 ∧ rc.size ≤ 131072 ∧ c.size ≤ 131072
  · obtain ⟨kra, ka, krb, kb, krc, kc⟩ := h
    exact total_main ra a rb b rc c w kra ka krb kb krc kc
  · exact total_off ra a rb b rc c w hra ha hrb hb hrc hc h
end Go.Proofs.Qxb6601213aMods.Brn
