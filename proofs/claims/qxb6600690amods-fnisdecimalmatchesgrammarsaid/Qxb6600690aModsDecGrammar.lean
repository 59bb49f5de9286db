/-
  The walk of 'decimalGrammar'.
-/
import Derived.Test.Qxb6600690aModsDecWalks
namespace Go.Proofs.Qxb6600690aMods.Dec
open Go.RowKit

theorem nodot_succ {t : ByteArray} {k : Nat} (h : k < t.size) (hn : ∀ c ∈ t.data.toList.take k, c.toNat ≠ 46) (hc : ¬ (t[k].toNat : Int) = 46) : ∀ c ∈ t.data.toList.take (k + 1), c.toNat ≠ 46 := by
  rw [List.take_succ_eq_append_getElem (by simpa using h)]
  intro c hm
  rw [List.mem_append, List.mem_singleton] at hm
  rcases hm with hm | rfl
  · exact hn c hm
  · intro e
    exact hc (by show ((t[k] : UInt8).toNat : Int) = 46; rw [show (t[k] : UInt8).toNat = 46 from e]; rfl)
theorem gram_none {t : ByteArray} {k : Nat} (h : ¬ k < t.size) (hn : ∀ c ∈ t.data.toList.take k, c.toNat ≠ 46) : gram t.data.toList = (decide (0 < t.size) && allD t.data.toList) := by
  rw [List.take_of_length_le (by rw [Array.length_toList]; show t.size ≤ k; omega)] at hn
  unfold gram
  rw [List.findIdx?_eq_none_iff.2 (fun c hc => by simpa using hn c hc)]
  simp
theorem data_take (t : ByteArray) (k : Nat) : (t.extract 0 k).data.toList = t.data.toList.take k := by
  rw [ByteArray.data_extract, Array.toList_extract, List.extract_eq_take_drop]; simp
theorem data_drop (t : ByteArray) (k : Nat) : (t.extract k t.size).data.toList = t.data.toList.drop k := by
  rw [ByteArray.data_extract, Array.toList_extract, List.extract_eq_take_drop]
  rw [List.take_of_length_le]; simp
theorem ext_form (t : ByteArray) (k : Nat) : allD (List.take (t.size - k) (List.drop k t.data.toList)) = allD (t.extract k t.size).data.toList := by
  rw [data_drop, List.take_of_length_le]; simp
theorem gram_some {t : ByteArray} {k : Nat} (h : k < t.size) (hn : ∀ c ∈ t.data.toList.take k, c.toNat ≠ 46) (hc : (t[k].toNat : Int) = 46) :
    gram t.data.toList = (decide (0 < k) && decide (0 < t.size - (k + 1)) && allD (t.extract 0 k).data.toList && allD (t.extract (k + 1) t.size).data.toList) := by
  have hl : k < t.data.toList.length := by simpa using h
  have e : t.data.toList.findIdx? (fun c => c.toNat == 46) = some k := by
    rw [List.findIdx?_eq_some_iff_getElem]
    refine ⟨hl, ?_, fun j hj => ?_⟩
    · have : (t[k] : UInt8).toNat = 46 := by omega
      show ((t[k] : UInt8).toNat == 46) = true
      rw [this]; rfl
    · have := hn t.data.toList[j] (List.mem_take_iff_getElem.2 ⟨j, by omega, rfl⟩)
      simpa using this
  unfold gram
  rw [e, data_take, data_drop]
  simp

set_option maxHeartbeats 1000000 in
theorem grammar_any (s : ByteArray) (w : World) (hs : s.size ≤ maxLen) :
    Calls Trym.prog 11 #[.string s] w fun e w' => e = .returned (.bool (gram (body s.data.toList))) ∧ w' = w := by
  unfold maxLen at hs
  obtain ⟨R, hR⟩ : ∃ R, R = gram (body s.data.toList) := ⟨_, rfl⟩
  rw [← hR]
  have HR : Hid (R = gram (body s.data.toList)) := hR
  clear hR
  by_cases h0 : 0 < s.size
  · by_cases h1 : (s[0].toNat : Int) = 43
    · go_enter Trym.func11, Trym.ntmps11
      go_wp2
      have HT : Hid (R = gram (s.extract 1 s.size).data.toList) := by rw [HR.out, body_sign h0 (.inr h1)]; rfl
      have hts := size_ext s
      clear HR h1
      generalize s.extract 1 s.size = t at HT hts ⊢
      go_loop [4, 5] (fun dv i => ∃ k : Nat, k ≤ t.size ∧ i = .int .i64 k ∧ dv = .int .i64 (-1) ∧ ∀ c ∈ t.data.toList.take k, c.toNat ≠ 46) (fun _ i => t.size - (intOf i).toNat)
      case atStart => exact ⟨0, Nat.zero_le _, rfl, rfl, fun c hc => by simp at hc⟩
      case round =>
        obtain ⟨k, hk, rfl, rfl, hr⟩ := hrel
        have HQ : Hid (∀ c ∈ t.data.toList.take k, c.toNat ≠ 46) := hr
        clear hr
        by_cases hlt : k < t.size
        · by_cases h1 : (t[k].toNat : Int) = 46
          · have HG : Hid (R = _) := HT.out.trans (gram_some hlt HQ.out h1)
            clear HT HQ
            have hx1 : (t.extract 0 k).size ≤ maxLen := by rw [ByteArray.size_extract]; unfold maxLen; omega
            have hx2 : (t.extract (k + 1) t.size).size ≤ maxLen := by rw [ByteArray.size_extract]; unfold maxLen; omega
            by_cases h2 : 0 < k
            · by_cases h3 : 0 < t.size - (k + 1)
              · cases h4 : allD (t.extract 0 k).data.toList with
                | true =>
                  go_wp2_with fail
                  refine (allDigits_any _ _ hx1).mono ?_
                  rintro e w' ⟨rfl, rfl⟩
                  rw [h4]
                  go_wp2_with fail
                  refine (allDigits_any _ _ hx2).mono ?_
                  rintro e w' ⟨rfl, rfl⟩
                  go_wp2_with fail
                  go_ret
                  exact ⟨ret_bool (by rw [HG.out, h4, decide_eq_true h2, decide_eq_true h3, ext_form]; rfl), rfl⟩
                | false =>
                  go_wp2_with fail
                  refine (allDigits_any _ _ hx1).mono ?_
                  rintro e w' ⟨rfl, rfl⟩
                  rw [h4]
                  go_wp2_with fail
                  go_ret
                  exact ⟨ret_bool (by rw [HG.out, h4, decide_eq_true h2, decide_eq_true h3]; rfl), rfl⟩
              · go_wp2
                go_ret
                exact ⟨ret_bool (by rw [HG.out, decide_eq_true h2, decide_eq_false (p := 0 < t.size - (k + 1)) (by omega)]; rfl), rfl⟩
            · go_wp2
              go_ret
              exact ⟨ret_bool (by rw [HG.out, decide_eq_false (p := 0 < k) (by omega)]; rfl), rfl⟩
          · go_wp2
            go_round
            case rel => exact ⟨k + 1, by omega, by go_num, rfl, nodot_succ hlt HQ.out (by omega)⟩
            case measure => simp [intOf]; omega
        · have HG : Hid (R = _) := HT.out.trans (gram_none hlt HQ.out)
          clear HT HQ
          have hx1 : t.size ≤ maxLen := by unfold maxLen; omega
          by_cases h2 : 0 < t.size
          · go_wp2_with (go_at_call 24; refine (allDigits_any _ _ hx1).mono ?_; rintro e w' ⟨rfl, rfl⟩)
            go_ret
            exact ⟨ret_bool (by rw [HG.out, decide_eq_true h2]; rfl), rfl⟩
          · first
              | (exfalso; omega)
              | (go_wp2
                 go_ret
                 exact ⟨ret_bool (by rw [HG.out, decide_eq_false (p := 0 < t.size) (by omega)]; rfl), rfl⟩)
    · by_cases h2 : (s[0].toNat : Int) = 45
      · have hb1 : ((s[0].toNat : Int) == 43) = false := by simpa using h1
        go_enter Trym.func11, Trym.ntmps11
        go_wp2
        have HT : Hid (R = gram (s.extract 1 s.size).data.toList) := by rw [HR.out, body_sign h0 (.inl h2)]; rfl
        have hts := size_ext s
        clear HR h1 h2 hb1
        generalize s.extract 1 s.size = t at HT hts ⊢
        go_loop [4, 5] (fun dv i => ∃ k : Nat, k ≤ t.size ∧ i = .int .i64 k ∧ dv = .int .i64 (-1) ∧ ∀ c ∈ t.data.toList.take k, c.toNat ≠ 46) (fun _ i => t.size - (intOf i).toNat)
        case atStart => exact ⟨0, Nat.zero_le _, rfl, rfl, fun c hc => by simp at hc⟩
        case round =>
          obtain ⟨k, hk, rfl, rfl, hr⟩ := hrel
          have HQ : Hid (∀ c ∈ t.data.toList.take k, c.toNat ≠ 46) := hr
          clear hr
          by_cases hlt : k < t.size
          · by_cases h1 : (t[k].toNat : Int) = 46
            · have HG : Hid (R = _) := HT.out.trans (gram_some hlt HQ.out h1)
              clear HT HQ
              have hx1 : (t.extract 0 k).size ≤ maxLen := by rw [ByteArray.size_extract]; unfold maxLen; omega
              have hx2 : (t.extract (k + 1) t.size).size ≤ maxLen := by rw [ByteArray.size_extract]; unfold maxLen; omega
              by_cases h2 : 0 < k
              · by_cases h3 : 0 < t.size - (k + 1)
                · cases h4 : allD (t.extract 0 k).data.toList with
                  | true =>
                    go_wp2_with fail
                    refine (allDigits_any _ _ hx1).mono ?_
                    rintro e w' ⟨rfl, rfl⟩
                    rw [h4]
                    go_wp2_with fail
                    refine (allDigits_any _ _ hx2).mono ?_
                    rintro e w' ⟨rfl, rfl⟩
                    go_wp2_with fail
                    go_ret
                    exact ⟨ret_bool (by rw [HG.out, h4, decide_eq_true h2, decide_eq_true h3, ext_form]; rfl), rfl⟩
                  | false =>
                    go_wp2_with fail
                    refine (allDigits_any _ _ hx1).mono ?_
                    rintro e w' ⟨rfl, rfl⟩
                    rw [h4]
                    go_wp2_with fail
                    go_ret
                    exact ⟨ret_bool (by rw [HG.out, h4, decide_eq_true h2, decide_eq_true h3]; rfl), rfl⟩
                · go_wp2
                  go_ret
                  exact ⟨ret_bool (by rw [HG.out, decide_eq_true h2, decide_eq_false (p := 0 < t.size - (k + 1)) (by omega)]; rfl), rfl⟩
              · go_wp2
                go_ret
                exact ⟨ret_bool (by rw [HG.out, decide_eq_false (p := 0 < k) (by omega)]; rfl), rfl⟩
            · go_wp2
              go_round
              case rel => exact ⟨k + 1, by omega, by go_num, rfl, nodot_succ hlt HQ.out (by omega)⟩
              case measure => simp [intOf]; omega
          · have HG : Hid (R = _) := HT.out.trans (gram_none hlt HQ.out)
            clear HT HQ
            have hx1 : t.size ≤ maxLen := by unfold maxLen; omega
            by_cases h2 : 0 < t.size
            · go_wp2_with (go_at_call 24; refine (allDigits_any _ _ hx1).mono ?_; rintro e w' ⟨rfl, rfl⟩)
              go_ret
              exact ⟨ret_bool (by rw [HG.out, decide_eq_true h2]; rfl), rfl⟩
            · first
                | (exfalso; omega)
                | (go_wp2
                   go_ret
                   exact ⟨ret_bool (by rw [HG.out, decide_eq_false (p := 0 < t.size) (by omega)]; rfl), rfl⟩)
      · have hb1 : ((s[0].toNat : Int) == 43) = false := by simpa using h1
        have hb2 : ((s[0].toNat : Int) == 45) = false := by simpa using h2
        go_enter Trym.func11, Trym.ntmps11
        go_wp2
        have HT : Hid (R = gram s.data.toList) := by rw [HR.out, body_plain h0 h2 h1]; rfl
        clear HR h1 h2 hb1 hb2
        go_loop [4, 5] (fun dv i => ∃ k : Nat, k ≤ s.size ∧ i = .int .i64 k ∧ dv = .int .i64 (-1) ∧ ∀ c ∈ s.data.toList.take k, c.toNat ≠ 46) (fun _ i => s.size - (intOf i).toNat)
        case atStart => exact ⟨0, Nat.zero_le _, rfl, rfl, fun c hc => by simp at hc⟩
        case round =>
          obtain ⟨k, hk, rfl, rfl, hr⟩ := hrel
          have HQ : Hid (∀ c ∈ s.data.toList.take k, c.toNat ≠ 46) := hr
          clear hr
          by_cases hlt : k < s.size
          · by_cases h1 : (s[k].toNat : Int) = 46
            · have HG : Hid (R = _) := HT.out.trans (gram_some hlt HQ.out h1)
              clear HT HQ
              have hx1 : (s.extract 0 k).size ≤ maxLen := by rw [ByteArray.size_extract]; unfold maxLen; omega
              have hx2 : (s.extract (k + 1) s.size).size ≤ maxLen := by rw [ByteArray.size_extract]; unfold maxLen; omega
              by_cases h2 : 0 < k
              · by_cases h3 : 0 < s.size - (k + 1)
                · cases h4 : allD (s.extract 0 k).data.toList with
                  | true =>
                    go_wp2_with fail
                    refine (allDigits_any _ _ hx1).mono ?_
                    rintro e w' ⟨rfl, rfl⟩
                    rw [h4]
                    go_wp2_with fail
                    refine (allDigits_any _ _ hx2).mono ?_
                    rintro e w' ⟨rfl, rfl⟩
                    go_wp2_with fail
                    go_ret
                    exact ⟨ret_bool (by rw [HG.out, h4, decide_eq_true h2, decide_eq_true h3, ext_form]; rfl), rfl⟩
                  | false =>
                    go_wp2_with fail
                    refine (allDigits_any _ _ hx1).mono ?_
                    rintro e w' ⟨rfl, rfl⟩
                    rw [h4]
                    go_wp2_with fail
                    go_ret
                    exact ⟨ret_bool (by rw [HG.out, h4, decide_eq_true h2, decide_eq_true h3]; rfl), rfl⟩
                · go_wp2
                  go_ret
                  exact ⟨ret_bool (by rw [HG.out, decide_eq_true h2, decide_eq_false (p := 0 < s.size - (k + 1)) (by omega)]; rfl), rfl⟩
              · go_wp2
                go_ret
                exact ⟨ret_bool (by rw [HG.out, decide_eq_false (p := 0 < k) (by omega)]; rfl), rfl⟩
            · go_wp2
              go_round
              case rel => exact ⟨k + 1, by omega, by go_num, rfl, nodot_succ hlt HQ.out (by omega)⟩
              case measure => simp [intOf]; omega
          · have HG : Hid (R = _) := HT.out.trans (gram_none hlt HQ.out)
            clear HT HQ
            have hx1 : s.size ≤ maxLen := by unfold maxLen; omega
            by_cases h2 : 0 < s.size
            · go_wp2_with (go_at_call 24; refine (allDigits_any _ _ hx1).mono ?_; rintro e w' ⟨rfl, rfl⟩)
              go_ret
              exact ⟨ret_bool (by rw [HG.out, decide_eq_true h2]; rfl), rfl⟩
            · first
                | (exfalso; omega)
                | (go_wp2
                   go_ret
                   exact ⟨ret_bool (by rw [HG.out, decide_eq_false (p := 0 < s.size) (by omega)]; rfl), rfl⟩)
  · go_enter Trym.func11, Trym.ntmps11
    go_wp2
    have HT : Hid (R = gram s.data.toList) := by rw [HR.out, body_empty h0]; rfl
    clear HR
    go_loop [4, 5] (fun dv i => i = .int .i64 0 ∧ dv = .int .i64 (-1)) (fun _ _ => 0)
    case atStart => exact ⟨rfl, rfl⟩
    case round =>
      obtain ⟨rfl, rfl⟩ := hrel
      have hz : ¬ (0 : Int) < (s.size : Int) := by omega
      have HG : Hid (R = _) := HT.out.trans (gram_none (k := 0) h0 (fun c hc => by simp at hc))
      go_wp2
      go_ret
      exact ⟨ret_bool (by rw [HG.out, decide_eq_false (p := 0 < s.size) (by omega)]; rfl), rfl⟩
end Go.Proofs.Qxb6600690aMods.Dec
