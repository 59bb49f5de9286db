/-
  The walks behind 'FnIsDecimalMatchesGrammar': what each Go function on the road computes.
-/
import Derived.Test.Qxb6600690aModsRows
import Derived.Test.Qxb6600690aModsDecPlain
import Derived.WalkKit
import Derived.WalkSpells
import Derived.WalkLawsBesides
namespace Go.Proofs.Qxb6600690aMods.Dec
open Go.RowKit

theorem drop_cons (s : ByteArray) (k : Nat) (h : k < s.size) : s.data.toList.drop k = s[k] :: s.data.toList.drop (k + 1) := by
  rw [List.drop_eq_getElem_cons (by simpa using h)]; rfl
theorem digB_yes {c : UInt8} (h1 : 48 ≤ (c.toNat : Int)) (h2 : (c.toNat : Int) ≤ 57) : digB c = true := by
  unfold digB; apply decide_eq_true; omega
theorem digB_no {c : UInt8} (h : (c.toNat : Int) < 48 ∨ 57 < (c.toNat : Int)) : digB c = false := by
  unfold digB; apply decide_eq_false; omega
theorem allD_yes {s : ByteArray} {k : Nat} (h : k < s.size) (hd : digB s[k] = true) : allD (s.data.toList.drop k) = allD (s.data.toList.drop (k + 1)) := by
  rw [drop_cons s k h]; simp [allD, hd]
theorem allD_no {s : ByteArray} {k : Nat} (h : k < s.size) (hd : digB s[k] = false) : allD (s.data.toList.drop k) = false := by
  rw [drop_cons s k h]; simp [allD, hd]
theorem drop_end (s : ByteArray) (k : Nat) (h : ¬ k < s.size) : s.data.toList.drop k = [] := by
  rw [List.drop_eq_nil_of_le]; simp; omega
theorem ret_bool {a b : Bool} (h : a = b) : Ending.returned (.bool a) = .returned (.bool b) := by rw [h]

set_option maxHeartbeats 400000 in
theorem allDigits_any (s : ByteArray) (w : World) (hs : s.size ≤ maxLen) :
    Calls Trym.prog 24 #[.string s] w fun e w' => e = .returned (.bool (allD s.data.toList)) ∧ w' = w := by
  unfold maxLen at hs
  go_enter Trym.func24, Trym.ntmps24
  go_wp2
  go_loop [3] (fun i => ∃ k : Nat, k ≤ s.size ∧ i = .int .i64 k ∧ allD s.data.toList = allD (s.data.toList.drop k)) (fun i => s.size - (intOf i).toNat)
  case atStart => exact ⟨0, Nat.zero_le _, rfl, rfl⟩
  case round =>
    obtain ⟨k, hk, rfl, hr⟩ := hrel
    have HR : Hid (allD s.data.toList = allD (s.data.toList.drop k)) := hr
    clear hr
    by_cases hlt : k < s.size
    · by_cases h1 : (s[k].toNat : Int) < 48
      · go_wp2
        go_ret
        exact ⟨ret_bool (by rw [HR.out, allD_no hlt (digB_no (.inl h1))]), rfl⟩
      · by_cases h2 : 57 < (s[k].toNat : Int)
        · go_wp2
          go_ret
          exact ⟨ret_bool (by rw [HR.out, allD_no hlt (digB_no (.inr h2))]), rfl⟩
        · go_wp2
          go_round
          case rel => exact ⟨k + 1, by omega, by go_num, by rw [HR.out, allD_yes hlt (digB_yes (by omega) (by omega))]⟩
          case measure => simp [intOf]; omega
    · go_wp2
      go_ret
      exact ⟨ret_bool (by rw [HR.out, drop_end s k hlt]; rfl), rfl⟩

theorem decLoop_dig {s : ByteArray} {k d : Nat} {p : Bool} (h : k < s.size) (hd : digB s[k] = true) : decLoop (s.data.toList.drop k) d p = decLoop (s.data.toList.drop (k + 1)) (d + 1) p := by
  rw [drop_cons s k h, decLoop, if_pos hd]
theorem decLoop_pt {s : ByteArray} {k d : Nat} {p : Bool} (h : k < s.size) (hd : (s[k].toNat : Int) = 46) (hp : p = false) (h0 : 0 < d) : decLoop (s.data.toList.drop k) d p = decLoop (s.data.toList.drop (k + 1)) 0 true := by
  have e : s[k].toNat = 46 := by omega
  rw [drop_cons s k h, decLoop, if_neg (by rw [digB_not_dot e]; simp), if_pos ⟨e, hp, h0⟩]
theorem decLoop_off {s : ByteArray} {k d : Nat} {p : Bool} (h : k < s.size) (hd : digB s[k] = false) (hn : ¬ ((s[k].toNat : Int) = 46 ∧ p = false ∧ 0 < d)) : decLoop (s.data.toList.drop k) d p = false := by
  have e : ¬ (s[k].toNat = 46 ∧ p = false ∧ 0 < d) := fun ⟨a, b, c⟩ => hn ⟨by omega, b, c⟩
  rw [drop_cons s k h, decLoop, if_neg (by rw [hd]; simp), if_neg e]

theorem body_sign {s : ByteArray} (h : 0 < s.size) (h1 : (s[0].toNat : Int) = 45 ∨ (s[0].toNat : Int) = 43) : body s.data.toList = (s.extract 1 s.size).data.toList := by
  have e := drop_cons s 0 h
  rw [List.drop_zero] at e
  have ex : (s.extract 1 s.size).data.toList = s.data.toList.drop 1 := by
    rw [ByteArray.data_extract, Array.toList_extract, List.extract_eq_take_drop]
    rw [List.take_of_length_le]; simp
  rw [ex, e]
  simp only [body, Nat.zero_add, List.drop_succ_cons, List.drop_zero]
  exact if_pos (by omega)
theorem body_plain {s : ByteArray} (h : 0 < s.size) (h1 : ¬ (s[0].toNat : Int) = 45) (h2 : ¬ (s[0].toNat : Int) = 43) : body s.data.toList = s.data.toList := by
  have e := drop_cons s 0 h
  rw [List.drop_zero] at e
  rw [e]
  simp only [body]
  exact if_neg (by omega)
theorem body_empty {s : ByteArray} (h : ¬ 0 < s.size) : body s.data.toList = s.data.toList := by
  have : s.data.toList = [] := List.eq_nil_of_length_eq_zero (by rw [Array.length_toList]; show s.size = 0; omega)
  rw [this]; rfl
theorem size_ext (s : ByteArray) : (s.extract 1 s.size).size ≤ s.size := by
  rw [ByteArray.size_extract]; omega

set_option maxHeartbeats 1000000 in
theorem isDecimal_any (s : ByteArray) (w : World) (hs : s.size ≤ maxLen) :
    Calls Trym.prog 23 #[.string s] w fun e w' => e = .returned (.bool (decLoop (body s.data.toList) 0 false)) ∧ w' = w := by
  unfold maxLen at hs
  obtain ⟨R, hR⟩ : ∃ R, R = decLoop (body s.data.toList) 0 false := ⟨_, rfl⟩
  rw [← hR]
  have HR : Hid (R = decLoop (body s.data.toList) 0 false) := hR
  clear hR
  by_cases h0 : 0 < s.size
  · by_cases h1 : (s[0].toNat : Int) = 45
    · go_enter Trym.func23, Trym.ntmps23
      go_wp2
      have HT : Hid (R = decLoop (s.extract 1 s.size).data.toList 0 false) := by rw [HR.out, body_sign h0 (.inl h1)]; rfl
      have hts := size_ext s
      clear HR h1
      generalize s.extract 1 s.size = t at HT hts ⊢
      go_loop [3, 4, 5] (fun dv pv i => ∃ k d : Nat, ∃ p : Bool, k ≤ t.size ∧ d ≤ k ∧ i = .int .i64 k ∧ dv = .int .i64 d ∧ pv = .bool p ∧ R = decLoop (t.data.toList.drop k) d p) (fun _ _ i => t.size - (intOf i).toNat)
      case atStart => exact ⟨0, 0, false, Nat.zero_le _, Nat.le_refl _, rfl, rfl, rfl, by rw [HT.out]; rfl⟩
      case round =>
        obtain ⟨k, d, p, hk, hdk, rfl, rfl, rfl, hr⟩ := hrel
        have HQ : Hid (R = decLoop (t.data.toList.drop k) d p) := hr
        clear hr
        by_cases hlt : k < t.size
        · by_cases h1 : (48 : Int) ≤ (t[k].toNat : Int)
          · by_cases h2 : (t[k].toNat : Int) ≤ 57
            · go_wp2
              go_round
              case rel => exact ⟨k + 1, d + 1, p, by omega, by omega, by go_num, by go_num, rfl, by rw [HQ.out, decLoop_dig hlt (digB_yes h1 h2)]⟩
              case measure => simp [intOf]; omega
            · have h3 : ¬ (t[k].toNat : Int) = 46 := by omega
              go_wp2
              go_ret
              exact ⟨ret_bool (by rw [HQ.out, decLoop_off hlt (digB_no (.inr (by omega))) (fun h => h3 h.1)]), rfl⟩
          · by_cases h3 : (t[k].toNat : Int) = 46
            · cases p with
              | true =>
                go_wp2
                go_ret
                exact ⟨ret_bool (by rw [HQ.out, decLoop_off hlt (digB_no (.inl (by omega))) (fun h => by cases h.2.1)]), rfl⟩
              | false =>
                by_cases h4 : (0 : Int) < (d : Int)
                · go_wp2
                  go_round
                  case rel => exact ⟨k + 1, 0, true, by omega, by omega, by go_num, rfl, rfl, by rw [HQ.out, decLoop_pt hlt h3 rfl (by omega)]⟩
                  case measure => simp [intOf]; omega
                · go_wp2
                  go_ret
                  exact ⟨ret_bool (by rw [HQ.out, decLoop_off hlt (digB_no (.inl (by omega))) (fun h => by have := h.2.2; omega)]), rfl⟩
            · go_wp2
              go_ret
              exact ⟨ret_bool (by rw [HQ.out, decLoop_off hlt (digB_no (.inl (by omega))) (fun h => h3 h.1)]), rfl⟩
        · go_wp2
          go_ret
          exact ⟨ret_bool (by rw [HQ.out, drop_end t k hlt, decLoop]), rfl⟩
    · by_cases h2 : (s[0].toNat : Int) = 43
      · go_enter Trym.func23, Trym.ntmps23
        go_wp2
        have HT : Hid (R = decLoop (s.extract 1 s.size).data.toList 0 false) := by rw [HR.out, body_sign h0 (.inr h2)]; rfl
        have hts := size_ext s
        clear HR h1 h2
        generalize s.extract 1 s.size = t at HT hts ⊢
        go_loop [3, 4, 5] (fun dv pv i => ∃ k d : Nat, ∃ p : Bool, k ≤ t.size ∧ d ≤ k ∧ i = .int .i64 k ∧ dv = .int .i64 d ∧ pv = .bool p ∧ R = decLoop (t.data.toList.drop k) d p) (fun _ _ i => t.size - (intOf i).toNat)
        case atStart => exact ⟨0, 0, false, Nat.zero_le _, Nat.le_refl _, rfl, rfl, rfl, by rw [HT.out]; rfl⟩
        case round =>
          obtain ⟨k, d, p, hk, hdk, rfl, rfl, rfl, hr⟩ := hrel
          have HQ : Hid (R = decLoop (t.data.toList.drop k) d p) := hr
          clear hr
          by_cases hlt : k < t.size
          · by_cases h1 : (48 : Int) ≤ (t[k].toNat : Int)
            · by_cases h2 : (t[k].toNat : Int) ≤ 57
              · go_wp2
                go_round
                case rel => exact ⟨k + 1, d + 1, p, by omega, by omega, by go_num, by go_num, rfl, by rw [HQ.out, decLoop_dig hlt (digB_yes h1 h2)]⟩
                case measure => simp [intOf]; omega
              · have h3 : ¬ (t[k].toNat : Int) = 46 := by omega
                go_wp2
                go_ret
                exact ⟨ret_bool (by rw [HQ.out, decLoop_off hlt (digB_no (.inr (by omega))) (fun h => h3 h.1)]), rfl⟩
            · by_cases h3 : (t[k].toNat : Int) = 46
              · cases p with
                | true =>
                  go_wp2
                  go_ret
                  exact ⟨ret_bool (by rw [HQ.out, decLoop_off hlt (digB_no (.inl (by omega))) (fun h => by cases h.2.1)]), rfl⟩
                | false =>
                  by_cases h4 : (0 : Int) < (d : Int)
                  · go_wp2
                    go_round
                    case rel => exact ⟨k + 1, 0, true, by omega, by omega, by go_num, rfl, rfl, by rw [HQ.out, decLoop_pt hlt h3 rfl (by omega)]⟩
                    case measure => simp [intOf]; omega
                  · go_wp2
                    go_ret
                    exact ⟨ret_bool (by rw [HQ.out, decLoop_off hlt (digB_no (.inl (by omega))) (fun h => by have := h.2.2; omega)]), rfl⟩
              · go_wp2
                go_ret
                exact ⟨ret_bool (by rw [HQ.out, decLoop_off hlt (digB_no (.inl (by omega))) (fun h => h3 h.1)]), rfl⟩
          · go_wp2
            go_ret
            exact ⟨ret_bool (by rw [HQ.out, drop_end t k hlt, decLoop]), rfl⟩
      · have hb1 : ((s[0].toNat : Int) == 45) = false := by simpa using h1
        have hb2 : ((s[0].toNat : Int) == 43) = false := by simpa using h2
        go_enter Trym.func23, Trym.ntmps23
        go_wp2
        have HT : Hid (R = decLoop s.data.toList 0 false) := by rw [HR.out, body_plain h0 h1 h2]; rfl
        clear HR h1 h2 hb1 hb2
        go_loop [3, 4, 5] (fun dv pv i => ∃ k d : Nat, ∃ p : Bool, k ≤ s.size ∧ d ≤ k ∧ i = .int .i64 k ∧ dv = .int .i64 d ∧ pv = .bool p ∧ R = decLoop (s.data.toList.drop k) d p) (fun _ _ i => s.size - (intOf i).toNat)
        case atStart => exact ⟨0, 0, false, Nat.zero_le _, Nat.le_refl _, rfl, rfl, rfl, by rw [HT.out]; rfl⟩
        case round =>
          obtain ⟨k, d, p, hk, hdk, rfl, rfl, rfl, hr⟩ := hrel
          have HQ : Hid (R = decLoop (s.data.toList.drop k) d p) := hr
          clear hr
          by_cases hlt : k < s.size
          · by_cases h1 : (48 : Int) ≤ (s[k].toNat : Int)
            · by_cases h2 : (s[k].toNat : Int) ≤ 57
              · go_wp2
                go_round
                case rel => exact ⟨k + 1, d + 1, p, by omega, by omega, by go_num, by go_num, rfl, by rw [HQ.out, decLoop_dig hlt (digB_yes h1 h2)]⟩
                case measure => simp [intOf]; omega
              · have h3 : ¬ (s[k].toNat : Int) = 46 := by omega
                go_wp2
                go_ret
                exact ⟨ret_bool (by rw [HQ.out, decLoop_off hlt (digB_no (.inr (by omega))) (fun h => h3 h.1)]), rfl⟩
            · by_cases h3 : (s[k].toNat : Int) = 46
              · cases p with
                | true =>
                  go_wp2
                  go_ret
                  exact ⟨ret_bool (by rw [HQ.out, decLoop_off hlt (digB_no (.inl (by omega))) (fun h => by cases h.2.1)]), rfl⟩
                | false =>
                  by_cases h4 : (0 : Int) < (d : Int)
                  · go_wp2
                    go_round
                    case rel => exact ⟨k + 1, 0, true, by omega, by omega, by go_num, rfl, rfl, by rw [HQ.out, decLoop_pt hlt h3 rfl (by omega)]⟩
                    case measure => simp [intOf]; omega
                  · go_wp2
                    go_ret
                    exact ⟨ret_bool (by rw [HQ.out, decLoop_off hlt (digB_no (.inl (by omega))) (fun h => by have := h.2.2; omega)]), rfl⟩
              · go_wp2
                go_ret
                exact ⟨ret_bool (by rw [HQ.out, decLoop_off hlt (digB_no (.inl (by omega))) (fun h => h3 h.1)]), rfl⟩
          · go_wp2
            go_ret
            exact ⟨ret_bool (by rw [HQ.out, drop_end s k hlt, decLoop]), rfl⟩
  · go_enter Trym.func23, Trym.ntmps23
    go_wp2
    have HT : Hid (R = decLoop s.data.toList 0 false) := by rw [HR.out, body_empty h0]; rfl
    clear HR
    go_loop [3, 4, 5] (fun dv pv i => dv = .int .i64 0 ∧ pv = .bool false ∧ i = .int .i64 0) (fun _ _ _ => 0)
    case atStart => exact ⟨rfl, rfl, rfl⟩
    case round =>
      obtain ⟨rfl, rfl, rfl⟩ := hrel
      have hz : ¬ (0 : Int) < (s.size : Int) := by omega
      go_wp2
      go_ret
      exact ⟨ret_bool (by rw [HT.out, ← List.drop_zero (l := s.data.toList), drop_end s 0 h0]; rfl), rfl⟩
end Go.Proofs.Qxb6600690aMods.Dec
