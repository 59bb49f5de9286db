/-
  The walks behind 'FnPlacesMatchesModel', third part: '(Layout).places', its plain meaning.
-/
import Derived.Test.Qxb6600690aModsPlcClone
namespace Go.Proofs.Qxb6600690aMods.Plc
open Go.RowKit
set_option linter.unusedVariables false

theorem equal_yes (a b : Option Addr) (n c d : Nat) (f g : Nat → ByteArray) (w : World) (hn : n ≤ maxLen) (hf : RowF w a f n) (hg : RowF w b g n) (h : ∀ j, j < n → f j = g j) :
    Calls Trym.prog 27 #[.slice a n c, .slice b n d] w fun e w' => e = .returned (.bool true) ∧ ∃ q, w' = w.drewN q :=
  (equal_any a b n c d f g w hn hf hg).mono fun e w' ⟨⟨r, he, hr⟩, hq⟩ => ⟨by rw [he, hr.2 h], hq⟩
theorem equal_no (a b : Option Addr) (n c d : Nat) (f g : Nat → ByteArray) (w : World) (hn : n ≤ maxLen) (hf : RowF w a f n) (hg : RowF w b g n) (h : ¬ ∀ j, j < n → f j = g j) :
    Calls Trym.prog 27 #[.slice a n c, .slice b n d] w fun e w' => e = .returned (.bool false) ∧ ∃ q, w' = w.drewN q :=
  (equal_any a b n c d f g w hn hf hg).mono fun e w' ⟨⟨r, he, hr⟩, hq⟩ => ⟨by rw [he]; cases r with | true => exact absurd (hr.1 rfl) h | false => rfl, hq⟩

/-- Of the header's columns behind the required ones, the first m are optional columns, each named once. -/
def TailOK (f2 f3 : Nat → ByteArray) (n1 n2 m : Nat) : Prop := ∀ i, i < m → 0 ≤ fidx f2 n2 (f3 (n1 + i)) ∧ ∀ k, k < i → f3 (n1 + k) ≠ f3 (n1 + i)
/-- The header is one that the layout takes. -/
def Want (f1 f2 f3 : Nat → ByteArray) (n1 n2 n3 : Nat) : Prop := n1 ≤ n3 ∧ (∀ j, j < n1 → f3 j = f1 j) ∧ (n2 = 0 → n3 = n1) ∧ (n2 ≠ 0 → TailOK f2 f3 n1 n2 (n3 - n1))
/-- The place of the header's column i. -/
def place (f2 f3 : Nat → ByteArray) (n1 n2 : Nat) (i : Nat) : Int := if i < n1 then (i : Int) else n1 + fidx f2 n2 (f3 i)
/-- What 'places' leaves. -/
def Placed (f1 f2 f3 : Nat → ByteArray) (n1 n2 n3 : Nat) (w : World) (e : Ending) (w' : World) : Prop :=
  Below w.heap.size w w' ∧
  ((e = .returned (.tuple #[.slice none 0 0, .bool false]) ∧ ¬ Want f1 f2 f3 n1 n2 n3) ∨
   (e = .returned (.tuple #[.slice none 0 0, .bool true]) ∧ n2 = 0 ∧ Want f1 f2 f3 n1 n2 n3) ∨
   (∃ pb, e = .returned (.tuple #[.slice (some ⟨pb, 0, none⟩) n3 n3, .bool true]) ∧ n2 ≠ 0 ∧ Want f1 f2 f3 n1 n2 n3 ∧ RowI w' (some ⟨pb, 0, none⟩) (place f2 f3 n1 n2) n3))

theorem info3 : (Trym.prog.info? 3).map (fun i => (i.zero, i.size, i.bytes)) = some (some (.int .i64 0), 1, 8) := by kernel_rfl

theorem RowF.alloc {w : World} {a : Option Addr} {f : Nat → ByteArray} {n : Nat} (h : RowF w a f n) (o : Obj) : RowF (w.alloc o) a f n :=
  h.below ((Below.refl _ _).alloc (Nat.le_refl _) o)
theorem RowF.less {w : World} {a : Option Addr} {f : Nat → ByteArray} {n m : Nat} (h : RowF w a f n) (hm : m ≤ n) : RowF w a f m := fun j hj => h j (by omega)

/-- The call's own memory inside 'places': old memory as it was; the box of the receiver holds Optional; the new slice of ints holds xs. -/
def Inv (w : World) (a2 : Option Addr) (n2 c2 n3 : Nat) (wr : World) (xs : List Value) : Prop :=
  Below w.heap.size w wr ∧ wr.cell? ⟨w.heap.size, 1, none⟩ = some (.slice a2 n2 c2) ∧ wr.ownsRow (w.heap.size + 1) 3 1 (.slice (some ⟨w.heap.size + 1, 0, none⟩) n3 n3) n3 xs
theorem Inv.store {w : World} {a2 : Option Addr} {n2 c2 n3 : Nat} {wr : World} {xs : List Value} (h : Inv w a2 n2 c2 n3 wr xs) (j : Nat) (u : Value) :
    Inv w a2 n2 c2 n3 (wr.setCell ⟨w.heap.size + 1, j, none⟩ u) (xs.set j u) := by
  obtain ⟨h1, h2, h3⟩ := h
  refine ⟨h1.setCell (by simp) _, ?_, (h3.stored j u).1⟩
  rw [← h2]
  exact World.cell?_of_block (Below.heap_setCell _ _ _ _ (by simp))
theorem Inv.cell {w : World} {a2 : Option Addr} {n2 c2 n3 : Nat} {wr : World} {xs : List Value} (h : Inv w a2 n2 c2 n3 wr xs) (j : Nat) (hj : j < n3) : ∃ v, wr.cell? ⟨w.heap.size + 1, j, none⟩ = some v := by
  rw [h.2.2.cellAt j (by omega)]
  exact ⟨_, List.getElem?_eq_getElem (by rw [h.2.2.1]; omega)⟩
theorem Inv.length {w : World} {a2 : Option Addr} {n2 c2 n3 : Nat} {wr : World} {xs : List Value} (h : Inv w a2 n2 c2 n3 wr xs) : xs.length = n3 := by rw [h.2.2.1]; omega
theorem set_upto {xs : List Value} {k : Nat} {g : Nat → Int} (hk : k < xs.length) (hx : ∀ j, j < k → xs[j]? = some (.int .i64 (g j))) : ∀ j, j < k + 1 → (xs.set k (.int .i64 (g k)))[j]? = some (.int .i64 (g j)) := by
  intro j hj
  rw [List.getElem?_set]
  by_cases e : k = j
  · subst e; rw [if_pos rfl, if_pos hk]
  · rw [if_neg e]; exact hx j (by omega)

theorem place_tail (f2 f3 : Nat → ByteArray) (n1 n2 k : Nat) : place f2 f3 n1 n2 (n1 + k) = n1 + fidx f2 n2 (f3 (n1 + k)) := by
  unfold place; rw [if_neg (by omega)]
theorem fidx_inj {f : Nat → ByteArray} {n : Nat} {s t : ByteArray} {j : Nat} (h1 : fidx f n s = (j : Int)) (h2 : fidx f n t = (j : Int)) : s = t := by
  rcases fidx_cases f n s with ⟨e, _⟩ | ⟨k, e, _, e2, _⟩
  · omega
  rcases fidx_cases f n t with ⟨d, _⟩ | ⟨l, d, _, d2, _⟩
  · omega
  obtain rfl : k = l := by omega
  rw [← e2, ← d2]
theorem tail_bad1 {f2 f3 : Nat → ByteArray} {n1 n2 i m : Nat} (hi : i < m) (h : fidx f2 n2 (f3 (n1 + i)) = -1) : ¬ TailOK f2 f3 n1 n2 m := by
  intro ht
  have := (ht i hi).1
  omega
theorem tail_bad2 {f2 f3 : Nat → ByteArray} {n1 n2 i m j : Nat} (hi : i < m) (h : fidx f2 n2 (f3 (n1 + i)) = (j : Int)) (hc : ∃ k, k < i ∧ place f2 f3 n1 n2 (n1 + k) = (n1 : Int) + j) : ¬ TailOK f2 f3 n1 n2 m := by
  intro ht
  obtain ⟨k, hk, e⟩ := hc
  rw [place_tail] at e
  exact (ht i hi).2 k hk (fidx_inj (j := j) (by omega) h)
theorem tail_good {f2 f3 : Nat → ByteArray} {n1 n2 i j : Nat} (ht : TailOK f2 f3 n1 n2 i) (h : fidx f2 n2 (f3 (n1 + i)) = (j : Int)) (hc : ¬ ∃ k, k < i ∧ place f2 f3 n1 n2 (n1 + k) = (n1 : Int) + j) : TailOK f2 f3 n1 n2 (i + 1) := by
  intro l hl
  by_cases e : l = i
  · subst e
    refine ⟨by omega, fun k hk e => hc ⟨k, hk, ?_⟩⟩
    rw [place_tail, e, h]
  · exact ht l (by omega)
theorem RowF.tail {w : World} {b off : Nat} {f : Nat → ByteArray} {n m : Nat} (h : RowF w (some ⟨b, off, none⟩) f n) (i : Nat) (hi : m + i < n) : w.cell? ⟨b, off + m + i, none⟩ = some (.string (f (m + i))) := by
  obtain ⟨b', off', e, hc⟩ := h (m + i) hi
  simp only [Option.some.injEq, Addr.mk.injEq, and_true] at e
  obtain ⟨rfl, rfl⟩ := e
  rw [Nat.add_assoc]; exact hc
theorem Inv.rowI {w : World} {a2 : Option Addr} {n2 c2 n3 : Nat} {wr : World} {xs : List Value} {g : Nat → Int} {n1 i : Nat} (h : Inv w a2 n2 c2 n3 wr xs) (hi : n1 + i ≤ n3) (hx : ∀ j, j < n1 + i → xs[j]? = some (.int .i64 (g j))) :
    RowI wr (some ⟨w.heap.size + 1, n1, none⟩) (fun k => g (n1 + k)) i := by
  intro k hk
  refine ⟨_, _, rfl, ?_⟩
  rw [h.2.2.cellAt (n1 + k) (by omega)]
  exact hx _ (by omega)

set_option maxHeartbeats 1000000 in
theorem places_C1 (a1 a2 a3 : Option Addr) (n1 n2 n3 c1 c2 c3 : Nat) (f1 f2 f3 : Nat → ByteArray) (w : World) (hn1 : n1 ≤ 4096) (hn2 : n2 ≤ 4096) (hn3 : n3 ≤ 4096) (hc3 : n3 ≤ c3) (hm3 : c3 ≤ maxLen)
    (hr1 : RowF w a1 f1 n1) (hr2 : RowF w a2 f2 n2) (hr3 : RowF w a3 f3 n3) (h : n3 < n1) :
    Calls Trym.prog 26 #[.agg #[.slice a1 n1 c1, .slice a2 n2 c2, .bool false, .slice none 0 0, .string ⟨#[]⟩, .bool false], .slice a3 n3 c3] w fun e w' => Placed f1 f2 f3 n1 n2 n3 w e w' := by
  clear hr1 hr2 hr3
  have hd : decide ((n3 : Int) < (n1 : Int)) = true := decide_eq_true (by omega)
  go_enter Trym.func26, Trym.ntmps26
  go_wp2
  go_quiet (fail)
  go_wp2
  go_ret2
  exact ⟨below_drewN ((Below.refl _ _).alloc (Nat.le_refl _) _) _, .inl ⟨rfl, fun hw => by have := hw.1; omega⟩⟩

set_option maxHeartbeats 1000000 in
theorem places_C2 (a1 a2 a3 : Option Addr) (n1 n2 n3 c1 c2 c3 : Nat) (f1 f2 f3 : Nat → ByteArray) (w : World) (hn1 : n1 ≤ 4096) (hn2 : n2 ≤ 4096) (hn3 : n3 ≤ 4096) (hc3 : n3 ≤ c3) (hm3 : c3 ≤ maxLen)
    (hr1 : RowF w a1 f1 n1) (hr2 : RowF w a2 f2 n2) (hr3 : RowF w a3 f3 n3) (h : n1 ≤ n3) (hne : ¬ ∀ j, j < n1 → f3 j = f1 j) :
    Calls Trym.prog 26 #[.agg #[.slice a1 n1 c1, .slice a2 n2 c2, .bool false, .slice none 0 0, .string ⟨#[]⟩, .bool false], .slice a3 n3 c3] w fun e w' => Placed f1 f2 f3 n1 n2 n3 w e w' := by
  have H1 : Hid (RowF w a1 f1 n1) := hr1
  have H3 : Hid (RowF w a3 f3 n1) := hr3.less h
  have HE : Hid (¬ ∀ j, j < n1 → f3 j = f1 j) := hne
  clear hr1 hr2 hr3 hne
  have hx : n1 ≤ maxLen := by unfold maxLen; omega
  unfold maxLen at hm3
  have hd : decide ((n3 : Int) < (n1 : Int)) = false := decide_eq_false (by omega)
  have hb1 : (n1 : Int) ≤ (c3 : Int) := by omega
  go_enter Trym.func26, Trym.ntmps26
  go_wp2
  go_quiet ((go_at_call 27; refine Calls.quiet_of (equal_no _ _ _ _ _ f3 f1 _ hx ?_ ?_ HE.out); exact (H3.out.alloc _).drewN _; exact (H1.out.alloc _).drewN _))
  go_wp2
  go_ret2
  exact ⟨below_drewN ((Below.refl _ _).alloc (Nat.le_refl _) _) _, .inl ⟨rfl, fun hw => HE.out hw.2.1⟩⟩

set_option maxHeartbeats 1000000 in
theorem places_C3 (a1 a2 a3 : Option Addr) (n1 n2 n3 c1 c2 c3 : Nat) (f1 f2 f3 : Nat → ByteArray) (w : World) (hn1 : n1 ≤ 4096) (hn2 : n2 ≤ 4096) (hn3 : n3 ≤ 4096) (hc3 : n3 ≤ c3) (hm3 : c3 ≤ maxLen)
    (hr1 : RowF w a1 f1 n1) (hr2 : RowF w a2 f2 n2) (hr3 : RowF w a3 f3 n3) (h : n1 ≤ n3) (heq : ∀ j, j < n1 → f3 j = f1 j) (h0 : n2 = 0) (h31 : n3 ≠ n1) :
    Calls Trym.prog 26 #[.agg #[.slice a1 n1 c1, .slice a2 n2 c2, .bool false, .slice none 0 0, .string ⟨#[]⟩, .bool false], .slice a3 n3 c3] w fun e w' => Placed f1 f2 f3 n1 n2 n3 w e w' := by
  have H1 : Hid (RowF w a1 f1 n1) := hr1
  have H3 : Hid (RowF w a3 f3 n1) := hr3.less h
  have HE : Hid (∀ j, j < n1 → f3 j = f1 j) := heq
  clear hr1 hr2 hr3 heq
  have hx : n1 ≤ maxLen := by unfold maxLen; omega
  unfold maxLen at hm3
  subst h0
  have hd : decide ((n3 : Int) < (n1 : Int)) = false := decide_eq_false (by omega)
  have hb1 : (n1 : Int) ≤ (c3 : Int) := by omega
  have hd2 : ((n3 : Int) == (n1 : Int)) = false := by simp; omega
  go_enter Trym.func26, Trym.ntmps26
  go_wp2
  go_quiet ((go_at_call 27; refine Calls.quiet_of (equal_yes _ _ _ _ _ f3 f1 _ hx ?_ ?_ HE.out); exact (H3.out.alloc _).drewN _; exact (H1.out.alloc _).drewN _))
  go_wp2
  go_ret2
  exact ⟨below_drewN ((Below.refl _ _).alloc (Nat.le_refl _) _) _, .inl ⟨rfl, fun hw => h31 (hw.2.2.1 rfl)⟩⟩

set_option maxHeartbeats 1000000 in
theorem places_C4 (a1 a2 a3 : Option Addr) (n1 n2 n3 c1 c2 c3 : Nat) (f1 f2 f3 : Nat → ByteArray) (w : World) (hn1 : n1 ≤ 4096) (hn2 : n2 ≤ 4096) (hn3 : n3 ≤ 4096) (hc3 : n3 ≤ c3) (hm3 : c3 ≤ maxLen)
    (hr1 : RowF w a1 f1 n1) (hr2 : RowF w a2 f2 n2) (hr3 : RowF w a3 f3 n3) (heq : ∀ j, j < n1 → f3 j = f1 j) (h0 : n2 = 0) (h31 : n3 = n1) :
    Calls Trym.prog 26 #[.agg #[.slice a1 n1 c1, .slice a2 n2 c2, .bool false, .slice none 0 0, .string ⟨#[]⟩, .bool false], .slice a3 n3 c3] w fun e w' => Placed f1 f2 f3 n1 n2 n3 w e w' := by
  subst h31
  have H1 : Hid (RowF w a1 f1 n3) := hr1
  have H3 : Hid (RowF w a3 f3 n3) := hr3
  have HE : Hid (∀ j, j < n3 → f3 j = f1 j) := heq
  clear hr1 hr2 hr3 heq
  have hx : n3 ≤ maxLen := by unfold maxLen; omega
  unfold maxLen at hm3
  subst h0
  have hd : decide ((n3 : Int) < (n3 : Int)) = false := decide_eq_false (by omega)
  have hb1 : (n3 : Int) ≤ (c3 : Int) := by omega
  go_enter Trym.func26, Trym.ntmps26
  go_wp2
  go_quiet ((go_at_call 27; refine Calls.quiet_of (equal_yes _ _ _ _ _ f3 f1 _ hx ?_ ?_ HE.out); exact (H3.out.alloc _).drewN _; exact (H1.out.alloc _).drewN _))
  go_wp2
  go_ret2
  exact ⟨below_drewN ((Below.refl _ _).alloc (Nat.le_refl _) _) _, .inr (.inl ⟨rfl, rfl, Nat.le_refl _, HE.out, fun _ => rfl, fun h => absurd rfl h⟩)⟩

end Go.Proofs.Qxb6600690aMods.Plc
