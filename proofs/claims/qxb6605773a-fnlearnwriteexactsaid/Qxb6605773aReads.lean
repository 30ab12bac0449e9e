/- b1SameInts, b1SortedDistinct, b1Search -/
import Derived.Test.Qxb6605773aBase
import Derived.Lib.Strings
namespace Go.Proofs.Qxb6605773a.Lw
open Go.ChangeShapes Go.WideShapes Go.ChangeAt Go.RowKit
set_option linter.unusedVariables false

theorem wrapk (k : Nat) (h : k ≤ 1048576) : IntKind.i64.wrap (k : Int) = k := by simp [IntKind.wrap, IntKind.bits, IntKind.signed]; omega

theorem bl_irrefl : ∀ x : List UInt8, Op.bytesLess x x = false
  | [] => rfl
  | a :: x => by simp [Op.bytesLess, bl_irrefl x]

theorem bl_trans : ∀ x y z : List UInt8, Op.bytesLess x y = true → Op.bytesLess y z = true → Op.bytesLess x z = true
  | _, _, [], _, h => by simp [Op.bytesLess] at h
  | _, [], _ :: _, h, _ => by simp [Op.bytesLess] at h
  | [], _ :: _, _ :: _, _, _ => by simp [Op.bytesLess]
  | a :: x, b :: y, c :: z, h, k => by
    have ih := bl_trans x y z
    simp only [Op.bytesLess, Bool.or_eq_true, decide_eq_true_eq, Bool.and_eq_true, beq_iff_eq, UInt8.lt_iff_toNat_lt] at *
    rcases h with h | ⟨rfl, h⟩
    · rcases k with k | ⟨rfl, k⟩
      · exact Or.inl (by omega)
      · exact Or.inl h
    · rcases k with k | ⟨rfl, k⟩
      · exact Or.inl k
      · exact Or.inr ⟨rfl, ih h k⟩

/-- less, byte by byte -/
def bl (a b : ByteArray) : Bool := Op.bytesLess a.toList b.toList
theorem bl_self (a : ByteArray) : bl a a = false := bl_irrefl _
theorem bl_tr {a b c : ByteArray} (h : bl a b = true) (k : bl b c = true) : bl a c = true := bl_trans _ _ _ h k

/-- strictly increasing, neighbour by neighbour -/
def Incr (S : List ByteArray) : Prop := ∀ i x y, S[i]? = some x → S[i + 1]? = some y → bl x y = true

theorem incr_get {S : List ByteArray} (h : Incr S) : ∀ (d i : Nat) (x y : ByteArray), S[i]? = some x → S[i + d + 1]? = some y → bl x y = true
  | 0, i, x, y, hx, hy => h i x y hx hy
  | d + 1, i, x, y, hx, hy => by
    have hl := (List.getElem?_eq_some_iff.1 hy).1
    have hz : S[i + d + 1]? = some (S[i + d + 1]'(by omega)) := List.getElem?_eq_getElem (by omega)
    exact bl_tr (incr_get h d i x _ hx hz) (h (i + d + 1) _ y hz hy)

theorem incr_lt {S : List ByteArray} (h : Incr S) (i j : Nat) (x y : ByteArray) (hij : i < j) (hx : S[i]? = some x) (hy : S[j]? = some y) : bl x y = true :=
  incr_get h (j - i - 1) i x y hx (by rw [show i + (j - i - 1) + 1 = j by omega]; exact hy)

theorem incr_inj {S : List ByteArray} (h : Incr S) (i j : Nat) (x : ByteArray) (hi : S[i]? = some x) (hj : S[j]? = some x) : i = j := by
  have hs := bl_self x
  by_cases h1 : i < j
  · rw [incr_lt h i j x x h1 hi hj] at hs; cases hs
  · by_cases h2 : j < i
    · rw [incr_lt h j i x x h2 hj hi] at hs; cases hs
    · omega

theorem str_ne {x v : ByteArray} (e : x ≠ v) : (x.toList == v.toList) = false := by
  rw [beq_eq_false_iff_ne]
  intro h
  rw [Lib.toList_data, Lib.toList_data] at h
  have := Array.toList_inj.1 h
  apply e
  cases x; cases v; simp_all

set_option maxRecDepth 100000 in
set_option maxHeartbeats 800000 in
/-- b1SortedDistinct: a bool; if it is true the strings increase -/
theorem sorted20 (a : Option Addr) (n c : Nat) (S : List ByteArray) (w : World) (hn : n ≤ 1048576) (h : Sl Value.string w a n S) :
    Calls Try.prog 20 #[.slice a n c] w fun e w' => ∃ r : Nat, e = .returned (.bool (r == 1)) ∧ (∃ q, w' = w.drewN q) ∧ (r = 1 → Incr S) := by
  have H := hide h
  clear h
  go_enter Try.func20, Try.ntmps20
  go_wp2
  go_loopw [3] (fun i wr => ∃ k : Nat, k ≤ n ∧ i = .int .i64 ((k : Int) + 1) ∧ Hid (Drawn w wr) ∧ Hid (∀ i x y, i < k → S[i]? = some x → S[i + 1]? = some y → bl x y = true)) (fun i _ => n + 1 - (intOf i).toNat)
  case atStart => exact ⟨0, Nat.zero_le _, rfl, Drawn.refl w, fun i x y hi => by omega⟩
  case round =>
    obtain ⟨k, hk, rfl, HD, HI⟩ := hrel
    by_cases hlt : k + 1 < n
    · obtain ⟨b, off, x, ha, hx, hc⟩ := (unhide H).at k (by omega)
      obtain ⟨b', off', y, ha', hy, hc'⟩ := (unhide H).at (k + 1) hlt
      rw [ha] at ha'
      cases ha'
      have hcw := (unhide HD).cell ⟨b, off + k, none⟩ |>.trans hc
      have hcw' := (unhide HD).cell ⟨b, off + (k + 1), none⟩ |>.trans hc'
      have Hx := hide hx
      have Hy := hide hy
      clear hx hy hc hc'
      rw [ha]
      clear ha
      have hwk := wrapk k (by omega)
      have hi0 : (0 : Int) ≤ (k : Int) := by omega
      have hi1 : (k : Int) < (n : Int) := by omega
      have hi2 : (0 : Int) ≤ (k : Int) + 1 := by omega
      have hi3 : (k : Int) + 1 < (n : Int) := by omega
      have hi4 : ((k : Int) + 1).toNat = k + 1 := by omega
      cases hb : Op.bytesLess x.toList y.toList
      · go_wp2
        go_quiet (fail)
        go_wp2
        go_ret
        obtain ⟨q, hq⟩ := (unhide HD).drewN nq
        exact ⟨0, rfl, ⟨q, hq.symm⟩, fun h => by cases h⟩
      · have HI2 : Hid (∀ i x y, i < k + 1 → S[i]? = some x → S[i + 1]? = some y → bl x y = true) := by
          intro i x' y' hi hx' hy'
          by_cases e : i = k
          · subst e
            rw [unhide Hx] at hx'
            rw [unhide Hy] at hy'
            cases hx'
            cases hy'
            exact hb
          · exact unhide HI i x' y' (by omega) hx' hy'
        go_wp2
        go_quiet (fail)
        go_wp2
        go_roundw
        case rel => exact ⟨k + 1, by omega, by go_num, (unhide HD).drewN _, HI2⟩
        case measure => simp [intOf]; omega
    · go_wp2
      go_ret
      obtain ⟨q, hq⟩ := unhide HD
      refine ⟨1, rfl, ⟨q, hq.symm⟩, fun _ => ?_⟩
      intro i x y hx hy
      have := (List.getElem?_eq_some_iff.1 hy).1
      have := (unhide H).len
      exact unhide HI i x y (by omega) hx hy

/-- where v stands in S, or -1 -/
def Found (S : List ByteArray) (v : ByteArray) (w : World) (e : Ending) (w' : World) : Prop :=
  ∃ r : Int, e = .returned (.int .i64 r) ∧ w' = w ∧ ((r = -1 ∧ v ∉ S) ∨ ∃ i : Nat, r = i ∧ S[i]? = some v)

theorem not_in {S : List ByteArray} {v : ByteArray} (k : Nat) (h1 : ∀ i x, i < k → S[i]? = some x → bl x v = true) (h2 : ∀ i x, k ≤ i → S[i]? = some x → bl x v = false) (hS : Incr S)
    (hne : ∀ x, S[k]? = some x → x ≠ v) : v ∉ S := by
  intro hv
  obtain ⟨i, hi⟩ := List.getElem?_of_mem hv
  have hz := bl_self v
  by_cases h : i < k
  · rw [h1 i v h hi] at hz; cases hz
  · by_cases e : i = k
    · subst e; exact hne v hi rfl
    · have hk : k < S.length := by have := (List.getElem?_eq_some_iff.1 hi).1; omega
      have a := incr_lt hS k i S[k] v (by omega) (List.getElem?_eq_getElem hk) hi
      rw [h2 k S[k] (Nat.le_refl _) (List.getElem?_eq_getElem hk)] at a
      cases a

theorem step_lo {S : List ByteArray} {v y : ByteArray} {m : Nat} (hS : Incr S) (hy : S[m]? = some y) (h : bl y v = true) : ∀ i x, i < m + 1 → S[i]? = some x → bl x v = true := by
  intro i x hi hx
  by_cases e : i = m
  · subst e; rw [hy] at hx; cases hx; exact h
  · exact bl_tr (incr_lt hS i m x y (by omega) hx hy) h

theorem step_hi {S : List ByteArray} {v y : ByteArray} {m : Nat} (hS : Incr S) (hy : S[m]? = some y) (h : bl y v = false) : ∀ i x, m ≤ i → S[i]? = some x → bl x v = false := by
  intro i x hi hx
  by_cases e : i = m
  · subst e; rw [hy] at hx; cases hx; exact h
  · cases k : bl x v with
    | false => rfl
    | true => rw [bl_tr (incr_lt hS m i y x (by omega) hy hx) k] at h; cases h

set_option maxRecDepth 100000 in
set_option maxHeartbeats 800000 in
theorem search26 (a : Option Addr) (n c : Nat) (S : List ByteArray) (v : ByteArray) (w : World) (hn : n ≤ 1048576) (h : Sl Value.string w a n S) (hS : Incr S) :
    Calls Try.prog 26 #[.slice a n c, .string v] w (Found S v w) := by
  have H := hide h
  have HS := hide hS
  clear h hS
  go_enter Try.func26, Try.ntmps26
  go_wp2
  go_loop [5, 6] (fun lo hi => ∃ l h : Nat, l ≤ h ∧ h ≤ n ∧ lo = .int .i64 l ∧ hi = .int .i64 h ∧ Hid ((∀ i x, i < l → S[i]? = some x → bl x v = true) ∧ (∀ i x, h ≤ i → S[i]? = some x → bl x v = false))) (fun lo hi => (intOf hi).toNat - (intOf lo).toNat)
  case atStart => exact ⟨0, n, Nat.zero_le _, Nat.le_refl _, rfl, rfl, ⟨fun i x hi _ => by omega, fun i x hi hx => by have := (List.getElem?_eq_some_iff.1 hx).1; have := (unhide H).len; omega⟩⟩
  case round =>
    obtain ⟨l, h, hlh, hhn, rfl, rfl, HI⟩ := hrel
    by_cases hlt : l < h
    · obtain ⟨m, hm⟩ : ∃ m : Nat, m = l + (h - l) / 2 := ⟨_, rfl⟩
      have hm1 : l ≤ m := by omega
      have hm2 : m < h := by omega
      have HM : (l : Int) + ((h : Int) - (l : Int)) / 2 = (m : Int) := by omega
      clear hm
      obtain ⟨b, off, x, ha, hx, hc⟩ := (unhide H).at m (by omega)
      have Hx := hide hx
      clear hx
      rw [ha]
      clear ha
      cases hb : Op.bytesLess x.toList v.toList
      · have HN := hide (And.intro (unhide HI).1 (step_hi (v := v) (unhide HS) (unhide Hx) hb))
        go_wp2
        go_round
        case rel => exact ⟨l, m, by omega, by omega, rfl, by go_num, HN⟩
        case measure => simp [intOf]; omega
      · have HN := hide (And.intro (step_lo (v := v) (unhide HS) (unhide Hx) hb) (unhide HI).2)
        go_wp2
        go_round
        case rel => exact ⟨m + 1, h, by omega, hhn, by go_num, rfl, HN⟩
        case measure => simp [intOf]; omega
    · obtain rfl : l = h := by omega
      by_cases hln : l < n
      · obtain ⟨b, off, x, ha, hx, hc⟩ := (unhide H).at l hln
        have HX := hide hx
        clear hx
        rw [ha]
        clear ha
        by_cases e : x = v
        · have he : (x.toList == v.toList) = true := by rw [e]; simp
          go_wp2
          go_ret
          exact ⟨_, rfl, rfl, Or.inr ⟨l, rfl, by rw [← e]; exact unhide HX⟩⟩
        · have he := str_ne e
          go_wp2
          go_ret
          exact ⟨_, rfl, rfl, Or.inl ⟨rfl, not_in l (unhide HI).1 (unhide HI).2 (unhide HS) (fun y hy => by rw [unhide HX] at hy; cases hy; exact e)⟩⟩
      · go_wp2
        go_ret
        exact ⟨_, rfl, rfl, Or.inl ⟨rfl, not_in l (unhide HI).1 (unhide HI).2 (unhide HS) (fun y hy => by have := (List.getElem?_eq_some_iff.1 hy).1; have := (unhide H).len; omega)⟩⟩

set_option maxRecDepth 100000 in
set_option maxHeartbeats 800000 in
/-- b1SameInts at two readings of one list, both nil or neither -/
theorem same28 (a a' : Option Addr) (n n' c c' : Nat) (E : List Int) (w : World) (hn : n ≤ 1048576) (h : Sl (Value.int .i64) w a n E) (h' : Sl (Value.int .i64) w a' n' E) (hnil : a = none ↔ a' = none) :
    Calls Try.prog 28 #[.slice a n c, .slice a' n' c'] w fun e w' => e = .returned (.bool true) ∧ ∃ q, w' = w.drewN q := by
  have H := hide h
  have H' := hide h'
  have hnn : n' = n := by rw [h'.len, h.len]
  subst hnn
  clear h h'
  have hq : ∀ (w : World) (a : Option Addr) (n c n' c' : Nat), (binOp .eql 22 (.slice a n c) (.slice none n' c')).run Try.prog w = .ok (.bool a.isNone) w := fun w a n c n' c' => Lib.run_eql_slice_nil w _ _ a n c n' c' Try.underlying22
  have hnn : a.isNone = a'.isNone := by
    cases a with
    | none => rw [hnil.1 rfl]
    | some x => cases a' with
      | none => exact absurd (hnil.2 rfl) (by simp)
      | some y => rfl
  have hbq : (((n' : Nat) : Int) != (n' : Int)) = false := by simp
  clear hnil
  go_enter Try.func28, Try.ntmps28
  go_wp2
  go_loopw [5] (fun i wr => ∃ k : Nat, k ≤ n' ∧ i = .int .i64 k ∧ Hid (Drawn w wr)) (fun i _ => n' - (intOf i).toNat)
  case atStart => exact ⟨0, Nat.zero_le _, rfl, Drawn.refl w⟩
  case round =>
    obtain ⟨k, hk, rfl, HD⟩ := hrel
    by_cases hlt : k < n'
    · obtain ⟨b, off, x, ha, hx, hc⟩ := (unhide H).at k hlt
      obtain ⟨b', off', x', ha', hx', hc'⟩ := (unhide H').at k hlt
      rw [hx] at hx'
      cases hx'
      have hcw := ((unhide HD).cell _).trans hc
      have hcw' := ((unhide HD).cell _).trans hc'
      have hne : (x != x) = false := by simp
      have hi1 : (k : Int) < (n' : Int) := by omega
      clear hx hc hc' hnn
      rw [ha, ha']
      clear ha ha'
      go_wp2
      go_quiet (fail)
      go_wp2
      go_roundw
      case rel => exact ⟨k + 1, by omega, by go_num, (unhide HD).drewN _⟩
      case measure => simp [intOf]; omega
    · go_wp2
      go_ret
      obtain ⟨q, hq⟩ := unhide HD
      exact ⟨rfl, q, hq.symm⟩

end Go.Proofs.Qxb6605773a.Lw
