/- repeatInts, repeatStrs, findInt, inEveryInt, inEveryStr -/
import Derived.Test.Qxb6605915aInts2
namespace Go.Proofs.Qxb6605915a.Strs
open Go.ChangeShapes Go.WideShapes Go.ChangeAt Go.RowKit
set_option linter.unusedVariables false

section
variable {α : Type} {cf : α → α → Int} {S : List α}
theorem incg_get (h : S.Pairwise fun a b => cf a b < 0) (i j : Nat) (x y : α) (hij : i < j) (hx : S[i]? = some x) (hy : S[j]? = some y) : cf x y < 0 := by
  obtain ⟨h1, rfl⟩ := List.getElem?_eq_some_iff.1 hx
  obtain ⟨h2, rfl⟩ := List.getElem?_eq_some_iff.1 hy
  exact List.pairwise_iff_getElem.1 h i j h1 h2 hij

theorem not_inG (hc : TotCmp cf) {v : α} (k : Nat) (h1 : ∀ i x, i < k → S[i]? = some x → cf x v < 0) (h2 : ∀ i x, k ≤ i → S[i]? = some x → 0 ≤ cf x v) (hS : S.Pairwise fun a b => cf a b < 0)
    (hne : ∀ x, S[k]? = some x → x ≠ v) : v ∉ S := by
  intro hv
  obtain ⟨i, hi⟩ := List.getElem?_of_mem hv
  have hz := hc.refl v
  by_cases h : i < k
  · have := h1 i v h hi; omega
  · by_cases e : i = k
    · subst e; exact hne v hi rfl
    · have hk : k < S.length := by have := (List.getElem?_eq_some_iff.1 hi).1; omega
      have a := incg_get hS k i S[k] v (by omega) (List.getElem?_eq_getElem hk) hi
      have b := h2 k S[k] (Nat.le_refl _) (List.getElem?_eq_getElem hk)
      omega

theorem step_loG (hc : TotCmp cf) {v y : α} {m : Nat} (hS : S.Pairwise fun a b => cf a b < 0) (hy : S[m]? = some y) (h : cf y v < 0) : ∀ i x, i < m + 1 → S[i]? = some x → cf x v < 0 := by
  intro i x hi hx
  by_cases e : i = m
  · subst e; rw [hy] at hx; cases hx; exact h
  · exact hc.trans _ _ _ (incg_get hS i m x y (by omega) hx hy) h

theorem step_hiG (hc : TotCmp cf) {v y : α} {m : Nat} (hS : S.Pairwise fun a b => cf a b < 0) (hy : S[m]? = some y) (h : ¬ cf y v < 0) : ∀ i x, m ≤ i → S[i]? = some x → 0 ≤ cf x v := by
  intro i x hi hx
  by_cases e : i = m
  · subst e; rw [hy] at hx; cases hx; omega
  · by_cases k : 0 ≤ cf x v
    · exact k
    · exact absurd (hc.trans _ _ _ (incg_get hS m i y x (by omega) hy hx) (by omega)) h
end

theorem ci_lt (x y : Int) : ci x y < 0 ↔ x < y := by
  unfold ci
  by_cases h : x < y
  · rw [if_pos h]; exact ⟨fun _ => h, fun _ => by decide⟩
  · rw [if_neg h]
    by_cases h2 : y < x
    · rw [if_pos h2]; exact ⟨fun h' => by omega, fun h' => by omega⟩
    · rw [if_neg h2]; exact ⟨fun h' => by omega, fun h' => by omega⟩

/-- where v stands in S, or -1 -/
def FoundI (S : List Int) (v : Int) (w : World) (e : Ending) (w' : World) : Prop :=
  ∃ r : Int, e = .returned (.int .i64 r) ∧ w' = w ∧ ((r = -1 ∧ v ∉ S) ∨ ∃ i : Nat, r = i ∧ S[i]? = some v)

set_option maxRecDepth 100000 in
set_option maxHeartbeats 800000 in
theorem find47 (a : Option Addr) (n c : Nat) (S : List Int) (v : Int) (w : World) (hn : n ≤ 16777216) (h : Sl (Value.int .i64) w a n S) (hS : S.Pairwise fun a b => ci a b < 0) :
    Calls Try.prog 47 #[.slice a n c, .int .i64 v] w (FoundI S v w) := by
  have H := hide h
  have HS := hide hS
  clear h hS
  go_enter Try.func47, Try.ntmps47
  go_wp2
  go_loop [5, 6, 7] (fun lo hi _ => ∃ l h : Nat, l ≤ h ∧ h ≤ n ∧ lo = .int .i64 l ∧ hi = .int .i64 h ∧ Hid ((∀ i x, i < l → S[i]? = some x → ci x v < 0) ∧ (∀ i x, h ≤ i → S[i]? = some x → 0 ≤ ci x v))) (fun lo hi _ => (intOf hi).toNat - (intOf lo).toNat)
  case atStart => exact ⟨0, n, Nat.zero_le _, Nat.le_refl _, rfl, rfl, ⟨fun i x hi _ => by omega, fun i x hi hx => by have := (List.getElem?_eq_some_iff.1 hx).1; have := (unhide H).len; omega⟩⟩
  case round =>
    obtain ⟨l, h, hlh, hhn, rfl, rfl, HI⟩ := hrel
    by_cases hlt : l < h
    · obtain ⟨m, hm⟩ : ∃ m : Nat, m = l + (h - l) / 2 := ⟨_, rfl⟩
      have hm1 : l ≤ m := by omega
      have hm2 : m < h := by omega
      have HM : (l : Int) + ((h : Int) - (l : Int)) / 2 = (m : Int) := by omega
      clear hm
      obtain ⟨b, off, x, ha, hx, hc⟩ := (unhide H).at m (by omega)
      rw [ha]
      clear ha
      have HX := hide hx
      clear hx
      by_cases hcb : x < v
      · have HN := hide (And.intro (step_loG totCi (unhide HS) (unhide HX) ((ci_lt x v).2 hcb)) (unhide HI).2)
        go_wp2
        go_round
        case rel => exact ⟨m + 1, h, by omega, hhn, by go_num, rfl, HN⟩
        case measure => simp [intOf]; omega
      · have HN := hide (And.intro (unhide HI).1 (step_hiG totCi (unhide HS) (unhide HX) (fun h' => hcb ((ci_lt x v).1 h'))))
        go_wp2
        go_round
        case rel => exact ⟨l, m, by omega, by omega, rfl, by go_num, HN⟩
        case measure => simp [intOf]; omega
    · obtain rfl : l = h := by omega
      by_cases hln : l < n
      · obtain ⟨b, off, x, ha, hx, hc⟩ := (unhide H).at l hln
        have HX := hide hx
        clear hx
        rw [ha]
        clear ha
        by_cases e : x = v
        · have he : (x == v) = true := by rw [e]; simp
          have HE := hide e
          clear e
          go_wp2
          go_ret
          exact ⟨_, rfl, rfl, Or.inr ⟨l, rfl, by rw [← unhide HE]; exact unhide HX⟩⟩
        · have he : (x == v) = false := by rw [beq_eq_false_iff_ne]; exact e
          have HE := hide e
          clear e
          go_wp2
          go_ret
          exact ⟨_, rfl, rfl, Or.inl ⟨rfl, not_inG totCi l (unhide HI).1 (unhide HI).2 (unhide HS) (fun y hy => by rw [unhide HX] at hy; cases hy; exact unhide HE)⟩⟩
      · go_wp2
        go_ret
        exact ⟨_, rfl, rfl, Or.inl ⟨rfl, not_inG totCi l (unhide HI).1 (unhide HI).2 (unhide HS) (fun y hy => by have := (List.getElem?_eq_some_iff.1 hy).1; have := (unhide H).len; omega)⟩⟩

/-- is v in every list? -/
def InAll {α : Type} (SL : List (List α)) (v : α) (w : World) (e : Ending) (w' : World) : Prop :=
  ∃ r : Bool, e = .returned (.bool r) ∧ (∃ q, w.drewN q = w') ∧ (r = true ↔ ∀ l, l ∈ SL → v ∈ l)

theorem mem_take_succ {α : Type} {ll : List α} {k : Nat} {x y : α} (hx : ll[k]? = some x) (hy : y ∈ ll.take (k + 1)) : y ∈ ll.take k ∨ y = x := by
  rw [List.take_add_one, hx] at hy
  simpa using hy

set_option maxRecDepth 100000 in
set_option maxHeartbeats 800000 in
theorem inEvery48 (a : Option Addr) (n c : Nat) (SL : List (List Int)) (v : Int) (w : World) (hn : n ≤ 16777216) (h : Sll (Value.int .i64) w a n SL) (hl : ∀ l, l ∈ SL → l.length ≤ 16777216) (hS : ∀ l, l ∈ SL → l.Pairwise fun a b => ci a b < 0) :
    Calls Try.prog 48 #[.slice a n c, .int .i64 v] w (InAll SL v w) := by
  have H := hide h
  have HL := hide hl
  have HS := hide hS
  clear h hl hS
  go_enter Try.func48, Try.ntmps48
  go_wp2
  go_loop [5] (fun i => ∃ k : Nat, k ≤ n ∧ i = .int .i64 k ∧ Hid (∀ l, l ∈ SL.take k → v ∈ l)) (fun i => n - (intOf i).toNat)
  case atStart => exact ⟨0, Nat.zero_le _, rfl, fun l hl => by simp at hl⟩
  case round =>
    obtain ⟨k, hk, rfl, HI⟩ := hrel
    by_cases hlt : k < n
    · obtain ⟨b, off, l, a', c', ha, hl, hc, hsl, _⟩ := (unhide H).at k hlt
      have hmem := List.mem_of_getElem? hl
      have hll := unhide HL l hmem
      have HSl := hide (unhide HS l hmem)
      have HM := hide hmem
      have Hl := hide hl
      have HSL := hide hsl
      clear hl hsl hmem
      rw [ha]
      clear ha
      go_wp2_with fail
      refine (find47 a' l.length c' l v w hll (unhide HSL) (unhide HSl)).mono ?_
      rintro _ w ⟨r, rfl, rfl, hr⟩
      rcases hr with ⟨hr1, hr2⟩ | ⟨i, hr1, hr2⟩
      · subst hr1
        have HR := hide hr2
        clear hr2
        go_wp2
        go_ret
        exact ⟨false, rfl, ⟨0, rfl⟩, by simp; exact ⟨l, unhide HM, unhide HR⟩⟩
      · subst hr1
        have HI2 : Hid (∀ l, l ∈ SL.take (k + 1) → v ∈ l) := by
          intro l' hl'
          rcases mem_take_succ (unhide Hl) hl' with h' | rfl
          · exact unhide HI l' h'
          · exact List.mem_of_getElem? hr2
        clear hr2
        go_wp2
        go_round
        case rel => exact ⟨k + 1, by omega, by go_num, HI2⟩
        case measure => simp [intOf]; omega
    · go_wp2
      go_ret
      refine ⟨true, rfl, ⟨0, rfl⟩, by simp; intro l hl; exact unhide HI l (by rw [List.take_of_length_le (by have := (unhide H).len; omega)]; exact hl)⟩

set_option maxRecDepth 100000 in
set_option maxHeartbeats 800000 in
theorem inEvery50 (a : Option Addr) (n c : Nat) (SL : List (List ByteArray)) (v : ByteArray) (w : World) (hn : n ≤ 16777216) (hv : v.size ≤ maxLen) (h : Sll Value.string w a n SL) (hl : ∀ l, l ∈ SL → l.length ≤ 16777216) (hS : ∀ l, l ∈ SL → Inc l) (hz : ∀ l, l ∈ SL → ∀ x, x ∈ l → x.size ≤ maxLen) :
    Calls Try.prog 50 #[.slice a n c, .string v] w (InAll SL v w) := by
  have H := hide h
  have HL := hide hl
  have HS := hide hS
  have HZ := hide hz
  clear h hl hS hz
  go_enter Try.func50, Try.ntmps50
  go_wp2
  go_loopw [5] (fun i wr => ∃ k : Nat, k ≤ n ∧ i = .int .i64 k ∧ Hid (Drawn w wr) ∧ Hid (∀ l, l ∈ SL.take k → v ∈ l)) (fun i _ => n - (intOf i).toNat)
  case atStart => exact ⟨0, Nat.zero_le _, rfl, Drawn.refl w, fun l hl => by simp at hl⟩
  case round =>
    obtain ⟨k, hk, rfl, HD, HI⟩ := hrel
    by_cases hlt : k < n
    · obtain ⟨b, off, l, a', c', ha, hl, hc, hsl, _⟩ := (unhide H).at k hlt
      have hmem := List.mem_of_getElem? hl
      have hll := unhide HL l hmem
      have HSl := hide (unhide HS l hmem)
      have HZl := hide (unhide HZ l hmem)
      have HM := hide hmem
      have Hl := hide hl
      have HSL := hide (hsl.below (unhide HD).below)
      have hcw := ((unhide HD).cell _).trans hc
      clear hl hsl hmem hc
      rw [ha]
      clear ha
      go_wp2_with fail
      refine (find49 a' l.length c' l v wr hll hv (unhide HSL) (unhide HSl) (unhide HZl)).mono ?_
      rintro _ _ ⟨r, rfl, ⟨q, rfl⟩, hr⟩
      have HD2 := hide ((unhide HD).drewN q)
      clear hcw HSL
      generalize wr.drewN q = w2 at *
      rcases hr with ⟨hr1, hr2⟩ | ⟨i, hr1, hr2⟩
      · subst hr1
        have HR := hide hr2
        clear hr2
        go_wp2
        go_ret
        exact ⟨false, rfl, unhide HD2, by simp; exact ⟨l, unhide HM, unhide HR⟩⟩
      · subst hr1
        have HI2 : Hid (∀ l, l ∈ SL.take (k + 1) → v ∈ l) := by
          intro l' hl'
          rcases mem_take_succ (unhide Hl) hl' with h' | rfl
          · exact unhide HI l' h'
          · exact List.mem_of_getElem? hr2
        clear hr2
        go_wp2
        go_roundw
        case rel => exact ⟨k + 1, by omega, by go_num, HD2, HI2⟩
        case measure => simp [intOf]; omega
    · go_wp2
      go_ret
      refine ⟨true, rfl, unhide HD, by simp; intro l hl; exact unhide HI l (by rw [List.take_of_length_le (by have := (unhide H).len; omega)]; exact hl)⟩

/-- no two neighbours are the same -/
def NoAdj {α : Type} (l : List α) : Prop := ∀ j x y, l[j]? = some x → l[j + 1]? = some y → x ≠ y
/-- a bool comes back; false: no list repeats a neighbour -/
def Rep {α : Type} (ll : List (List α)) (w : World) (e : Ending) (w' : World) : Prop := ∃ r : Bool, e = .returned (.bool r) ∧ (∃ q, w.drewN q = w') ∧ (r = false → ∀ l, l ∈ ll → NoAdj l)

set_option maxRecDepth 100000 in
set_option maxHeartbeats 2000000 in
theorem repeat17 (a : Option Addr) (n c : Nat) (ll : List (List Int)) (w : World) (hn : n ≤ 1048576) (h : Sll (Value.int .i64) w a n ll) (hl : ∀ l, l ∈ ll → l.length ≤ 1048576) :
    Calls Try.prog 17 #[.slice a n c] w (Rep ll w) := by
  have H := hide h
  have HL := hide hl
  clear h hl
  go_enter Try.func17, Try.ntmps17
  go_wp2
  go_loopw [3, 4] (fun i _ wr => ∃ k : Nat, k ≤ n ∧ i = .int .i64 k ∧ Hid (Drawn w wr) ∧ Hid (∀ l, l ∈ ll.take k → NoAdj l)) (fun i _ _ => n - (intOf i).toNat)
  case atStart => exact ⟨0, Nat.zero_le _, rfl, Drawn.refl w, fun l hl => by simp at hl⟩
  case round =>
    obtain ⟨k, hk, rfl, HD, HI⟩ := hrel
    by_cases hlt : k < n
    · obtain ⟨b, off, l, a', c', ha, hl, hc, hsl, _⟩ := (unhide H).at k hlt
      have hll := unhide HL l (List.mem_of_getElem? hl)
      have Hl := hide hl
      have HSL := hide hsl
      have HC := hide hc
      clear hl hsl hc
      rw [ha]
      clear ha
      go_wp2
      go_loopw [4] (fun j wi => ∃ m : Nat, m ≤ l.length ∧ j = .int .i64 ((m : Int) + 1) ∧ Hid (Drawn w wi) ∧ Hid (∀ i x y, i < m → l[i]? = some x → l[i + 1]? = some y → x ≠ y)) (fun j _ => l.length + 1 - (intOf j).toNat)
      case atStart => exact ⟨0, Nat.zero_le _, rfl, HD, fun i x y hi => by omega⟩
      case round =>
        clear HD
        obtain ⟨m, hm, rfl, HD, HJ⟩ := hrel
        have hcw := ((unhide HD).cell _).trans (unhide HC)
        by_cases hlt2 : m + 1 < l.length
        · obtain ⟨b2, off2, x, ha2, hx2, hc2⟩ := (unhide HSL).at m (by omega)
          obtain ⟨b3, off3, y, ha3, hy3, hc3⟩ := (unhide HSL).at (m + 1) hlt2
          rw [ha2] at ha3
          cases ha3
          have hcx := ((unhide HD).cell _).trans hc2
          have hcy := ((unhide HD).cell _).trans hc3
          have Hx2 := hide hx2
          have Hy3 := hide hy3
          clear hx2 hy3 hc2 hc3
          rw [ha2] at hcw
          clear ha2
          have hwk := wrapk m (by omega)
          have hi0 : (0 : Int) ≤ (m : Int) := by omega
          have hi1 : (m : Int) < (l.length : Int) := by omega
          have hi2 : (0 : Int) ≤ (m : Int) + 1 := by omega
          have hi3 : (m : Int) + 1 < (l.length : Int) := by omega
          have hi4 : ((m : Int) + 1).toNat = m + 1 := by omega
          have hk1 : (k : Int) < (n : Int) := by omega
          by_cases hxy : x = y
          · have hbq : (x == y) = true := by rw [hxy]; simp
            clear hxy
            go_wp2
            go_quiet (fail)
            go_wp2
            go_ret
            exact ⟨true, rfl, (unhide HD).drewN _, fun h => by cases h⟩
          · have hbq : (x == y) = false := by rw [beq_eq_false_iff_ne]; exact hxy
            have HJ2 : Hid (∀ i x y, i < m + 1 → l[i]? = some x → l[i + 1]? = some y → x ≠ y) := by
              intro i x' y' hi' hx' hy'
              by_cases e : i = m
              · subst e
                rw [unhide Hx2] at hx'
                rw [unhide Hy3] at hy'
                cases hx'
                cases hy'
                exact hxy
              · exact unhide HJ i x' y' (by omega) hx' hy'
            clear hxy
            go_wp2
            go_quiet (fail)
            go_wp2
            go_roundw
            case rel => exact ⟨m + 1, by omega, by go_num, (unhide HD).drewN _, HJ2⟩
            case measure => simp [intOf]; omega
        · have HI2 : Hid (∀ l, l ∈ ll.take (k + 1) → NoAdj l) := by
            intro l' hl'
            rcases mem_take_succ (unhide Hl) hl' with h' | rfl
            · exact unhide HI l' h'
            · intro j x y hx hy
              have := (List.getElem?_eq_some_iff.1 hy).1
              exact unhide HJ j x y (by omega) hx hy
          go_wp2
          go_roundw
          case rel => exact ⟨k + 1, by omega, by go_num, HD, HI2⟩
          case measure => simp [intOf]; omega
    · go_wp2
      go_ret
      refine ⟨false, rfl, unhide HD, fun _ l hl => unhide HI l (by rw [List.take_of_length_le (by have := (unhide H).len; omega)]; exact hl)⟩

set_option maxRecDepth 100000 in
set_option maxHeartbeats 2000000 in
theorem repeat18 (a : Option Addr) (n c : Nat) (ll : List (List ByteArray)) (w : World) (hn : n ≤ 1048576) (h : Sll Value.string w a n ll) (hl : ∀ l, l ∈ ll → l.length ≤ 1048576) :
    Calls Try.prog 18 #[.slice a n c] w (Rep ll w) := by
  have H := hide h
  have HL := hide hl
  clear h hl
  go_enter Try.func18, Try.ntmps18
  go_wp2
  go_loopw [3, 4] (fun i _ wr => ∃ k : Nat, k ≤ n ∧ i = .int .i64 k ∧ Hid (Drawn w wr) ∧ Hid (∀ l, l ∈ ll.take k → NoAdj l)) (fun i _ _ => n - (intOf i).toNat)
  case atStart => exact ⟨0, Nat.zero_le _, rfl, Drawn.refl w, fun l hl => by simp at hl⟩
  case round =>
    obtain ⟨k, hk, rfl, HD, HI⟩ := hrel
    by_cases hlt : k < n
    · obtain ⟨b, off, l, a', c', ha, hl, hc, hsl, _⟩ := (unhide H).at k hlt
      have hll := unhide HL l (List.mem_of_getElem? hl)
      have Hl := hide hl
      have HSL := hide hsl
      have HC := hide hc
      clear hl hsl hc
      rw [ha]
      clear ha
      go_wp2
      go_loopw [4] (fun j wi => ∃ m : Nat, m ≤ l.length ∧ j = .int .i64 ((m : Int) + 1) ∧ Hid (Drawn w wi) ∧ Hid (∀ i x y, i < m → l[i]? = some x → l[i + 1]? = some y → x ≠ y)) (fun j _ => l.length + 1 - (intOf j).toNat)
      case atStart => exact ⟨0, Nat.zero_le _, rfl, HD, fun i x y hi => by omega⟩
      case round =>
        clear HD
        obtain ⟨m, hm, rfl, HD, HJ⟩ := hrel
        have hcw := ((unhide HD).cell _).trans (unhide HC)
        by_cases hlt2 : m + 1 < l.length
        · obtain ⟨b2, off2, x, ha2, hx2, hc2⟩ := (unhide HSL).at m (by omega)
          obtain ⟨b3, off3, y, ha3, hy3, hc3⟩ := (unhide HSL).at (m + 1) hlt2
          rw [ha2] at ha3
          cases ha3
          have hcx := ((unhide HD).cell _).trans hc2
          have hcy := ((unhide HD).cell _).trans hc3
          have Hx2 := hide hx2
          have Hy3 := hide hy3
          clear hx2 hy3 hc2 hc3
          rw [ha2] at hcw
          clear ha2
          have hwk := wrapk m (by omega)
          have hi0 : (0 : Int) ≤ (m : Int) := by omega
          have hi1 : (m : Int) < (l.length : Int) := by omega
          have hi2 : (0 : Int) ≤ (m : Int) + 1 := by omega
          have hi3 : (m : Int) + 1 < (l.length : Int) := by omega
          have hi4 : ((m : Int) + 1).toNat = m + 1 := by omega
          have hk1 : (k : Int) < (n : Int) := by omega
          by_cases hxy : x = y
          · have hbq : (x.toList == y.toList) = true := by rw [hxy]; simp
            clear hxy
            go_wp2
            go_quiet (fail)
            go_wp2
            go_ret
            exact ⟨true, rfl, (unhide HD).drewN _, fun h => by cases h⟩
          · have hbq : (x.toList == y.toList) = false := str_ne hxy
            have HJ2 : Hid (∀ i x y, i < m + 1 → l[i]? = some x → l[i + 1]? = some y → x ≠ y) := by
              intro i x' y' hi' hx' hy'
              by_cases e : i = m
              · subst e
                rw [unhide Hx2] at hx'
                rw [unhide Hy3] at hy'
                cases hx'
                cases hy'
                exact hxy
              · exact unhide HJ i x' y' (by omega) hx' hy'
            clear hxy
            go_wp2
            go_quiet (fail)
            go_wp2
            go_roundw
            case rel => exact ⟨m + 1, by omega, by go_num, (unhide HD).drewN _, HJ2⟩
            case measure => simp [intOf]; omega
        · have HI2 : Hid (∀ l, l ∈ ll.take (k + 1) → NoAdj l) := by
            intro l' hl'
            rcases mem_take_succ (unhide Hl) hl' with h' | rfl
            · exact unhide HI l' h'
            · intro j x y hx hy
              have := (List.getElem?_eq_some_iff.1 hy).1
              exact unhide HJ j x y (by omega) hx hy
          go_wp2
          go_roundw
          case rel => exact ⟨k + 1, by omega, by go_num, HD, HI2⟩
          case measure => simp [intOf]; omega
    · go_wp2
      go_ret
      refine ⟨false, rfl, unhide HD, fun _ l hl => unhide HI l (by rw [List.take_of_length_le (by have := (unhide H).len; omega)]; exact hl)⟩


end Go.Proofs.Qxb6605915a.Strs
