/- SLICES OF SLICES OF STRINGS: the law's readers and copiers (zzBytes, sizeStrs, copyStrs2, countStrs, flatten) -/
import Derived.Test.Qxb6605915aLaw6Aid
namespace Go.Proofs.Qxb6605915a.Strs
open Go.ChangeShapes Go.WideShapes Go.ChangeAt Go.RowKit
set_option linter.unusedVariables false

/-- how many strings and bytes the lists hold -/
def tot2 (ll : List (List ByteArray)) : Nat := (ll.map fun l => l.length + tot l).foldr (· + ·) 0

theorem tot2_append (a b : List (List ByteArray)) : tot2 (a ++ b) = tot2 a + tot2 b := by
  induction a with
  | nil => simp [tot2]
  | cons x a ih => simp only [tot2, List.cons_append, List.map_cons, List.foldr_cons] at *; omega

theorem tot2_take_succ (ll : List (List ByteArray)) (k : Nat) (l : List ByteArray) (h : ll[k]? = some l) : tot2 (ll.take (k + 1)) = tot2 (ll.take k) + (l.length + tot l) := by
  rw [List.take_add_one, h, tot2_append]; simp [tot2]

theorem tot2_flat (ll : List (List ByteArray)) : ll.flatten.length + tot ll.flatten = tot2 ll := by
  induction ll with
  | nil => rfl
  | cons x a ih =>
    rw [List.flatten_cons, List.length_append, tot_append]
    have e : tot2 (x :: a) = (x.length + tot x) + tot2 a := rfl
    rw [e, ← ih]; omega

theorem tot2_mem {ll : List (List ByteArray)} {l : List ByteArray} (h : l ∈ ll) : l.length + tot l ≤ tot2 ll := by
  induction ll with
  | nil => cases h
  | cons x a ih =>
    have e : tot2 (x :: a) = (x.length + tot x) + tot2 a := rfl
    rcases List.mem_cons.1 h with rfl | h
    · omega
    · have := ih h; omega

set_option maxRecDepth 100000 in
set_option maxHeartbeats 2000000 in
theorem zzBytes29 (a : Option Addr) (n c : Nat) (ll : List (List ByteArray)) (a2 : Option Addr) (n2 c2 : Nat) (ll2 : List (List ByteArray)) (by' : Int) (w : World)
    (hn : n ≤ maxLen) (hn2 : n2 ≤ maxLen) (h : Sll Value.string w a n ll) (h2 : Sll Value.string w a2 n2 ll2) (hl : ∀ l, l ∈ ll → l.length ≤ maxLen) (hl2 : ∀ l, l ∈ ll2 → l.length ≤ maxLen) :
    Calls Try.prog 29 #[.slice a n c, .slice a2 n2 c2, .int .i64 by'] w (Yes (n + tot2 ll + n2 + tot2 ll2 ≤ 1048576) w) := by
  unfold maxLen at hn hn2
  have H := hide h
  have H2 := hide h2
  have HL := hide hl
  have HL2 := hide hl2
  clear h h2 hl hl2
  by_cases h1 : 1048576 < n
  · go_enter Try.func29, Try.ntmps29
    go_wp2
    go_ret
    exact ⟨false, rfl, rfl, by simp⟩
  · go_enter Try.func29, Try.ntmps29
    go_wp2
    go_loop [7, 8, 9] (fun z i _ => ∃ k : Nat, k ≤ n ∧ i = .int .i64 k ∧ z = .int .i64 ((n + tot2 (ll.take k) : Nat) : Int) ∧ n + tot2 (ll.take k) ≤ 1048576) (fun _ i _ => n - (intOf i).toNat)
    case atStart => exact ⟨0, Nat.zero_le _, rfl, by simp [tot2], by simp [tot2]; omega⟩
    case round =>
      obtain ⟨k, hk, rfl, rfl, hb⟩ := hrel
      by_cases hlt : k < n
      · obtain ⟨b, off, l, a', c', ha, hl, hc, hsl, _⟩ := (unhide H).at k hlt
        have HT := hide (tot2_take_succ ll k l hl)
        have hll := unhide HL l (List.mem_of_getElem? hl)
        unfold maxLen at hll
        have HSL := hide hsl
        clear hl hsl
        rw [ha]
        clear ha
        generalize tot2 (ll.take k) = T at *
        by_cases h2 : 1048576 < l.length
        · go_wp2
          go_ret
          exact ⟨false, rfl, rfl, by simp⟩
        · by_cases h3 : 1048576 < n + T + l.length
          · go_wp2
            go_ret
            exact ⟨false, rfl, rfl, by simp⟩
          · go_wp2
            go_loop [7, 9] (fun z j => ∃ m : Nat, m ≤ l.length ∧ j = .int .i64 m ∧ z = .int .i64 ((n + T + l.length + tot (l.take m) : Nat) : Int) ∧ n + T + l.length + tot (l.take m) ≤ 1048576) (fun _ j => l.length - (intOf j).toNat)
            case atStart => exact ⟨0, Nat.zero_le _, rfl, by simp [tot], by simp [tot]; omega⟩
            case round =>
              obtain ⟨m, hm, rfl, rfl, hb2⟩ := hrel
              by_cases hlt2 : m < l.length
              · obtain ⟨b2, off2, x, ha2, hx, hc2⟩ := (unhide HSL).at m hlt2
                have HT2 := hide (tot_take_succ l m x hx)
                clear hx
                rw [ha2] at hc
                clear ha2
                generalize tot (l.take m) = T2 at *
                by_cases h4 : 1048576 < x.size
                · go_wp2
                  go_ret
                  exact ⟨false, rfl, rfl, by simp⟩
                · by_cases h5 : 1048576 < n + T + l.length + T2 + x.size
                  · go_wp2
                    go_ret
                    exact ⟨false, rfl, rfl, by simp⟩
                  · go_wp2
                    go_round
                    case rel => exact ⟨m + 1, by omega, by go_num, by rw [unhide HT2]; go_num, by rw [unhide HT2]; omega⟩
                    case measure => simp [intOf]; omega
              · have e : l.take m = l := List.take_of_length_le (by omega)
                rw [e] at hb2 ⊢
                clear e
                go_wp2
                go_round
                case rel => exact ⟨k + 1, by omega, by go_num, by rw [unhide HT]; go_num, by rw [unhide HT]; omega⟩
                case measure => simp [intOf]; omega
      · have e : ll.take k = ll := List.take_of_length_le (by have := (unhide H).len; omega)
        rw [e] at hb ⊢
        clear e
        obtain ⟨Z, hZ⟩ : ∃ Z : Nat, Z = n + tot2 ll := ⟨_, rfl⟩
        rw [← hZ] at hb ⊢
        have HZ := hide hZ
        clear hZ
        by_cases h1b : 1048576 < n2
        · go_wp2
          go_ret
          exact ⟨false, rfl, rfl, by simp⟩
        · by_cases h1c : 1048576 < Z + n2
          · go_wp2
            go_ret
            exact ⟨false, rfl, rfl, by simp⟩
          · go_wp2
            go_loop [7, 10, 11] (fun z i _ => ∃ k : Nat, k ≤ n2 ∧ i = .int .i64 k ∧ z = .int .i64 ((Z + n2 + tot2 (ll2.take k) : Nat) : Int) ∧ Z + n2 + tot2 (ll2.take k) ≤ 1048576) (fun _ i _ => n2 - (intOf i).toNat)
            case atStart => exact ⟨0, Nat.zero_le _, rfl, by simp [tot2], by simp [tot2]; omega⟩
            case round =>
              obtain ⟨k, hk, rfl, rfl, hb⟩ := hrel
              by_cases hlt : k < n2
              · obtain ⟨b, off, l, a', c', ha, hl, hc, hsl, _⟩ := (unhide H2).at k hlt
                have HT := hide (tot2_take_succ ll2 k l hl)
                have hll := unhide HL2 l (List.mem_of_getElem? hl)
                unfold maxLen at hll
                have HSL := hide hsl
                clear hl hsl
                rw [ha]
                clear ha
                generalize tot2 (ll2.take k) = T at *
                by_cases h2 : 1048576 < l.length
                · go_wp2
                  go_ret
                  exact ⟨false, rfl, rfl, by simp⟩
                · by_cases h3 : 1048576 < Z + n2 + T + l.length
                  · go_wp2
                    go_ret
                    exact ⟨false, rfl, rfl, by simp⟩
                  · go_wp2
                    go_loop [7, 11] (fun z j => ∃ m : Nat, m ≤ l.length ∧ j = .int .i64 m ∧ z = .int .i64 ((Z + n2 + T + l.length + tot (l.take m) : Nat) : Int) ∧ Z + n2 + T + l.length + tot (l.take m) ≤ 1048576) (fun _ j => l.length - (intOf j).toNat)
                    case atStart => exact ⟨0, Nat.zero_le _, rfl, by simp [tot], by simp [tot]; omega⟩
                    case round =>
                      obtain ⟨m, hm, rfl, rfl, hb2⟩ := hrel
                      by_cases hlt2 : m < l.length
                      · obtain ⟨b2, off2, x, ha2, hx, hc2⟩ := (unhide HSL).at m hlt2
                        have HT2 := hide (tot_take_succ l m x hx)
                        clear hx
                        rw [ha2] at hc
                        clear ha2
                        generalize tot (l.take m) = T2 at *
                        by_cases h4 : 1048576 < x.size
                        · go_wp2
                          go_ret
                          exact ⟨false, rfl, rfl, by simp⟩
                        · by_cases h5 : 1048576 < Z + n2 + T + l.length + T2 + x.size
                          · go_wp2
                            go_ret
                            exact ⟨false, rfl, rfl, by simp⟩
                          · go_wp2
                            go_round
                            case rel => exact ⟨m + 1, by omega, by go_num, by rw [unhide HT2]; go_num, by rw [unhide HT2]; omega⟩
                            case measure => simp [intOf]; omega
                      · have e : l.take m = l := List.take_of_length_le (by omega)
                        rw [e] at hb2 ⊢
                        clear e
                        go_wp2
                        go_round
                        case rel => exact ⟨k + 1, by omega, by go_num, by rw [unhide HT]; go_num, by rw [unhide HT]; omega⟩
                        case measure => simp [intOf]; omega
              · have e : ll2.take k = ll2 := List.take_of_length_le (by have := (unhide H2).len; omega)
                rw [e] at hb
                clear e
                go_wp2
                go_ret
                refine ⟨true, rfl, rfl, fun _ => ?_⟩
                rw [← unhide HZ]
                exact hb

set_option maxRecDepth 100000 in
set_option maxHeartbeats 800000 in
/-- sizeStrList tells a number that is not great -/
theorem size34b (a : Option Addr) (n c : Nat) (l : List ByteArray) (w : World) (hn : n ≤ 1048576) (h : Sl Value.string w a n l) :
    Calls Try.prog 34 #[.slice a n c] w fun e w' => ∃ r : Int, e = .returned (.int .i64 r) ∧ w' = w ∧ 0 ≤ r ∧ r ≤ 33554432 := by
  have H := hide h
  clear h
  go_enter Try.func34, Try.ntmps34
  go_wp2
  go_loop [3, 4] (fun z i => ∃ (k : Nat) (t : Int), k ≤ n ∧ i = .int .i64 k ∧ z = .int .i64 t ∧ 0 ≤ t ∧ t ≤ 16777216) (fun _ i => n - (intOf i).toNat)
  case atStart => exact ⟨0, _, Nat.zero_le _, rfl, rfl, by omega, by omega⟩
  case round =>
    obtain ⟨k, t, hk, rfl, rfl, hb0, hb1⟩ := hrel
    by_cases hlt : k < n
    · obtain ⟨b, off, x, ha, hx, hc⟩ := (unhide H).at k hlt
      clear hx
      rw [ha]
      clear ha
      by_cases h2 : 1048576 < x.size
      · go_wp2
        go_ret
        exact ⟨_, rfl, rfl, by omega, by omega⟩
      · by_cases h3 : 1048576 < t + x.size
        · go_wp2
          go_ret
          exact ⟨_, rfl, rfl, by omega, by omega⟩
        · go_wp2
          go_round
          case rel => exact ⟨k + 1, _, by omega, by go_num, rfl, by omega, by omega⟩
          case measure => simp [intOf]; omega
    · go_wp2
      go_ret
      exact ⟨_, rfl, rfl, by omega, by omega⟩

set_option maxRecDepth 100000 in
set_option maxHeartbeats 800000 in
theorem size12 (a : Option Addr) (n c : Nat) (ll : List (List ByteArray)) (w : World) (hn : n ≤ 1048576) (h : Sll Value.string w a n ll) (hl : ∀ l, l ∈ ll → l.length ≤ 1048576) :
    Calls Try.prog 12 #[.slice a n c] w fun e w' => ∃ r : Int, e = .returned (.int .i64 r) ∧ w' = w ∧ 0 ≤ r ∧ r ≤ 33554432 := by
  have H := hide h
  have HL := hide hl
  clear h hl
  go_enter Try.func12, Try.ntmps12
  go_wp2
  go_loop [3, 4] (fun z i => ∃ (k : Nat) (t : Int), k ≤ n ∧ i = .int .i64 k ∧ z = .int .i64 t ∧ 0 ≤ t ∧ t ≤ 33554432) (fun _ i => n - (intOf i).toNat)
  case atStart => exact ⟨0, _, Nat.zero_le _, rfl, rfl, by omega, by omega⟩
  case round =>
    obtain ⟨k, t, hk, rfl, rfl, hb0, hb1⟩ := hrel
    by_cases hlt : k < n
    · obtain ⟨b, off, l, a', c', ha, hl, hc, hsl, _⟩ := (unhide H).at k hlt
      have hll := unhide HL l (List.mem_of_getElem? hl)
      have HSL := hide hsl
      clear hl hsl
      rw [ha]
      clear ha
      go_wp2_with fail
      refine (size34b a' l.length c' l w hll (unhide HSL)).mono ?_
      rintro _ _ ⟨r, rfl, rfl, hr0, hr1⟩
      by_cases h3 : 1048576 < t + r
      · go_wp2
        go_ret
        exact ⟨_, rfl, rfl, by omega, by omega⟩
      · go_wp2
        go_round
        case rel => exact ⟨k + 1, _, by omega, by go_num, rfl, by omega, by omega⟩
        case measure => simp [intOf]; omega
    · go_wp2
      go_ret
      exact ⟨_, rfl, rfl, by omega, by omega⟩

set_option maxRecDepth 100000 in
set_option maxHeartbeats 800000 in
theorem count25 (a : Option Addr) (n c : Nat) (ll : List (List ByteArray)) (w : World) (hn : n ≤ 1048576) (h : Sll Value.string w a n ll) (hN : ll.flatten.length ≤ 1048576) :
    Calls Try.prog 25 #[.slice a n c] w fun e w' => e = .returned (.int .i64 (ll.flatten.length : Nat)) ∧ w' = w := by
  have H := hide h
  clear h
  go_enter Try.func25, Try.ntmps25
  go_wp2
  go_loop [3, 4] (fun z i => ∃ k : Nat, k ≤ n ∧ i = .int .i64 k ∧ z = .int .i64 (((ll.take k).flatten.length : Nat) : Int)) (fun _ i => n - (intOf i).toNat)
  case atStart => exact ⟨0, Nat.zero_le _, rfl, rfl⟩
  case round =>
    obtain ⟨k, hk, rfl, rfl⟩ := hrel
    by_cases hlt : k < n
    · obtain ⟨b, off, l, a', c', ha, hl, hc, hsl, _⟩ := (unhide H).at k hlt
      have hle := flat_take_le ll (k + 1)
      rw [flat_take_succ ll k l hl, List.length_append] at hle
      have HF : Hid ((ll.take (k + 1)).flatten.length = (ll.take k).flatten.length + l.length) := by rw [flat_take_succ ll k l hl, List.length_append]; exact rfl
      clear hl hsl
      rw [ha]
      clear ha
      generalize (ll.take k).flatten.length = T at *
      go_wp2
      go_round
      case rel => exact ⟨k + 1, by omega, by go_num, by rw [unhide HF]; go_num⟩
      case measure => simp [intOf]; omega
    · have e : ll.take k = ll := List.take_of_length_le (by have := (unhide H).len; omega)
      rw [e]
      clear e
      go_wp2
      go_ret
      exact ⟨rfl, rfl⟩

end Go.Proofs.Qxb6605915a.Strs
