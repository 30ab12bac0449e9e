/- the last law's readers over slices of slices of whole numbers -/
import Derived.Test.Qxb6605915aSortS
namespace Go.Proofs.Qxb6605915a.Strs
open Go.ChangeShapes Go.WideShapes Go.ChangeAt Go.RowKit
set_option linter.unusedVariables false

set_option maxRecDepth 100000 in
set_option maxHeartbeats 8000000 in
theorem zzBytes10 (a : Option Addr) (n c : Nat) (ll : List (List Int)) (a2 : Option Addr) (n2 c2 : Nat) (ll2 : List (List ByteArray)) (a3 : Option Addr) (n3 c3 : Nat) (ll3 : List (List ByteArray)) (by' : Int) (any : Bool) (w : World)
    (hn : n ≤ maxLen) (hn2 : n2 ≤ maxLen) (hn3 : n3 ≤ maxLen) (h : Sll (Value.int .i64) w a n ll) (h2 : Sll Value.string w a2 n2 ll2) (h3 : Sll Value.string w a3 n3 ll3) (hl : ∀ l, l ∈ ll → l.length ≤ maxLen) (hl2 : ∀ l, l ∈ ll2 → l.length ≤ maxLen) (hl3 : ∀ l, l ∈ ll3 → l.length ≤ maxLen) :
    Calls Try.prog 10 #[.slice a n c, .slice a2 n2 c2, .slice a3 n3 c3, .int .i64 by', .bool any] w (Yes (n + ll.flatten.length + n2 + tot2 ll2 + n3 + tot2 ll3 ≤ 1048576) w) := by
  unfold maxLen at hn hn2 hn3
  have H := hide h
  have H2 := hide h2
  have H3 := hide h3
  have HL := hide hl
  have HL2 := hide hl2
  have HL3 := hide hl3
  clear h h2 h3 hl hl2 hl3
  by_cases h1 : 1048576 < n
  · go_enter Try.func10, Try.ntmps10
    go_wp2
    go_ret
    exact ⟨false, rfl, rfl, by simp⟩
  · go_enter Try.func10, Try.ntmps10
    go_wp2
    go_loop [11, 12] (fun z i => ∃ k : Nat, k ≤ n ∧ i = .int .i64 k ∧ z = .int .i64 ((n + (ll.take k).flatten.length : Nat) : Int) ∧ n + (ll.take k).flatten.length ≤ 1048576) (fun _ i => n - (intOf i).toNat)
    case atStart => exact ⟨0, Nat.zero_le _, rfl, by simp, by simp; omega⟩
    case round =>
      obtain ⟨k, hk, rfl, rfl, hb⟩ := hrel
      by_cases hlt : k < n
      · obtain ⟨b, off, l, a', c', ha, hl, hc, hsl, _⟩ := (unhide H).at k hlt
        have HT : Hid ((ll.take (k + 1)).flatten.length = (ll.take k).flatten.length + l.length) := by rw [flat_take_succ ll k l hl, List.length_append]; exact rfl
        have hll := unhide HL l (List.mem_of_getElem? hl)
        unfold maxLen at hll
        clear hl hsl
        rw [ha]
        clear ha
        generalize (ll.take k).flatten.length = T at *
        by_cases h2 : 1048576 < l.length
        · go_wp2
          go_ret
          exact ⟨false, rfl, rfl, by simp⟩
        · by_cases h3 : 1048576 < n + T + l.length
          · go_wp2
            go_ret
            exact ⟨false, rfl, rfl, by simp⟩
          · go_wp2
            go_round
            case rel => exact ⟨k + 1, by omega, by go_num, by rw [unhide HT]; go_num, by rw [unhide HT]; omega⟩
            case measure => simp [intOf]; omega
      · have e : ll.take k = ll := List.take_of_length_le (by have := (unhide H).len; omega)
        rw [e] at hb ⊢
        clear e
        obtain ⟨Z, hZ⟩ : ∃ Z : Nat, Z = n + ll.flatten.length := ⟨_, rfl⟩
        rw [← hZ] at hb ⊢
        have HZ := hide hZ
        clear hZ
        by_cases h1b : 1048576 < n2
        · go_wp2
          go_ret
          exact ⟨false, rfl, rfl, by simp⟩
        · by_cases h2b : 1048576 < Z + n2
          · go_wp2
            go_ret
            exact ⟨false, rfl, rfl, by simp⟩
          · go_wp2
            go_loop [11, 13, 14] (fun z i _ => ∃ k : Nat, k ≤ n2 ∧ i = .int .i64 k ∧ z = .int .i64 ((Z + n2 + tot2 (ll2.take k) : Nat) : Int) ∧ Z + n2 + tot2 (ll2.take k) ≤ 1048576) (fun _ i _ => n2 - (intOf i).toNat)
            case atStart => exact ⟨0, Nat.zero_le _, rfl, by simp [tot2], by simp [tot2]; omega⟩
            case round =>
              obtain ⟨k, hk, rfl, rfl, hb⟩ := hrel
              by_cases hlt : k < n2
              · obtain ⟨b, off, l, a', c', ha, hl, hc, hsl, _⟩ := (unhide H2).at k hlt
                have HT := hide (tot2_take_succ ll2 k l hl)
                have hll := unhide HL2 l (List.mem_of_getElem? hl)
                unfold maxLen at hll
                have HSL := hide hsl
                clear hl hsl
                rw [ha]
                clear ha
                generalize tot2 (ll2.take k) = T at *
                by_cases h2 : 1048576 < l.length
                · go_wp2
                  go_ret
                  exact ⟨false, rfl, rfl, by simp⟩
                · by_cases h3 : 1048576 < Z + n2 + T + l.length
                  · go_wp2
                    go_ret
                    exact ⟨false, rfl, rfl, by simp⟩
                  · go_wp2
                    go_loop [11, 14] (fun z j => ∃ m : Nat, m ≤ l.length ∧ j = .int .i64 m ∧ z = .int .i64 ((Z + n2 + T + l.length + tot (l.take m) : Nat) : Int) ∧ Z + n2 + T + l.length + tot (l.take m) ≤ 1048576) (fun _ j => l.length - (intOf j).toNat)
                    case atStart => exact ⟨0, Nat.zero_le _, rfl, by simp [tot], by simp [tot]; omega⟩
                    case round =>
                      obtain ⟨m, hm, rfl, rfl, hb2⟩ := hrel
                      by_cases hlt2 : m < l.length
                      · obtain ⟨b2, off2, x, ha2, hx, hc2⟩ := (unhide HSL).at m hlt2
                        have HT2 := hide (tot_take_succ l m x hx)
                        clear hx
                        rw [ha2] at hc
                        clear ha2
                        generalize tot (l.take m) = T2 at *
                        by_cases h4 : 1048576 < x.size
                        · go_wp2
                          go_ret
                          exact ⟨false, rfl, rfl, by simp⟩
                        · by_cases h5 : 1048576 < Z + n2 + T + l.length + T2 + x.size
                          · go_wp2
                            go_ret
                            exact ⟨false, rfl, rfl, by simp⟩
                          · go_wp2
                            go_round
                            case rel => exact ⟨m + 1, by omega, by go_num, by rw [unhide HT2]; go_num, by rw [unhide HT2]; omega⟩
                            case measure => simp [intOf]; omega
                      · have e : l.take m = l := List.take_of_length_le (by omega)
                        rw [e] at hb2 ⊢
                        clear e
                        go_wp2
                        go_round
                        case rel => exact ⟨k + 1, by omega, by go_num, by rw [unhide HT]; go_num, by rw [unhide HT]; omega⟩
                        case measure => simp [intOf]; omega
              · have e : ll2.take k = ll2 := List.take_of_length_le (by have := (unhide H2).len; omega)
                rw [e] at hb ⊢
                clear e
                obtain ⟨Z2, hZ2⟩ : ∃ Z2 : Nat, Z2 = Z + n2 + tot2 ll2 := ⟨_, rfl⟩
                rw [← hZ2] at hb ⊢
                have HZ2 := hide hZ2
                clear hZ2
                by_cases h1c : 1048576 < n3
                · go_wp2
                  go_ret
                  exact ⟨false, rfl, rfl, by simp⟩
                · by_cases h2c : 1048576 < Z2 + n3
                  · go_wp2
                    go_ret
                    exact ⟨false, rfl, rfl, by simp⟩
                  · go_wp2
                    go_loop [11, 15, 16] (fun z i _ => ∃ k : Nat, k ≤ n3 ∧ i = .int .i64 k ∧ z = .int .i64 ((Z2 + n3 + tot2 (ll3.take k) : Nat) : Int) ∧ Z2 + n3 + tot2 (ll3.take k) ≤ 1048576) (fun _ i _ => n3 - (intOf i).toNat)
                    case atStart => exact ⟨0, Nat.zero_le _, rfl, by simp [tot2], by simp [tot2]; omega⟩
                    case round =>
                      obtain ⟨k, hk, rfl, rfl, hb⟩ := hrel
                      by_cases hlt : k < n3
                      · obtain ⟨b, off, l, a', c', ha, hl, hc, hsl, _⟩ := (unhide H3).at k hlt
                        have HT := hide (tot2_take_succ ll3 k l hl)
                        have hll := unhide HL3 l (List.mem_of_getElem? hl)
                        unfold maxLen at hll
                        have HSL := hide hsl
                        clear hl hsl
                        rw [ha]
                        clear ha
                        generalize tot2 (ll3.take k) = T at *
                        by_cases h2 : 1048576 < l.length
                        · go_wp2
                          go_ret
                          exact ⟨false, rfl, rfl, by simp⟩
                        · by_cases h3 : 1048576 < Z2 + n3 + T + l.length
                          · go_wp2
                            go_ret
                            exact ⟨false, rfl, rfl, by simp⟩
                          · go_wp2
                            go_loop [11, 16] (fun z j => ∃ m : Nat, m ≤ l.length ∧ j = .int .i64 m ∧ z = .int .i64 ((Z2 + n3 + T + l.length + tot (l.take m) : Nat) : Int) ∧ Z2 + n3 + T + l.length + tot (l.take m) ≤ 1048576) (fun _ j => l.length - (intOf j).toNat)
                            case atStart => exact ⟨0, Nat.zero_le _, rfl, by simp [tot], by simp [tot]; omega⟩
                            case round =>
                              obtain ⟨m, hm, rfl, rfl, hb2⟩ := hrel
                              by_cases hlt2 : m < l.length
                              · obtain ⟨b2, off2, x, ha2, hx, hc2⟩ := (unhide HSL).at m hlt2
                                have HT2 := hide (tot_take_succ l m x hx)
                                clear hx
                                rw [ha2] at hc
                                clear ha2
                                generalize tot (l.take m) = T2 at *
                                by_cases h4 : 1048576 < x.size
                                · go_wp2
                                  go_ret
                                  exact ⟨false, rfl, rfl, by simp⟩
                                · by_cases h5 : 1048576 < Z2 + n3 + T + l.length + T2 + x.size
                                  · go_wp2
                                    go_ret
                                    exact ⟨false, rfl, rfl, by simp⟩
                                  · go_wp2
                                    go_round
                                    case rel => exact ⟨m + 1, by omega, by go_num, by rw [unhide HT2]; go_num, by rw [unhide HT2]; omega⟩
                                    case measure => simp [intOf]; omega
                              · have e : l.take m = l := List.take_of_length_le (by omega)
                                rw [e] at hb2 ⊢
                                clear e
                                go_wp2
                                go_round
                                case rel => exact ⟨k + 1, by omega, by go_num, by rw [unhide HT]; go_num, by rw [unhide HT]; omega⟩
                                case measure => simp [intOf]; omega
                      · have e : ll3.take k = ll3 := List.take_of_length_le (by have := (unhide H3).len; omega)
                        rw [e] at hb ⊢
                        clear e
                        go_wp2
                        go_ret
                        refine ⟨true, rfl, rfl, fun _ => ?_⟩
                        have := unhide HZ
                        have := unhide HZ2
                        have hlf : ll.flatten.length = (ll.map List.length).sum := List.length_flatten
                        omega

set_option maxRecDepth 100000 in
set_option maxHeartbeats 800000 in
theorem size11 (a : Option Addr) (n c : Nat) (ll : List (List Int)) (w : World) (hn : n ≤ 1048576) (h : Sll (Value.int .i64) w a n ll) (hl : ∀ l, l ∈ ll → l.length ≤ 1048576) :
    Calls Try.prog 11 #[.slice a n c] w fun e w' => ∃ r : Int, e = .returned (.int .i64 r) ∧ w' = w ∧ 0 ≤ r ∧ r ≤ 33554432 := by
  have H := hide h
  have HL := hide hl
  clear h hl
  go_enter Try.func11, Try.ntmps11
  go_wp2
  go_loop [3, 4] (fun z i => ∃ (k : Nat) (t : Int), k ≤ n ∧ i = .int .i64 k ∧ z = .int .i64 t ∧ 0 ≤ t ∧ t ≤ 33554432) (fun _ i => n - (intOf i).toNat)
  case atStart => exact ⟨0, _, Nat.zero_le _, rfl, rfl, by omega, by omega⟩
  case round =>
    obtain ⟨k, t, hk, rfl, rfl, hb0, hb1⟩ := hrel
    by_cases hlt : k < n
    · obtain ⟨b, off, l, a', c', ha, hl, hc, hsl, _⟩ := (unhide H).at k hlt
      have hll := unhide HL l (List.mem_of_getElem? hl)
      clear hl hsl
      rw [ha]
      clear ha
      by_cases h3 : 1048576 < t + 8 * l.length
      · go_wp2
        go_ret
        exact ⟨_, rfl, rfl, by omega, by omega⟩
      · go_wp2
        go_round
        case rel => exact ⟨k + 1, _, by omega, by go_num, rfl, by omega, by omega⟩
        case measure => simp [intOf]; omega
    · go_wp2
      go_ret
      exact ⟨_, rfl, rfl, by omega, by omega⟩

set_option maxRecDepth 100000 in
set_option maxHeartbeats 800000 in
theorem count22 (a : Option Addr) (n c : Nat) (ll : List (List Int)) (w : World) (hn : n ≤ 1048576) (h : Sll (Value.int .i64) w a n ll) (hN : ll.flatten.length ≤ 1048576) :
    Calls Try.prog 22 #[.slice a n c] w fun e w' => e = .returned (.int .i64 (ll.flatten.length : Nat)) ∧ w' = w := by
  have H := hide h
  clear h
  go_enter Try.func22, Try.ntmps22
  go_wp2
  go_loop [3, 4] (fun z i => ∃ k : Nat, k ≤ n ∧ i = .int .i64 k ∧ z = .int .i64 (((ll.take k).flatten.length : Nat) : Int)) (fun _ i => n - (intOf i).toNat)
  case atStart => exact ⟨0, Nat.zero_le _, rfl, rfl⟩
  case round =>
    obtain ⟨k, hk, rfl, rfl⟩ := hrel
    by_cases hlt : k < n
    · obtain ⟨b, off, l, a', c', ha, hl, hc, hsl, _⟩ := (unhide H).at k hlt
      have hle := flat_take_le ll (k + 1)
      rw [flat_take_succ ll k l hl, List.length_append] at hle
      have HF : Hid ((ll.take (k + 1)).flatten.length = (ll.take k).flatten.length + l.length) := by rw [flat_take_succ ll k l hl, List.length_append]; exact rfl
      clear hl hsl
      rw [ha]
      clear ha
      generalize (ll.take k).flatten.length = T at *
      go_wp2
      go_round
      case rel => exact ⟨k + 1, by omega, by go_num, by rw [unhide HF]; go_num⟩
      case measure => simp [intOf]; omega
    · have e : ll.take k = ll := List.take_of_length_le (by have := (unhide H).len; omega)
      rw [e]
      clear e
      go_wp2
      go_ret
      exact ⟨rfl, rfl⟩

end Go.Proofs.Qxb6605915a.Strs
