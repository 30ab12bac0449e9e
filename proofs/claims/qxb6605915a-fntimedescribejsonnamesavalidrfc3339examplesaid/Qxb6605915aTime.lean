import Derived.Test.Qxb6605915aRows
import Derived.WalkKit
import Derived.ProofKit
import Derived.OpenShut
import Derived.ShutString
import Derived.WalkLawsBesides
import Derived.WalkSpells
import Derived.Deep.QuietTactic
import Derived.BigQuiet
import Derived.LoopTactic
namespace Go.Proofs.Qxb6605915a.Time
open Go.ChangeShapes Go.WideShapes Go.ChangeAt Go.RowKit
set_option linter.unusedVariables false

theorem hide {p : Prop} (h : p) : Hid p := h
theorem unhide {p : Prop} (h : Hid p) : p := h

def AllDig (s : ByteArray) (a n : Nat) : Prop := ∀ i (h : i < s.size), a ≤ i → i < a + n → 48 ≤ (s[i].toNat : Int) ∧ (s[i].toNat : Int) ≤ 57

set_option maxHeartbeats 400000 in
theorem digits_yes (s : ByteArray) (a n : Nat) (w : World) (hs : s.size ≤ maxLen) (ha : a + n ≤ s.size) (hd : Hid (AllDig s a n)) :
    Calls Try.prog 53 #[.string s, .int .i64 a, .int .i64 n] w fun e w' => e = .returned (.bool true) ∧ w' = w := by
  unfold maxLen at hs
  go_enter Try.func53, Try.ntmps53
  go_wp2
  go_loop [7] (fun i => ∃ k : Nat, a ≤ k ∧ k ≤ a + n ∧ i = .int .i64 k) (fun i => a + n - (intOf i).toNat)
  case atStart => exact ⟨a, Nat.le_refl _, by omega, rfl⟩
  case round =>
    obtain ⟨k, hk1, hk2, rfl⟩ := hrel
    by_cases hlt : k < a + n
    · have hks : k < s.size := by omega
      have h1 := (unhide hd k hks hk1 hlt).1
      have h2 := (unhide hd k hks hk1 hlt).2
      go_wp2
      go_round
      case rel => exact ⟨k + 1, by omega, by omega, by go_num⟩
      case measure => simp [intOf]; omega
    · go_wp2
      go_ret
      exact ⟨rfl, rfl⟩

def numTo (s : ByteArray) (a : Nat) : Nat → Int
  | 0 => 0
  | j + 1 => numTo s a j * 10 + (((s.data.toList.getD (a + j) 0).toNat : Int) - 48)

theorem getD_at (s : ByteArray) (i : Nat) (h : i < s.size) : s.data.toList.getD i 0 = s[i] := by
  have h' : i < s.data.toList.length := by simpa using h
  rw [List.getD_eq_getElem?_getD, List.getElem?_eq_getElem h']; rfl

theorem dig_at {s : ByteArray} {a n : Nat} (hd : AllDig s a n) (ha : a + n ≤ s.size) (j : Nat) (hj : j < n) :
    48 ≤ ((s.data.toList.getD (a + j) 0).toNat : Int) ∧ ((s.data.toList.getD (a + j) 0).toNat : Int) ≤ 57 := by
  rw [getD_at s (a + j) (by omega)]
  exact hd (a + j) (by omega) (by omega) (by omega)

theorem numTo_bd {s : ByteArray} {a n : Nat} (hd : AllDig s a n) (ha : a + n ≤ s.size) (hn : n ≤ 4) (j : Nat) (hj : j < n) :
    0 ≤ numTo s a j ∧ numTo s a j ≤ 999 := by
  have d := fun i hi => dig_at hd ha i hi
  match j, hj with
  | 0, _ => simp [numTo]
  | 1, h => have := d 0 (by omega); simp only [numTo]; omega
  | 2, h => have := d 0 (by omega); have := d 1 (by omega); simp only [numTo]; omega
  | 3, h => have := d 0 (by omega); have := d 1 (by omega); have := d 2 (by omega); simp only [numTo]; omega
  | j + 4, h => omega

theorem ret_i64 {a b : Int} (h : a = b) : Ending.returned (.int .i64 a) = .returned (.int .i64 b) := by rw [h]

set_option maxHeartbeats 400000 in
theorem number_any (s : ByteArray) (a n : Nat) (w : World) (hs : s.size ≤ maxLen) (ha : a + n ≤ s.size) (hn : n ≤ 4) (hd : Hid (AllDig s a n)) :
    Calls Try.prog 54 #[.string s, .int .i64 a, .int .i64 n] w fun e w' => e = .returned (.int .i64 (numTo s a n)) ∧ w' = w := by
  unfold maxLen at hs
  go_enter Try.func54, Try.ntmps54
  go_wp2
  go_loop [7, 8] (fun v i => ∃ j : Nat, j ≤ n ∧ i = .int .i64 ((a + j : Nat) : Int) ∧ v = .int .i64 (numTo s a j)) (fun _ i => a + n - (intOf i).toNat)
  case atStart => exact ⟨0, Nat.zero_le _, rfl, rfl⟩
  case round =>
    obtain ⟨j, hj, rfl, rfl⟩ := hrel
    by_cases hlt : j < n
    · have hks : a + j < s.size := by omega
      have h1 := (unhide hd (a + j) hks (by omega) (by omega)).1
      have h2 := (unhide hd (a + j) hks (by omega) (by omega)).2
      have b := numTo_bd hd ha hn j hlt
      obtain ⟨b1, b2⟩ := b
      have HE : Hid (numTo s a (j + 1) = numTo s a j * 10 + ((s[a + j].toNat : Int) - 48)) := by
        refine hide ?_
        rw [numTo, getD_at s (a + j) hks]
      go_wp2
      go_round
      case rel => exact ⟨j + 1, by omega, by go_num, by rw [unhide HE]⟩
      case measure => simp [intOf]; omega
    · obtain rfl : j = n := by omega
      go_wp2
      go_ret
      exact ⟨rfl, rfl⟩

theorem days_10 (y : Int) (w : World) : Calls Try.prog 55 #[.int .i64 y, .int .i64 10] w fun e w' => e = .returned (.int .i64 31) ∧ w' = w := by
  go_enter Try.func55, Try.ntmps55
  go_wp2
  go_ret
  exact ⟨rfl, rfl⟩

/-- where 'sub' is first met in s -/
def FirstAt (s sub : ByteArray) (p : Nat) : Prop :=
  ((s.extract p (p + sub.size)).toList == sub.toList) = true ∧ ∀ i, i < p → ((s.extract i (i + sub.size)).toList == sub.toList) = false

set_option maxHeartbeats 400000 in
theorem index_first (s sub : ByteArray) (p : Nat) (w : World) (hs : s.size ≤ maxLen) (hp : p + sub.size ≤ s.size) (hf : Hid (FirstAt s sub p)) :
    Calls Try.prog 42 #[.string s, .string sub] w fun e w' => e = .returned (.int .i64 p) ∧ w' = w := by
  unfold maxLen at hs
  go_enter Try.func42, Try.ntmps42
  go_wp2
  go_loop [5] (fun i => ∃ k : Nat, k ≤ p ∧ i = .int .i64 k) (fun i => p - (intOf i).toNat)
  case atStart => exact ⟨0, Nat.zero_le _, rfl⟩
  case round =>
    obtain ⟨k, hk, rfl⟩ := hrel
    by_cases hlt : k < p
    · have hn := (unhide hf).2 k hlt
      go_wp2
      go_round
      case rel => exact ⟨k + 1, by omega, by go_num⟩
      case measure => simp [intOf]; omega
    · obtain rfl : k = p := by omega
      have hn := (unhide hf).1
      go_wp2
      go_ret
      exact ⟨rfl, rfl⟩

/-- the example's 20 bytes -/
def exT : ByteArray := ⟨#[50, 48, 50, 54, 45, 49, 48, 45, 49, 52, 84, 49, 48, 58, 48, 48, 58, 48, 48, 90]⟩

theorem exT_size : exT.size = 20 := rfl
theorem exT_dig (a n : Nat) (h : ∀ i, i < n → 48 ≤ (exT.data.toList.getD (a + i) 0).toNat ∧ (exT.data.toList.getD (a + i) 0).toNat ≤ 57) : AllDig exT a n := by
  intro i hi h1 h2
  have := h (i - a) (by omega)
  rw [show a + (i - a) = i from by omega, getD_at exT i hi] at this
  omega
theorem exT_d04 : AllDig exT 0 4 := exT_dig 0 4 (by decide)
theorem exT_d52 : AllDig exT 5 2 := exT_dig 5 2 (by decide)
theorem exT_d82 : AllDig exT 8 2 := exT_dig 8 2 (by decide)
theorem exT_d11 : AllDig exT 11 2 := exT_dig 11 2 (by decide)
theorem exT_d14 : AllDig exT 14 2 := exT_dig 14 2 (by decide)
theorem exT_d17 : AllDig exT 17 2 := exT_dig 17 2 (by decide)
theorem exT_n04 : numTo exT 0 4 = 2026 := by decide
theorem exT_n52 : numTo exT 5 2 = 10 := by decide
theorem exT_n82 : numTo exT 8 2 = 14 := by decide
theorem exT_n11 : numTo exT 11 2 = 10 := by decide
theorem exT_n14 : numTo exT 14 2 = 0 := by decide
theorem exT_n17 : numTo exT 17 2 = 0 := by decide

theorem dgs (A N : Int) (a n : Nat) (hA : A = a) (hN : N = n) (w : World) (ha : a + n ≤ 20) (hd : Hid (AllDig exT a n)) :
    Calls Try.prog 53 #[.string exT, .int .i64 A, .int .i64 N] w fun e w' => e = .returned (.bool true) ∧ w' = w := by
  subst hA hN
  exact digits_yes exT a n w (by rw [exT_size]; decide) ha hd

theorem nums (A N v : Int) (a n : Nat) (hA : A = a) (hN : N = n) (w : World) (ha : a + n ≤ 20) (hn : n ≤ 4) (hd : Hid (AllDig exT a n)) (hv : Hid (numTo exT a n = v)) :
    Calls Try.prog 54 #[.string exT, .int .i64 A, .int .i64 N] w fun e w' => e = .returned (.int .i64 v) ∧ w' = w := by
  subst hA hN
  have h := number_any exT a n w (by rw [exT_size]; decide) ha hn hd
  rw [unhide hv] at h
  exact h

set_option maxRecDepth 100000 in
set_option maxHeartbeats 1000000 in
theorem rfc_exT (w : World) : Calls Try.prog 43 #[.string exT] w fun e w' => e = .returned (.bool true) ∧ w' = w := by
  have hz : exT.size = 20 := rfl
  have b4 : exT[4]'(by decide) = 45 := rfl
  have b7 : exT[7]'(by decide) = 45 := rfl
  have b10 : exT[10]'(by decide) = 84 := rfl
  have b13 : exT[13]'(by decide) = 58 := rfl
  have b16 : exT[16]'(by decide) = 58 := rfl
  have r0 : (exT.extract 19 20)[0]'(by decide) = 90 := rfl
  have rl : (exT.extract 19 20).toList = [90] := by decide +kernel
  go_enter Try.func43, Try.ntmps43
  go_wp2_with fail
  refine (dgs 0 4 0 4 rfl rfl _ (by decide) exT_d04).mono ?_
  rintro _ _ ⟨rfl, rfl⟩
  go_wp2_with fail
  refine (dgs 5 2 5 2 rfl rfl _ (by decide) exT_d52).mono ?_
  rintro _ _ ⟨rfl, rfl⟩
  go_wp2_with fail
  refine (dgs 8 2 8 2 rfl rfl _ (by decide) exT_d82).mono ?_
  rintro _ _ ⟨rfl, rfl⟩
  go_wp2_with fail
  refine (dgs 11 2 11 2 rfl rfl _ (by decide) exT_d11).mono ?_
  rintro _ _ ⟨rfl, rfl⟩
  go_wp2_with fail
  refine (dgs 14 2 14 2 rfl rfl _ (by decide) exT_d14).mono ?_
  rintro _ _ ⟨rfl, rfl⟩
  go_wp2_with fail
  refine (dgs 17 2 17 2 rfl rfl _ (by decide) exT_d17).mono ?_
  rintro _ _ ⟨rfl, rfl⟩
  go_wp2_with fail
  refine (nums 0 4 2026 0 4 rfl rfl _ (by decide) (by decide) exT_d04 exT_n04).mono ?_
  rintro _ _ ⟨rfl, rfl⟩
  go_wp2_with fail
  refine (nums 5 2 10 5 2 rfl rfl _ (by decide) (by decide) exT_d52 exT_n52).mono ?_
  rintro _ _ ⟨rfl, rfl⟩
  go_wp2_with fail
  refine (nums 8 2 14 8 2 rfl rfl _ (by decide) (by decide) exT_d82 exT_n82).mono ?_
  rintro _ _ ⟨rfl, rfl⟩
  go_wp2_with fail
  refine (days_10 _ _).mono ?_
  rintro _ _ ⟨rfl, rfl⟩
  go_wp2_with fail
  refine (nums 11 2 10 11 2 rfl rfl _ (by decide) (by decide) exT_d11 exT_n11).mono ?_
  rintro _ _ ⟨rfl, rfl⟩
  go_wp2_with fail
  refine (nums 14 2 0 14 2 rfl rfl _ (by decide) (by decide) exT_d14 exT_n14).mono ?_
  rintro _ _ ⟨rfl, rfl⟩
  go_wp2_with fail
  refine (nums 17 2 0 17 2 rfl rfl _ (by decide) (by decide) exT_d17 exT_n17).mono ?_
  rintro _ _ ⟨rfl, rfl⟩
  go_wp2
  go_ret
  exact ⟨rfl, rfl⟩

/-- the description's 46 bytes -/
def descT : ByteArray := ⟨#[97, 110, 32, 82, 70, 67, 32, 51, 51, 51, 57, 32, 116, 105, 109, 101, 44, 32, 115, 117, 99, 104, 32, 97, 115, 32, 50, 48, 50, 54, 45, 49, 48, 45, 49, 52, 84, 49, 48, 58, 48, 48, 58, 48, 48, 90]⟩

theorem descT_size : descT.size = 46 := rfl
theorem descT_len : descT.size ≤ maxLen := by rw [descT_size]; decide
theorem descT_print : ∀ k (h : k < descT.size), 32 ≤ (descT[k].toNat : Int) ∧ (descT[k].toNat : Int) ≤ 126 := by
  have h : ∀ k, k < 46 → 32 ≤ (descT.data.toList.getD k 0).toNat ∧ (descT.data.toList.getD k 0).toNat ≤ 126 := by decide +kernel
  intro k hk
  have := h k hk
  rw [getD_at descT k hk] at this
  omega
theorem descT_rfc : FirstAt descT ⟨#[82, 70, 67, 32, 51, 51, 51, 57]⟩ 3 := ⟨by decide +kernel, by decide +kernel⟩
theorem descT_mark : FirstAt descT ⟨#[44, 32, 115, 117, 99, 104, 32, 97, 115, 32]⟩ 16 := ⟨by decide +kernel, by decide +kernel⟩
theorem descT_cut : descT.extract 26 46 = exT := by decide +kernel

theorem desc_any (w : World) :
    Calls Try.prog 41 #[.agg #[.int .u64 0, .int .i64 0, .pointer none]] w fun e w' => e = .returned (.string descT) ∧ Grown w w' := by
  go_enter Try.func41, Try.ntmps41
  go_wp2
  go_ret
  exact ⟨rfl, (Grown.refl _).alloc _ _⟩

theorem idx_rfc (w : World) : Calls Try.prog 42 #[.string descT, .string ⟨#[82, 70, 67, 32, 51, 51, 51, 57]⟩] w fun e w' => e = .returned (.int .i64 3) ∧ w' = w :=
  index_first descT ⟨#[82, 70, 67, 32, 51, 51, 51, 57]⟩ 3 w descT_len (by decide) descT_rfc
theorem idx_mark (w : World) : Calls Try.prog 42 #[.string descT, .string ⟨#[44, 32, 115, 117, 99, 104, 32, 97, 115, 32]⟩] w fun e w' => e = .returned (.int .i64 16) ∧ w' = w :=
  index_first descT ⟨#[44, 32, 115, 117, 99, 104, 32, 97, 115, 32]⟩ 16 w descT_len (by decide) descT_mark

set_option maxRecDepth 100000 in
set_option maxHeartbeats 1000000 in
theorem law (w : World) : Calls Try.prog 9 #[] w fun e w' => e = .returned (.bool true) ∧ Grown w w' := by
  have hz : descT.size = 46 := rfl
  go_enter Try.func9, Try.ntmps9
  go_wp2_with fail
  refine (desc_any _).mono ?_
  rintro _ w1 ⟨rfl, hg⟩
  go_wp2
  go_loop [2] (fun i => ∃ k : Nat, k ≤ 46 ∧ i = .int .i64 k) (fun i => 46 - (intOf i).toNat)
  case atStart => exact ⟨0, Nat.zero_le _, rfl⟩
  case round =>
    obtain ⟨k, hk, rfl⟩ := hrel
    by_cases hlt : k < 46
    · have h1 := (descT_print k hlt).1
      have h2 := (descT_print k hlt).2
      go_wp2
      go_round
      case rel => exact ⟨k + 1, by omega, by go_num⟩
      case measure => simp [intOf]; omega
    · go_wp2_with fail
      refine (idx_rfc _).mono ?_
      rintro _ _ ⟨rfl, rfl⟩
      go_wp2_with fail
      refine (idx_mark _).mono ?_
      rintro _ _ ⟨rfl, rfl⟩
      go_wp2_with fail
      rw [descT_cut]
      refine (rfc_exT _).mono ?_
      rintro _ _ ⟨rfl, rfl⟩
      go_wp2
      go_ret
      exact ⟨rfl, hg⟩
end Go.Proofs.Qxb6605915a.Time
