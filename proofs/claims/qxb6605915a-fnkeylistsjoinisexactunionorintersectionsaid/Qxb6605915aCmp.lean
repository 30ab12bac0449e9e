/- cmpStr: the law's own comparison of strings; findStr: binary search -/
import Derived.Test.Qxb6605915aStrs
import Derived.Test.Qxb6605915aPlain
import Derived.Lib.Strings
namespace Go.Proofs.Qxb6605915a.Strs
open Go.ChangeShapes Go.WideShapes Go.ChangeAt Go.RowKit
set_option linter.unusedVariables false

theorem dr2 (w : World) (a b : Nat) : ∃ q, w.drewN q = (w.drewN a).drewN b := ⟨a + b, by simp⟩
theorem dr3 (w : World) (a b c : Nat) : ∃ q, w.drewN q = ((w.drewN a).drewN b).drewN c := ⟨a + b + c, by simp [Nat.add_assoc]⟩

/-- .. of what is left from byte k on -/
def cbFrom (a b : ByteArray) (k : Nat) : Int := Lib.compareBytes (a.data.toList.drop k) (b.data.toList.drop k)

theorem cbFrom_zero (a b : ByteArray) : cbFrom a b 0 = cb a b := by simp [cbFrom, cb]

theorem drop_cons (s : ByteArray) (k : Nat) (h : k < s.size) : s.data.toList.drop k = s[k] :: s.data.toList.drop (k + 1) := by
  rw [List.drop_eq_getElem_cons (by simpa using h)]; rfl

theorem cbFrom_lt (a b : ByteArray) (k : Nat) (ha : k < a.size) (hb : k < b.size) (h : (a[k].toNat : Int) < (b[k].toNat : Int)) : cbFrom a b k = -1 := by
  unfold cbFrom
  rw [drop_cons a k ha, drop_cons b k hb, Lib.compareBytes, if_pos (by rw [UInt8.lt_iff_toNat_lt]; omega)]
theorem cbFrom_gt (a b : ByteArray) (k : Nat) (ha : k < a.size) (hb : k < b.size) (h : (b[k].toNat : Int) < (a[k].toNat : Int)) : cbFrom a b k = 1 := by
  unfold cbFrom
  rw [drop_cons a k ha, drop_cons b k hb, Lib.compareBytes, if_neg (by rw [UInt8.lt_iff_toNat_lt]; omega), if_pos (by rw [UInt8.lt_iff_toNat_lt]; omega)]
theorem cbFrom_eq (a b : ByteArray) (k : Nat) (ha : k < a.size) (hb : k < b.size) (h : (a[k].toNat : Int) = (b[k].toNat : Int)) : cbFrom a b k = cbFrom a b (k + 1) := by
  unfold cbFrom
  rw [drop_cons a k ha, drop_cons b k hb, Lib.compareBytes, if_neg (by rw [UInt8.lt_iff_toNat_lt]; omega), if_neg (by rw [UInt8.lt_iff_toNat_lt]; omega)]
theorem cbFrom_end (a b : ByteArray) (k : Nat) (h : k = a.size ∨ k = b.size) (ha : k ≤ a.size) (hb : k ≤ b.size) :
    cbFrom a b k = if a.size < b.size then -1 else if b.size < a.size then 1 else 0 := by
  have la : a.data.toList.length = a.size := by simp
  have lb : b.data.toList.length = b.size := by simp
  by_cases e : a.size = b.size
  · rw [if_neg (by omega), if_neg (by omega)]
    unfold cbFrom
    rw [List.drop_of_length_le (by omega), List.drop_of_length_le (by omega)]; rfl
  · by_cases e2 : a.size < b.size
    · rw [if_pos e2]
      unfold cbFrom
      rw [List.drop_of_length_le (l := a.data.toList) (by omega), drop_cons b k (by omega)]; rfl
    · rw [if_neg e2, if_pos (by omega)]
      unfold cbFrom
      rw [List.drop_of_length_le (l := b.data.toList) (by omega), drop_cons a k (by omega)]; rfl

set_option maxRecDepth 100000 in
set_option maxHeartbeats 800000 in
theorem cmp37 (a b : ByteArray) (w : World) (ha : a.size ≤ maxLen) (hb : b.size ≤ maxLen) :
    Calls Try.prog 37 #[.string a, .string b] w fun e w' => e = .returned (.int .i64 (cb a b)) ∧ ∃ q, w.drewN q = w' := by
  unfold maxLen at ha hb
  by_cases hl : b.size < a.size
  · skip
    go_enter Try.func37, Try.ntmps37
    go_wp2
    go_loopw [6] (fun i wr => ∃ k q : Nat, k ≤ b.size ∧ i = .int .i64 k ∧ w.drewN q = wr ∧ Hid (cbFrom a b k = cb a b)) (fun i _ => b.size - (intOf i).toNat)
    case atStart => exact ⟨0, 0, Nat.zero_le _, rfl, rfl, cbFrom_zero a b⟩
    case round =>
      obtain ⟨k, q, hk, rfl, rfl, HC⟩ := hrel
      by_cases hlt : k < b.size
      · have hka : k < a.size := by omega
        have hkb : k < b.size := by omega
        by_cases e1 : (a[k].toNat : Int) < (b[k].toNat : Int)
        · have HR := hide ((cbFrom_lt a b k hka hkb e1).symm.trans (unhide HC))
          have hne : ((a[k].toNat : Int) != (b[k].toNat : Int)) = true := by rw [bne_iff_ne]; omega
          go_wp2
          go_quiet (fail)
          go_wp2
          go_quiet (fail)
          go_wp2
          go_ret
          exact ⟨ret_i64 (unhide HR), dr3 _ _ _ _⟩
        · by_cases e2 : (b[k].toNat : Int) < (a[k].toNat : Int)
          · have HR := hide ((cbFrom_gt a b k hka hkb e2).symm.trans (unhide HC))
            have hne : ((a[k].toNat : Int) != (b[k].toNat : Int)) = true := by rw [bne_iff_ne]; omega
            go_wp2
            go_quiet (fail)
            go_wp2
            go_quiet (fail)
            go_wp2
            go_ret
            exact ⟨ret_i64 (unhide HR), dr3 _ _ _ _⟩
          · have HR := hide ((cbFrom_eq a b k hka hkb (by omega)).symm.trans (unhide HC))
            have hne : ((a[k].toNat : Int) != (b[k].toNat : Int)) = false := by rw [bne_eq_false_iff_eq]; omega
            clear e1 e2
            go_wp2
            go_quiet (fail)
            go_wp2
            go_roundw
            case rel => exact ⟨k + 1, _, by omega, by go_num, rfl, HR⟩
            case measure => simp [intOf]; omega
      · have HE := hide ((cbFrom_end a b k (by omega) (by omega) (by omega)).symm.trans (unhide HC))
        go_wp2
        go_ret
        exact ⟨ret_i64 (by rw [← unhide HE, if_neg (by omega), if_pos hl]), _, rfl⟩
  · skip
    go_enter Try.func37, Try.ntmps37
    go_wp2
    go_loopw [6] (fun i wr => ∃ k q : Nat, k ≤ a.size ∧ i = .int .i64 k ∧ w.drewN q = wr ∧ Hid (cbFrom a b k = cb a b)) (fun i _ => a.size - (intOf i).toNat)
    case atStart => exact ⟨0, 0, Nat.zero_le _, rfl, rfl, cbFrom_zero a b⟩
    case round =>
      obtain ⟨k, q, hk, rfl, rfl, HC⟩ := hrel
      by_cases hlt : k < a.size
      · have hka : k < a.size := by omega
        have hkb : k < b.size := by omega
        by_cases e1 : (a[k].toNat : Int) < (b[k].toNat : Int)
        · have HR := hide ((cbFrom_lt a b k hka hkb e1).symm.trans (unhide HC))
          have hne : ((a[k].toNat : Int) != (b[k].toNat : Int)) = true := by rw [bne_iff_ne]; omega
          go_wp2
          go_quiet (fail)
          go_wp2
          go_quiet (fail)
          go_wp2
          go_ret
          exact ⟨ret_i64 (unhide HR), dr3 _ _ _ _⟩
        · by_cases e2 : (b[k].toNat : Int) < (a[k].toNat : Int)
          · have HR := hide ((cbFrom_gt a b k hka hkb e2).symm.trans (unhide HC))
            have hne : ((a[k].toNat : Int) != (b[k].toNat : Int)) = true := by rw [bne_iff_ne]; omega
            go_wp2
            go_quiet (fail)
            go_wp2
            go_quiet (fail)
            go_wp2
            go_ret
            exact ⟨ret_i64 (unhide HR), dr3 _ _ _ _⟩
          · have HR := hide ((cbFrom_eq a b k hka hkb (by omega)).symm.trans (unhide HC))
            have hne : ((a[k].toNat : Int) != (b[k].toNat : Int)) = false := by rw [bne_eq_false_iff_eq]; omega
            clear e1 e2
            go_wp2
            go_quiet (fail)
            go_wp2
            go_roundw
            case rel => exact ⟨k + 1, _, by omega, by go_num, rfl, HR⟩
            case measure => simp [intOf]; omega
      · have HE := hide ((cbFrom_end a b k (by omega) (by omega) (by omega)).symm.trans (unhide HC))
        by_cases h2 : a.size < b.size
        · go_wp2
          go_ret
          exact ⟨ret_i64 (by rw [← unhide HE, if_pos h2]), _, rfl⟩
        · go_wp2
          go_ret
          exact ⟨ret_i64 (by rw [← unhide HE, if_neg h2, if_neg hl]), _, rfl⟩

theorem str_ne {x v : ByteArray} (e : x ≠ v) : (x.toList == v.toList) = false := by
  rw [beq_eq_false_iff_ne]
  intro h
  rw [Lib.toList_data, Lib.toList_data] at h
  have := Array.toList_inj.1 h
  apply e
  cases x; cases v; simp_all

/-- where v stands in S, or -1 -/
def Found (S : List ByteArray) (v : ByteArray) (w : World) (e : Ending) (w' : World) : Prop :=
  ∃ r : Int, e = .returned (.int .i64 r) ∧ (∃ q, w.drewN q = w') ∧ ((r = -1 ∧ v ∉ S) ∨ ∃ i : Nat, r = i ∧ S[i]? = some v)

theorem not_in {S : List ByteArray} {v : ByteArray} (k : Nat) (h1 : ∀ i x, i < k → S[i]? = some x → cb x v < 0) (h2 : ∀ i x, k ≤ i → S[i]? = some x → 0 ≤ cb x v) (hS : Inc S)
    (hne : ∀ x, S[k]? = some x → x ≠ v) : v ∉ S := by
  intro hv
  obtain ⟨i, hi⟩ := List.getElem?_of_mem hv
  have hz := cb_refl v
  by_cases h : i < k
  · have := h1 i v h hi; omega
  · by_cases e : i = k
    · subst e; exact hne v hi rfl
    · have hk : k < S.length := by have := (List.getElem?_eq_some_iff.1 hi).1; omega
      have a := inc_get hS k i S[k] v (by omega) (List.getElem?_eq_getElem hk) hi
      have b := h2 k S[k] (Nat.le_refl _) (List.getElem?_eq_getElem hk)
      omega

theorem step_lo {S : List ByteArray} {v y : ByteArray} {m : Nat} (hS : Inc S) (hy : S[m]? = some y) (h : cb y v < 0) : ∀ i x, i < m + 1 → S[i]? = some x → cb x v < 0 := by
  intro i x hi hx
  by_cases e : i = m
  · subst e; rw [hy] at hx; cases hx; exact h
  · exact cb_trans (inc_get hS i m x y (by omega) hx hy) h

theorem step_hi {S : List ByteArray} {v y : ByteArray} {m : Nat} (hS : Inc S) (hy : S[m]? = some y) (h : ¬ cb y v < 0) : ∀ i x, m ≤ i → S[i]? = some x → 0 ≤ cb x v := by
  intro i x hi hx
  by_cases e : i = m
  · subst e; rw [hy] at hx; cases hx; omega
  · by_cases k : 0 ≤ cb x v
    · exact k
    · exact absurd (cb_trans (inc_get hS m i y x (by omega) hy hx) (by omega)) h

set_option maxRecDepth 100000 in
set_option maxHeartbeats 800000 in
theorem find49 (a : Option Addr) (n c : Nat) (S : List ByteArray) (v : ByteArray) (w : World) (hn : n ≤ 16777216) (hv : v.size ≤ maxLen) (h : Sl Value.string w a n S) (hS : Inc S) (hsz : ∀ x, x ∈ S → x.size ≤ maxLen) :
    Calls Try.prog 49 #[.slice a n c, .string v] w (Found S v w) := by
  have H := hide h
  have HS := hide hS
  have HZ := hide hsz
  clear h hS hsz
  go_enter Try.func49, Try.ntmps49
  go_wp2
  go_loopw [5, 6] (fun lo hi wr => ∃ l h q : Nat, l ≤ h ∧ h ≤ n ∧ lo = .int .i64 l ∧ hi = .int .i64 h ∧ w.drewN q = wr ∧ Hid ((∀ i x, i < l → S[i]? = some x → cb x v < 0) ∧ (∀ i x, h ≤ i → S[i]? = some x → 0 ≤ cb x v))) (fun lo hi _ => (intOf hi).toNat - (intOf lo).toNat)
  case atStart => exact ⟨0, n, 0, Nat.zero_le _, Nat.le_refl _, rfl, rfl, rfl, ⟨fun i x hi _ => by omega, fun i x hi hx => by have := (List.getElem?_eq_some_iff.1 hx).1; have := (unhide H).len; omega⟩⟩
  case round =>
    obtain ⟨l, h, q, hlh, hhn, rfl, rfl, rfl, HI⟩ := hrel
    by_cases hlt : l < h
    · obtain ⟨m, hm⟩ : ∃ m : Nat, m = l + (h - l) / 2 := ⟨_, rfl⟩
      have hm1 : l ≤ m := by omega
      have hm2 : m < h := by omega
      have HM : (l : Int) + ((h : Int) - (l : Int)) / 2 = (m : Int) := by omega
      clear hm
      obtain ⟨b, off, x, ha, hx, hc⟩ := (unhide H).at m (by omega)
      have hxs := unhide HZ x (List.mem_of_getElem? hx)
      rw [ha]
      clear ha
      have HX := hide hx
      clear hx
      go_wp2_with fail
      refine (cmp37 x v _ hxs hv).mono ?_
      rintro _ _ ⟨rfl, q1, rfl⟩
      by_cases hcb : cb x v < 0
      · have HN := hide (And.intro (step_lo (unhide HS) (unhide HX) hcb) (unhide HI).2)
        go_wp2
        go_roundw
        case rel => exact ⟨m + 1, h, _, by omega, hhn, by go_num, rfl, rfl, HN⟩
        case measure => simp [intOf]; omega
      · have HN := hide (And.intro (unhide HI).1 (step_hi (unhide HS) (unhide HX) hcb))
        go_wp2
        go_roundw
        case rel => exact ⟨l, m, _, by omega, by omega, rfl, by go_num, rfl, HN⟩
        case measure => simp [intOf]; omega
    · obtain rfl : l = h := by omega
      by_cases hln : l < n
      · obtain ⟨b, off, x, ha, hx, hc⟩ := (unhide H).at l hln
        have HX := hide hx
        clear hx
        rw [ha]
        clear ha
        by_cases e : x = v
        · have he : (x.toList == v.toList) = true := by rw [e]; simp
          go_wp2
          go_ret
          exact ⟨_, rfl, ⟨_, rfl⟩, Or.inr ⟨l, rfl, by rw [← e]; exact unhide HX⟩⟩
        · have he := str_ne e
          go_wp2
          go_ret
          exact ⟨_, rfl, ⟨_, rfl⟩, Or.inl ⟨rfl, not_in l (unhide HI).1 (unhide HI).2 (unhide HS) (fun y hy => by rw [unhide HX] at hy; cases hy; exact e)⟩⟩
      · go_wp2
        go_ret
        exact ⟨_, rfl, ⟨_, rfl⟩, Or.inl ⟨rfl, not_in l (unhide HI).1 (unhide HI).2 (unhide HS) (fun y hy => by have := (List.getElem?_eq_some_iff.1 hy).1; have := (unhide H).len; omega)⟩⟩

end Go.Proofs.Qxb6605915a.Strs
