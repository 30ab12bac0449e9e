/- setOfInts, setOfStrs, for all -/
import Derived.Test.Qxb6605915aSets
namespace Go.Proofs.Qxb6605915a.Strs
open Go.ChangeShapes Go.WideShapes Go.ChangeAt Go.RowKit
set_option linter.unusedVariables false

set_option maxRecDepth 100000 in
set_option maxHeartbeats 4000000 in
theorem setAll27 (a : Option Addr) (n c : Nat) (lv : Value) (sa : Option Addr) (sn sc : Nat) (S : List Int) (SL : List (List Int)) (w : World)
    (hn : n ≤ 16777216) (hsn : sn ≤ 16777216) (h : Sl (Value.int .i64) w a n S) (hss : Sll (Value.int .i64) w sa sn SL) (hS : S.Pairwise fun a b => ci a b < 0)
    (hll : ∀ l, l ∈ SL → l.length ≤ 16777216) (hSI : ∀ l, l ∈ SL → l.Pairwise fun a b => ci a b < 0) (hE : SL = [] → S = [])
    (h1 : ∀ x, x ∈ S → ∀ l, l ∈ SL → x ∈ l) (h2 : SL ≠ [] → ∀ x, (∀ l, l ∈ SL → x ∈ l) → x ∈ S) :
    Calls Try.prog 27 #[.slice a n c, lv, .slice sa sn sc, .bool false] w (SaysNew true w) := by
  have H := hide h
  have HSS := hide hss
  have HS := hide hS
  have HLL := hide hll
  have HSI := hide hSI
  have HE := hide hE
  have H1 := hide h1
  have H2 := hide h2
  clear h hss hS hll hSI hE h1 h2
  go_enter Try.func27, Try.ntmps27
  go_wp2
  go_loopw [9] (fun i wr => ∃ k : Nat, k ≤ n ∧ i = .int .i64 ((k : Int) + 1) ∧ Hid (Drawn w wr)) (fun i _ => n + 1 - (intOf i).toNat)
  case atStart => exact ⟨0, Nat.zero_le _, rfl, Drawn.refl w⟩
  case round =>
    obtain ⟨k, hk, rfl, HD⟩ := hrel
    by_cases hlt : k + 1 < n
    · obtain ⟨b, off, x, ha, hx, hc⟩ := (unhide H).at k (by omega)
      obtain ⟨b', off', y, ha', hy, hc'⟩ := (unhide H).at (k + 1) hlt
      have hlt' := (ci_lt x y).1 (incg_get (unhide HS) k (k + 1) x y (by omega) hx hy)
      have hge : decide ((y : Int) ≤ x) = false := by simp; omega
      rw [ha] at ha'
      cases ha'
      have hcw := (unhide HD).cell ⟨b, off + k, none⟩ |>.trans hc
      have hcw' := (unhide HD).cell ⟨b, off + (k + 1), none⟩ |>.trans hc'
      clear hx hy hc hc'
      rw [ha]
      clear ha
      have hwk := wrapk k (by omega)
      have hi0 : (0 : Int) ≤ (k : Int) := by omega
      have hi1 : (k : Int) < (n : Int) := by omega
      have hi2 : (0 : Int) ≤ (k : Int) + 1 := by omega
      have hi3 : (k : Int) + 1 < (n : Int) := by omega
      have hi4 : ((k : Int) + 1).toNat = k + 1 := by omega
      go_wp2
      go_quiet (fail)
      go_wp2
      go_roundw
      case rel => exact ⟨k + 1, by omega, by go_num, (unhide HD).drewN _⟩
      case measure => simp [intOf]; omega
    · by_cases h0 : sn = 0
      · have hSL0 : SL = [] := List.eq_nil_of_length_eq_zero (by rw [← (unhide HSS).len]; exact h0)
        have hS0 : n = 0 := by rw [(unhide H).len, unhide HE hSL0]; rfl
        have hs0 : ((sn : Int) == 0) = true := by rw [beq_iff_eq, h0]; rfl
        have hn0 : ((n : Int) == 0) = true := by rw [beq_iff_eq, hS0]; rfl
        clear h0 hSL0 hS0
        go_wp2
        go_ret
        exact ⟨rfl, (unhide HD).below⟩
      · have hs0 : ((sn : Int) == 0) = false := by rw [beq_eq_false_iff_ne]; omega
        have HNE : Hid (SL ≠ []) := fun e => h0 (by rw [(unhide HSS).len, e]; rfl)
        go_wp2
        go_loopw [15] (fun i wr => ∃ k : Nat, k ≤ n ∧ i = .int .i64 k ∧ Hid (Drawn w wr)) (fun i _ => n - (intOf i).toNat)
        case atStart => exact ⟨0, Nat.zero_le _, rfl, HD⟩
        case round =>
          clear HD
          obtain ⟨k5, hk5, rfl, HD⟩ := hrel
          by_cases hlt5 : k5 < n
          · obtain ⟨b, off, x, ha, hx, hc⟩ := (unhide H).at k5 hlt5
            have hcw := (unhide HD).cell ⟨b, off + k5, none⟩ |>.trans hc
            have HX := hide (List.mem_of_getElem? hx)
            clear hx hc
            rw [ha]
            clear ha
            go_wp2_with fail
            refine (inEvery48 sa sn sc SL x wr hsn ((unhide HSS).below (unhide HD).below) (unhide HLL) (unhide HSI)).mono ?_
            rintro _ _ ⟨r, rfl, ⟨q, rfl⟩, hr⟩
            obtain rfl : r = true := hr.2 (unhide H1 x (unhide HX))
            have HD2 := hide ((unhide HD).drewN q)
            clear hr hcw
            generalize wr.drewN q = wr2 at *
            go_wp2
            go_roundw
            case rel => exact ⟨k5 + 1, by omega, by go_num, HD2⟩
            case measure => simp [intOf]; omega
          · obtain ⟨b0, off0, l0, a0, c0, ha0, hl0, hc0, hsl0, _⟩ := (unhide HSS).at 0 (by omega)
            have HM0 := hide (List.mem_of_getElem? hl0)
            have hl0n := unhide HLL l0 (unhide HM0)
            have hcw0 := (unhide HD).cell ⟨b0, off0 + 0, none⟩ |>.trans hc0
            rw [Nat.add_zero] at hcw0
            have HSL0 := hide hsl0
            have hsp : (0 : Int) < (sn : Int) := by omega
            have hcall : Hid (sa = some ⟨b0, off0, none⟩) := ha0
            have HC1 := hide (fun (x : Int) (wr : World) (hd : Drawn w wr) => inEvery48 sa sn sc SL x wr hsn ((unhide HSS).below hd.below) (unhide HLL) (unhide HSI))
            clear hl0 hc0 hsl0
            rw [ha0]
            rw [ha0] at HC1
            clear ha0 hcall
            go_wp2
            clear hcw0
            go_loopw [17] (fun i wr => ∃ k : Nat, k ≤ l0.length ∧ i = .int .i64 k ∧ Hid (Drawn w wr)) (fun i _ => l0.length - (intOf i).toNat)
            case atStart => exact ⟨0, Nat.zero_le _, rfl, HD⟩
            case round =>
              clear HD
              obtain ⟨k6, hk6, rfl, HD⟩ := hrel
              by_cases hlt6 : k6 < l0.length
              · obtain ⟨b, off, x, ha, hx, hc⟩ := (unhide HSL0).at k6 hlt6
                have hcw := (unhide HD).cell ⟨b, off + k6, none⟩ |>.trans hc
                have HCx := hide hc
                clear hx hc
                rw [ha]
                clear ha
                go_wp2_with fail
                refine (unhide HC1 x wr (unhide HD)).mono ?_
                rintro _ _ ⟨r, rfl, ⟨q, rfl⟩, hr⟩
                have HD2 := hide ((unhide HD).drewN q)
                have hcw2 := (unhide HD2).cell ⟨b, off + k6, none⟩ |>.trans (unhide HCx)
                clear hcw
                generalize wr.drewN q = wr2 at *
                cases r
                · clear hr
                  go_wp2
                  go_roundw
                  case rel => exact ⟨k6 + 1, by omega, by go_num, HD2⟩
                  case measure => simp [intOf]; omega
                · have HXS := hide (unhide H2 (unhide HNE) x (hr.1 rfl))
                  clear hr
                  go_wp2_with fail
                  refine (find47 a n c S x wr2 hn ((unhide H).below (unhide HD2).below) (unhide HS)).mono ?_
                  rintro _ wr3 ⟨r3, rfl, rfl, hr3⟩
                  obtain ⟨i3, hr3⟩ : ∃ i3 : Nat, r3 = i3 := by
                    rcases hr3 with ⟨_, hno⟩ | ⟨i3, h3, _⟩
                    · exact absurd (unhide HXS) hno
                    · exact ⟨i3, h3⟩
                  subst hr3
                  have HD3 := HD2
                  go_wp2
                  go_roundw
                  case rel => exact ⟨k6 + 1, by omega, by go_num, HD3⟩
                  case measure => simp [intOf]; omega
              · go_wp2
                go_ret
                exact ⟨rfl, (unhide HD).below⟩

set_option maxRecDepth 100000 in
set_option maxHeartbeats 4000000 in
theorem setAll28 (a : Option Addr) (n c : Nat) (lv : Value) (sa : Option Addr) (sn sc : Nat) (S : List ByteArray) (SL : List (List ByteArray)) (w : World)
    (hn : n ≤ 16777216) (hsn : sn ≤ 16777216) (h : Sl Value.string w a n S) (hss : Sll Value.string w sa sn SL) (hS : Inc S) (hsz : ∀ x, x ∈ S → x.size ≤ maxLen) (hlz : ∀ l, l ∈ SL → ∀ x, x ∈ l → x.size ≤ maxLen)
    (hll : ∀ l, l ∈ SL → l.length ≤ 16777216) (hSI : ∀ l, l ∈ SL → Inc l) (hE : SL = [] → S = [])
    (h1 : ∀ x, x ∈ S → ∀ l, l ∈ SL → x ∈ l) (h2 : SL ≠ [] → ∀ x, (∀ l, l ∈ SL → x ∈ l) → x ∈ S) :
    Calls Try.prog 28 #[.slice a n c, lv, .slice sa sn sc, .bool false] w (SaysNew true w) := by
  have H := hide h
  have HSS := hide hss
  have HS := hide hS
  have HZ := hide hsz
  have HLZ := hide hlz
  have HLL := hide hll
  have HSI := hide hSI
  have HE := hide hE
  have H1 := hide h1
  have H2 := hide h2
  clear h hss hS hll hSI hE h1 h2 hsz hlz
  go_enter Try.func28, Try.ntmps28
  go_wp2
  go_loopw [9] (fun i wr => ∃ k : Nat, k ≤ n ∧ i = .int .i64 ((k : Int) + 1) ∧ Hid (Drawn w wr)) (fun i _ => n + 1 - (intOf i).toNat)
  case atStart => exact ⟨0, Nat.zero_le _, rfl, Drawn.refl w⟩
  case round =>
    obtain ⟨k, hk, rfl, HD⟩ := hrel
    by_cases hlt : k + 1 < n
    · obtain ⟨b, off, x, ha, hx, hc⟩ := (unhide H).at k (by omega)
      obtain ⟨b', off', y, ha', hy, hc'⟩ := (unhide H).at (k + 1) hlt
      have hxs := unhide HZ x (List.mem_of_getElem? hx)
      have hys := unhide HZ y (List.mem_of_getElem? hy)
      have hlt' := inc_get (unhide HS) k (k + 1) x y (by omega) hx hy
      rw [ha] at ha'
      cases ha'
      have hcw := (unhide HD).cell ⟨b, off + k, none⟩ |>.trans hc
      have hcw' := (unhide HD).cell ⟨b, off + (k + 1), none⟩ |>.trans hc'
      clear hx hy hc hc'
      rw [ha]
      clear ha
      have hwk := wrapk k (by omega)
      have hi0 : (0 : Int) ≤ (k : Int) := by omega
      have hi1 : (k : Int) < (n : Int) := by omega
      have hi2 : (0 : Int) ≤ (k : Int) + 1 := by omega
      have hi3 : (k : Int) + 1 < (n : Int) := by omega
      have hi4 : ((k : Int) + 1).toNat = k + 1 := by omega
      go_wp2
      go_quiet ((go_at_call 37; exact Calls.quiet_of (cmp37q _ _ _ hxs hys)))
      go_wp2
      go_roundw
      case rel => exact ⟨k + 1, by omega, by go_num, (unhide HD).drewN _⟩
      case measure => simp [intOf]; omega
    · by_cases h0 : sn = 0
      · have hSL0 : SL = [] := List.eq_nil_of_length_eq_zero (by rw [← (unhide HSS).len]; exact h0)
        have hS0 : n = 0 := by rw [(unhide H).len, unhide HE hSL0]; rfl
        have hs0 : ((sn : Int) == 0) = true := by rw [beq_iff_eq, h0]; rfl
        have hn0 : ((n : Int) == 0) = true := by rw [beq_iff_eq, hS0]; rfl
        clear h0 hSL0 hS0
        go_wp2
        go_ret
        exact ⟨rfl, (unhide HD).below⟩
      · have hs0 : ((sn : Int) == 0) = false := by rw [beq_eq_false_iff_ne]; omega
        have HNE : Hid (SL ≠ []) := fun e => h0 (by rw [(unhide HSS).len, e]; rfl)
        go_wp2
        go_loopw [15] (fun i wr => ∃ k : Nat, k ≤ n ∧ i = .int .i64 k ∧ Hid (Drawn w wr)) (fun i _ => n - (intOf i).toNat)
        case atStart => exact ⟨0, Nat.zero_le _, rfl, HD⟩
        case round =>
          clear HD
          obtain ⟨k5, hk5, rfl, HD⟩ := hrel
          by_cases hlt5 : k5 < n
          · obtain ⟨b, off, x, ha, hx, hc⟩ := (unhide H).at k5 hlt5
            have hcw := (unhide HD).cell ⟨b, off + k5, none⟩ |>.trans hc
            have HX := hide (List.mem_of_getElem? hx)
            have hxs := unhide HZ x (List.mem_of_getElem? hx)
            clear hx hc
            rw [ha]
            clear ha
            go_wp2_with fail
            refine (inEvery50 sa sn sc SL x wr hsn hxs ((unhide HSS).below (unhide HD).below) (unhide HLL) (unhide HSI) (unhide HLZ)).mono ?_
            rintro _ _ ⟨r, rfl, ⟨q, rfl⟩, hr⟩
            obtain rfl : r = true := hr.2 (unhide H1 x (unhide HX))
            have HD2 := hide ((unhide HD).drewN q)
            clear hr hcw
            generalize wr.drewN q = wr2 at *
            go_wp2
            go_roundw
            case rel => exact ⟨k5 + 1, by omega, by go_num, HD2⟩
            case measure => simp [intOf]; omega
          · obtain ⟨b0, off0, l0, a0, c0, ha0, hl0, hc0, hsl0, _⟩ := (unhide HSS).at 0 (by omega)
            have HM0 := hide (List.mem_of_getElem? hl0)
            have hl0n := unhide HLL l0 (unhide HM0)
            have hcw0 := (unhide HD).cell ⟨b0, off0 + 0, none⟩ |>.trans hc0
            rw [Nat.add_zero] at hcw0
            have HSL0 := hide hsl0
            have hsp : (0 : Int) < (sn : Int) := by omega
            have hcall : Hid (sa = some ⟨b0, off0, none⟩) := ha0
            have HC1 := hide (fun (x : ByteArray) (wr : World) (hd : Drawn w wr) (hxs : x.size ≤ maxLen) => inEvery50 sa sn sc SL x wr hsn hxs ((unhide HSS).below hd.below) (unhide HLL) (unhide HSI) (unhide HLZ))
            clear hl0 hc0 hsl0
            rw [ha0]
            rw [ha0] at HC1
            clear ha0 hcall
            go_wp2
            clear hcw0
            go_loopw [17] (fun i wr => ∃ k : Nat, k ≤ l0.length ∧ i = .int .i64 k ∧ Hid (Drawn w wr)) (fun i _ => l0.length - (intOf i).toNat)
            case atStart => exact ⟨0, Nat.zero_le _, rfl, HD⟩
            case round =>
              clear HD
              obtain ⟨k6, hk6, rfl, HD⟩ := hrel
              by_cases hlt6 : k6 < l0.length
              · obtain ⟨b, off, x, ha, hx, hc⟩ := (unhide HSL0).at k6 hlt6
                have hcw := (unhide HD).cell ⟨b, off + k6, none⟩ |>.trans hc
                have hxs := unhide HLZ l0 (unhide HM0) x (List.mem_of_getElem? hx)
                have HCx := hide hc
                clear hx hc
                rw [ha]
                clear ha
                go_wp2_with fail
                refine (unhide HC1 x wr (unhide HD) hxs).mono ?_
                rintro _ _ ⟨r, rfl, ⟨q, rfl⟩, hr⟩
                have HD2 := hide ((unhide HD).drewN q)
                have hcw2 := (unhide HD2).cell ⟨b, off + k6, none⟩ |>.trans (unhide HCx)
                clear hcw
                generalize wr.drewN q = wr2 at *
                cases r
                · clear hr
                  go_wp2
                  go_roundw
                  case rel => exact ⟨k6 + 1, by omega, by go_num, HD2⟩
                  case measure => simp [intOf]; omega
                · have HXS := hide (unhide H2 (unhide HNE) x (hr.1 rfl))
                  clear hr
                  go_wp2_with fail
                  refine (find49 a n c S x wr2 hn hxs ((unhide H).below (unhide HD2).below) (unhide HS) (unhide HZ)).mono ?_
                  rintro _ _ ⟨r3, rfl, ⟨q3, rfl⟩, hr3⟩
                  obtain ⟨i3, hr3⟩ : ∃ i3 : Nat, r3 = i3 := by
                    rcases hr3 with ⟨_, hno⟩ | ⟨i3, h3, _⟩
                    · exact absurd (unhide HXS) hno
                    · exact ⟨i3, h3⟩
                  subst hr3
                  have HD3 := hide ((unhide HD2).drewN q3)
                  clear hcw2
                  generalize wr2.drewN q3 = wr3 at *
                  go_wp2
                  go_roundw
                  case rel => exact ⟨k6 + 1, by omega, by go_num, HD3⟩
                  case measure => simp [intOf]; omega
              · go_wp2
                go_ret
                exact ⟨rfl, (unhide HD).below⟩

end Go.Proofs.Qxb6605915a.Strs
