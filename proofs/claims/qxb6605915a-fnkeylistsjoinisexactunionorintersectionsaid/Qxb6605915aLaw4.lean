/- FnKeyListsJoinAnyAgreesWithTextSet: the walk -/
import Derived.Test.Qxb6605915aKeys
namespace Go.Proofs.Qxb6605915a.Strs
open Go.ChangeShapes Go.WideShapes Go.ChangeAt Go.RowKit
set_option linter.unusedVariables false

theorem later_trans {a b c : World} (h : Below a.heap.size a b) (k : Below b.heap.size b c) : Below a.heap.size a c := h.trans (k.mono h.size)
theorem later_drewN (w : World) (q : Nat) : Below w.heap.size w (w.drewN q) := below_drewN (Below.refl _ _) q

theorem jset_set {ll : List (List ByteArray)} {R : List ByteArray} (h : JSet cb ll 1 R) : SetOf ll.flatten R := joined_set h.1 h.2

set_option maxRecDepth 100000 in
set_option maxHeartbeats 8000000 in
theorem law4 (a : Option Addr) (n c : Nat) (ll : List (List ByteArray)) (a2 : Option Addr) (n2 c2 : Nat) (ll2 : List (List ByteArray)) (by' : Int) (w : World)
    (hn : n ≤ maxLen) (hn2 : n2 ≤ maxLen) (h : Sll Value.string w a n ll) (h2 : Sll Value.string w a2 n2 ll2) (hl : ∀ l, l ∈ ll → l.length ≤ maxLen) (hl2 : ∀ l, l ∈ ll2 → l.length ≤ maxLen) (hnil : a = none → n = 0) (hnil2 : a2 = none → n2 = 0) :
    Calls Try.prog 4 #[.slice a n c, .slice a2 n2 c2, .int .i64 by'] w (SaysNew true w) := by
  have H := hide h
  have H2 := hide h2
  have HL := hide hl
  have HL2 := hide hl2
  have HN := hide hnil
  have HN2 := hide hnil2
  clear h h2 hl hl2 hnil hnil2
  go_enter Try.func4, Try.ntmps4
  go_wp2_with fail
  refine (zzBytes29 a n c ll a2 n2 c2 ll2 by' w hn hn2 (unhide H) (unhide H2) (unhide HL) (unhide HL2)).mono ?_
  rintro _ _ ⟨r, rfl, rfl, hr⟩
  cases r
  · go_wp2
    go_ret
    exact ⟨rfl, Below.refl _ _⟩
  · have hb := hr rfl
    clear hr hn hn2 HL HL2
    have hf1 := tot2_flat ll
    have hf2 := tot2_flat ll2
    have hfa : ll.flatten.length ≤ 1048576 := by omega
    have hfb : tot ll.flatten ≤ 1048576 := by omega
    have hfc : ll2.flatten.length ≤ 1048576 := by omega
    have hfd : tot ll2.flatten ≤ 1048576 := by omega
    have hn1 : n ≤ 1048576 := by omega
    have hn2 : n2 ≤ 1048576 := by omega
    have HM1 : Hid (∀ l, l ∈ ll → l.length ≤ 1048576) := fun l hl => by have := tot2_mem hl; omega
    have HM2 : Hid (∀ l, l ∈ ll2 → l.length ≤ 1048576) := fun l hl => by have := tot2_mem hl; omega
    have HM3 : Hid (∀ x, x ∈ ll.flatten → x.size ≤ maxLen) := fun x hx => by have := size_le_tot hx; unfold maxLen; omega
    have HM4 : Hid (∀ x, x ∈ ll2.flatten → x.size ≤ maxLen) := fun x hx => by have := size_le_tot hx; unfold maxLen; omega
    clear hf1 hf2 hb
    go_wp2_with fail
    refine (size12 a n c ll _ hn1 (unhide H) (unhide HM1)).mono ?_
    rintro _ w ⟨t1, rfl, rfl, ht1, ht1'⟩
    go_wp2_with fail
    refine (size12 a2 n2 c2 ll2 _ hn2 (unhide H2) (unhide HM2)).mono ?_
    rintro _ w ⟨t2, rfl, rfl, ht2, ht2'⟩
    by_cases ht : 1048576 < t1 + t2
    · go_wp2
      go_ret
      exact ⟨rfl, Below.refl _ _⟩
    · go_wp2_with fail
      refine (copy14 a n c ll w hn1 (unhide H) (unhide HN) (unhide HM1)).mono ?_
      rintro _ w1 ⟨da, dn, dc, rfl, sD1, b1⟩
      have hdn : dn ≤ 1048576 := by rw [sD1.len, ← (unhide H).len]; exact hn1
      have SD1 := hide sD1
      have B1 := hide b1
      clear sD1 b1 HN H
      go_wp2_with fail
      refine (copy14 a2 n2 c2 ll2 w1 hn2 ((unhide H2).below (unhide B1)) (unhide HN2) (unhide HM2)).mono ?_
      rintro _ w2 ⟨ta, tn, tc, rfl, sT2, b2⟩
      have htn : tn ≤ 1048576 := by rw [sT2.len, ← (unhide H2).len]; exact hn2
      have SD2 := hide ((unhide SD1).below b2)
      have ST2 := hide sT2
      have B2 := hide (later_trans (unhide B1) b2)
      clear sT2 b2 HN2 H2 SD1 B1 ht1 ht1' ht2 ht2' hn1 hn2
      have htf : decide ((1048576 : Int) < t1 + t2) = false := by simp; omega
      clear ht
      go_wp2_with fail
      refine (zzJoin19 none 0 0 [] da dn dc ll ta tn tc ll2 by' true 1 1 1 w2 ⟨rfl, fun j l hl => by simp at hl⟩ (unhide SD2) (unhide ST2) (by omega) (by omega) (by omega) (by simp) (by omega) (by omega) (by omega) (by omega) rfl rfl rfl).mono ?_
      rintro _ w3 ⟨K, N, D, T, rfl, kat, jN, jD, jT, b3⟩
      have hN0 : N = [] := by
        cases N with
        | nil => rfl
        | cons x N => have := ((jN.2 x).1 (by simp)).1; simp at this
      subst hN0
      have setD := jset_set jD
      have setT := jset_set jT
      have SD3 := hide ((unhide SD2).below b3)
      have ST3 := hide ((unhide ST2).below b3)
      have B3 := hide (later_trans (unhide B2) b3)
      have HSD := hide setD
      have HST := hide setT
      obtain ⟨c0, ⟨na, nn, nc, c1, sN⟩, c2, ⟨de, den, dec, c3, sDe⟩, c4, ⟨te, ten, tec, c5, sTe⟩⟩ := kat
      have hnn : nn = 0 := sN.len
      subst hnn
      have SDe3 := hide sDe
      have STe3 := hide sTe
      clear jN jD jT b3 setD setT sN sDe sTe SD2 ST2 B2
      have hbb : (by' != by') = false := by simp
      go_wp2_with fail
      refine (by20 K by' w3 c0).mono ?_
      rintro _ w3 ⟨rfl, rfl⟩
      go_wp2_with fail
      refine (num21 K _ na 0 nc rfl w3 c1).mono ?_
      rintro _ w3 ⟨rfl, rfl⟩
      go_wp2_with fail
      refine (dec23 K _ de den dec w3 c2 c3).mono ?_
      rintro _ _ ⟨rfl, q4, rfl⟩
      have h4 := later_drewN w3 q4
      have c4' := (h4.cell (cell_lt c4)).trans c4
      have c5' := (h4.cell (cell_lt c5)).trans c5
      have SD4 := hide ((unhide SD3).below h4)
      have ST4 := hide ((unhide ST3).below h4)
      have SDe4 := hide ((unhide SDe3).below h4)
      have STe4 := hide ((unhide STe3).below h4)
      have B4 := hide (later_trans (unhide B3) h4)
      clear h4 c0 c1 c2 c3 c4 c5 SD3 ST3 SDe3 STe3 B3
      generalize w3.drewN q4 = w4 at *
      go_wp2_with fail
      refine (tex26 K _ te ten tec w4 c4' c5').mono ?_
      rintro _ _ ⟨rfl, q5, rfl⟩
      have h5 := later_drewN w4 q5
      have SD5 := hide ((unhide SD4).below h5)
      have ST5 := hide ((unhide ST4).below h5)
      have SDe5 := hide ((unhide SDe4).below h5)
      have STe5 := hide ((unhide STe4).below h5)
      have B5 := hide (later_trans (unhide B4) h5)
      clear h5 c4' c5' SD4 ST4 SDe4 STe4 B4
      generalize w4.drewN q5 = w5 at *
      go_wp2_with fail
      refine (flatten31 da dn dc ll w5 hdn (unhide SD5) hfa).mono ?_
      rintro _ w6 ⟨fa, fn, fc, rfl, sF6, b6, hF6⟩
      have hfn : fn ≤ 1048576 := by rw [sF6.len]; exact hfa
      have SF6 := hide sF6
      have B6 := hide b6
      have HF6 := hide hF6
      clear sF6 b6 hF6
      go_wp2_with fail
      refine (zzText30 fa fn fc ll.flatten w6 (by omega) (by omega) (unhide SF6) (unhide HF6)).mono ?_
      rintro _ w7 ⟨S, xa, xn, xc, rfl, sx, setx, b7⟩
      obtain rfl : S = D := setOf_unique setx (unhide HSD) (fun x => Iff.rfl)
      have h67 := later_trans (unhide B6) b7
      have SD7 := hide ((unhide SD5).below h67)
      have ST7 := hide ((unhide ST5).below h67)
      have SDe7 := hide ((unhide SDe5).below h67)
      have STe7 := hide ((unhide STe5).below h67)
      have B7 := hide (later_trans (unhide B5) h67)
      have SX7 := hide sx
      clear sx setx b7 h67 SD5 ST5 SDe5 STe5 B5 SF6 B6 HF6 hfn
      go_wp2_with fail
      refine (flatten31 ta tn tc ll2 w7 htn (unhide ST7) hfc).mono ?_
      rintro _ w8 ⟨ga, gn, gc, rfl, sG8, b8, hG8⟩
      have hgn : gn ≤ 1048576 := by rw [sG8.len]; exact hfc
      have SG8 := hide sG8
      have B8 := hide b8
      have HG8 := hide hG8
      clear sG8 b8 hG8
      go_wp2_with fail
      refine (zzText30 ga gn gc ll2.flatten w8 (by omega) (by omega) (unhide SG8) (unhide HG8)).mono ?_
      rintro _ w9 ⟨S', ya, yn, yc, rfl, sy, sety, b9⟩
      obtain rfl : S' = T := setOf_unique sety (unhide HST) (fun x => Iff.rfl)
      have h89 := later_trans (unhide B8) b9
      have SD9 := hide ((unhide SD7).below h89)
      have ST9 := hide ((unhide ST7).below h89)
      have SDe9 := hide ((unhide SDe7).below h89)
      have STe9 := hide ((unhide STe7).below h89)
      have SX9 := hide ((unhide SX7).below h89)
      have SY9 := hide sy
      have B9 := hide (later_trans (unhide B7) h89)
      clear sy sety b9 h89 SD7 ST7 SDe7 STe7 B7 SX7 SG8 B8 HG8 hgn
      have hle := setOf_le (unhide HSD)
      have hle' := setOf_le (unhide HST)
      have hden : den ≤ S.length := by rw [(unhide SDe9).len, endsOf_length]; exact Nat.le_refl _
      have hten : ten ≤ S'.length := by rw [(unhide STe9).len, endsOf_length]; exact Nat.le_refl _
      have hstr : ((cat S).toList != (cat S).toList) = false := by simp
      have hstr' : ((cat S').toList != (cat S').toList) = false := by simp
      go_wp2_with fail
      refine (same32 de xa den xn dec xc (endsOf S) w9 (by omega) (unhide SDe9) (unhide SX9)).mono ?_
      rintro _ _ ⟨rfl, q10, rfl⟩
      have h10 := later_drewN w9 q10
      have SD10 := hide ((unhide SD9).below h10)
      have ST10 := hide ((unhide ST9).below h10)
      have SDe10 := hide ((unhide SDe9).below h10)
      have STe10 := hide ((unhide STe9).below h10)
      have SY10 := hide ((unhide SY9).below h10)
      have B10 := hide (later_trans (unhide B9) h10)
      clear h10 SD9 ST9 SDe9 STe9 SX9 SY9 B9
      generalize w9.drewN q10 = w10 at *
      go_wp2_with fail
      refine (same32 te ya ten yn tec yc (endsOf S') w10 (by omega) (unhide STe10) (unhide SY10)).mono ?_
      rintro _ _ ⟨rfl, q11, rfl⟩
      have h11 := later_drewN w10 q11
      have SD11 := hide ((unhide SD10).below h11)
      have ST11 := hide ((unhide ST10).below h11)
      have SDe11 := hide ((unhide SDe10).below h11)
      have STe11 := hide ((unhide STe10).below h11)
      have B11 := hide (later_trans (unhide B10) h11)
      clear h11 SD10 ST10 SDe10 STe10 SY10 B10 hstr hstr'
      generalize w10.drewN q11 = w11 at *
      go_wp2_with fail
      refine (count25 da dn dc ll w11 hdn (unhide SD11) hfa).mono ?_
      rintro _ w11 ⟨rfl, rfl⟩
      go_wp2_with fail
      refine (unpack24 S de den dec _ w11 (by omega) (by omega) (unhide SDe11) (by rw [← List.length_flatten]; omega)).mono ?_
      rintro _ w12 ⟨oa, on', oc, rfl, sO, b12, _⟩
      have hon : on' ≤ S.length := by rw [sO.len]; exact Nat.le_refl _
      have SD12 := hide ((unhide SD11).below b12)
      have ST12 := hide ((unhide ST11).below b12)
      have STe12 := hide ((unhide STe11).below b12)
      have SO12 := hide sO
      have B12 := hide (later_trans (unhide B11) b12)
      clear sO b12 SD11 ST11 SDe11 STe11 B11
      go_wp2_with fail
      refine (count25 ta tn tc ll2 w12 htn (unhide ST12) hfc).mono ?_
      rintro _ w12 ⟨rfl, rfl⟩
      go_wp2_with fail
      refine (unpack24 S' te ten tec _ w12 (by omega) (by omega) (unhide STe12) (by rw [← List.length_flatten]; omega)).mono ?_
      rintro _ w13 ⟨pa, pn, pc, rfl, sP, b13, _⟩
      have hpn : pn ≤ S'.length := by rw [sP.len]; exact Nat.le_refl _
      have SD13 := hide ((unhide SD12).below b13)
      have ST13 := hide ((unhide ST12).below b13)
      have SO13 := hide ((unhide SO12).below b13)
      have SP13 := hide sP
      have B13 := hide (later_trans (unhide B12) b13)
      clear sP b13 SD12 ST12 STe12 SO12 B12
      go_wp2_with fail
      refine (setAny28 oa on' oc da dn dc _ S ll w13 (by omega) (by omega) (unhide SO13) (unhide SD13) (unhide HSD).1 (fun x hx => unhide HM3 x (((unhide HSD).2 x).1 hx)) (fun l hl => by have := unhide HM1 l hl; omega) (fun l hl x hx => ((unhide HSD).2 x).2 (List.mem_flatten.2 ⟨l, hl, hx⟩)) (fun x hx => List.mem_flatten.1 (((unhide HSD).2 x).1 hx))).mono ?_
      rintro _ w14 ⟨rfl, b14⟩
      have ST14 := hide ((unhide ST13).below b14)
      have SP14 := hide ((unhide SP13).below b14)
      have B14 := hide (later_trans (unhide B13) b14)
      clear b14 ST13 SP13 B13 SD13 SO13
      go_wp2_with fail
      refine (setAny28 pa pn pc ta tn tc _ S' ll2 w14 (by omega) (by omega) (unhide SP14) (unhide ST14) (unhide HST).1 (fun x hx => unhide HM4 x (((unhide HST).2 x).1 hx)) (fun l hl => by have := unhide HM2 l hl; omega) (fun l hl x hx => ((unhide HST).2 x).2 (List.mem_flatten.2 ⟨l, hl, hx⟩)) (fun x hx => List.mem_flatten.1 (((unhide HST).2 x).1 hx))).mono ?_
      rintro _ w15 ⟨rfl, b15⟩
      have B15 := hide (later_trans (unhide B14) b15)
      clear b15 ST14 SP14 B14
      go_wp2
      go_ret
      exact ⟨rfl, unhide B15⟩

end Go.Proofs.Qxb6605915a.Strs
