/- FnKeyListsJoinIsExactUnionOrIntersection: the walk -/
import Derived.Test.Qxb6605915aAll
import Derived.Test.Qxb6605915aLaw4
namespace Go.Proofs.Qxb6605915a.Strs
open Go.ChangeShapes Go.WideShapes Go.ChangeAt Go.RowKit
set_option linter.unusedVariables false

theorem bool_tf : ∀ b : Bool, b = true ∨ b = false := by decide

theorem leI_ci (a b : Int) (h : leI a b = true) : ci a b ≤ 0 := by
  simp only [leI, decide_eq_true_eq] at h
  unfold ci
  split
  · omega
  · split <;> omega

theorem leS_cb (a b : ByteArray) (h : leS a b = true) : cb a b ≤ 0 := by simpa only [leS, decide_eq_true_eq] using h

theorem mem_srtd {α : Type} {le : α → α → Bool} {ll : List (List α)} {P : List α → Prop} (hP : ∀ l l', l'.Perm l → P l → P l') (h : ∀ l, l ∈ ll → P l) : ∀ l, l ∈ ll.map (srtd le) → P l := by
  intro l hl
  obtain ⟨l0, h0, rfl⟩ := List.mem_map.1 hl
  exact hP l0 _ (srtd_perm le l0) (h l0 h0)

/-- setOfInts answers true, in both cases -/
theorem set27 (any : Bool) (a : Option Addr) (n c : Nat) (al : Option Addr) (nl cl : Nat) (sa : Option Addr) (sn sc : Nat) (S : List Int) (ll : List (List Int)) (w : World)
    (hn : n ≤ 16777216) (hnl : nl ≤ 16777216) (h : Sl (Value.int .i64) w a n S) (hl : Sll (Value.int .i64) w al nl ll) (hs : Sll (Value.int .i64) w sa sn (ll.map (srtd leI)))
    (hll : ∀ l, l ∈ ll → l.length ≤ 16777216) (hJ : JSet ci ll (cond any 1 nl) S) (hNA : any = false → ∀ l, l ∈ ll.map (srtd leI) → NoAdj l) :
    Calls Try.prog 27 #[.slice a n c, .slice al nl cl, .slice sa sn sc, .bool any] w (SaysNew true w) := by
  have hlen := hl.len
  cases any
  · obtain ⟨f1, f2, f3, f4⟩ := all_facts totCi leI_ci leI_tot (by simpa using hlen) hJ (hNA rfl)
    exact setAll27 a n c _ sa sn sc S _ w hn (by rw [hs.len, List.length_map, ← hlen]; exact hnl) h hs hJ.1 (mem_srtd (fun l l' p q => by rw [p.length_eq]; exact q) hll) f1 f2 f3 f4
  · obtain ⟨f1, f2⟩ := any_facts totCi hJ
    exact setAny27 a n c al nl cl _ S ll w hn hnl h hl hJ.1 hll f1 f2

theorem set28 (any : Bool) (a : Option Addr) (n c : Nat) (al : Option Addr) (nl cl : Nat) (sa : Option Addr) (sn sc : Nat) (S : List ByteArray) (ll : List (List ByteArray)) (w : World)
    (hn : n ≤ 16777216) (hnl : nl ≤ 16777216) (h : Sl Value.string w a n S) (hl : Sll Value.string w al nl ll) (hs : Sll Value.string w sa sn (ll.map (srtd leS)))
    (hll : ∀ l, l ∈ ll → l.length ≤ 16777216) (hz : ∀ l, l ∈ ll → ∀ x, x ∈ l → x.size ≤ maxLen) (hJ : JSet cb ll (cond any 1 nl) S) (hNA : any = false → ∀ l, l ∈ ll.map (srtd leS) → NoAdj l) :
    Calls Try.prog 28 #[.slice a n c, .slice al nl cl, .slice sa sn sc, .bool any] w (SaysNew true w) := by
  have hlen := hl.len
  have hsz : ∀ x, x ∈ S → x.size ≤ maxLen := fun x hx => by
    obtain ⟨l, h1, h2⟩ := List.mem_flatten.1 ((hJ.2 x).1 hx).1
    exact hz l h1 x h2
  cases any
  · obtain ⟨f1, f2, f3, f4⟩ := all_facts totCb leS_cb leS_tot (by simpa using hlen) hJ (hNA rfl)
    exact setAll28 a n c _ sa sn sc S _ w hn (by rw [hs.len, List.length_map, ← hlen]; exact hnl) h hs hJ.1 hsz (mem_srtd (P := fun l => ∀ x : ByteArray, x ∈ l → x.size ≤ maxLen) (fun l l' p q x hx => q x (p.mem_iff.1 hx)) hz) (mem_srtd (fun l l' p q => by rw [p.length_eq]; exact q) hll) f1 f2 f3 f4
  · obtain ⟨f1, f2⟩ := any_facts totCb hJ
    exact setAny28 a n c al nl cl _ S ll w hn hnl h hl hJ.1 hsz hll f1 f2

set_option maxRecDepth 100000 in
set_option maxHeartbeats 16000000 in
theorem law3 (a : Option Addr) (n c : Nat) (ll : List (List Int)) (a2 : Option Addr) (n2 c2 : Nat) (ll2 : List (List ByteArray)) (a3 : Option Addr) (n3 c3 : Nat) (ll3 : List (List ByteArray)) (by' : Int) (any : Bool) (w : World)
    (hn : n ≤ maxLen) (hn2 : n2 ≤ maxLen) (hn3 : n3 ≤ maxLen) (h : Sll (Value.int .i64) w a n ll) (h2 : Sll Value.string w a2 n2 ll2) (h3 : Sll Value.string w a3 n3 ll3) (hl : ∀ l, l ∈ ll → l.length ≤ maxLen) (hl2 : ∀ l, l ∈ ll2 → l.length ≤ maxLen) (hl3 : ∀ l, l ∈ ll3 → l.length ≤ maxLen) (hnil : a = none → n = 0) (hnil2 : a2 = none → n2 = 0) (hnil3 : a3 = none → n3 = 0) :
    Calls Try.prog 3 #[.slice a n c, .slice a2 n2 c2, .slice a3 n3 c3, .int .i64 by', .bool any] w (SaysNew true w) := by
  have H := hide h
  have H2 := hide h2
  have H3 := hide h3
  have HL := hide hl
  have HL2 := hide hl2
  have HL3 := hide hl3
  have HN := hide hnil
  have HN2 := hide hnil2
  have HN3 := hide hnil3
  clear h h2 h3 hl hl2 hl3 hnil hnil2 hnil3
  go_enter Try.func3, Try.ntmps3
  go_wp2_with fail
  refine (zzBytes10 a n c ll a2 n2 c2 ll2 a3 n3 c3 ll3 by' any w hn hn2 hn3 (unhide H) (unhide H2) (unhide H3) (unhide HL) (unhide HL2) (unhide HL3)).mono ?_
  rintro _ _ ⟨r, rfl, rfl, hr⟩
  cases r
  · go_wp2
    go_ret
    exact ⟨rfl, Below.refl _ _⟩
  have hb := hr rfl
  clear hr hn hn2 hn3 HL HL2 HL3
  have hf1 := tot2_flat ll2
  have hf2 := tot2_flat ll3
  have hfi : ll.flatten.length ≤ 1048576 := by omega
  have hfa : ll2.flatten.length ≤ 1048576 := by omega
  have hfb : tot ll2.flatten ≤ 1048576 := by omega
  have hfc : ll3.flatten.length ≤ 1048576 := by omega
  have hfd : tot ll3.flatten ≤ 1048576 := by omega
  have hn1 : n ≤ 1048576 := by omega
  have hn2 : n2 ≤ 1048576 := by omega
  have hn3 : n3 ≤ 1048576 := by omega
  have HM1 : Hid (∀ l, l ∈ ll → l.length ≤ 1048576) := fun l hl => by have := (List.sublist_flatten_of_mem hl).length_le; omega
  have HM2 : Hid (∀ l, l ∈ ll2 → l.length ≤ 1048576) := fun l hl => by have := tot2_mem hl; omega
  have HM3 : Hid (∀ l, l ∈ ll3 → l.length ≤ 1048576) := fun l hl => by have := tot2_mem hl; omega
  have HZ2 : Hid (∀ l, l ∈ ll2 → ∀ x, x ∈ l → x.size ≤ maxLen) := fun l hl x hx => by have := size_le_tot hx; have := tot2_mem hl; unfold maxLen; omega
  have HZ3 : Hid (∀ l, l ∈ ll3 → ∀ x, x ∈ l → x.size ≤ maxLen) := fun l hl x hx => by have := size_le_tot hx; have := tot2_mem hl; unfold maxLen; omega
  clear hf1 hf2 hb
  go_wp2_with fail
  refine (size11 a n c ll _ hn1 (unhide H) (unhide HM1)).mono ?_
  rintro _ w ⟨t1, rfl, rfl, ht1, ht1'⟩
  go_wp2_with fail
  refine (size12 a2 n2 c2 ll2 _ hn2 (unhide H2) (unhide HM2)).mono ?_
  rintro _ w ⟨t2, rfl, rfl, ht2, ht2'⟩
  go_wp2_with fail
  refine (size12 a3 n3 c3 ll3 _ hn3 (unhide H3) (unhide HM3)).mono ?_
  rintro _ w ⟨t3, rfl, rfl, ht3, ht3'⟩
  by_cases ht : 1048576 < t1 + t2 + t3
  · go_wp2
    go_ret
    exact ⟨rfl, Below.refl _ _⟩
  have htf : decide ((1048576 : Int) < t1 + t2 + t3) = false := by simp; omega
  clear ht
  go_wp2_with fail
  refine (copy13 a n c ll w hn1 (unhide H) (unhide HN) (unhide HM1)).mono ?_
  rintro _ w1 ⟨na, nn, nc, rfl, s1, b1⟩
  have hnn : nn ≤ 1048576 := by rw [s1.len, ← (unhide H).len]; exact hn1
  have S1N := hide s1
  have B1 := hide b1
  clear s1 b1 HN H
  go_wp2_with fail
  refine (copy14 a2 n2 c2 ll2 w1 hn2 ((unhide H2).below (unhide B1)) (unhide HN2) (unhide HM2)).mono ?_
  rintro _ w2 ⟨da, dn, dc, rfl, s2, b2⟩
  have hdn : dn ≤ 1048576 := by rw [s2.len, ← (unhide H2).len]; exact hn2
  have S2N := hide ((unhide S1N).below b2)
  have S2D := hide s2
  have B2 := hide (later_trans (unhide B1) b2)
  clear s2 b2 HN2 H2 S1N B1
  go_wp2_with fail
  refine (copy14 a3 n3 c3 ll3 w2 hn3 ((unhide H3).below (unhide B2)) (unhide HN3) (unhide HM3)).mono ?_
  rintro _ w3 ⟨ta, tn, tc, rfl, s3, b3⟩
  have htn : tn ≤ 1048576 := by rw [s3.len, ← (unhide H3).len]; exact hn3
  have S3N := hide ((unhide S2N).below b3)
  have S3D := hide ((unhide S2D).below b3)
  have S3T := hide s3
  have B3 := hide (later_trans (unhide B2) b3)
  clear s3 b3 HN3 H3 S2N S2D B2 ht1 ht1' ht2 ht2' ht3 ht3' hn1 hn2 hn3
  go_wp2_with fail
  refine (sortEach15 na nn nc ll w3 hnn (unhide S3N) (unhide HM1)).mono ?_
  rintro _ w4 ⟨na', nn', nc', rfl, s4, b4⟩
  have hnn' : nn' ≤ 1048576 := by rw [s4.len, List.length_map, ← (unhide S3N).len]; exact hnn
  have S4N := hide ((unhide S3N).below b4)
  have S4D := hide ((unhide S3D).below b4)
  have S4T := hide ((unhide S3T).below b4)
  have R4N := hide s4
  have B4 := hide (later_trans (unhide B3) b4)
  clear s4 b4 S3N S3D S3T B3
  go_wp2_with fail
  refine (sortEach16 da dn dc ll2 w4 hdn (unhide S4D) (unhide HM2) (unhide HZ2)).mono ?_
  rintro _ w5 ⟨da', dn', dc', rfl, s5, b5⟩
  have hdn' : dn' ≤ 1048576 := by rw [s5.len, List.length_map, ← (unhide S4D).len]; exact hdn
  have S5N := hide ((unhide S4N).below b5)
  have S5D := hide ((unhide S4D).below b5)
  have S5T := hide ((unhide S4T).below b5)
  have R5N := hide ((unhide R4N).below b5)
  have R5D := hide s5
  have B5 := hide (later_trans (unhide B4) b5)
  clear s5 b5 S4N S4D S4T R4N B4
  go_wp2_with fail
  refine (sortEach16 ta tn tc ll3 w5 htn (unhide S5T) (unhide HM3) (unhide HZ3)).mono ?_
  rintro _ w6 ⟨ta', tn', tc', rfl, s6, b6⟩
  have htn' : tn' ≤ 1048576 := by rw [s6.len, List.length_map, ← (unhide S5T).len]; exact htn
  have S6N := hide ((unhide S5N).below b6)
  have S6D := hide ((unhide S5D).below b6)
  have S6T := hide ((unhide S5T).below b6)
  have R6N := hide ((unhide R5N).below b6)
  have R6D := hide ((unhide R5D).below b6)
  have R6T := hide s6
  have B6 := hide (later_trans (unhide B5) b6)
  clear s6 b6 S5N S5D S5T R5N R5D B5
  have HR1 : Hid (∀ l, l ∈ ll.map (srtd leI) → l.length ≤ 1048576) := mem_srtd (fun l l' p q => by rw [p.length_eq]; exact q) (unhide HM1)
  have HR2 : Hid (∀ l, l ∈ ll2.map (srtd leS) → l.length ≤ 1048576) := mem_srtd (fun l l' p q => by rw [p.length_eq]; exact q) (unhide HM2)
  have HR3 : Hid (∀ l, l ∈ ll3.map (srtd leS) → l.length ≤ 1048576) := mem_srtd (fun l l' p q => by rw [p.length_eq]; exact q) (unhide HM3)
  rcases bool_tf any with rfl | rfl
  · have NA1 : Hid (true = false → ∀ l, l ∈ ll.map (srtd leI) → NoAdj l) := fun h => by cases h
    have NA2 : Hid (true = false → ∀ l, l ∈ ll2.map (srtd leS) → NoAdj l) := fun h => by cases h
    have NA3 : Hid (true = false → ∀ l, l ∈ ll3.map (srtd leS) → NoAdj l) := fun h => by cases h
    go_wp2_with fail
    refine (zzJoin19 na nn nc ll da dn dc ll2 ta tn tc ll3 by' true _ _ _ w6 (unhide S6N) (unhide S6D) (unhide S6T) (by omega) (by omega) (by omega) (by omega) (by omega) (by omega) (by omega) (by omega) rfl rfl rfl).mono ?_
    rintro _ w7 ⟨K, N, D, T, rfl, kat, jN, jD, jT, b7⟩
    replace S6N := hide ((unhide S6N).below b7)
    replace S6D := hide ((unhide S6D).below b7)
    replace S6T := hide ((unhide S6T).below b7)
    replace R6N := hide ((unhide R6N).below b7)
    replace R6D := hide ((unhide R6D).below b7)
    replace R6T := hide ((unhide R6T).below b7)
    replace B6 := hide (later_trans (unhide B6) b7)
    have JN := hide jN
    have JD := hide jD
    have JT := hide jT
    have lN := int_le N ll.flatten jN.1 (fun x hx => ((jN.2 x).1 hx).1)
    have lD := jset_le jD.1 (fun x hx => ((jD.2 x).1 hx).1)
    have lT := jset_le jT.1 (fun x hx => ((jT.2 x).1 hx).1)
    obtain ⟨c0, ⟨ka, kn, kc, c1, sN⟩, c2, ⟨de, den, dec, c3, sDe⟩, c4, ⟨te, ten, tec, c5, sTe⟩⟩ := kat
    have hkn : kn ≤ ll.flatten.length := by rw [sN.len]; exact lN
    have hden : den ≤ D.length := by rw [sDe.len, endsOf_length]; exact Nat.le_refl _
    have hten : ten ≤ T.length := by rw [sTe.len, endsOf_length]; exact Nat.le_refl _
    have SKN := hide sN
    have SDe := hide sDe
    have STe := hide sTe
    clear jN jD jT b7 sN sDe sTe
    have hbb : (by' != by') = false := by simp
    go_wp2_with fail
    refine (by20 K by' w7 c0).mono ?_
    rintro _ w7 ⟨rfl, rfl⟩
    go_wp2_with fail
    refine (num21 K _ ka kn kc rfl w7 c1).mono ?_
    rintro _ w7 ⟨rfl, rfl⟩
    obtain ⟨m, hkm, hcm⟩ : ∃ m : Nat, kn ≤ m ∧ Calls Try.prog 22 #[.slice na nn nc] w7 (fun e w' => e = .returned (.int .i64 (m : Nat)) ∧ w' = w7) := ⟨_, hkn, count22 na nn nc ll w7 hnn (unhide S6N) hfi⟩
    have hkd : decide ((m : Int) < (kn : Int)) = false := by simp only [decide_eq_false_iff_not]; omega
    go_wp2_with fail
    refine hcm.mono ?_
    rintro _ w7 ⟨rfl, rfl⟩
    go_wp2_with fail
    refine (dec23 K _ de den dec w7 c2 c3).mono ?_
    rintro _ _ ⟨rfl, q4, rfl⟩
    have h4 := later_drewN w7 q4
    have c4' := (h4.cell (cell_lt c4)).trans c4
    have c5' := (h4.cell (cell_lt c5)).trans c5
    replace S6N := hide ((unhide S6N).below h4)
    replace S6D := hide ((unhide S6D).below h4)
    replace S6T := hide ((unhide S6T).below h4)
    replace R6N := hide ((unhide R6N).below h4)
    replace R6D := hide ((unhide R6D).below h4)
    replace R6T := hide ((unhide R6T).below h4)
    replace SKN := hide ((unhide SKN).below h4)
    replace SDe := hide ((unhide SDe).below h4)
    replace STe := hide ((unhide STe).below h4)
    replace B6 := hide (later_trans (unhide B6) h4)
    clear h4 c0 c1 c2 c3 c4 c5
    generalize w7.drewN q4 = w8 at *
    go_wp2_with fail
    refine (count25 da dn dc ll2 w8 hdn (unhide S6D) hfa).mono ?_
    rintro _ w8 ⟨rfl, rfl⟩
    go_wp2_with fail
    refine (unpack24 D de den dec _ w8 (by omega) (by omega) (unhide SDe) (by rw [← List.length_flatten]; omega)).mono ?_
    rintro _ w9 ⟨oa, on', oc, rfl, sO, b9, _⟩
    have hon : on' ≤ D.length := by rw [sO.len]; exact Nat.le_refl _
    have SO := hide sO
    have c4 := (b9.cell (cell_lt c4')).trans c4'
    have c5 := (b9.cell (cell_lt c5')).trans c5'
    replace S6N := hide ((unhide S6N).below b9)
    replace S6D := hide ((unhide S6D).below b9)
    replace S6T := hide ((unhide S6T).below b9)
    replace R6N := hide ((unhide R6N).below b9)
    replace R6D := hide ((unhide R6D).below b9)
    replace R6T := hide ((unhide R6T).below b9)
    replace SKN := hide ((unhide SKN).below b9)
    replace STe := hide ((unhide STe).below b9)
    replace B6 := hide (later_trans (unhide B6) b9)
    clear sO b9 SDe c4' c5'
    go_wp2_with fail
    refine (tex26 K _ te ten tec w9 c4 c5).mono ?_
    rintro _ _ ⟨rfl, q5, rfl⟩
    have h5 := later_drewN w9 q5
    replace S6N := hide ((unhide S6N).below h5)
    replace S6D := hide ((unhide S6D).below h5)
    replace S6T := hide ((unhide S6T).below h5)
    replace R6N := hide ((unhide R6N).below h5)
    replace R6D := hide ((unhide R6D).below h5)
    replace R6T := hide ((unhide R6T).below h5)
    replace SKN := hide ((unhide SKN).below h5)
    replace STe := hide ((unhide STe).below h5)
    replace SO := hide ((unhide SO).below h5)
    replace B6 := hide (later_trans (unhide B6) h5)
    clear h5 c4 c5
    generalize w9.drewN q5 = w10 at *
    go_wp2_with fail
    refine (count25 ta tn tc ll3 w10 htn (unhide S6T) hfc).mono ?_
    rintro _ w10 ⟨rfl, rfl⟩
    go_wp2_with fail
    refine (unpack24 T te ten tec _ w10 (by omega) (by omega) (unhide STe) (by rw [← List.length_flatten]; omega)).mono ?_
    rintro _ w11 ⟨pa, pn, pc, rfl, sP, b11, _⟩
    have hpn : pn ≤ T.length := by rw [sP.len]; exact Nat.le_refl _
    have SP := hide sP
    replace S6N := hide ((unhide S6N).below b11)
    replace S6D := hide ((unhide S6D).below b11)
    replace S6T := hide ((unhide S6T).below b11)
    replace R6N := hide ((unhide R6N).below b11)
    replace R6D := hide ((unhide R6D).below b11)
    replace R6T := hide ((unhide R6T).below b11)
    replace SKN := hide ((unhide SKN).below b11)
    replace SO := hide ((unhide SO).below b11)
    replace B6 := hide (later_trans (unhide B6) b11)
    clear sP b11 STe
    go_wp2_with fail
    refine (set27 true ka kn kc na nn nc na' nn' nc' N ll w11 (by omega) (by omega) (unhide SKN) (unhide S6N) (unhide R6N) (fun l hl => by have := unhide HM1 l hl; omega) (unhide JN) (unhide NA1)).mono ?_
    rintro _ w12 ⟨rfl, b12⟩
    replace S6D := hide ((unhide S6D).below b12)
    replace S6T := hide ((unhide S6T).below b12)
    replace R6D := hide ((unhide R6D).below b12)
    replace R6T := hide ((unhide R6T).below b12)
    replace SO := hide ((unhide SO).below b12)
    replace SP := hide ((unhide SP).below b12)
    replace B6 := hide (later_trans (unhide B6) b12)
    clear b12 SKN S6N R6N
    go_wp2_with fail
    refine (set28 true oa on' oc da dn dc da' dn' dc' D ll2 w12 (by omega) (by omega) (unhide SO) (unhide S6D) (unhide R6D) (fun l hl => by have := unhide HM2 l hl; omega) (unhide HZ2) (unhide JD) (unhide NA2)).mono ?_
    rintro _ w13 ⟨rfl, b13⟩
    replace S6T := hide ((unhide S6T).below b13)
    replace R6T := hide ((unhide R6T).below b13)
    replace SP := hide ((unhide SP).below b13)
    replace B6 := hide (later_trans (unhide B6) b13)
    clear b13 SO S6D R6D
    go_wp2_with fail
    refine (set28 true pa pn pc ta tn tc ta' tn' tc' T ll3 w13 (by omega) (by omega) (unhide SP) (unhide S6T) (unhide R6T) (fun l hl => by have := unhide HM3 l hl; omega) (unhide HZ3) (unhide JT) (unhide NA3)).mono ?_
    rintro _ w14 ⟨rfl, b14⟩
    replace B6 := hide (later_trans (unhide B6) b14)
    go_wp2
    go_ret
    exact ⟨rfl, unhide B6⟩
  · go_wp2_with fail
    refine (repeat17 na' nn' nc' _ w6 hnn' (unhide R6N) (unhide HR1)).mono ?_
    rintro _ w6a ⟨r1, rfl, ⟨q, e⟩, hr1⟩
    have hd := later_drewN w6 q
    rw [e] at hd
    clear e
    replace S6N := hide ((unhide S6N).below hd)
    replace S6D := hide ((unhide S6D).below hd)
    replace S6T := hide ((unhide S6T).below hd)
    replace R6N := hide ((unhide R6N).below hd)
    replace R6D := hide ((unhide R6D).below hd)
    replace R6T := hide ((unhide R6T).below hd)
    replace B6 := hide (later_trans (unhide B6) hd)
    clear hd
    rcases bool_tf r1 with rfl | rfl
    · go_wp2
      go_ret
      exact ⟨rfl, unhide B6⟩
    have NA1 : Hid (∀ l, l ∈ ll.map (srtd leI) → NoAdj l) := hr1 rfl
    clear hr1
    go_wp2_with fail
    refine (repeat18 da' dn' dc' _ w6a hdn' (unhide R6D) (unhide HR2)).mono ?_
    rintro _ w6b ⟨r1, rfl, ⟨q, e⟩, hr1⟩
    have hd := later_drewN w6a q
    rw [e] at hd
    clear e
    replace S6N := hide ((unhide S6N).below hd)
    replace S6D := hide ((unhide S6D).below hd)
    replace S6T := hide ((unhide S6T).below hd)
    replace R6N := hide ((unhide R6N).below hd)
    replace R6D := hide ((unhide R6D).below hd)
    replace R6T := hide ((unhide R6T).below hd)
    replace B6 := hide (later_trans (unhide B6) hd)
    clear hd
    rcases bool_tf r1 with rfl | rfl
    · go_wp2
      go_ret
      exact ⟨rfl, unhide B6⟩
    have NA2 : Hid (∀ l, l ∈ ll2.map (srtd leS) → NoAdj l) := hr1 rfl
    clear hr1
    go_wp2_with fail
    refine (repeat18 ta' tn' tc' _ w6b htn' (unhide R6T) (unhide HR3)).mono ?_
    rintro _ w6c ⟨r1, rfl, ⟨q, e⟩, hr1⟩
    have hd := later_drewN w6b q
    rw [e] at hd
    clear e
    replace S6N := hide ((unhide S6N).below hd)
    replace S6D := hide ((unhide S6D).below hd)
    replace S6T := hide ((unhide S6T).below hd)
    replace R6N := hide ((unhide R6N).below hd)
    replace R6D := hide ((unhide R6D).below hd)
    replace R6T := hide ((unhide R6T).below hd)
    replace B6 := hide (later_trans (unhide B6) hd)
    clear hd
    rcases bool_tf r1 with rfl | rfl
    · go_wp2
      go_ret
      exact ⟨rfl, unhide B6⟩
    have NA3 : Hid (∀ l, l ∈ ll3.map (srtd leS) → NoAdj l) := hr1 rfl
    clear hr1
    go_wp2_with fail
    refine (zzJoin19 na nn nc ll da dn dc ll2 ta tn tc ll3 by' false _ _ _ w6c (unhide S6N) (unhide S6D) (unhide S6T) (by omega) (by omega) (by omega) (by omega) (by omega) (by omega) (by omega) (by omega) rfl rfl rfl).mono ?_
    rintro _ w7 ⟨K, N, D, T, rfl, kat, jN, jD, jT, b7⟩
    replace S6N := hide ((unhide S6N).below b7)
    replace S6D := hide ((unhide S6D).below b7)
    replace S6T := hide ((unhide S6T).below b7)
    replace R6N := hide ((unhide R6N).below b7)
    replace R6D := hide ((unhide R6D).below b7)
    replace R6T := hide ((unhide R6T).below b7)
    replace B6 := hide (later_trans (unhide B6) b7)
    have JN := hide jN
    have JD := hide jD
    have JT := hide jT
    have lN := int_le N ll.flatten jN.1 (fun x hx => ((jN.2 x).1 hx).1)
    have lD := jset_le jD.1 (fun x hx => ((jD.2 x).1 hx).1)
    have lT := jset_le jT.1 (fun x hx => ((jT.2 x).1 hx).1)
    obtain ⟨c0, ⟨ka, kn, kc, c1, sN⟩, c2, ⟨de, den, dec, c3, sDe⟩, c4, ⟨te, ten, tec, c5, sTe⟩⟩ := kat
    have hkn : kn ≤ ll.flatten.length := by rw [sN.len]; exact lN
    have hden : den ≤ D.length := by rw [sDe.len, endsOf_length]; exact Nat.le_refl _
    have hten : ten ≤ T.length := by rw [sTe.len, endsOf_length]; exact Nat.le_refl _
    have SKN := hide sN
    have SDe := hide sDe
    have STe := hide sTe
    clear jN jD jT b7 sN sDe sTe
    have hbb : (by' != by') = false := by simp
    go_wp2_with fail
    refine (by20 K by' w7 c0).mono ?_
    rintro _ w7 ⟨rfl, rfl⟩
    go_wp2_with fail
    refine (num21 K _ ka kn kc rfl w7 c1).mono ?_
    rintro _ w7 ⟨rfl, rfl⟩
    obtain ⟨m, hkm, hcm⟩ : ∃ m : Nat, kn ≤ m ∧ Calls Try.prog 22 #[.slice na nn nc] w7 (fun e w' => e = .returned (.int .i64 (m : Nat)) ∧ w' = w7) := ⟨_, hkn, count22 na nn nc ll w7 hnn (unhide S6N) hfi⟩
    have hkd : decide ((m : Int) < (kn : Int)) = false := by simp only [decide_eq_false_iff_not]; omega
    go_wp2_with fail
    refine hcm.mono ?_
    rintro _ w7 ⟨rfl, rfl⟩
    go_wp2_with fail
    refine (dec23 K _ de den dec w7 c2 c3).mono ?_
    rintro _ _ ⟨rfl, q4, rfl⟩
    have h4 := later_drewN w7 q4
    have c4' := (h4.cell (cell_lt c4)).trans c4
    have c5' := (h4.cell (cell_lt c5)).trans c5
    replace S6N := hide ((unhide S6N).below h4)
    replace S6D := hide ((unhide S6D).below h4)
    replace S6T := hide ((unhide S6T).below h4)
    replace R6N := hide ((unhide R6N).below h4)
    replace R6D := hide ((unhide R6D).below h4)
    replace R6T := hide ((unhide R6T).below h4)
    replace SKN := hide ((unhide SKN).below h4)
    replace SDe := hide ((unhide SDe).below h4)
    replace STe := hide ((unhide STe).below h4)
    replace B6 := hide (later_trans (unhide B6) h4)
    clear h4 c0 c1 c2 c3 c4 c5
    generalize w7.drewN q4 = w8 at *
    go_wp2_with fail
    refine (count25 da dn dc ll2 w8 hdn (unhide S6D) hfa).mono ?_
    rintro _ w8 ⟨rfl, rfl⟩
    go_wp2_with fail
    refine (unpack24 D de den dec _ w8 (by omega) (by omega) (unhide SDe) (by rw [← List.length_flatten]; omega)).mono ?_
    rintro _ w9 ⟨oa, on', oc, rfl, sO, b9, _⟩
    have hon : on' ≤ D.length := by rw [sO.len]; exact Nat.le_refl _
    have SO := hide sO
    have c4 := (b9.cell (cell_lt c4')).trans c4'
    have c5 := (b9.cell (cell_lt c5')).trans c5'
    replace S6N := hide ((unhide S6N).below b9)
    replace S6D := hide ((unhide S6D).below b9)
    replace S6T := hide ((unhide S6T).below b9)
    replace R6N := hide ((unhide R6N).below b9)
    replace R6D := hide ((unhide R6D).below b9)
    replace R6T := hide ((unhide R6T).below b9)
    replace SKN := hide ((unhide SKN).below b9)
    replace STe := hide ((unhide STe).below b9)
    replace B6 := hide (later_trans (unhide B6) b9)
    clear sO b9 SDe c4' c5'
    go_wp2_with fail
    refine (tex26 K _ te ten tec w9 c4 c5).mono ?_
    rintro _ _ ⟨rfl, q5, rfl⟩
    have h5 := later_drewN w9 q5
    replace S6N := hide ((unhide S6N).below h5)
    replace S6D := hide ((unhide S6D).below h5)
    replace S6T := hide ((unhide S6T).below h5)
    replace R6N := hide ((unhide R6N).below h5)
    replace R6D := hide ((unhide R6D).below h5)
    replace R6T := hide ((unhide R6T).below h5)
    replace SKN := hide ((unhide SKN).below h5)
    replace STe := hide ((unhide STe).below h5)
    replace SO := hide ((unhide SO).below h5)
    replace B6 := hide (later_trans (unhide B6) h5)
    clear h5 c4 c5
    generalize w9.drewN q5 = w10 at *
    go_wp2_with fail
    refine (count25 ta tn tc ll3 w10 htn (unhide S6T) hfc).mono ?_
    rintro _ w10 ⟨rfl, rfl⟩
    go_wp2_with fail
    refine (unpack24 T te ten tec _ w10 (by omega) (by omega) (unhide STe) (by rw [← List.length_flatten]; omega)).mono ?_
    rintro _ w11 ⟨pa, pn, pc, rfl, sP, b11, _⟩
    have hpn : pn ≤ T.length := by rw [sP.len]; exact Nat.le_refl _
    have SP := hide sP
    replace S6N := hide ((unhide S6N).below b11)
    replace S6D := hide ((unhide S6D).below b11)
    replace S6T := hide ((unhide S6T).below b11)
    replace R6N := hide ((unhide R6N).below b11)
    replace R6D := hide ((unhide R6D).below b11)
    replace R6T := hide ((unhide R6T).below b11)
    replace SKN := hide ((unhide SKN).below b11)
    replace SO := hide ((unhide SO).below b11)
    replace B6 := hide (later_trans (unhide B6) b11)
    clear sP b11 STe
    go_wp2_with fail
    refine (set27 false ka kn kc na nn nc na' nn' nc' N ll w11 (by omega) (by omega) (unhide SKN) (unhide S6N) (unhide R6N) (fun l hl => by have := unhide HM1 l hl; omega) (unhide JN) (fun _ => unhide NA1)).mono ?_
    rintro _ w12 ⟨rfl, b12⟩
    replace S6D := hide ((unhide S6D).below b12)
    replace S6T := hide ((unhide S6T).below b12)
    replace R6D := hide ((unhide R6D).below b12)
    replace R6T := hide ((unhide R6T).below b12)
    replace SO := hide ((unhide SO).below b12)
    replace SP := hide ((unhide SP).below b12)
    replace B6 := hide (later_trans (unhide B6) b12)
    clear b12 SKN S6N R6N
    go_wp2_with fail
    refine (set28 false oa on' oc da dn dc da' dn' dc' D ll2 w12 (by omega) (by omega) (unhide SO) (unhide S6D) (unhide R6D) (fun l hl => by have := unhide HM2 l hl; omega) (unhide HZ2) (unhide JD) (fun _ => unhide NA2)).mono ?_
    rintro _ w13 ⟨rfl, b13⟩
    replace S6T := hide ((unhide S6T).below b13)
    replace R6T := hide ((unhide R6T).below b13)
    replace SP := hide ((unhide SP).below b13)
    replace B6 := hide (later_trans (unhide B6) b13)
    clear b13 SO S6D R6D
    go_wp2_with fail
    refine (set28 false pa pn pc ta tn tc ta' tn' tc' T ll3 w13 (by omega) (by omega) (unhide SP) (unhide S6T) (unhide R6T) (fun l hl => by have := unhide HM3 l hl; omega) (unhide HZ3) (unhide JT) (fun _ => unhide NA3)).mono ?_
    rintro _ w14 ⟨rfl, b14⟩
    replace B6 := hide (later_trans (unhide B6) b14)
    go_wp2
    go_ret
    exact ⟨rfl, unhide B6⟩

end Go.Proofs.Qxb6605915a.Strs
