/- FnTextSetIgnoresOrderAndRepeats: the walk -/
import Derived.Test.Qxb6605915aLaw6Aid
namespace Go.Proofs.Qxb6605915a.Strs
open Go.ChangeShapes Go.WideShapes Go.ChangeAt Go.RowKit
set_option linter.unusedVariables false

set_option maxRecDepth 100000 in
set_option maxHeartbeats 4000000 in
theorem law6 (a : Option Addr) (n c : Nat) (l : List ByteArray) (w : World) (hn : n ≤ maxLen) (h : Sl Value.string w a n l) (hnil : a = none → n = 0) :
    Calls Try.prog 6 #[.slice a n c] w (SaysNew true w) := by
  have H := hide h
  have HN := hide hnil
  clear h hnil
  obtain ⟨i0, hi, hz0, hz1, hz2⟩ := info_parts info9
  go_enter Try.func6, Try.ntmps6
  go_wp2_with fail
  refine (zzBytes36 a n c l w hn (unhide H)).mono ?_
  rintro _ _ ⟨r, rfl, rfl, hr⟩
  cases r
  · go_wp2
    go_ret
    exact ⟨rfl, Below.refl _ _⟩
  · have hb := hr rfl
    clear hr
    go_wp2_with fail
    refine (size34 a n c l _ hn (unhide H)).mono ?_
    rintro _ w ⟨t, rfl, rfl⟩
    by_cases ht : 1048576 < t
    · go_wp2
      go_ret
      exact ⟨rfl, Below.refl _ _⟩
    · go_wp2_with fail
      refine (copy35 a n c l w (by omega) (unhide H) (unhide HN)).mono ?_
      rintro _ w1 ⟨a1, n1, c1, rfl, hsl1, hb1, hnil1⟩
      have hn1 : n1 ≤ 1048576 := by rw [hsl1.len, ← (unhide H).len]; omega
      have htl : tot l ≤ 1048576 := by omega
      have HSL1 := hide hsl1
      have HN1 := hide hnil1
      have HB1 := hide hb1
      have HL1 := hide hsl1.len
      clear hsl1 hnil1 hb1 hb hn HN
      have htf : decide ((1048576 : Int) < t) = false := by simp; omega
      have hmk := run_make_row' (P := Try.prog) 39 9 (.string ByteArray.empty) 16 Try.underlying39 info9 rfl .i64 .i64 n1 (by omega) (by omega) w1
      go_wp2
      clear hmk
      go_loopw [5] (fun i wr => ∃ k : Nat, k ≤ n1 ∧ i = .int .i64 k ∧ wr.rowIs w1.heap.size 9 n1 (fun j => if j < k then .string (l.getD (n1 - 1 - j) ByteArray.empty) else .string ByteArray.empty) ∧ Below w1.heap.size w1 wr) (fun i _ => n1 - (intOf i).toNat)
      case atStart => exact ⟨0, Nat.zero_le _, rfl, (World.rowIs_made w1 _ n1 9).congr (fun j _ => by simp), (Below.refl _ _).alloc (Nat.le_refl _) _⟩
      case round =>
        obtain ⟨k, hk, rfl, hrow, hbel⟩ := hrel
        by_cases hlt : k < n1
        · obtain ⟨m, hm⟩ : ∃ m : Nat, m = n1 - 1 - k := ⟨_, rfl⟩
          have hM : (n1 : Int) - 1 - (k : Int) = (m : Int) := by omega
          have hmn : m < n1 := by omega
          obtain ⟨b, off, x, ha, hx, hc⟩ := (unhide HSL1).at m hmn
          have hcr := (hbel.cell (cell_lt hc)).trans hc
          have hf := hrow.frozen k
          have hold : wr.cell? ⟨w1.heap.size, k, none⟩ = some (.string ByteArray.empty) := by rw [hrow.cell hlt]; simp
          have R := hide (And.intro (hrow.set k (.string x)) (hbel.setCell (p := ⟨w1.heap.size, k, none⟩) (Nat.le_refl _) (.string x)))
          have HX : Hid (l.getD (n1 - 1 - k) ByteArray.empty = x) := by rw [← hm, List.getD_eq_getElem?_getD, hx]; rfl
          clear hx hc hrow hbel hm
          rw [ha]
          clear ha
          go_wp2
          go_roundw
          case rel =>
            refine ⟨k + 1, by omega, by go_num, (unhide R).1.congr ?_, (unhide R).2⟩
            intro j _
            by_cases e : j = k
            · subst e; simp only [if_true, Nat.lt_succ_self]; rw [unhide HX]
            · simp only [if_neg e]
              by_cases e2 : j < k
              · rw [if_pos e2, if_pos (by omega)]
              · rw [if_neg e2, if_neg (by omega)]
          case measure => simp [intOf]; omega
        · have hRS : Sl Value.string wr (some ⟨w1.heap.size, 0, none⟩) n1 l.reverse := by
            refine Sl.of_rowIs hrow (by rw [List.length_reverse]; exact unhide HL1) ?_
            intro j x hx
            have hj := (List.getElem?_eq_some_iff.1 hx).1
            rw [List.length_reverse] at hj
            have hL := unhide HL1
            rw [if_pos (by omega), List.getElem?_reverse hj] at *
            rw [List.getD_eq_getElem?_getD, hL, hx]; rfl
          have HRS := hide hRS
          have hkw : w1.heap.size < wr.heap.size := hrow.lt
          have HB2 := hide hbel
          clear hRS hrow hbel
          obtain ⟨W2, hW2⟩ : ∃ W2 : World, W2 = wr := ⟨_, rfl⟩
          subst hW2
          go_wp2_with (at_make; refine wpList_make_own _ rfl _ _ 39 rfl W2.heap.size 9 i0 (.string ByteArray.empty) 1 Try.underlying39 hi hz0 hz1 .i64 .i64 _ (2 * n1) rfl rfl (by omega) (by rw [hz2]; omega) (by unfold maxLen; omega) (Nat.le_refl _) ?_; intro w0 hown0 hgrow0)
          have hb0 : Below W2.heap.size W2 w0 := (Below.refl _ _).grown hgrow0 (Nat.le_refl _) (fun k hk => by cases hk)
          clear hgrow0
          go_loopw [6, 7] (fun v i wr => ∃ (k : Nat) (F : List ByteArray), k ≤ n1 ∧ i = .int .i64 k ∧ F.length ≤ k ∧ wr.ownsRow W2.heap.size 9 1 v F.length (F.map Value.string) ∧ Below W2.heap.size W2 wr ∧ Hid (F = l.take k)) (fun _ i _ => n1 - (intOf i).toNat)
          case atStart => exact ⟨0, [], Nat.zero_le _, rfl, Nat.le_refl _, by simpa using hown0, hb0, rfl⟩
          case round =>
            clear hown0 hb0
            obtain ⟨k, F, hk, rfl, hFk, hown, hbel, HF⟩ := hrel
            by_cases hlt : k < n1
            · obtain ⟨b, off, x, ha, hx, hc⟩ := (unhide HSL1).at k hlt
              have hcr := (hbel.cell (Nat.lt_of_lt_of_le (cell_lt hc) (unhide HB2).size)).trans (((unhide HB2).cell (cell_lt hc)).trans hc)
              have HF2 : Hid (F ++ [x] = l.take (k + 1)) := by rw [unhide HF, List.take_add_one, hx]; rfl
              have hs := hbel.size
              have Hown := hide hown
              have Hbel := hide hbel
              clear hx hc hown hbel
              rw [ha]
              clear ha
              go_wp2_with (at_builtin; refine wpList_append_own _ rfl _ _ 39 rfl W2.heap.size 9 i0 (.string ByteArray.empty) 1 16 Try.underlying39 hi hz0 hz1 hz2 rfl (by decide) _ _ _ rfl ((unhide Hown).alloc _) ⟨wr.heap.size, 0, none⟩ 1 1 [.string x] rfl rfl ?c1 ?c2 ?c3 ?c4 ?c5 ?_)
              case c1 => exact cell_one_new _ _ _
              case c2 => intro u hu; simp at hu; subst hu; rfl
              case c3 => unfold maxLen; omega
              case c4 => omega
              case c5 => simp; omega
              intro v' w3 ho hg _
              have R := hide (app_one _ ho (unhide Hbel) hs (fun g hg => ((unhide Hown).lt g hg).1) hg)
              clear ho hg
              go_wp2
              go_roundw
              case rel => exact ⟨k + 1, F ++ [x], by omega, by go_num, by simp; omega, (unhide R).1, (unhide R).2, HF2⟩
              case measure => simp [intOf]; omega
            · have HF1 : Hid (F = l) := by rw [unhide HF]; exact List.take_of_length_le (by have := unhide HL1; omega)
              have Hown := hide hown
              have Hbel := hide hbel
              clear hown hbel HF
              go_wp2
              go_loopw [6, 8] (fun v i wr => ∃ (k : Nat) (G : List ByteArray), k ≤ n1 ∧ i = .int .i64 k ∧ G.length ≤ n1 + k ∧ wr.ownsRow W2.heap.size 9 1 v G.length (G.map Value.string) ∧ Below W2.heap.size W2 wr ∧ Hid (G = l ++ l.take k)) (fun _ i _ => n1 - (intOf i).toNat)
              case atStart => exact ⟨0, F, Nat.zero_le _, rfl, by omega, unhide Hown, unhide Hbel, by refine hide ?_; rw [unhide HF1]; simp⟩
              case round =>
                clear Hown Hbel
                obtain ⟨k2, G, hk2, rfl, hGk, hown, hbel, HG⟩ := hrel
                by_cases hlt2 : k2 < n1
                · obtain ⟨b, off, x, ha, hx, hc⟩ := (unhide HSL1).at k2 hlt2
                  have hcr := (hbel.cell (Nat.lt_of_lt_of_le (cell_lt hc) (unhide HB2).size)).trans (((unhide HB2).cell (cell_lt hc)).trans hc)
                  have HG2 : Hid (G ++ [x] = l ++ l.take (k2 + 1)) := by rw [unhide HG, List.take_add_one, hx, List.append_assoc]; rfl
                  have hs := hbel.size
                  have Hown := hide hown
                  have Hbel := hide hbel
                  clear hx hc hown hbel
                  rw [ha]
                  clear ha
                  go_wp2_with (at_builtin; refine wpList_append_own _ rfl _ _ 39 rfl W2.heap.size 9 i0 (.string ByteArray.empty) 1 16 Try.underlying39 hi hz0 hz1 hz2 rfl (by decide) _ _ _ rfl ((unhide Hown).alloc _) ⟨wr.heap.size, 0, none⟩ 1 1 [.string x] rfl rfl ?c1 ?c2 ?c3 ?c4 ?c5 ?_)
                  case c1 => exact cell_one_new _ _ _
                  case c2 => intro u hu; simp at hu; subst hu; rfl
                  case c3 => unfold maxLen; omega
                  case c4 => omega
                  case c5 => simp; omega
                  intro v' w3 ho hg _
                  have R := hide (app_one _ ho (unhide Hbel) hs (fun g hg => ((unhide Hown).lt g hg).1) hg)
                  clear ho hg
                  go_wp2
                  go_roundw
                  case rel => exact ⟨k2 + 1, G ++ [x], by omega, by go_num, by simp; omega, (unhide R).1, (unhide R).2, HG2⟩
                  case measure => simp [intOf]; omega
                · have HG1 : Hid (G = l ++ l) := by rw [unhide HG, List.take_of_length_le (by have := unhide HL1; omega)]; exact rfl
                  obtain ⟨a3, c3, hv3, hs3, hnil3⟩ := Sl.of_owns hown
                  obtain ⟨W3, hW3⟩ : ∃ W3 : World, W3 = wr := ⟨_, rfl⟩
                  subst hW3
                  have HS3 := hide hs3
                  have HN3 := hide hnil3
                  have HB3 := hide hbel
                  have HSLA := hide (((unhide HSL1).below (unhide HB2)).below hbel)
                  have HRSA := hide ((unhide HRS).below hbel)
                  have HBB := hide (((unhide HB1).trans ((unhide HB2).mono (unhide HB1).size)).trans (hbel.mono (Nat.le_trans (unhide HB1).size (unhide HB2).size)))
                  clear hown hbel HG hs3 hnil3 HRS HB2 HSL1
                  rw [hv3]
                  clear hv3
                  go_wp2_with fail
                  refine (zzText30 a1 n1 c1 l W3 (by omega) (by omega) (unhide HSLA) (unhide HN1)).mono ?_
                  rintro _ w4 ⟨S, ea, en, ec, rfl, hse, hset, hb4⟩
                  have HSE := hide hse
                  have HSET := hide hset
                  have HB4 := hide hb4
                  clear hse hset hb4
                  go_wp2_with fail
                  refine (zzText30 (some ⟨w1.heap.size, 0, none⟩) n1 n1 l.reverse w4 (by omega) (by rw [tot_reverse]; omega) ((unhide HRSA).below (unhide HB4)) (fun h => by cases h)).mono ?_
                  rintro _ w5 ⟨S2, eb, en2, ec2, rfl, hse2, hset2, hb5⟩
                  obtain rfl : S2 = S := setOf_unique hset2 (unhide HSET) (fun x => by simp)
                  have HSE2 := hide hse2
                  have HB5 := hide hb5
                  clear hse2 hset2 hb5
                  go_wp2_with fail
                  refine (zzText30 a3 G.length c3 G w5 (by omega) (by rw [unhide HG1, tot_append]; omega) (((unhide HS3).below (unhide HB4)).below (unhide HB5)) (unhide HN3)).mono ?_
                  rintro _ w6 ⟨S3, ed, en3, ec3, rfl, hse3, hset3, hb6⟩
                  obtain rfl : S3 = S2 := setOf_unique hset3 (unhide HSET) (fun x => by rw [unhide HG1]; simp)
                  have HSE3 := hide hse3
                  have HB6 := hide hb6
                  clear hse3 hset3 hb6
                  have HEA := hide (((unhide HSE).below (unhide HB5)).below (unhide HB6))
                  have HEB := hide ((unhide HSE2).below (unhide HB6))
                  have hle := setOf_le (unhide HSET)
                  have hen : en ≤ n1 := by rw [(unhide HSE).len, endsOf_length]; have := unhide HL1; omega
                  have hen2 : en2 ≤ n1 := by rw [(unhide HSE2).len, endsOf_length]; have := unhide HL1; omega
                  have hen3 : en3 ≤ n1 := by rw [(unhide HSE3).len, endsOf_length]; have := unhide HL1; omega
                  have hstr : ((cat S3).toList != (cat S3).toList) = false := by simp
                  go_wp2_with fail
                  refine (same32 eb ea en2 en ec2 ec (endsOf S3) _ (by omega) (unhide HEB) (unhide HEA)).mono ?_
                  rintro _ _ ⟨rfl, q1, rfl⟩
                  go_wp2_with fail
                  refine (same32 ed ea en3 en ec3 ec (endsOf S3) _ (by omega) ((unhide HSE3).drewN _) ((unhide HEA).drewN _)).mono ?_
                  rintro _ _ ⟨rfl, q2, rfl⟩
                  go_wp2_with fail
                  refine (unpack24 S3 ea en ec n1 _ (by omega) (by omega) ?_ (by omega)).mono ?_
                  · first | exact (unhide HEA).drewN _ | exact ((unhide HEA).drewN _).drewN _
                  rintro _ w7 ⟨ga, gn, gc, rfl, hsg, hb7, hnilg⟩
                  have hB7 : Below w6.heap.size w6 w7 := by
                    refine Below.trans ?_ hb7
                    first | exact below_drewN (Below.refl _ _) _ | exact below_drewN (below_drewN (Below.refl _ _) _) _
                  have hgn : gn ≤ n1 := by rw [hsg.len]; have := unhide HL1; omega
                  have HSG := hide hsg
                  have HNG := hide hnilg
                  have HB7 := hide hB7
                  clear hsg hnilg hb7 hB7
                  go_wp2_with fail
                  refine (zzText30 ga gn gc S3 w7 (by omega) (by omega) (unhide HSG) (unhide HNG)).mono ?_
                  rintro _ w8 ⟨S4, ef, en4, ec4, rfl, hse4, hset4, hb8⟩
                  obtain rfl : S4 = S3 := setOf_unique hset4 (unhide HSET) (fun x => (unhide HSET).2 x)
                  have HSE4 := hide hse4
                  have HEA8 := hide (((unhide HEA).below (unhide HB7)).below hb8)
                  have HSG8 := hide ((unhide HSG).below hb8)
                  have HB8 : Hid (Below w.heap.size w w8) := by
                    have s1 := (unhide HBB).size
                    have s4 := (unhide HB4).size
                    have s5 := (unhide HB5).size
                    have s6 := (unhide HB6).size
                    have s7 := (unhide HB7).size
                    exact (((((unhide HBB).trans ((unhide HB4).mono s1)).trans ((unhide HB5).mono (by omega))).trans ((unhide HB6).mono (by omega))).trans ((unhide HB7).mono (by omega))).trans (hb8.mono (by omega))
                  have HSL8 := hide ((((((unhide HSLA).below (unhide HB4)).below (unhide HB5)).below (unhide HB6)).below (unhide HB7)).below hb8)
                  have hen4 : en4 ≤ n1 := by rw [(unhide HSE4).len, endsOf_length]; have := unhide HL1; omega
                  clear hse4 hset4 hb8
                  go_wp2_with fail
                  refine (same32 ef ea en4 en ec4 ec (endsOf S4) w8 (by omega) (unhide HSE4) (unhide HEA8)).mono ?_
                  rintro _ _ ⟨rfl, q3, rfl⟩
                  have HSG9 := hide ((unhide HSG8).drewN q3)
                  have HSL9 := hide ((unhide HSL8).drewN q3)
                  have HB9 := hide (below_drewN (unhide HB8) q3)
                  generalize w8.drewN q3 = w9 at *
                  clear HSG8 HSL8 HB8 HEA8 HSE4 HSG HNG HB7 HSE3 HEA HEB HSE2 HSE HB4 HB5 HB6 HSLA HRSA HS3 HN3 HB3 HBB
                  by_cases hn0 : n1 = 0
                  · have hl0 : l = [] := List.eq_nil_of_length_eq_zero (by rw [← unhide HL1]; exact hn0)
                    have hS0 : S4.length = 0 := by have := setOf_le (unhide HSET); rw [hl0] at this; simpa using this.1
                    have hg0 : ((gn : Int) == 0) = true := by rw [beq_iff_eq, (unhide HSG9).len, hS0]; rfl
                    have hn0' : ((n1 : Int) == 0) = true := by rw [beq_iff_eq, hn0]; rfl
                    clear hn0
                    go_wp2
                    go_ret
                    exact ⟨rfl, unhide HB9⟩
                  · have hn0' : ((n1 : Int) == 0) = false := by rw [beq_eq_false_iff_ne]; omega
                    obtain ⟨b, off, x0, ha, hx0, hc0⟩ := (unhide HSL9).at 0 (by omega)
                    rw [Nat.add_zero] at hc0
                    have hn1i : (0 : Int) < (n1 : Int) := by omega
                    have Hx0 := hide hx0
                    have HA := hide ha
                    clear hx0 ha
                    rw [unhide HA]
                    go_wp2
                    go_loopw [19, 20, 21] (fun lv gv i wr => ∃ (k : Nat) (m g : ByteArray), 1 ≤ k ∧ k ≤ n1 ∧ i = .int .i64 k ∧ lv = .string m ∧ gv = .string g ∧ m.size ≤ maxLen ∧ g.size ≤ maxLen ∧ Hid (m ∈ l.take k ∧ ∀ y, y ∈ l.take k → cb m y ≤ 0) ∧ Hid (g ∈ l.take k ∧ ∀ y, y ∈ l.take k → 0 ≤ cb g y) ∧ Hid (Drawn w9 wr)) (fun _ _ i _ => n1 - (intOf i).toNat)
                    case atStart =>
                      have hx := unhide Hx0
                      have hs := size_le_tot (List.mem_of_getElem? hx)
                      have e : l.take 1 = [x0] := by rw [List.take_add_one, hx]; simp
                      refine ⟨1, x0, x0, Nat.le_refl _, by omega, rfl, rfl, rfl, by unfold maxLen; omega, by unfold maxLen; omega, ?_, ?_, Drawn.refl _⟩
                      · rw [e]; exact ⟨by simp, fun y hy => by simp at hy; subst hy; rw [cb_refl]; exact Int.le_refl _⟩
                      · rw [e]; exact ⟨by simp, fun y hy => by simp at hy; subst hy; rw [cb_refl]; exact Int.le_refl _⟩
                    case round =>
                      obtain ⟨k, m, g, hk1, hk2, rfl, rfl, rfl, hms, hgs, HM, HG, HD⟩ := hrel
                      by_cases hlt : k < n1
                      · obtain ⟨b', off', x, ha, hx, hc⟩ := (unhide HSL9).at k hlt
                        rw [unhide HA] at ha
                        cases ha
                        have hcw := ((unhide HD).cell _).trans hc
                        have hxs : x.size ≤ maxLen := by have := size_le_tot (List.mem_of_getElem? hx); unfold maxLen; omega
                        have Hx := hide hx
                        have Hc := hide hc
                        clear hx hc
                        go_wp2_with fail
                        refine (cmp37q x m _ hxs hms).mono ?_
                        rintro _ _ ⟨rfl, q4, rfl⟩
                        have HD2 := hide ((unhide HD).drewN q4)
                        have hcw2 := ((unhide HD2).cell _).trans (unhide Hc)
                        clear hcw
                        generalize wr.drewN q4 = w10 at *
                        by_cases c1 : cb x m < 0
                        · skip
                          go_wp2_with fail
                          refine (cmp37q x g _ hxs hgs).mono ?_
                          rintro _ _ ⟨rfl, q5, rfl⟩
                          have HD3 := hide ((unhide HD2).drewN q5)
                          have hcw3 := ((unhide HD3).cell _).trans (unhide Hc)
                          generalize w10.drewN q5 = w11 at *
                          by_cases c2 : 0 < cb x g
                          · go_wp2
                            go_roundw
                            case rel => exact ⟨k + 1, x, x, by omega, by omega, by go_num, rfl, rfl, hxs, hxs, le_step (unhide Hx) (unhide HM) (by omega), ge_step (unhide Hx) (unhide HG) (by omega), HD3⟩
                            case measure => simp [intOf]; omega
                          · go_wp2
                            go_roundw
                            case rel => exact ⟨k + 1, x, g, by omega, by omega, by go_num, rfl, rfl, hxs, hgs, le_step (unhide Hx) (unhide HM) (by omega), ge_keep (unhide Hx) (unhide HG) (by omega), HD3⟩
                            case measure => simp [intOf]; omega
                        · skip
                          go_wp2_with fail
                          refine (cmp37q x g _ hxs hgs).mono ?_
                          rintro _ _ ⟨rfl, q5, rfl⟩
                          have HD3 := hide ((unhide HD2).drewN q5)
                          have hcw3 := ((unhide HD3).cell _).trans (unhide Hc)
                          generalize w10.drewN q5 = w11 at *
                          by_cases c2 : 0 < cb x g
                          · go_wp2
                            go_roundw
                            case rel => exact ⟨k + 1, m, x, by omega, by omega, by go_num, rfl, rfl, hms, hxs, le_keep (unhide Hx) (unhide HM) (by omega), ge_step (unhide Hx) (unhide HG) (by omega), HD3⟩
                            case measure => simp [intOf]; omega
                          · go_wp2
                            go_roundw
                            case rel => exact ⟨k + 1, m, g, by omega, by omega, by go_num, rfl, rfl, hms, hgs, le_keep (unhide Hx) (unhide HM) (by omega), ge_keep (unhide Hx) (unhide HG) (by omega), HD3⟩
                            case measure => simp [intOf]; omega
                      · have e : l.take k = l := List.take_of_length_le (by have := unhide HL1; omega)
                        have hM := unhide HM
                        have hG := unhide HG
                        rw [e] at hM hG
                        have h0 := set_first (unhide HSET) hM.1 hM.2
                        have hl := set_last (unhide HSET) hG.1 hG.2
                        have hSl : 0 < S4.length := (List.getElem?_eq_some_iff.1 h0).1
                        have hgl := (unhide HSG9).len
                        obtain ⟨b1, off1, hga, hcg0⟩ := (unhide HSG9).cells 0 m h0
                        obtain ⟨b2, off2, hga2, hcg1⟩ := (unhide HSG9).cells (S4.length - 1) g hl
                        rw [hga] at hga2
                        cases hga2
                        obtain ⟨gm, hgm⟩ : ∃ gm : Nat, gm = gn - 1 := ⟨_, rfl⟩
                        have hcw0 := ((unhide HD).cell _).trans hcg0
                        have hcw1 := ((unhide HD).cell _).trans hcg1
                        rw [show S4.length - 1 = gm by omega] at hcw1
                        rw [Nat.add_zero] at hcw0
                        have hgi : (gn : Int) - 1 = (gm : Int) := by omega
                        have hgi2 : (gm : Int) < (gn : Int) := by omega
                        have hgi3 : gm < gn := by omega
                        have hge : (1 : Int) ≤ (gn : Int) := by omega
                        have hgp : (0 : Int) < (gn : Int) := by omega
                        have hm0 : (m.toList == m.toList) = true := by simp
                        have hg0 : (g.toList == g.toList) = true := by simp
                        have HBE : Hid (Below w.heap.size w wr) := (unhide HB9).trans ((unhide HD).below.mono (unhide HB9).size)
                        clear hM hG h0 hl hgl hcg0 hcg1 hgm hSl e HM HG
                        rw [hga]
                        clear hga
                        go_wp2
                        go_ret
                        exact ⟨rfl, unhide HBE⟩

end Go.Proofs.Qxb6605915a.Strs
