/- joinSorted[int64] -/
import Derived.Test.Qxb6605915aJoin
namespace Go.Proofs.Qxb6605915a.Strs
open Go.ChangeShapes Go.WideShapes Go.ChangeAt Go.RowKit
open Go.Sort (Holds putRow putCells grow SWO)
set_option linter.unusedVariables false

/-- cmp.Compare at whole numbers -/
def ci (a b : Int) : Int := if a < b then -1 else if b < a then 1 else 0

theorem totCi : TotCmp ci := by
  refine ⟨fun x => by simp [ci], fun x y h => ?_, fun x y => ?_, fun x y z h k => ?_⟩
  · unfold ci at h; split at h
    · omega
    · split at h <;> omega
  · unfold ci
    by_cases h1 : x < y
    · rw [if_pos h1, if_neg (by omega), if_pos h1]; rfl
    · by_cases h2 : y < x
      · rw [if_pos h2, if_neg h1, if_pos h2]
      · rw [if_neg h2, if_neg h1, if_neg h1, if_neg h2]; rfl
  · unfold ci at *
    have h1 : x < y := by
      by_cases e : x < y
      · exact e
      · rw [if_neg e] at h; split at h <;> omega
    have h2 : y < z := by
      by_cases e : y < z
      · exact e
      · rw [if_neg e] at k; split at k <;> omega
    rw [if_pos (by omega)]; decide

theorem ci_eq0 {a b : Int} (h : ci a b = 0) : a = b := totCi.eq0 a b h

theorem info2 : (Try.prog.info? 2).map (fun i => (i.zero, i.size, i.bytes)) = some (some (.int .i64 0), 1, 8) := by kernel_rfl

theorem isNaN64 (x : Int) (w : World) : Calls Try.prog 64 #[.int .i64 x] w fun e w' => e = .returned (.bool false) ∧ w' = w := by
  have hx : (x != x) = false := by simp
  go_enter Try.func64, Try.ntmps64
  go_wp2
  go_ret
  exact ⟨rfl, rfl⟩

theorem intCmp (a b : Int) (w : World) : Calls Try.prog 57 #[.int .i64 a, .int .i64 b] w fun e w' => e = .returned (.int .i64 (ci a b)) ∧ w' = w := by
  go_enter Try.func57, Try.ntmps57
  go_wp2_with fail
  refine (isNaN64 a w).mono ?_
  rintro _ w ⟨rfl, rfl⟩
  go_wp2_with fail
  refine (isNaN64 b w).mono ?_
  rintro _ w ⟨rfl, rfl⟩
  by_cases h1 : a < b
  · go_wp2
    go_ret
    exact ⟨ret_i64 (by unfold ci; rw [if_pos h1]), rfl⟩
  · by_cases h2 : b < a
    · go_wp2
      go_ret
      exact ⟨ret_i64 (by unfold ci; rw [if_neg (by omega), if_pos h2]), rfl⟩
    · go_wp2
      go_ret
      exact ⟨ret_i64 (by unfold ci; rw [if_neg (by omega), if_neg (by omega)]), rfl⟩

theorem cmpReads57 (blk off size : Nat) (w : World) : CmpLays1 Try.prog 57 #[] (Value.int .i64) ci blk off size w :=
  CmpReads.lays fun m os dk _ x y => (intCmp x y _).mono fun _ _ ⟨he, hw⟩ => ⟨he, 0, by rw [hw]; rfl⟩

theorem sort62 (g cap : Nat) (cur : Array Value) (fl : List Int) (w : World) (hb : w.heap[g]? = some (.cells cur 2 (0, 0))) (ht : cur.toList.take fl.length = fl.map (Value.int .i64)) (hN : fl.length ≤ 16777216) (hc : cur.size = cap) (hl : fl.length ≤ cap) :
    Calls Try.prog 62 #[.slice (some ⟨g, 0, none⟩) fl.length cap, .func (.func 57) #[] #[]] w fun e w' =>
      e = .returned (.tuple #[]) ∧ w'.rowIs g 2 cap (fun j => if h : j < (srt ci fl).length then .int .i64 (srt ci fl)[j] else cur.getD j undef) ∧ w.grownBy w' (some g) := by
  have h := Try.slices_SortFunc_total_f62 (Value.int .i64) (fun _ => rfl) ci (ltOf_swo totCi) 57 #[] g 0 cap fl.toArray w (enters_of Try.func57 (by kernel_rfl) rfl) (cmpReads57 _ _ _ _) (holds_of_blockG hb ht) (Array.getElem?_eq_some_iff.1 hb).1 (by simp; omega) (ltOf_tot totCi)
  refine h.mono ?_
  rintro e w' ⟨rfl, n, os, rfl⟩
  exact ⟨rfl, rowIs_sorted (ts := srt ci fl) hb hc (by rw [srt_len]; exact hl), grownBy_sortedG _⟩

theorem hq34 : ∀ (w : World) (a : Option Addr) (n c n' c' : Nat), (binOp .eql 34 (.slice a n c) (.slice none n' c')).run Try.prog w = .ok (.bool a.isNone) w := fun w a n c n' c' => Lib.run_eql_slice_nil w _ _ a n c n' c' Try.underlying34

theorem clone63nil (w : World) : Calls Try.prog 63 #[.slice none 0 0] w fun e w' => e = .returned (.slice none 0 0) ∧ w' = w := by
  have hq := hq34
  go_enter Try.func63, Try.ntmps63
  go_wp2
  go_ret
  exact ⟨rfl, rfl⟩

theorem own_empty (w : World) (t : TypeId) : (w.alloc (.cells #[] t)).ownsRow w.heap.size t 1 (.slice (some ⟨w.heap.size, 0, none⟩) 0 0) 0 [] :=
  ⟨rfl, Or.inr ⟨w.heap.size, 0, #[], rfl, Nat.le_refl _, Deep.blk_alloc_new _ _, Nat.zero_le _, by decide, rfl, rfl⟩⟩

set_option maxRecDepth 100000 in
set_option maxHeartbeats 800000 in
theorem clone63 (g cap : Nat) (R : List Int) (w : World) (hn : R.length * 8 ≤ 140737488355328) (hc : ∀ j, j < R.length → w.cell? ⟨g, 0 + j, none⟩ = some (.int .i64 (R.getD j 0))) :
    Calls Try.prog 63 #[.slice (some ⟨g, 0, none⟩) R.length cap] w fun e w' => ∃ v', e = .returned v' ∧ w'.ownsRow w.heap.size 2 1 v' R.length (R.map (Value.int .i64)) ∧ True ∧ Below w.heap.size w w' := by
  have hq := hq34
  obtain ⟨i0, hi, hz0, hz1, hz2⟩ := info_parts info2
  have HC := hide hc
  clear hc
  go_enter Try.func63, Try.ntmps63
  go_wp2_with (at_builtin; refine wpList_append_own _ rfl _ _ 34 rfl w.heap.size 2 i0 (.int .i64 0) 1 8 Try.underlying34 hi hz0 hz1 hz2 rfl (by decide) _ _ _ rfl (own_empty w 2) ⟨g, 0, none⟩ R.length cap (R.map (Value.int .i64)) rfl ?c0 ?c1 ?c2 ?c3 ?c4 ?c5 ?_)
  case c0 => simp
  case c1 =>
    intro j u hj
    rw [List.getElem?_map] at hj
    cases hlj : R[j]? with
    | none => rw [hlj] at hj; cases hj
    | some x =>
      rw [hlj] at hj
      cases hj
      have hj' := (List.getElem?_eq_some_iff.1 hlj).1
      have h1 := unhide HC j hj'
      rw [List.getD_eq_getElem?_getD, hlj] at h1
      rw [Addr.add_lit]
      exact Lib.cell?_alloc_some _ h1
  case c2 => intro u hu; obtain ⟨x, _, rfl⟩ := List.mem_map.1 hu; rfl
  case c3 => unfold maxLen; omega
  case c4 => omega
  case c5 => simp
  intro v' w1 ho hgr _
  have R1 := hide ho
  have R2 : Hid (Below w.heap.size w w1) := ((Below.refl _ _).alloc (Nat.le_refl _) _).grown hgr (by simp) (fun g hg => by cases hg; exact Nat.le_refl _)
  clear ho hgr
  go_wp2
  go_ret
  exact ⟨v', rfl, by simpa using unhide R1, trivial, unhide R2⟩

set_option maxRecDepth 100000 in
set_option maxHeartbeats 4000000 in
theorem join56 (al : Option Addr) (nl cl : Nat) (ll : List (List Int)) (any : Bool) (need : Nat) (w : World) (hn : nl ≤ 16777216) (hN : ll.flatten.length ≤ 16777216) (h : Sll (Value.int .i64) w al nl ll) (hneed : need = cond any 1 nl) :
    Calls Try.prog 56 #[.slice al nl cl, .func (.func 57) #[] #[], .bool any] w (Joined (Value.int .i64) ci ll.flatten need w) := by
  have H := hide h
  have HD := hide hneed
  clear h hneed
  obtain ⟨i0, hi, hz0, hz1, hz2⟩ := info_parts info2
  go_enter Try.func56, Try.ntmps56
  go_wp2
  go_loopw [7, 9, 16] (fun v _ i wr => ∃ k : Nat, k ≤ nl ∧ i = .int .i64 k ∧ wr.ownsRow w.heap.size 2 1 v (ll.take k).flatten.length ((ll.take k).flatten.map (Value.int .i64)) ∧ Below w.heap.size w wr) (fun _ _ i _ => nl - (intOf i).toNat)
  case atStart => exact ⟨0, Nat.zero_le _, rfl, World.ownsRow_nil _ _ _ _, Below.refl _ _⟩
  case round =>
    obtain ⟨k, hk, rfl, hown, hbel⟩ := hrel
    by_cases hlt : k < nl
    · obtain ⟨b, off, l, a', c', ha, hl, hc, hsl, hnil⟩ := (unhide H).at k hlt
      have hcr : wr.cell? ⟨b, off + k, none⟩ = some (.slice a' l.length c') := (hbel.cell (cell_lt hc)).trans hc
      have hslr := hsl.below hbel
      have hle := flat_take_le ll (k + 1)
      rw [flat_take_succ ll k l hl, List.length_append] at hle
      have HF := hide (flat_take_succ ll k l hl)
      have Hown := hide hown
      have Hbel := hide hbel
      have HSL := hide hslr
      clear hown hbel hl hc hsl hslr
      rw [ha]
      clear ha
      generalize (ll.take k).flatten = F at *
      cases a' with
      | none =>
        obtain ⟨hl0, hc0⟩ := hnil rfl
        subst hl0 hc0
        clear hnil
        go_wp2_with (at_builtin; refine wpList_append_own_none rfl _ _ 34 rfl w.heap.size 2 i0 1 Try.underlying34 hi _ _ _ rfl (unhide Hown) rfl ?_)
        go_wp2
        go_roundw
        case rel => exact ⟨k + 1, by omega, by go_num, by rw [unhide HF, List.append_nil]; exact unhide Hown, unhide Hbel⟩
        case measure => simp [intOf]; omega
      | some ad =>
        clear hnil
        go_wp2_with (at_builtin; refine wpList_append_own _ rfl _ _ 34 rfl w.heap.size 2 i0 (.int .i64 0) 1 8 Try.underlying34 hi hz0 hz1 hz2 rfl (by decide) _ _ _ rfl (unhide Hown) ad l.length c' (l.map (Value.int .i64)) rfl ?c0 ?c1 ?c2 ?c3 ?c4 ?c5 ?_)
        case c0 => simp
        case c1 =>
          intro j u hj
          rw [List.getElem?_map] at hj
          cases hlj : l[j]? with
          | none => rw [hlj] at hj; cases hj
          | some x =>
            rw [hlj] at hj
            cases hj
            obtain ⟨b2, off2, ha2, hc2⟩ := (unhide HSL).cells j x hlj
            cases ha2
            rw [Addr.add_lit]
            exact hc2
        case c2 => intro u hu; obtain ⟨x, _, rfl⟩ := List.mem_map.1 hu; rfl
        case c3 => unfold maxLen; omega
        case c4 => omega
        case c5 => exact (unhide Hbel).size
        intro v' w1 ho hg _
        have R1 : Hid (w1.ownsRow w.heap.size 2 1 v' (ll.take (k + 1)).flatten.length ((ll.take (k + 1)).flatten.map (Value.int .i64))) := by
          rw [unhide HF, List.length_append, List.map_append]
          exact ho
        have R2 : Hid (Below w.heap.size w w1) := (unhide Hbel).grown hg (unhide Hbel).size (fun g hg => ((unhide Hown).lt g hg).1)
        clear ho hg
        go_wp2
        go_roundw
        case rel => exact ⟨k + 1, by omega, by go_num, R1, R2⟩
        case measure => simp [intOf]; omega
    · obtain rfl : k = nl := by omega
      have e : ll.take k = ll := List.take_of_length_le (by have := (unhide H).len; omega)
      rw [e] at hown
      have Hown := hide hown
      have Hbel := hide hbel
      clear hown hbel e
      generalize hfl : ll.flatten = fl at *
      rcases (unhide Hown).2 with ⟨hv, h0⟩ | ⟨g, cap, cur, hv, hbase, hb, h1, h2, h3, h4⟩
      · rw [hv]
        clear hv
        have hfl0 : fl = [] := List.eq_nil_of_length_eq_zero h0
        subst hfl0
        cases any
        all_goals
          go_wp2_with fail
          refine (Try.slices_SortFunc_none_f62 (α := Nat) none 0 _ _).mono ?_
          rintro _ w2 ⟨rfl, rfl⟩
          go_wp2
          refine wp_loop_rounds 1 ?_
          rw [rounds_succ]
          go_wp2_with fail
          refine (clone63nil _).mono ?_
          rintro _ w3 ⟨rfl, rfl⟩
          go_wp2
          go_ret
          exact ⟨none, 0, 0, [], rfl, ⟨rfl, fun j x hx => by simp at hx⟩, List.Pairwise.nil, by simp, unhide Hbel⟩
      · rw [hv]
        clear hv
        go_wp2_with fail
        refine (sort62 g cap cur fl wr hb (by simpa using h4) hN (by omega) h1).mono ?_
        rintro _ w2 ⟨rfl, hrow, hgr⟩
        have hbel2 := (unhide Hbel).grown hgr (unhide Hbel).size (fun j hj => by cases hj; exact hbase)
        have hLl := srt_len ci fl
        have HL := hide (srt_srt totCi fl)
        have HP := hide (srt_perm ci fl)
        generalize srt ci fl = L at *
        obtain ⟨f0, hf0⟩ : ∃ f0 : Nat → Value, f0 = (fun j => if h : j < L.length then .int .i64 L[j] else cur.getD j undef) := ⟨_, rfl⟩
        rw [← hf0] at hrow
        have HF0 : Hid (∀ j x, L[j]? = some x → f0 j = .int .i64 x) := by
          intro j x hx
          obtain ⟨hj, rfl⟩ := List.getElem?_eq_some_iff.1 hx
          rw [hf0]; simp [hj]
        have R0 : Hid (JoinRel (Value.int .i64) 0 ci 2 L need g cap f0 w 0 [] w2) := ⟨grp_start L need, hrow.congr (fun j _ => by simp), hbel2⟩
        clear hf0 hrow hgr hbel2 h4 hb
        have HLl := hide hLl
        clear hLl
        have hneed : need = cond any 1 k := unhide HD
        cases any
        all_goals
          simp only [cond_true, cond_false] at hneed
          have HN := hide hneed
          clear hneed HD
          go_wp2
          go_loopw [11, 12, 13] (fun jv iv _ wr => ∃ (i : Nat) (R : List Int), i ≤ fl.length ∧ iv = .int .i64 i ∧ jv = .slice (some ⟨g, 0, none⟩) R.length cap ∧ R.length ≤ i ∧ Hid (JoinRel (Value.int .i64) 0 ci 2 L need g cap f0 w i R wr)) (fun _ iv _ _ => fl.length - (intOf iv).toNat)
          case atStart => exact ⟨0, [], Nat.zero_le _, rfl, rfl, Nat.le_refl _, R0⟩
          case round =>
            clear R0
            obtain ⟨i, R, hi', rfl, rfl, hRi, HR⟩ := hrel
            by_cases hlt2 : i < fl.length
            · obtain ⟨x, hx⟩ := get_some (l := L) (i := i) (by have := unhide HLl; omega)
              have Hx := hide hx
              clear hx
              go_wp2
              go_loopw [13] (fun jv wi => ∃ t : Nat, i < t ∧ t ≤ fl.length ∧ jv = .int .i64 t ∧ Hid (Drawn wr wi) ∧ Hid (∀ u, i ≤ u → u < t → L[u]? = some x)) (fun jv _ => fl.length - (intOf jv).toNat)
              case atStart => exact ⟨i + 1, by omega, by omega, by go_num, Drawn.refl _, fun u h1 h2 => by rw [show u = i by omega]; exact unhide Hx⟩
              case round =>
                obtain ⟨t, ht1, ht2, rfl, HDr, HU⟩ := hrel
                by_cases hlt3 : t < fl.length
                · obtain ⟨y, hy⟩ := get_some (l := L) (i := t) (by have := unhide HLl; omega)
                  have hci : wr.cell? ⟨g, i, none⟩ = some (.int .i64 x) := ((unhide HDr).cell _).trans (by rw [(unhide HR).row.cell (by omega), if_neg (by omega), unhide HF0 i x (unhide Hx)])
                  have hct : wr.cell? ⟨g, t, none⟩ = some (.int .i64 y) := ((unhide HDr).cell _).trans (by rw [(unhide HR).row.cell (by omega), if_neg (by omega), unhide HF0 t y hy])
                  have hdt : decide ((t : Int) < (fl.length : Int)) = true := by simp; omega
                  have hi1 : (i : Int) < (fl.length : Int) := by omega
                  have hi2 : (t : Int) < (fl.length : Int) := by omega
                  have Hy := hide hy
                  clear hy
                  by_cases hxy : ci x y = 0
                  · have e := ci_eq0 hxy
                    subst e
                    have hbq : ((ci x x : Int) == 0) = true := by rw [beq_iff_eq]; exact hxy
                    have HU2 : Hid (∀ u, i ≤ u → u < t + 1 → L[u]? = some x) := by
                      intro u h1 h2
                      by_cases e : u = t
                      · rw [e]; exact unhide Hy
                      · exact unhide HU u h1 (by omega)
                    clear hxy
                    go_wp2
                    go_quiet ((go_at_call 57; exact Calls.quiet_of_same (intCmp _ _ _)))
                    go_wp2
                    go_roundw
                    case rel => exact ⟨t + 1, by omega, by omega, by go_num, (unhide HDr).drewN _, HU2⟩
                    case measure => simp [intOf]; omega
                  · have hbq : ((ci x y : Int) == 0) = false := by rw [beq_eq_false_iff_ne]; exact hxy
                    have HG : Hid (∀ z, L[t]? = some z → ci x z ≠ 0) := by
                      intro z hz
                      rw [unhide Hy] at hz
                      cases hz
                      exact hxy
                    go_wp2
                    go_quiet ((go_at_call 57; exact Calls.quiet_of_same (intCmp _ _ _)))
                    have hcR : wr.cell? ⟨g, R.length, none⟩ = some (if R.length < R.length then .int .i64 (R.getD R.length 0) else f0 R.length) := ((unhide HDr).cell _).trans ((unhide HR).row.cell (by omega))
                    have hfR : wr.frozen? ⟨g, R.length, none⟩ = false := ((unhide HDr).frozen _).trans ((unhide HR).row.frozen _)
                    have hgw : g < wr.heap.size := by have := (unhide HR).row.lt; have := (unhide HDr).size; omega
                    rw [if_neg (Nat.lt_irrefl _)] at hcR
                    by_cases hnd : need ≤ t - i
                    · have hnI : (need : Int) ≤ (t : Int) - (i : Int) := by omega
                      rw [unhide HN] at hnI
                      try simp only [Int.natCast_one] at hnI
                      have HK := hide (fun nq o => join_keep (unhide HR) ((unhide HDr).drewN nq) totCi (unhide HL) ht1 (by have := unhide HLl; omega) (unhide HU) (unhide HG) hnd hbase o)
                      go_wp2_with (at_builtin; go_must (refine wpList_append_room1 _ rfl _ _ 34 34 rfl 2 (.int .i64 0) 8 Try.underlying34 info2 g 0 R.length cap rfl (.slice (some ⟨wr.heap.size, 0, none⟩) 1 1) rfl 1 [.int .i64 x] (Src.ofSlice _ Try.underlying34 ⟨wr.heap.size, 0, none⟩ 1 1 [.int .i64 x] rfl ?c0 ?c3) ?c4 ?c1 ?c2 ?_))
                      case c0 => exact cell_one_new _ _ _
                      case c3 => intro u hu; simp at hu; subst hu; rfl
                      case c4 => omega
                      case c1 => intro j hj; simp at hj; subst hj; simp only [Nat.zero_add, Nat.add_zero]; rw [Lib.cell?_alloc_some (v := f0 R.length) _ (by simpa using hcR)]; rfl
                      case c2 => intro j hj; simp at hj; subst hj; simp only [Nat.zero_add, Nat.add_zero]; exact (((Below.refl _ _).alloc (Nat.le_refl _) _).frozen (p := ⟨g, R.length, none⟩) (by simpa using hgw)).trans (by simpa using hfR)
                      simp only [World.setCells]
                      go_wp2
                      go_roundw
                      case rel => exact ⟨t, R ++ [x], by omega, rfl, by simp, by simp; omega, unhide HK _ _⟩
                      case measure => simp [intOf]; omega
                    · have hnI : ¬ ((need : Int) ≤ (t : Int) - (i : Int)) := by omega
                      rw [unhide HN] at hnI
                      try simp only [Int.natCast_one] at hnI
                      have HK := hide (fun q => join_drop (unhide HR) (unhide HDr) totCi (unhide HL) ht1 (by have := unhide HLl; omega) (unhide HU) (unhide HG) hnd q)
                      go_wp2
                      go_roundw
                      case rel => exact ⟨t, R, by omega, rfl, rfl, by omega, unhide HK _⟩
                      case measure => simp [intOf]; omega
                · have hdt : decide ((t : Int) < (fl.length : Int)) = false := by simp; omega
                  have HG : Hid (∀ z, L[t]? = some z → ci x z ≠ 0) := by
                    intro z hz
                    have := (List.getElem?_eq_some_iff.1 hz).1
                    have := unhide HLl
                    omega
                  have hci : wr.cell? ⟨g, i, none⟩ = some (.int .i64 x) := ((unhide HDr).cell _).trans (by rw [(unhide HR).row.cell (by omega), if_neg (by omega), unhide HF0 i x (unhide Hx)])
                  have hi1 : (i : Int) < (fl.length : Int) := by omega
                  go_wp2
                  go_quiet (fail)
                  have hcR : wr.cell? ⟨g, R.length, none⟩ = some (if R.length < R.length then .int .i64 (R.getD R.length 0) else f0 R.length) := ((unhide HDr).cell _).trans ((unhide HR).row.cell (by omega))
                  have hfR : wr.frozen? ⟨g, R.length, none⟩ = false := ((unhide HDr).frozen _).trans ((unhide HR).row.frozen _)
                  have hgw : g < wr.heap.size := by have := (unhide HR).row.lt; have := (unhide HDr).size; omega
                  rw [if_neg (Nat.lt_irrefl _)] at hcR
                  by_cases hnd : need ≤ t - i
                  · have hnI : (need : Int) ≤ (t : Int) - (i : Int) := by omega
                    rw [unhide HN] at hnI
                    try simp only [Int.natCast_one] at hnI
                    have HK := hide (fun nq o => join_keep (unhide HR) ((unhide HDr).drewN nq) totCi (unhide HL) ht1 (by have := unhide HLl; omega) (unhide HU) (unhide HG) hnd hbase o)
                    go_wp2_with (at_builtin; go_must (refine wpList_append_room1 _ rfl _ _ 34 34 rfl 2 (.int .i64 0) 8 Try.underlying34 info2 g 0 R.length cap rfl (.slice (some ⟨wr.heap.size, 0, none⟩) 1 1) rfl 1 [.int .i64 x] (Src.ofSlice _ Try.underlying34 ⟨wr.heap.size, 0, none⟩ 1 1 [.int .i64 x] rfl ?c0 ?c3) ?c4 ?c1 ?c2 ?_))
                    case c0 => exact cell_one_new _ _ _
                    case c3 => intro u hu; simp at hu; subst hu; rfl
                    case c4 => omega
                    case c1 => intro j hj; simp at hj; subst hj; simp only [Nat.zero_add, Nat.add_zero]; rw [Lib.cell?_alloc_some (v := f0 R.length) _ (by simpa using hcR)]; rfl
                    case c2 => intro j hj; simp at hj; subst hj; simp only [Nat.zero_add, Nat.add_zero]; exact (((Below.refl _ _).alloc (Nat.le_refl _) _).frozen (p := ⟨g, R.length, none⟩) (by simpa using hgw)).trans (by simpa using hfR)
                    simp only [World.setCells]
                    go_wp2
                    go_roundw
                    case rel => exact ⟨t, R ++ [x], by omega, rfl, by simp, by simp; omega, unhide HK _ _⟩
                    case measure => simp [intOf]; omega
                  · have hnI : ¬ ((need : Int) ≤ (t : Int) - (i : Int)) := by omega
                    rw [unhide HN] at hnI
                    try simp only [Int.natCast_one] at hnI
                    have HK := hide (fun q => join_drop (unhide HR) (unhide HDr) totCi (unhide HL) ht1 (by have := unhide HLl; omega) (unhide HU) (unhide HG) hnd q)
                    go_wp2
                    go_roundw
                    case rel => exact ⟨t, R, by omega, rfl, rfl, by omega, unhide HK _⟩
                    case measure => simp [intOf]; omega
            · obtain rfl : i = fl.length := by omega
              have hLt : L.take fl.length = L := List.take_of_length_le (by have := unhide HLl; omega)
              have hG := (unhide HR).grp
              rw [show fl.length = L.length from (unhide HLl).symm] at hG
              have HM : Hid (∀ x, x ∈ R ↔ x ∈ fl ∧ need ≤ cnt ci x fl) := by
                intro x
                rw [hG.mem, List.take_length, (unhide HP).mem_iff, cnt_perm (unhide HP)]
              have HI := hide hG.inc
              clear hG hLt
              go_wp2_with fail
              refine (clone63 g cap R wr (by omega) ?_).mono ?_
              · intro j hj
                rw [Nat.zero_add, (unhide HR).row.cell (by omega), if_pos hj]
              rintro _ w3 ⟨v', rfl, ho, _, hb3⟩
              have hB : Hid (Below w.heap.size w w3) := (unhide HR).bel.trans (hb3.mono (unhide HR).bel.size)
              obtain ⟨a3, c3, hv3, hs3, _⟩ := Sl.of_owns ho
              have HS3 := hide hs3
              have HV3 := hide hv3
              clear ho hb3 hs3 hv3
              go_wp2
              go_ret
              exact ⟨a3, _, c3, R, ret_v (unhide HV3), unhide HS3, unhide HI, unhide HM, unhide hB⟩

end Go.Proofs.Qxb6605915a.Strs
