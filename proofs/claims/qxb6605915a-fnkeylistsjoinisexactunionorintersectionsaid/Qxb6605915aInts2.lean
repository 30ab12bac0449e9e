/- copyInts2, sortEach, repeat -/
import Derived.Test.Qxb6605915aInts
namespace Go.Proofs.Qxb6605915a.Strs
open Go.ChangeShapes Go.WideShapes Go.ChangeAt Go.RowKit
set_option linter.unusedVariables false

theorem info34 : (Try.prog.info? 34).map (fun i => (i.zero, i.size, i.bytes)) = some (some (.slice none 0 0), 1, 24) := by kernel_rfl

theorem CopyRel.skip {α : Type} {enc : α → Value} {t : TypeId} {ll : List (List α)} {n g k : Nat} {w wr : World} (h : CopyRel enc t ll n g k w wr) (hl : ll[k]? = some []) : CopyRel enc t ll n g (k + 1) w wr := by
  obtain ⟨⟨V, hrow, hV⟩, hbel⟩ := h
  refine ⟨⟨fun j => if j = k then .slice none 0 0 else V j, hrow.congr ?_, ?_⟩, hbel⟩
  · intro j _
    by_cases e : j = k
    · subst e; simp
    · by_cases e2 : j < k
      · simp only []; rw [if_pos e2, if_pos (by omega), if_neg e]
      · simp only []; rw [if_neg e2, if_neg (by omega)]
  · intro j l1 hj hl1
    by_cases e : j = k
    · subst e
      rw [hl] at hl1
      cases hl1
      exact ⟨none, 0, by simp, ⟨rfl, fun j x hx => by simp at hx⟩, fun _ => ⟨rfl, rfl⟩⟩
    · obtain ⟨a1, c1, h1, h2, h3⟩ := hV j l1 (by omega) hl1
      exact ⟨a1, c1, by simp only []; rw [if_neg e]; exact h1, h2, h3⟩

theorem CopyRel.row' {α : Type} {enc : α → Value} {t : TypeId} {ll : List (List α)} {n g k : Nat} {w wr w1 : World} (h : CopyRel enc t ll n g k w wr) (hk : k < n) (hb : Below wr.heap.size wr w1) :
    g < wr.heap.size ∧ (∃ v, w1.cell? ⟨g, k, none⟩ = some v) ∧ w1.frozen? ⟨g, k, none⟩ = false := by
  obtain ⟨V, hr, _⟩ := h.row
  have hr1 : w1.rowIs g t n _ := hr.of_block (hb.block _ hr.lt)
  exact ⟨hr.lt, ⟨_, hr1.cell hk⟩, hr1.frozen k⟩

set_option maxRecDepth 100000 in
set_option maxHeartbeats 2000000 in
theorem copy13 (a : Option Addr) (n c : Nat) (ll : List (List Int)) (w : World) (hn : n ≤ 1048576) (h : Sll (Value.int .i64) w a n ll) (hnil : a = none → n = 0) (hl : ∀ l, l ∈ ll → l.length ≤ 1048576) :
    Calls Try.prog 13 #[.slice a n c] w (Copied2 (Value.int .i64) ll w) := by
  have H := hide h
  have HL := hide hl
  clear h hl
  have hq : ∀ (w : World) (a : Option Addr) (n c n' c' : Nat), (binOp .eql 22 (.slice a n c) (.slice none n' c')).run Try.prog w = .ok (.bool a.isNone) w := fun w a n c n' c' => Lib.run_eql_slice_nil w _ _ a n c n' c' Try.underlying22
  have hq2 := hq34
  cases a with
  | none =>
    obtain rfl := hnil rfl
    go_enter Try.func13, Try.ntmps13
    go_wp2
    go_ret
    refine ⟨none, 0, 0, rfl, ⟨(unhide H).len, ?_⟩, Below.refl _ _⟩
    intro j x hx
    have := (List.getElem?_eq_some_iff.1 hx).1
    have := (unhide H).len
    omega
  | some ad =>
    clear hnil
    have hmk := run_make_row' (P := Try.prog) 22 34 (.slice none 0 0) 24 Try.underlying22 info34 rfl .i64 .i64 n (by omega) (by omega) w
    have R0 : Hid (CopyRel (Value.int .i64) 34 ll n w.heap.size 0 w (w.alloc (.cells (madeCells #[.slice none 0 0] n) 34))) := ⟨⟨fun _ => .slice none 0 0, (World.rowIs_made w _ n 34).congr (fun j _ => by simp), fun j l hj => by omega⟩, (Below.refl _ _).alloc (Nat.le_refl _) _⟩
    go_enter Try.func13, Try.ntmps13
    go_wp2
    clear hmk
    go_loopw [4, 5, 6] (fun i _ _ wr => ∃ k : Nat, k ≤ n ∧ i = .int .i64 k ∧ Hid (CopyRel (Value.int .i64) 34 ll n w.heap.size k w wr)) (fun i _ _ _ => n - (intOf i).toNat)
    case atStart => exact ⟨0, Nat.zero_le _, rfl, R0⟩
    case round =>
      clear R0
      obtain ⟨k, hk, rfl, HR⟩ := hrel
      by_cases hlt : k < n
      · obtain ⟨b, off, l, a', c', ha, hl, hc, hsl, hnl⟩ := (unhide H).at k hlt
        have hcr := ((unhide HR).bel.cell (cell_lt hc)).trans hc
        have hslr := hide (hsl.below (unhide HR).bel)
        have hll := unhide HL l (List.mem_of_getElem? hl)
        have Hl := hide hl
        have HN := hide hnl
        clear hl hc hsl hnl
        rw [ha]
        clear ha
        cases a' with
        | none =>
          obtain ⟨hl0, hc0⟩ := unhide HN rfl
          subst hl0 hc0
          have R := hide ((unhide HR).skip (unhide Hl))
          go_wp2
          go_roundw
          case rel => exact ⟨k + 1, by omega, by go_num, R⟩
          case measure => simp [intOf]; omega
        | some ad' =>
          clear HN
          have hmk := run_make_row' (P := Try.prog) 34 2 (.int .i64 0) 8 Try.underlying34 info2 rfl .i64 .i64 l.length (by omega) (by omega) wr
          obtain ⟨W, hW⟩ : ∃ W : World, W = wr := ⟨_, rfl⟩
          subst hW
          have I0 : Hid ((W.alloc (.cells (madeCells #[.int .i64 0] l.length) 2)).rowIs W.heap.size 2 l.length (fun j => if j < 0 then .int .i64 (l.getD j 0) else .int .i64 0) ∧ Below W.heap.size W (W.alloc (.cells (madeCells #[.int .i64 0] l.length) 2))) := ⟨(World.rowIs_made W _ l.length 2).congr (fun j _ => by simp), (Below.refl _ _).alloc (Nat.le_refl _) _⟩
          have HCR := hide hcr
          go_wp2
          clear hmk hcr
          go_loopw [6] (fun j wi => ∃ m : Nat, m ≤ l.length ∧ j = .int .i64 m ∧ Hid (wi.rowIs W.heap.size 2 l.length (fun j => if j < m then .int .i64 (l.getD j 0) else .int .i64 0) ∧ Below W.heap.size W wi)) (fun j _ => l.length - (intOf j).toNat)
          case atStart => exact ⟨0, Nat.zero_le _, rfl, I0⟩
          case round =>
            clear I0
            obtain ⟨m, hm, rfl, HI⟩ := hrel
            have hcw := ((unhide HI).2.cell (cell_lt (unhide HCR))).trans (unhide HCR)
            by_cases hlt2 : m < l.length
            · obtain ⟨b2, off2, x, ha2, hx2, hc2⟩ := (unhide hslr).at m hlt2
              have hcx := ((unhide HI).2.cell (cell_lt hc2)).trans hc2
              have hold : wr.cell? ⟨W.heap.size, m, none⟩ = some (.int .i64 0) := by rw [(unhide HI).1.cell hlt2]; simp
              have hfz := (unhide HI).1.frozen m
              have R := hide (And.intro ((unhide HI).1.set m (.int .i64 x)) ((unhide HI).2.setCell (p := ⟨W.heap.size, m, none⟩) (Nat.le_refl _) (.int .i64 x)))
              have HX : Hid (l.getD m 0 = x) := by rw [List.getD_eq_getElem?_getD, hx2]; rfl
              clear hx2 hc2
              rw [ha2] at hcw
              cases ha2
              go_wp2
              go_roundw
              case rel =>
                refine ⟨m + 1, by omega, by go_num, (unhide R).1.congr ?_, (unhide R).2⟩
                intro j _
                by_cases e : j = m
                · subst e; simp only [if_true, Nat.lt_succ_self]; rw [unhide HX]
                · simp only [if_neg e]
                  by_cases e2 : j < m
                  · rw [if_pos e2, if_pos (by omega)]
                  · rw [if_neg e2, if_neg (by omega)]
              case measure => simp [intOf]; omega
            · obtain rfl : m = l.length := by omega
              have hsl : Sl (Value.int .i64) wr (some ⟨W.heap.size, 0, none⟩) l.length l := by
                refine Sl.of_rowIs (unhide HI).1 rfl ?_
                intro j x hx
                rw [if_pos (List.getElem?_eq_some_iff.1 hx).1, List.getD_eq_getElem?_getD, hx]; rfl
              obtain ⟨hgw, ⟨v, hold⟩, hfz⟩ := (unhide HR).row' hlt (unhide HI).2
              have R := hide ((unhide HR).step (c' := l.length) (unhide H).len (fun x a m c h => by cases h) hgw (Nat.le_refl _) (unhide Hl) (unhide HI).2 hsl (fun h => by cases h))
              clear hsl hgw
              go_wp2
              go_roundw
              case rel => exact ⟨k + 1, by omega, by go_num, R⟩
              case measure => simp [intOf]; omega
      · obtain rfl : k = n := by omega
        go_wp2
        go_ret
        exact ⟨_, _, _, rfl, (unhide HR).done (unhide H).len, (unhide HR).bel⟩

/-- the sorted list of l -/
def srtd {α : Type} (le : α → α → Bool) (l : List α) : List α := l.mergeSort le
theorem srtd_eq {α : Type} {le : α → α → Bool} (tl : TotLe le) (ha : ∀ a b, le a b = true → le b a = true → a = b) {A l : List α} (hp : A.Perm l) (hs : A.Pairwise fun a b => le a b = true) : A = srtd le l :=
  List.Perm.eq_of_pairwise (le := fun a b => le a b = true) (fun a b _ _ h1 h2 => ha a b h1 h2) hs (List.pairwise_mergeSort tl.trans tl.tot l) (hp.trans (List.mergeSort_perm l le).symm)
theorem srtd_perm {α : Type} (le : α → α → Bool) (l : List α) : (srtd le l).Perm l := List.mergeSort_perm l le
theorem srtd_len {α : Type} (le : α → α → Bool) (l : List α) : (srtd le l).length = l.length := (srtd_perm le l).length_eq
theorem leI_anti : ∀ a b, leI a b = true → leI b a = true → a = b := fun a b h1 h2 => by simp only [leI, decide_eq_true_eq] at *; omega
theorem leS_anti : ∀ a b, leS a b = true → leS b a = true → a = b := fun a b h1 h2 => by simp only [leS, decide_eq_true_eq] at *; have := cb_anti a b; exact cb_eq0 (by omega)

set_option maxRecDepth 100000 in
set_option maxHeartbeats 2000000 in
theorem sortEach15 (a : Option Addr) (n c : Nat) (ll : List (List Int)) (w : World) (hn : n ≤ 1048576) (h : Sll (Value.int .i64) w a n ll) (hl : ∀ l, l ∈ ll → l.length ≤ 1048576) :
    Calls Try.prog 15 #[.slice a n c] w (Copied2 (Value.int .i64) (ll.map (srtd leI)) w) := by
  have H := hide h
  have HL := hide hl
  have HLn : Hid (n = (ll.map (srtd leI)).length) := by rw [List.length_map]; exact h.len
  clear h hl
  have hmk := run_make_row' (P := Try.prog) 22 34 (.slice none 0 0) 24 Try.underlying22 info34 rfl .i64 .i64 n (by omega) (by omega) w
  have R0 : Hid (CopyRel (Value.int .i64) 34 (ll.map (srtd leI)) n w.heap.size 0 w (w.alloc (.cells (madeCells #[.slice none 0 0] n) 34))) := ⟨⟨fun _ => .slice none 0 0, (World.rowIs_made w _ n 34).congr (fun j _ => by simp), fun j l hj => by omega⟩, (Below.refl _ _).alloc (Nat.le_refl _) _⟩
  go_enter Try.func15, Try.ntmps15
  go_wp2
  clear hmk
  go_loopw [4] (fun i wr => ∃ k : Nat, k ≤ n ∧ i = .int .i64 k ∧ Hid (CopyRel (Value.int .i64) 34 (ll.map (srtd leI)) n w.heap.size k w wr)) (fun i _ => n - (intOf i).toNat)
  case atStart => exact ⟨0, Nat.zero_le _, rfl, R0⟩
  case round =>
    clear R0
    obtain ⟨k, hk, rfl, HR⟩ := hrel
    by_cases hlt : k < n
    · obtain ⟨b, off, l, a', c', ha, hl, hc, hsl, hnl⟩ := (unhide H).at k hlt
      have hcr := ((unhide HR).bel.cell (cell_lt hc)).trans hc
      have hslr := hide (hsl.below (unhide HR).bel)
      have hll := unhide HL l (List.mem_of_getElem? hl)
      have Hl : Hid ((ll.map (srtd leI))[k]? = some (srtd leI l)) := by rw [List.getElem?_map, hl]; exact rfl
      clear hl hc hsl hnl
      rw [ha]
      clear ha
      go_wp2_with fail
      refine (sort44 a' l.length c' l wr hll (unhide hslr)).mono ?_
      rintro _ w1 ⟨X, A, rfl, hs1, hp1, hw1, hb1⟩
      have hA := srtd_eq leI_tot leI_anti hp1 hw1
      have hsA : Sl (Value.int .i64) w1 (some ⟨X, 0, none⟩) (srtd leI l).length (srtd leI l) := by rw [srtd_len, ← hA]; exact hs1
      obtain ⟨hgw, ⟨v, hold⟩, hfz⟩ := (unhide HR).row' hlt hb1
      have R := (unhide HR).step (c' := l.length) (unhide HLn) (fun x a m c h => by cases h) hgw (Nat.le_refl _) (unhide Hl) hb1 hsA (fun h => by cases h)
      rw [srtd_len] at R
      have R := hide R
      clear hs1 hp1 hw1 hb1 hA hsA hgw
      go_wp2
      go_roundw
      case rel => exact ⟨k + 1, by omega, by go_num, R⟩
      case measure => simp [intOf]; omega
    · obtain rfl : k = n := by omega
      go_wp2
      go_ret
      exact ⟨_, _, _, rfl, (unhide HR).done (unhide HLn), (unhide HR).bel⟩

set_option maxRecDepth 100000 in
set_option maxHeartbeats 2000000 in
theorem sortEach16 (a : Option Addr) (n c : Nat) (ll : List (List ByteArray)) (w : World) (hn : n ≤ 1048576) (h : Sll Value.string w a n ll) (hl : ∀ l, l ∈ ll → l.length ≤ 1048576) (hz : ∀ l, l ∈ ll → ∀ x, x ∈ l → x.size ≤ maxLen) :
    Calls Try.prog 16 #[.slice a n c] w (Copied2 Value.string (ll.map (srtd leS)) w) := by
  have H := hide h
  have HL := hide hl
  have HZ := hide hz
  have HLn : Hid (n = (ll.map (srtd leS)).length) := by rw [List.length_map]; exact h.len
  clear h hl hz
  have hmk := run_make_row' (P := Try.prog) 23 39 (.slice none 0 0) 24 Try.underlying23 info39 rfl .i64 .i64 n (by omega) (by omega) w
  have R0 : Hid (CopyRel Value.string 39 (ll.map (srtd leS)) n w.heap.size 0 w (w.alloc (.cells (madeCells #[.slice none 0 0] n) 39))) := ⟨⟨fun _ => .slice none 0 0, (World.rowIs_made w _ n 39).congr (fun j _ => by simp), fun j l hj => by omega⟩, (Below.refl _ _).alloc (Nat.le_refl _) _⟩
  go_enter Try.func16, Try.ntmps16
  go_wp2
  clear hmk
  go_loopw [4] (fun i wr => ∃ k : Nat, k ≤ n ∧ i = .int .i64 k ∧ Hid (CopyRel Value.string 39 (ll.map (srtd leS)) n w.heap.size k w wr)) (fun i _ => n - (intOf i).toNat)
  case atStart => exact ⟨0, Nat.zero_le _, rfl, R0⟩
  case round =>
    clear R0
    obtain ⟨k, hk, rfl, HR⟩ := hrel
    by_cases hlt : k < n
    · obtain ⟨b, off, l, a', c', ha, hl, hc, hsl, hnl⟩ := (unhide H).at k hlt
      have hcr := ((unhide HR).bel.cell (cell_lt hc)).trans hc
      have hslr := hide (hsl.below (unhide HR).bel)
      have hll := unhide HL l (List.mem_of_getElem? hl)
      have HZl := hide (unhide HZ l (List.mem_of_getElem? hl))
      have Hl : Hid ((ll.map (srtd leS))[k]? = some (srtd leS l)) := by rw [List.getElem?_map, hl]; exact rfl
      clear hl hc hsl hnl
      rw [ha]
      clear ha
      go_wp2_with fail
      refine (sort45 a' l.length c' l wr hll (unhide hslr) (unhide HZl)).mono ?_
      rintro _ w1 ⟨X, A, rfl, hs1, hp1, hw1, hb1⟩
      have hA := srtd_eq leS_tot leS_anti hp1 hw1
      have hsA : Sl Value.string w1 (some ⟨X, 0, none⟩) (srtd leS l).length (srtd leS l) := by rw [srtd_len, ← hA]; exact hs1
      obtain ⟨hgw, ⟨v, hold⟩, hfz⟩ := (unhide HR).row' hlt hb1
      have R := (unhide HR).step (c' := l.length) (unhide HLn) (fun x a m c h => by cases h) hgw (Nat.le_refl _) (unhide Hl) hb1 hsA (fun h => by cases h)
      rw [srtd_len] at R
      have R := hide R
      clear hs1 hp1 hw1 hb1 hA hsA hgw
      go_wp2
      go_roundw
      case rel => exact ⟨k + 1, by omega, by go_num, R⟩
      case measure => simp [intOf]; omega
    · obtain rfl : k = n := by omega
      go_wp2
      go_ret
      exact ⟨_, _, _, rfl, (unhide HR).done (unhide HLn), (unhide HR).bel⟩

end Go.Proofs.Qxb6605915a.Strs
