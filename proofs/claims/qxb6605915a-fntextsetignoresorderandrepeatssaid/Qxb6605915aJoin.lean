/- joinSorted[string]: gathered, sorted by the library, grouped in place, cloned -/
import Derived.Test.Qxb6605915aPacks
import Derived.Test.Qxb6605915aGroups
import Derived.Laws.AppendOwnNone
import Derived.Lib.JoinLaws
namespace Go.Proofs.Qxb6605915a.Strs
open Go.ChangeShapes Go.WideShapes Go.ChangeAt Go.RowKit
open Go.Sort (Holds putRow putCells grow SWO)
set_option linter.unusedVariables false

theorem totCb : TotCmp cb := ⟨cb_refl, fun _ _ h => cb_eq0 h, cb_anti, fun _ _ _ h k => cb_trans h k⟩

section
variable {α : Type} [Inhabited α] {enc : α → Value}

theorem holds_of_blockG {w : World} {g : Nat} {cur : Array Value} {e : TypeId} {ss : List α} (hb : w.heap[g]? = some (.cells cur e (0, 0))) (ht : cur.toList.take ss.length = ss.map enc) : Holds enc w g 0 ss.toArray := by
  intro j hj
  have hj' : j < ss.length := by simpa using hj
  refine ⟨?_, by simp [World.frozen?, hb]⟩
  have h1 : (cur.toList.take ss.length)[j]? = (ss.map enc)[j]? := by rw [ht]
  rw [List.getElem?_take_of_lt hj'] at h1
  simp only [World.cell?, hb, Nat.zero_add]
  simp only [Option.isSome_none, Bool.false_eq_true, if_false]
  rw [← Array.getElem?_toList, h1]
  simp [hj']

theorem heap_sortedG {w : World} {g n : Nat} {os : Array Obj} {cur : Array Value} {e : TypeId} {fr : Nat × Nat} (d : Array α) (hb : w.heap[g]? = some (.cells cur e fr)) :
    (sortWorld enc w g 0 n d os).heap[g]? = some (.cells (putCells enc 0 d cur) e fr) := by
  unfold sortWorld
  have hg : g < w.heap.size := (Array.getElem?_eq_some_iff.1 hb).1
  rw [Sort.heap_grow_old _ _ (by simpa using hg)]
  simp [putRow, Sort.mapBlock, Sort.ahead, Array.getElem?_modify, hb, Sort.onCells]

theorem grownBy_sortedG {w : World} {g n : Nat} {os : Array Obj} (d : Array α) : w.grownBy (sortWorld enc w g 0 n d os) (some g) := by
  unfold sortWorld
  refine ⟨rfl, rfl, rfl, by simp, fun k hk hne => ?_⟩
  rw [Sort.heap_grow_old _ _ (by simpa using hk)]
  have : g ≠ k := fun e => hne (by rw [e])
  simp [putRow, Sort.mapBlock, Sort.ahead, Array.getElem?_modify, this]

/-- behind the sort the row holds the sorted list; the rest of it is as it was -/
theorem rowIs_sorted {w : World} {g n cap : Nat} {os : Array Obj} {cur : Array Value} {e : TypeId} {ts : List α} (hb : w.heap[g]? = some (.cells cur e (0, 0))) (hc : cur.size = cap) (hl : ts.length ≤ cap) :
    (sortWorld enc w g 0 n ts.toArray os).rowIs g e cap (fun j => if h : j < ts.length then enc ts[j] else cur.getD j undef) := by
  refine ⟨_, heap_sortedG _ hb, by simp [putCells, hc], fun i hi => ?_⟩
  have hi' : i < cur.size := by omega
  by_cases h : i < ts.length
  · simp [putCells, hi', h]
  · simp [putCells, h, Array.getD, hi']

end

section
variable {α : Type} {enc : α → Value}

theorem ltOf_swo {cf : α → α → Int} (h : TotCmp cf) : SWO (ltOf cf) := by
  refine ⟨fun x => by simp [ltOf, h.refl], fun x y z h1 h2 => ?_, fun x y z h1 h2 => ?_⟩
  · simp only [ltOf, decide_eq_true_eq] at *
    exact h.trans x y z h1 h2
  · simp only [ltOf, decide_eq_false_iff_not, Int.not_lt] at *
    have a1 := h.anti x y
    have a2 := h.anti y z
    have a3 := h.anti x z
    have := h.trans_le z y x (by omega) (by omega)
    omega

theorem ltOf_tot {cf : α → α → Int} (h : TotCmp cf) : ∀ x y, ltOf cf x y = false → ltOf cf y x = false → x = y := by
  intro x y h1 h2
  simp only [ltOf, decide_eq_false_iff_not, Int.not_lt] at h1 h2
  have := h.anti x y
  exact h.eq0 x y (by omega)

/-- what the library's sort leaves -/
def srt (cf : α → α → Int) (l : List α) : List α := l.mergeSort fun x y => !(ltOf cf) y x

theorem srt_perm (cf : α → α → Int) (l : List α) : (srt cf l).Perm l := List.mergeSort_perm _ _
theorem srt_len (cf : α → α → Int) (l : List α) : (srt cf l).length = l.length := (srt_perm cf l).length_eq

theorem srt_srt {cf : α → α → Int} (h : TotCmp cf) (l : List α) : Srt cf (srt cf l) := by
  have := List.pairwise_mergeSort (le := fun x y => !(ltOf cf) y x) (fun a b c h1 h2 => ?_) (fun a b => ?_) l
  · refine List.pairwise_iff_getElem.2 fun i j hi hj hij => ?_
    have hab := List.pairwise_iff_getElem.1 this i j hi hj hij
    show cf (l.mergeSort fun x y => !(ltOf cf) y x)[i] (l.mergeSort fun x y => !(ltOf cf) y x)[j] ≤ 0
    generalize (l.mergeSort fun x y => !(ltOf cf) y x)[i] = a at *
    generalize (l.mergeSort fun x y => !(ltOf cf) y x)[j] = b at *
    simp only [ltOf, Bool.not_eq_true', decide_eq_false_iff_not, Int.not_lt] at hab
    have := h.anti a b
    omega
  · simp only [ltOf, Bool.not_eq_true', decide_eq_false_iff_not, Int.not_lt] at *
    have a1 := h.anti a b
    have a2 := h.anti b c
    have a3 := h.anti a c
    have := h.trans_le a b c (by omega) (by omega)
    omega
  · simp only [ltOf, Bool.or_eq_true, Bool.not_eq_true', decide_eq_false_iff_not, Int.not_lt]
    have a1 := h.anti a b
    omega
end

theorem get_some {α : Type} {l : List α} {i : Nat} (h : i < l.length) : ∃ x, l[i]? = some x := ⟨_, List.getElem?_eq_getElem h⟩

/-- joinSorted's post -/
def Joined {α : Type} (enc : α → Value) (cf : α → α → Int) (fl : List α) (need : Nat) (w : World) (e : Ending) (w' : World) : Prop :=
  ∃ a n c R, e = .returned (.slice a n c) ∧ Sl enc w' a n R ∧ (R.Pairwise fun a b => cf a b < 0) ∧ (∀ x, x ∈ R ↔ x ∈ fl ∧ need ≤ cnt cf x fl) ∧ Below w.heap.size w w'

theorem strCmp (a b : ByteArray) (w : World) : Calls Try.prog 60 #[.string a, .string b] w fun e w' => e = .returned (.int .i64 (cb a b)) ∧ w' = w := Try.strings_Compare a b w

theorem cmpReads60 (blk off size : Nat) (w : World) : CmpLays1 Try.prog 60 #[] Value.string cb blk off size w :=
  CmpReads.lays fun m os dk _ x y => (Try.strings_Compare x y _).mono fun _ _ ⟨he, hw⟩ => ⟨he, 0, by rw [hw]; rfl⟩

theorem flat_take_succ {α : Type} (ll : List (List α)) (k : Nat) (l : List α) (h : ll[k]? = some l) : (ll.take (k + 1)).flatten = (ll.take k).flatten ++ l := by
  rw [List.take_add_one, h]; simp

theorem flat_take_le {α : Type} (ll : List (List α)) (k : Nat) : (ll.take k).flatten.length ≤ ll.flatten.length := by
  have h : ll.flatten = (ll.take k).flatten ++ (ll.drop k).flatten := by rw [← List.flatten_append, List.take_append_drop]
  rw [h, List.length_append]; omega

theorem sort69 (g cap : Nat) (cur : Array Value) (fl : List ByteArray) (w : World) (hb : w.heap[g]? = some (.cells cur 9 (0, 0))) (ht : cur.toList.take fl.length = fl.map Value.string) (hN : fl.length ≤ 16777216) (hc : cur.size = cap) (hl : fl.length ≤ cap) :
    Calls Try.prog 69 #[.slice (some ⟨g, 0, none⟩) fl.length cap, .func (.func 60) #[] #[]] w fun e w' =>
      e = .returned (.tuple #[]) ∧ w'.rowIs g 9 cap (fun j => if h : j < (srt cb fl).length then .string (srt cb fl)[j] else cur.getD j undef) ∧ w.grownBy w' (some g) := by
  have h := Try.slices_SortFunc_total_f69 Value.string (fun _ => rfl) cb (ltOf_swo totCb) 60 #[] g 0 cap fl.toArray w (enters_of Try.func60 (by kernel_rfl) rfl) (cmpReads60 _ _ _ _) (holds_of_blockG hb ht) (Array.getElem?_eq_some_iff.1 hb).1 (by simp; omega) (ltOf_tot totCb)
  refine h.mono ?_
  rintro e w' ⟨rfl, n, os, rfl⟩
  exact ⟨rfl, rowIs_sorted (ts := srt cb fl) hb hc (by rw [srt_len]; exact hl), grownBy_sortedG _⟩

theorem ret_v {v v' : Value} (h : v = v') : Ending.returned v = .returned v' := by rw [h]

/-- what the second loop keeps -/
structure JoinRel {α : Type} (enc : α → Value) (d : α) (cf : α → α → Int) (t : TypeId) (L : List α) (need g cap : Nat) (f0 : Nat → Value) (w : World) (i : Nat) (R : List α) (wr : World) : Prop where
  grp : Grp cf L need i R
  row : wr.rowIs g t cap (fun j => if j < R.length then enc (R.getD j d) else f0 j)
  bel : Below w.heap.size w wr

theorem getD_append {α : Type} (R : List α) (x d : α) (j : Nat) (h : j ≤ R.length) : (R ++ [x]).getD j d = if j < R.length then R.getD j d else x := by
  by_cases e : j < R.length
  · rw [if_pos e, List.getD_eq_getElem?_getD, List.getD_eq_getElem?_getD, List.getElem?_append_left e]
  · rw [if_neg e, List.getD_eq_getElem?_getD, List.getElem?_append_right (by omega), show j - R.length = 0 by omega]; rfl

/-- the group is kept: its value is laid behind those kept so far -/
theorem join_keep {α : Type} {enc : α → Value} {d : α} {cf : α → α → Int} {ty : TypeId} {L : List α} {need g cap : Nat} {f0 : Nat → Value} {w : World} {i t : Nat} {R : List α} {wr wi : World} {x : α}
    (h : JoinRel enc d cf ty L need g cap f0 w i R wr) (hd : Drawn wr wi) (hc : TotCmp cf) (hs : Srt cf L) (hit : i < t) (ht : t ≤ L.length) (hu : ∀ u, i ≤ u → u < t → L[u]? = some x) (hne : ∀ y, L[t]? = some y → cf x y ≠ 0)
    (hn : need ≤ t - i) (hg : w.heap.size ≤ g) (o : Obj) :
    JoinRel enc d cf ty L need g cap f0 w t (R ++ [x]) ((wi.alloc o).setCell ⟨g, R.length, none⟩ (enc x)) := by
  have hg1 := grp_step (need := need) hc h.grp hs hit ht hu hne
  rw [if_pos hn] at hg1
  obtain ⟨q0, rfl⟩ := hd
  refine ⟨hg1, ?_, ?_⟩
  · refine (((rowIs_drewN h.row q0).alloc o).set R.length (enc x)).congr ?_
    intro j _
    rw [List.length_append, List.length_singleton]
    by_cases e1 : j = R.length
    · subst e1; rw [if_pos rfl, if_pos (by omega), getD_append _ _ _ _ (Nat.le_refl _), if_neg (by omega)]
    · rw [if_neg e1]
      by_cases e2 : j < R.length
      · rw [if_pos e2, if_pos (by omega), getD_append _ _ _ _ (by omega), if_pos e2]
      · rw [if_neg e2, if_neg (by omega)]
  · exact ((below_drewN h.bel q0).alloc (by have := h.bel.size; simpa using this) o).setCell (p := ⟨g, R.length, none⟩) hg _

theorem join_drop {α : Type} {enc : α → Value} {d : α} {cf : α → α → Int} {ty : TypeId} {L : List α} {need g cap : Nat} {f0 : Nat → Value} {w : World} {i t : Nat} {R : List α} {wr wi : World} {x : α}
    (h : JoinRel enc d cf ty L need g cap f0 w i R wr) (hd : Drawn wr wi) (hc : TotCmp cf) (hs : Srt cf L) (hit : i < t) (ht : t ≤ L.length) (hu : ∀ u, i ≤ u → u < t → L[u]? = some x) (hne : ∀ y, L[t]? = some y → cf x y ≠ 0)
    (hn : ¬ need ≤ t - i) (q : Nat) : JoinRel enc d cf ty L need g cap f0 w t R (wi.drewN q) := by
  have hg1 := grp_step (need := need) hc h.grp hs hit ht hu hne
  rw [if_neg hn] at hg1
  obtain ⟨q0, rfl⟩ := hd
  exact ⟨hg1, rowIs_drewN (rowIs_drewN h.row q0) q, below_drewN (below_drewN h.bel q0) q⟩

set_option maxRecDepth 100000 in
set_option maxHeartbeats 4000000 in
theorem join59 (al : Option Addr) (nl cl : Nat) (ll : List (List ByteArray)) (any : Bool) (need : Nat) (w : World) (hn : nl ≤ 16777216) (hN : ll.flatten.length ≤ 16777216) (h : Sll Value.string w al nl ll) (hneed : need = cond any 1 nl) :
    Calls Try.prog 59 #[.slice al nl cl, .func (.func 60) #[] #[], .bool any] w (Joined Value.string cb ll.flatten need w) := by
  have H := hide h
  have HD := hide hneed
  clear h hneed
  obtain ⟨i0, hi, hz0, hz1, hz2⟩ := info_parts info9
  go_enter Try.func59, Try.ntmps59
  go_wp2
  go_loopw [7, 9, 16] (fun v _ i wr => ∃ k : Nat, k ≤ nl ∧ i = .int .i64 k ∧ wr.ownsRow w.heap.size 9 1 v (ll.take k).flatten.length ((ll.take k).flatten.map Value.string) ∧ Below w.heap.size w wr) (fun _ _ i _ => nl - (intOf i).toNat)
  case atStart => exact ⟨0, Nat.zero_le _, rfl, World.ownsRow_nil _ _ _ _, Below.refl _ _⟩
  case round =>
    obtain ⟨k, hk, rfl, hown, hbel⟩ := hrel
    by_cases hlt : k < nl
    · obtain ⟨b, off, l, a', c', ha, hl, hc, hsl, hnil⟩ := (unhide H).at k hlt
      have hcr : wr.cell? ⟨b, off + k, none⟩ = some (.slice a' l.length c') := (hbel.cell (cell_lt hc)).trans hc
      have hslr := hsl.below hbel
      have hle := flat_take_le ll (k + 1)
      rw [flat_take_succ ll k l hl, List.length_append] at hle
      have HF := hide (flat_take_succ ll k l hl)
      have Hown := hide hown
      have Hbel := hide hbel
      have HSL := hide hslr
      clear hown hbel hl hc hsl hslr
      rw [ha]
      clear ha
      generalize (ll.take k).flatten = F at *
      cases a' with
      | none =>
        obtain ⟨hl0, hc0⟩ := hnil rfl
        subst hl0 hc0
        clear hnil
        go_wp2_with (at_builtin; refine wpList_append_own_none rfl _ _ 39 rfl w.heap.size 9 i0 1 Try.underlying39 hi _ _ _ rfl (unhide Hown) rfl ?_)
        go_wp2
        go_roundw
        case rel => exact ⟨k + 1, by omega, by go_num, by rw [unhide HF, List.append_nil]; exact unhide Hown, unhide Hbel⟩
        case measure => simp [intOf]; omega
      | some ad =>
        clear hnil
        go_wp2_with (at_builtin; refine wpList_append_own _ rfl _ _ 39 rfl w.heap.size 9 i0 (.string ByteArray.empty) 1 16 Try.underlying39 hi hz0 hz1 hz2 rfl (by decide) _ _ _ rfl (unhide Hown) ad l.length c' (l.map Value.string) rfl ?c0 ?c1 ?c2 ?c3 ?c4 ?c5 ?_)
        case c0 => simp
        case c1 =>
          intro j u hj
          rw [List.getElem?_map] at hj
          cases hlj : l[j]? with
          | none => rw [hlj] at hj; cases hj
          | some x =>
            rw [hlj] at hj
            cases hj
            obtain ⟨b2, off2, ha2, hc2⟩ := (unhide HSL).cells j x hlj
            cases ha2
            rw [Addr.add_lit]
            exact hc2
        case c2 => intro u hu; obtain ⟨x, _, rfl⟩ := List.mem_map.1 hu; rfl
        case c3 => unfold maxLen; omega
        case c4 => omega
        case c5 => exact (unhide Hbel).size
        intro v' w1 ho hg _
        have R1 : Hid (w1.ownsRow w.heap.size 9 1 v' (ll.take (k + 1)).flatten.length ((ll.take (k + 1)).flatten.map Value.string)) := by
          rw [unhide HF, List.length_append, List.map_append]
          exact ho
        have R2 : Hid (Below w.heap.size w w1) := (unhide Hbel).grown hg (unhide Hbel).size (fun g hg => ((unhide Hown).lt g hg).1)
        clear ho hg
        go_wp2
        go_roundw
        case rel => exact ⟨k + 1, by omega, by go_num, R1, R2⟩
        case measure => simp [intOf]; omega
    · obtain rfl : k = nl := by omega
      have e : ll.take k = ll := List.take_of_length_le (by have := (unhide H).len; omega)
      rw [e] at hown
      have Hown := hide hown
      have Hbel := hide hbel
      clear hown hbel e
      generalize hfl : ll.flatten = fl at *
      rcases (unhide Hown).2 with ⟨hv, h0⟩ | ⟨g, cap, cur, hv, hbase, hb, h1, h2, h3, h4⟩
      · rw [hv]
        clear hv
        have hfl0 : fl = [] := List.eq_nil_of_length_eq_zero h0
        subst hfl0
        cases any
        all_goals
          go_wp2_with fail
          refine (Try.slices_SortFunc_none_f69 (α := Nat) none 0 _ _).mono ?_
          rintro _ w2 ⟨rfl, rfl⟩
          go_wp2
          refine wp_loop_rounds 1 ?_
          rw [rounds_succ]
          go_wp2_with fail
          refine (Try.slices_Clone_string_nil 0 0 _).mono ?_
          rintro _ w3 ⟨rfl, rfl⟩
          go_wp2
          go_ret
          exact ⟨none, 0, 0, [], rfl, ⟨rfl, fun j x hx => by simp at hx⟩, List.Pairwise.nil, by simp, unhide Hbel⟩
      · rw [hv]
        clear hv
        go_wp2_with fail
        refine (sort69 g cap cur fl wr hb (by simpa using h4) hN (by omega) h1).mono ?_
        rintro _ w2 ⟨rfl, hrow, hgr⟩
        have hbel2 := (unhide Hbel).grown hgr (unhide Hbel).size (fun j hj => by cases hj; exact hbase)
        have hLl := srt_len cb fl
        have HL := hide (srt_srt totCb fl)
        have HP := hide (srt_perm cb fl)
        generalize srt cb fl = L at *
        obtain ⟨f0, hf0⟩ : ∃ f0 : Nat → Value, f0 = (fun j => if h : j < L.length then .string L[j] else cur.getD j undef) := ⟨_, rfl⟩
        rw [← hf0] at hrow
        have HF0 : Hid (∀ j x, L[j]? = some x → f0 j = .string x) := by
          intro j x hx
          obtain ⟨hj, rfl⟩ := List.getElem?_eq_some_iff.1 hx
          rw [hf0]; simp [hj]
        have R0 : Hid (JoinRel Value.string ByteArray.empty cb 9 L need g cap f0 w 0 [] w2) := ⟨grp_start L need, hrow.congr (fun j _ => by simp), hbel2⟩
        clear hf0 hrow hgr hbel2 h4 hb
        have HLl := hide hLl
        clear hLl
        have hneed : need = cond any 1 k := unhide HD
        cases any
        all_goals
          simp only [cond_true, cond_false] at hneed
          have HN := hide hneed
          clear hneed HD
          go_wp2
          go_loopw [11, 12, 13] (fun jv iv _ wr => ∃ (i : Nat) (R : List ByteArray), i ≤ fl.length ∧ iv = .int .i64 i ∧ jv = .slice (some ⟨g, 0, none⟩) R.length cap ∧ R.length ≤ i ∧ Hid (JoinRel Value.string ByteArray.empty cb 9 L need g cap f0 w i R wr)) (fun _ iv _ _ => fl.length - (intOf iv).toNat)
          case atStart => exact ⟨0, [], Nat.zero_le _, rfl, rfl, Nat.le_refl _, R0⟩
          case round =>
            clear R0
            obtain ⟨i, R, hi', rfl, rfl, hRi, HR⟩ := hrel
            by_cases hlt2 : i < fl.length
            · obtain ⟨x, hx⟩ := get_some (l := L) (i := i) (by have := unhide HLl; omega)
              have Hx := hide hx
              clear hx
              go_wp2
              go_loopw [13] (fun jv wi => ∃ t : Nat, i < t ∧ t ≤ fl.length ∧ jv = .int .i64 t ∧ Hid (Drawn wr wi) ∧ Hid (∀ u, i ≤ u → u < t → L[u]? = some x)) (fun jv _ => fl.length - (intOf jv).toNat)
              case atStart => exact ⟨i + 1, by omega, by omega, by go_num, Drawn.refl _, fun u h1 h2 => by rw [show u = i by omega]; exact unhide Hx⟩
              case round =>
                obtain ⟨t, ht1, ht2, rfl, HDr, HU⟩ := hrel
                by_cases hlt3 : t < fl.length
                · obtain ⟨y, hy⟩ := get_some (l := L) (i := t) (by have := unhide HLl; omega)
                  have hci : wr.cell? ⟨g, i, none⟩ = some (.string x) := ((unhide HDr).cell _).trans (by rw [(unhide HR).row.cell (by omega), if_neg (by omega), unhide HF0 i x (unhide Hx)])
                  have hct : wr.cell? ⟨g, t, none⟩ = some (.string y) := ((unhide HDr).cell _).trans (by rw [(unhide HR).row.cell (by omega), if_neg (by omega), unhide HF0 t y hy])
                  have hdt : decide ((t : Int) < (fl.length : Int)) = true := by simp; omega
                  have hi1 : (i : Int) < (fl.length : Int) := by omega
                  have hi2 : (t : Int) < (fl.length : Int) := by omega
                  have Hy := hide hy
                  clear hy
                  by_cases hxy : cb x y = 0
                  · have e := cb_eq0 hxy
                    subst e
                    have hbq : ((cb x x : Int) == 0) = true := by rw [beq_iff_eq]; exact hxy
                    have HU2 : Hid (∀ u, i ≤ u → u < t + 1 → L[u]? = some x) := by
                      intro u h1 h2
                      by_cases e : u = t
                      · rw [e]; exact unhide Hy
                      · exact unhide HU u h1 (by omega)
                    clear hxy
                    go_wp2
                    go_quiet ((go_at_call 60; exact Calls.quiet_of_same (strCmp _ _ _)))
                    go_wp2
                    go_roundw
                    case rel => exact ⟨t + 1, by omega, by omega, by go_num, (unhide HDr).drewN _, HU2⟩
                    case measure => simp [intOf]; omega
                  · have hbq : ((cb x y : Int) == 0) = false := by rw [beq_eq_false_iff_ne]; exact hxy
                    have HG : Hid (∀ z, L[t]? = some z → cb x z ≠ 0) := by
                      intro z hz
                      rw [unhide Hy] at hz
                      cases hz
                      exact hxy
                    go_wp2
                    go_quiet ((go_at_call 60; exact Calls.quiet_of_same (strCmp _ _ _)))
                    have hcR : wr.cell? ⟨g, R.length, none⟩ = some (if R.length < R.length then .string (R.getD R.length ByteArray.empty) else f0 R.length) := ((unhide HDr).cell _).trans ((unhide HR).row.cell (by omega))
                    have hfR : wr.frozen? ⟨g, R.length, none⟩ = false := ((unhide HDr).frozen _).trans ((unhide HR).row.frozen _)
                    have hgw : g < wr.heap.size := by have := (unhide HR).row.lt; have := (unhide HDr).size; omega
                    rw [if_neg (Nat.lt_irrefl _)] at hcR
                    by_cases hnd : need ≤ t - i
                    · have hnI : (need : Int) ≤ (t : Int) - (i : Int) := by omega
                      rw [unhide HN] at hnI
                      try simp only [Int.natCast_one] at hnI
                      have HK := hide (fun nq o => join_keep (unhide HR) ((unhide HDr).drewN nq) totCb (unhide HL) ht1 (by have := unhide HLl; omega) (unhide HU) (unhide HG) hnd hbase o)
                      go_wp2_with (at_builtin; go_must (refine wpList_append_room1 _ rfl _ _ 39 39 rfl 9 (.string ByteArray.empty) 16 Try.underlying39 info9 g 0 R.length cap rfl (.slice (some ⟨wr.heap.size, 0, none⟩) 1 1) rfl 1 [.string x] (Src.ofSlice _ Try.underlying39 ⟨wr.heap.size, 0, none⟩ 1 1 [.string x] rfl ?c0 ?c3) ?c4 ?c1 ?c2 ?_))
                      case c0 => exact cell_one_new _ _ _
                      case c3 => intro u hu; simp at hu; subst hu; rfl
                      case c4 => omega
                      case c1 => intro j hj; simp at hj; subst hj; simp only [Nat.zero_add, Nat.add_zero]; rw [Lib.cell?_alloc_some (v := f0 R.length) _ (by simpa using hcR)]; rfl
                      case c2 => intro j hj; simp at hj; subst hj; simp only [Nat.zero_add, Nat.add_zero]; exact (((Below.refl _ _).alloc (Nat.le_refl _) _).frozen (p := ⟨g, R.length, none⟩) (by simpa using hgw)).trans (by simpa using hfR)
                      simp only [World.setCells]
                      go_wp2
                      go_roundw
                      case rel => exact ⟨t, R ++ [x], by omega, rfl, by simp, by simp; omega, unhide HK _ _⟩
                      case measure => simp [intOf]; omega
                    · have hnI : ¬ ((need : Int) ≤ (t : Int) - (i : Int)) := by omega
                      rw [unhide HN] at hnI
                      try simp only [Int.natCast_one] at hnI
                      have HK := hide (fun q => join_drop (unhide HR) (unhide HDr) totCb (unhide HL) ht1 (by have := unhide HLl; omega) (unhide HU) (unhide HG) hnd q)
                      go_wp2
                      go_roundw
                      case rel => exact ⟨t, R, by omega, rfl, rfl, by omega, unhide HK _⟩
                      case measure => simp [intOf]; omega
                · have hdt : decide ((t : Int) < (fl.length : Int)) = false := by simp; omega
                  have HG : Hid (∀ z, L[t]? = some z → cb x z ≠ 0) := by
                    intro z hz
                    have := (List.getElem?_eq_some_iff.1 hz).1
                    have := unhide HLl
                    omega
                  have hci : wr.cell? ⟨g, i, none⟩ = some (.string x) := ((unhide HDr).cell _).trans (by rw [(unhide HR).row.cell (by omega), if_neg (by omega), unhide HF0 i x (unhide Hx)])
                  have hi1 : (i : Int) < (fl.length : Int) := by omega
                  go_wp2
                  go_quiet (fail)
                  have hcR : wr.cell? ⟨g, R.length, none⟩ = some (if R.length < R.length then .string (R.getD R.length ByteArray.empty) else f0 R.length) := ((unhide HDr).cell _).trans ((unhide HR).row.cell (by omega))
                  have hfR : wr.frozen? ⟨g, R.length, none⟩ = false := ((unhide HDr).frozen _).trans ((unhide HR).row.frozen _)
                  have hgw : g < wr.heap.size := by have := (unhide HR).row.lt; have := (unhide HDr).size; omega
                  rw [if_neg (Nat.lt_irrefl _)] at hcR
                  by_cases hnd : need ≤ t - i
                  · have hnI : (need : Int) ≤ (t : Int) - (i : Int) := by omega
                    rw [unhide HN] at hnI
                    try simp only [Int.natCast_one] at hnI
                    have HK := hide (fun nq o => join_keep (unhide HR) ((unhide HDr).drewN nq) totCb (unhide HL) ht1 (by have := unhide HLl; omega) (unhide HU) (unhide HG) hnd hbase o)
                    go_wp2_with (at_builtin; go_must (refine wpList_append_room1 _ rfl _ _ 39 39 rfl 9 (.string ByteArray.empty) 16 Try.underlying39 info9 g 0 R.length cap rfl (.slice (some ⟨wr.heap.size, 0, none⟩) 1 1) rfl 1 [.string x] (Src.ofSlice _ Try.underlying39 ⟨wr.heap.size, 0, none⟩ 1 1 [.string x] rfl ?c0 ?c3) ?c4 ?c1 ?c2 ?_))
                    case c0 => exact cell_one_new _ _ _
                    case c3 => intro u hu; simp at hu; subst hu; rfl
                    case c4 => omega
                    case c1 => intro j hj; simp at hj; subst hj; simp only [Nat.zero_add, Nat.add_zero]; rw [Lib.cell?_alloc_some (v := f0 R.length) _ (by simpa using hcR)]; rfl
                    case c2 => intro j hj; simp at hj; subst hj; simp only [Nat.zero_add, Nat.add_zero]; exact (((Below.refl _ _).alloc (Nat.le_refl _) _).frozen (p := ⟨g, R.length, none⟩) (by simpa using hgw)).trans (by simpa using hfR)
                    simp only [World.setCells]
                    go_wp2
                    go_roundw
                    case rel => exact ⟨t, R ++ [x], by omega, rfl, by simp, by simp; omega, unhide HK _ _⟩
                    case measure => simp [intOf]; omega
                  · have hnI : ¬ ((need : Int) ≤ (t : Int) - (i : Int)) := by omega
                    rw [unhide HN] at hnI
                    try simp only [Int.natCast_one] at hnI
                    have HK := hide (fun q => join_drop (unhide HR) (unhide HDr) totCb (unhide HL) ht1 (by have := unhide HLl; omega) (unhide HU) (unhide HG) hnd q)
                    go_wp2
                    go_roundw
                    case rel => exact ⟨t, R, by omega, rfl, rfl, by omega, unhide HK _⟩
                    case measure => simp [intOf]; omega
            · obtain rfl : i = fl.length := by omega
              have hLt : L.take fl.length = L := List.take_of_length_le (by have := unhide HLl; omega)
              have hG := (unhide HR).grp
              rw [show fl.length = L.length from (unhide HLl).symm] at hG
              have HM : Hid (∀ x, x ∈ R ↔ x ∈ fl ∧ need ≤ cnt cb x fl) := by
                intro x
                rw [hG.mem, List.take_length, (unhide HP).mem_iff, cnt_perm (unhide HP)]
              have HI := hide hG.inc
              clear hG hLt
              go_wp2_with fail
              refine (Try.slices_Clone_string g 0 R.length cap R wr (Nat.le_refl _) (by omega) ?_).mono ?_
              · intro j hj
                rw [Nat.zero_add, (unhide HR).row.cell (by omega), if_pos hj]
              rintro _ w3 ⟨v', rfl, ho, _, hb3⟩
              have hB : Hid (Below w.heap.size w w3) := (unhide HR).bel.trans (hb3.mono (unhide HR).bel.size)
              rw [List.take_length] at ho
              obtain ⟨a3, c3, hv3, hs3, _⟩ := Sl.of_owns ho
              have HS3 := hide hs3
              have HV3 := hide hv3
              clear ho hb3 hs3 hv3
              go_wp2
              go_ret
              exact ⟨a3, _, c3, R, ret_v (unhide HV3), unhide HS3, unhide HI, unhide HM, unhide hB⟩

end Go.Proofs.Qxb6605915a.Strs
