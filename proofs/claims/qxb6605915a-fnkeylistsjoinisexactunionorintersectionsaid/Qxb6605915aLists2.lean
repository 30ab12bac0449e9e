/- copyStrs2, flatten -/
import Derived.Test.Qxb6605915aLists
namespace Go.Proofs.Qxb6605915a.Strs
open Go.ChangeShapes Go.WideShapes Go.ChangeAt Go.RowKit
set_option linter.unusedVariables false

theorem info39 : (Try.prog.info? 39).map (fun i => (i.zero, i.size, i.bytes)) = some (some (.slice none 0 0), 1, 24) := by kernel_rfl

/-- a deep copy's post: the lists, in new memory -/
def Copied2 {α : Type} (enc : α → Value) (ll : List (List α)) (w : World) (e : Ending) (w' : World) : Prop :=
  ∃ a n c, e = .returned (.slice a n c) ∧ Sll enc w' a n ll ∧ Below w.heap.size w w'

/-- what the copier's row holds: k slices that read as the first k lists -/
structure CopyRel {α : Type} (enc : α → Value) (t : TypeId) (ll : List (List α)) (n g k : Nat) (w wr : World) : Prop where
  row : ∃ V : Nat → Value, wr.rowIs g t n (fun j => if j < k then V j else .slice none 0 0) ∧ ∀ j l, j < k → ll[j]? = some l → ∃ a' c', V j = .slice a' l.length c' ∧ Sl enc wr a' l.length l ∧ (a' = none → l = [] ∧ c' = 0)
  bel : Below g w wr

theorem notSlice {α : Type} {enc : α → Value} {wr : World} {g n : Nat} {t : TypeId} {f : Nat → Value} (hr : wr.rowIs g t n f) (hf : ∀ j, j < n → ∃ a m c, f j = .slice a m c) (he : ∀ x a m c, enc x ≠ .slice a m c) {b o : Nat} {x : α}
    (hc : wr.cell? ⟨b, o, none⟩ = some (enc x)) : b ≠ g := by
  rintro rfl
  by_cases ho : o < n
  · rw [hr.cell ho] at hc
    obtain ⟨a, m, c, hh⟩ := hf o ho
    rw [hh] at hc
    cases hx : enc x <;> simp [hx] at hc
    exact he x _ _ _ (by rw [hx])
  · obtain ⟨cs, hcs, hsz, _⟩ := hr
    simp only [World.cell?, hcs] at hc
    rw [Array.getElem?_eq_none (by omega)] at hc
    simp at hc

theorem CopyRel.step {α : Type} {enc : α → Value} {t : TypeId} {ll : List (List α)} {n g k : Nat} {w wr w1 : World} (h : CopyRel enc t ll n g k w wr) (hll : n = ll.length) (he : ∀ x a m c, enc x ≠ .slice a m c) (hgw : g < wr.heap.size) (hg : w.heap.size ≤ g) {l : List α} (hl : ll[k]? = some l)
    {a' : Option Addr} {c' : Nat} (hb : Below wr.heap.size wr w1) (hs : Sl enc w1 a' l.length l) (hn : a' = none → l = [] ∧ c' = 0) :
    CopyRel enc t ll n g (k + 1) w (w1.setCell ⟨g, k, none⟩ (.slice a' l.length c')) := by
  obtain ⟨⟨V, hrow, hV⟩, hbel⟩ := h
  have hrow1 : w1.rowIs g t n (fun j => if j < k then V j else .slice none 0 0) := hrow.of_block (hb.block _ hgw)
  have hsl : ∀ j, j < n → ∃ a m c, (if j < k then V j else .slice none 0 0) = Value.slice a m c := by
    intro j hj
    by_cases e : j < k
    · obtain ⟨l', hl'⟩ := get_some (l := ll) (i := j) (by omega)
      obtain ⟨a1, c1, h1, _⟩ := hV j l' e hl'
      exact ⟨a1, _, c1, by rw [if_pos e, h1]⟩
    · exact ⟨_, _, _, by rw [if_neg e]⟩
  have keep : ∀ (a1 : Option Addr) (l1 : List α), Sl enc w1 a1 l1.length l1 → Sl enc (w1.setCell ⟨g, k, none⟩ (.slice a' l.length c')) a1 l1.length l1 := by
    intro a1 l1 h1
    refine ⟨h1.len, fun j x hx => ?_⟩
    obtain ⟨b, off, ha, hc⟩ := h1.cells j x hx
    exact ⟨b, off, ha, (World.cell?_setCell_other _ _ _ _ (fun e => notSlice hrow1 hsl he hc (congrArg Addr.block e).symm)).trans hc⟩
  refine ⟨⟨fun j => if j = k then .slice a' l.length c' else V j, (hrow1.set k _).congr ?_, ?_⟩, ((hbel.trans (hb.mono (by omega))).setCell (p := ⟨g, k, none⟩) (Nat.le_refl _) _)⟩
  · intro j _
    by_cases e : j = k
    · subst e; simp
    · rw [if_neg e]
      by_cases e2 : j < k
      · simp only []; rw [if_pos e2, if_pos (by omega), if_neg e]
      · simp only []; rw [if_neg e2, if_neg (by omega)]
  · intro j l1 hj hl1
    by_cases e : j = k
    · subst e
      rw [hl] at hl1
      cases hl1
      exact ⟨a', c', by simp, keep _ _ hs, hn⟩
    · obtain ⟨a1, c1, h1, h2, h3⟩ := hV j l1 (by omega) hl1
      exact ⟨a1, c1, by simp only []; rw [if_neg e]; exact h1, keep _ _ (h2.below hb), h3⟩

theorem CopyRel.done {α : Type} {enc : α → Value} {t : TypeId} {ll : List (List α)} {n g : Nat} {w wr : World} (h : CopyRel enc t ll n g n w wr) (hll : n = ll.length) : Sll enc wr (some ⟨g, 0, none⟩) n ll := by
  obtain ⟨⟨V, hrow, hV⟩, hbel⟩ := h
  refine ⟨hll, fun j l hl => ?_⟩
  have hj : j < n := by rw [hll]; exact (List.getElem?_eq_some_iff.1 hl).1
  obtain ⟨a', c', h1, h2, h3⟩ := hV j l hj hl
  exact ⟨g, 0, rfl, a', c', by rw [Nat.zero_add, hrow.cell hj, if_pos hj, h1], h2, h3⟩

set_option maxRecDepth 100000 in
set_option maxHeartbeats 800000 in
theorem copy14 (a : Option Addr) (n c : Nat) (ll : List (List ByteArray)) (w : World) (hn : n ≤ 1048576) (h : Sll Value.string w a n ll) (hnil : a = none → n = 0) (hl : ∀ l, l ∈ ll → l.length ≤ 1048576) :
    Calls Try.prog 14 #[.slice a n c] w (Copied2 Value.string ll w) := by
  have H := hide h
  have HL := hide hl
  clear h hl
  have hq : ∀ (w : World) (a : Option Addr) (n c n' c' : Nat), (binOp .eql 23 (.slice a n c) (.slice none n' c')).run Try.prog w = .ok (.bool a.isNone) w := fun w a n c n' c' => Lib.run_eql_slice_nil w _ _ a n c n' c' Try.underlying23
  cases a with
  | none =>
    obtain rfl := hnil rfl
    go_enter Try.func14, Try.ntmps14
    go_wp2
    go_ret
    refine ⟨none, 0, 0, rfl, ⟨(unhide H).len, ?_⟩, Below.refl _ _⟩
    intro j x hx
    have := (List.getElem?_eq_some_iff.1 hx).1
    have := (unhide H).len
    omega
  | some ad =>
    clear hnil
    have hmk := run_make_row' (P := Try.prog) 23 39 (.slice none 0 0) 24 Try.underlying23 info39 rfl .i64 .i64 n (by omega) (by omega) w
    have R0 : Hid (CopyRel Value.string 39 ll n w.heap.size 0 w (w.alloc (.cells (madeCells #[.slice none 0 0] n) 39))) := ⟨⟨fun _ => .slice none 0 0, (World.rowIs_made w _ n 39).congr (fun j _ => by simp), fun j l hj => by omega⟩, (Below.refl _ _).alloc (Nat.le_refl _) _⟩
    go_enter Try.func14, Try.ntmps14
    go_wp2
    go_loopw [4] (fun i wr => ∃ k : Nat, k ≤ n ∧ i = .int .i64 k ∧ Hid (CopyRel Value.string 39 ll n w.heap.size k w wr)) (fun i _ => n - (intOf i).toNat)
    case atStart => exact ⟨0, Nat.zero_le _, rfl, R0⟩
    case round =>
      clear R0
      obtain ⟨k, hk, rfl, HR⟩ := hrel
      by_cases hlt : k < n
      · obtain ⟨b, off, l, a', c', ha, hl, hc, hsl, hnl⟩ := (unhide H).at k hlt
        have hcr := ((unhide HR).bel.cell (cell_lt hc)).trans hc
        have hslr := hide (hsl.below (unhide HR).bel)
        have hll := unhide HL l (List.mem_of_getElem? hl)
        have Hl := hide hl
        have HN := hide hnl
        clear hl hc hsl hnl
        rw [ha]
        clear ha
        go_wp2_with fail
        refine (copy35 a' l.length c' l wr hll (unhide hslr) (fun e => by rw [(unhide HN e).1]; rfl)).mono ?_
        rintro _ w1 ⟨a1, n1, c1, rfl, hs1, hb1, hn1⟩
        obtain rfl : n1 = l.length := hs1.len
        have hgw : w.heap.size < wr.heap.size := by obtain ⟨V, hr, _⟩ := (unhide HR).row; exact hr.lt
        have hrow1 : ∃ v, w1.cell? ⟨w.heap.size, k, none⟩ = some v := by
          obtain ⟨V, hr, _⟩ := (unhide HR).row
          have hr1 : w1.rowIs w.heap.size 39 n _ := hr.of_block (hb1.block _ hgw)
          exact ⟨_, hr1.cell hlt⟩
        obtain ⟨v, hold⟩ := hrow1
        have hfz : w1.frozen? ⟨w.heap.size, k, none⟩ = false := by
          obtain ⟨V, hr, _⟩ := (unhide HR).row
          have hr1 : w1.rowIs w.heap.size 39 n _ := hr.of_block (hb1.block _ hgw)
          exact hr1.frozen k
        have R := hide ((unhide HR).step (c' := c1) (unhide H).len (fun x a m c h => by cases h) hgw (Nat.le_refl _) (unhide Hl) hb1 hs1 hn1)
        clear hs1 hb1 hn1 hgw
        go_wp2
        go_roundw
        case rel => exact ⟨k + 1, by omega, by go_num, R⟩
        case measure => simp [intOf]; omega
      · obtain rfl : k = n := by omega
        go_wp2
        go_ret
        exact ⟨_, _, _, rfl, (unhide HR).done (unhide H).len, (unhide HR).bel⟩

set_option maxRecDepth 100000 in
set_option maxHeartbeats 2000000 in
theorem flatten31 (a : Option Addr) (n c : Nat) (ll : List (List ByteArray)) (w : World) (hn : n ≤ 1048576) (h : Sll Value.string w a n ll) (hN : ll.flatten.length ≤ 1048576) :
    Calls Try.prog 31 #[.slice a n c] w fun e w' => ∃ a' n' c', e = .returned (.slice a' n' c') ∧ Sl Value.string w' a' n' ll.flatten ∧ Below w.heap.size w w' ∧ (a' = none → ll.flatten = [] ∧ c' = 0) := by
  have H := hide h
  clear h
  obtain ⟨i0, hi, hz0, hz1, hz2⟩ := info_parts info9
  go_enter Try.func31, Try.ntmps31
  go_wp2_with fail
  refine (count25 a n c ll w hn (unhide H) hN).mono ?_
  rintro _ w ⟨rfl, rfl⟩
  obtain ⟨N, hNe⟩ : ∃ N : Nat, N = ll.flatten.length := ⟨_, rfl⟩
  rw [← hNe] at hN ⊢
  have HNe := hide hNe
  clear hNe
  go_wp2_with (at_make; refine wpList_make_own _ rfl _ _ 39 rfl w.heap.size 9 i0 (.string ByteArray.empty) 1 Try.underlying39 hi hz0 hz1 .i64 .i64 _ N rfl rfl (by omega) (by rw [hz2]; omega) (by unfold maxLen; omega) (Nat.le_refl _) ?_; intro w0 hown0 hgrow0)
  have hb0 : Below w.heap.size w w0 := (Below.refl _ _).grown hgrow0 (Nat.le_refl _) (fun k hk => by cases hk)
  clear hgrow0
  go_loopw [3, 4, 5] (fun v i _ wr => ∃ (k : Nat) (F : List ByteArray), k ≤ n ∧ i = .int .i64 k ∧ F.length ≤ N ∧ wr.ownsRow w.heap.size 9 1 v F.length (F.map Value.string) ∧ Below w.heap.size w wr ∧ Hid (F = (ll.take k).flatten)) (fun _ i _ _ => n - (intOf i).toNat)
  case atStart => exact ⟨0, [], Nat.zero_le _, rfl, Nat.zero_le _, by simpa using hown0, hb0, rfl⟩
  case round =>
    clear hown0 hb0
    obtain ⟨k, F, hk, rfl, hFk, hown, hbel, HF⟩ := hrel
    by_cases hlt : k < n
    · obtain ⟨b, off, l, a', c', ha, hl, hc, hsl, _⟩ := (unhide H).at k hlt
      have hFl : F.length + l.length ≤ N := by
        have hle := flat_take_le ll (k + 1)
        rw [flat_take_succ ll k l hl, List.length_append, ← unhide HF, ← unhide HNe] at hle
        exact hle
      have HF2 : Hid (F ++ l = (ll.take (k + 1)).flatten) := by rw [flat_take_succ ll k l hl, unhide HF]; exact rfl
      have HSL := hide hsl
      have Hown := hide hown
      have Hbel := hide hbel
      clear hl hsl hown hbel HF
      rw [ha]
      clear ha
      go_wp2
      go_loopw [3, 5] (fun v j wr => ∃ (m : Nat) (G : List ByteArray), m ≤ l.length ∧ j = .int .i64 m ∧ G.length ≤ F.length + m ∧ wr.ownsRow w.heap.size 9 1 v G.length (G.map Value.string) ∧ Below w.heap.size w wr ∧ Hid (G = F ++ l.take m)) (fun _ j _ => l.length - (intOf j).toNat)
      case atStart => exact ⟨0, F, Nat.zero_le _, rfl, Nat.le_refl _, unhide Hown, unhide Hbel, by refine hide ?_; simp⟩
      case round =>
        clear Hown Hbel
        obtain ⟨m, G, hm, rfl, hGk, hown, hbel, HG⟩ := hrel
        have hcr := (hbel.cell (cell_lt hc)).trans hc
        by_cases hlt2 : m < l.length
        · obtain ⟨b2, off2, x, ha2, hx, hc2⟩ := (unhide HSL).at m hlt2
          have hcx := (hbel.cell (cell_lt hc2)).trans hc2
          have HG2 : Hid (G ++ [x] = F ++ l.take (m + 1)) := by rw [unhide HG, List.take_add_one, hx, List.append_assoc]; rfl
          have hs := hbel.size
          have Hown := hide hown
          have Hbel := hide hbel
          clear hx hc2 hown hbel
          rw [ha2] at hcr
          clear ha2
          go_wp2_with (at_builtin; refine wpList_append_own _ rfl _ _ 39 rfl w.heap.size 9 i0 (.string ByteArray.empty) 1 16 Try.underlying39 hi hz0 hz1 hz2 rfl (by decide) _ _ _ rfl ((unhide Hown).alloc _) ⟨wr.heap.size, 0, none⟩ 1 1 [.string x] rfl rfl ?c1 ?c2 ?c3 ?c4 ?c5 ?_)
          case c1 => exact cell_one_new _ _ _
          case c2 => intro u hu; simp at hu; subst hu; rfl
          case c3 => unfold maxLen; omega
          case c4 => omega
          case c5 => simp; omega
          intro v' w3 ho hg _
          have R := hide (app_one _ ho (unhide Hbel) hs (fun g hg => ((unhide Hown).lt g hg).1) hg)
          clear ho hg
          go_wp2
          go_roundw
          case rel => exact ⟨m + 1, G ++ [x], by omega, by go_num, by simp; omega, (unhide R).1, (unhide R).2, HG2⟩
          case measure => simp [intOf]; omega
        · have HG1 : Hid (G = (ll.take (k + 1)).flatten) := by rw [unhide HG, List.take_of_length_le (by omega)]; exact unhide HF2
          go_wp2
          go_roundw
          case rel => exact ⟨k + 1, G, by omega, by go_num, by omega, hown, hbel, HG1⟩
          case measure => simp [intOf]; omega
    · have e : ll.take k = ll := List.take_of_length_le (by have := (unhide H).len; omega)
      have hF := unhide HF
      rw [e] at hF
      subst hF
      obtain ⟨a3, c3, hv3, hs3, hnil3⟩ := Sl.of_owns hown
      have HS3 := hide hs3
      have HV3 := hide hv3
      have HN3 := hide hnil3
      have HB3 := hide hbel
      clear hown hs3 hv3 hnil3 e HF hbel
      go_wp2
      go_ret
      exact ⟨a3, _, c3, ret_v (unhide HV3), unhide HS3, unhide HB3, unhide HN3⟩

end Go.Proofs.Qxb6605915a.Strs
