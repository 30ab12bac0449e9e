/- SLICES OF STRINGS THAT ARE READ: the predicate, and the contracts of the law's readers (zzBytes, sizeStrList) and of copyStrList. -/
import Derived.Test.Qxb6605915aRows
import Derived.WalkKit
import Derived.ProofKit
import Derived.OpenShut
import Derived.ShutString
import Derived.WalkLawsBesides
import Derived.WalkSpells
import Derived.Deep.QuietTactic
import Derived.BigQuiet
import Derived.LoopTactic
import Derived.Deep.OwnRows
import Derived.Test.Qxb6605915aPlain
namespace Go.Proofs.Qxb6605915a.Strs
open Go.ChangeShapes Go.WideShapes Go.ChangeAt Go.RowKit
set_option linter.unusedVariables false

theorem hide {p : Prop} (h : p) : Hid p := h
theorem unhide {p : Prop} (h : Hid p) : p := h
theorem ret_bool {a b : Bool} (h : a = b) : Ending.returned (.bool a) = .returned (.bool b) := by rw [h]
theorem ret_i64 {a b : Int} (h : a = b) : Ending.returned (.int .i64 a) = .returned (.int .i64 b) := by rw [h]

/-- THE SLICE '.slice a n c' READS AS THE LIST l in w, each element by enc. -/
structure Sl {α : Type} (enc : α → Value) (w : World) (a : Option Addr) (n : Nat) (l : List α) : Prop where
  len : n = l.length
  cells : ∀ j x, l[j]? = some x → ∃ b off, a = some ⟨b, off, none⟩ ∧ w.cell? ⟨b, off + j, none⟩ = some (enc x)

theorem Sl.at {α : Type} {enc : α → Value} {w : World} {a : Option Addr} {n : Nat} {l : List α} (h : Sl enc w a n l) (j : Nat) (hj : j < n) :
    ∃ b off x, a = some ⟨b, off, none⟩ ∧ l[j]? = some x ∧ w.cell? ⟨b, off + j, none⟩ = some (enc x) := by
  have hj' : j < l.length := by rw [← h.len]; exact hj
  obtain ⟨b, off, ha, hc⟩ := h.cells j l[j] (List.getElem?_eq_getElem hj')
  exact ⟨b, off, _, ha, List.getElem?_eq_getElem hj', hc⟩

/-- a bool comes back; if it is true then p; nothing turns -/
def Yes (p : Prop) (w : World) (e : Ending) (w' : World) : Prop := ∃ r : Bool, e = .returned (.bool r) ∧ w' = w ∧ (r = true → p)
/-- an int comes back; nothing turns -/
def SomeInt (w : World) (e : Ending) (w' : World) : Prop := ∃ r : Int, e = .returned (.int .i64 r) ∧ w' = w

set_option maxHeartbeats 400000 in
theorem zzBytes33 (a : Option Addr) (n c : Nat) (l : List ByteArray) (w : World) (hn : n ≤ maxLen) (h : Sl Value.string w a n l) :
    Calls Try.prog 33 #[.slice a n c] w (Yes (n + tot l ≤ 1048576) w) := by
  unfold maxLen at hn
  have H := hide h
  clear h
  by_cases h1 : 1048576 < n
  · go_enter Try.func33, Try.ntmps33
    go_wp2
    go_ret
    exact ⟨false, rfl, rfl, by simp⟩
  · go_enter Try.func33, Try.ntmps33
    go_wp2
    go_loop [3, 4] (fun z i => ∃ k : Nat, k ≤ n ∧ i = .int .i64 k ∧ z = .int .i64 ((n + tot (l.take k) : Nat) : Int) ∧ n + tot (l.take k) ≤ 1048576) (fun _ i => n - (intOf i).toNat)
    case atStart => exact ⟨0, Nat.zero_le _, rfl, by simp [tot], by simp [tot]; omega⟩
    case round =>
      obtain ⟨k, hk, rfl, rfl, hb⟩ := hrel
      by_cases hlt : k < n
      · obtain ⟨b, off, x, ha, hx, hc⟩ := (unhide H).at k hlt
        have HT := hide (tot_take_succ l k x hx)
        clear hx
        rw [ha]
        clear ha
        generalize tot (l.take k) = T at *
        by_cases h2 : 1048576 < x.size
        · go_wp2
          go_ret
          exact ⟨false, rfl, rfl, by simp⟩
        · by_cases h3 : 1048576 < n + T + x.size
          · go_wp2
            go_ret
            exact ⟨false, rfl, rfl, by simp⟩
          · go_wp2
            go_round
            case rel => exact ⟨k + 1, by omega, by go_num, by rw [unhide HT]; go_num, by rw [unhide HT]; omega⟩
            case measure => simp [intOf]; omega
      · go_wp2
        go_ret
        refine ⟨true, rfl, rfl, fun _ => ?_⟩
        have e : l.take k = l := List.take_of_length_le (by have := (unhide H).len; omega)
        rw [e] at hb
        exact hb

set_option maxHeartbeats 400000 in
theorem zzBytes36 (a : Option Addr) (n c : Nat) (l : List ByteArray) (w : World) (hn : n ≤ maxLen) (h : Sl Value.string w a n l) :
    Calls Try.prog 36 #[.slice a n c] w (Yes (n + tot l ≤ 1048576) w) := by
  unfold maxLen at hn
  have H := hide h
  clear h
  by_cases h1 : 1048576 < n
  · go_enter Try.func36, Try.ntmps36
    go_wp2
    go_ret
    exact ⟨false, rfl, rfl, by simp⟩
  · go_enter Try.func36, Try.ntmps36
    go_wp2
    go_loop [3, 4] (fun z i => ∃ k : Nat, k ≤ n ∧ i = .int .i64 k ∧ z = .int .i64 ((n + tot (l.take k) : Nat) : Int) ∧ n + tot (l.take k) ≤ 1048576) (fun _ i => n - (intOf i).toNat)
    case atStart => exact ⟨0, Nat.zero_le _, rfl, by simp [tot], by simp [tot]; omega⟩
    case round =>
      obtain ⟨k, hk, rfl, rfl, hb⟩ := hrel
      by_cases hlt : k < n
      · obtain ⟨b, off, x, ha, hx, hc⟩ := (unhide H).at k hlt
        have HT := hide (tot_take_succ l k x hx)
        clear hx
        rw [ha]
        clear ha
        generalize tot (l.take k) = T at *
        by_cases h2 : 1048576 < x.size
        · go_wp2
          go_ret
          exact ⟨false, rfl, rfl, by simp⟩
        · by_cases h3 : 1048576 < n + T + x.size
          · go_wp2
            go_ret
            exact ⟨false, rfl, rfl, by simp⟩
          · go_wp2
            go_round
            case rel => exact ⟨k + 1, by omega, by go_num, by rw [unhide HT]; go_num, by rw [unhide HT]; omega⟩
            case measure => simp [intOf]; omega
      · go_wp2
        go_ret
        refine ⟨true, rfl, rfl, fun _ => ?_⟩
        have e : l.take k = l := List.take_of_length_le (by have := (unhide H).len; omega)
        rw [e] at hb
        exact hb

set_option maxHeartbeats 400000 in
theorem size34 (a : Option Addr) (n c : Nat) (l : List ByteArray) (w : World) (hn : n ≤ maxLen) (h : Sl Value.string w a n l) :
    Calls Try.prog 34 #[.slice a n c] w (SomeInt w) := by
  unfold maxLen at hn
  have H := hide h
  clear h
  by_cases h1 : 1048576 < n
  · go_enter Try.func34, Try.ntmps34
    go_wp2
    go_ret
    exact ⟨_, rfl, rfl⟩
  · go_enter Try.func34, Try.ntmps34
    go_wp2
    go_loop [3, 4] (fun z i => ∃ (k : Nat) (t : Int), k ≤ n ∧ i = .int .i64 k ∧ z = .int .i64 t ∧ 0 ≤ t ∧ t ≤ 16777216) (fun _ i => n - (intOf i).toNat)
    case atStart => exact ⟨0, _, Nat.zero_le _, rfl, rfl, by omega, by omega⟩
    case round =>
      obtain ⟨k, t, hk, rfl, rfl, hb0, hb1⟩ := hrel
      by_cases hlt : k < n
      · obtain ⟨b, off, x, ha, hx, hc⟩ := (unhide H).at k hlt
        clear hx
        rw [ha]
        clear ha
        by_cases h2 : 1048576 < x.size
        · go_wp2
          go_ret
          exact ⟨_, rfl, rfl⟩
        · by_cases h3 : 1048576 < t + x.size
          · go_wp2
            go_ret
            exact ⟨_, rfl, rfl⟩
          · go_wp2
            go_round
            case rel => exact ⟨k + 1, _, by omega, by go_num, rfl, by omega, by omega⟩
            case measure => simp [intOf]; omega
      · go_wp2
        go_ret
        exact ⟨_, rfl, rfl⟩

theorem info9 : (Try.prog.info? 9).map (fun i => (i.zero, i.size, i.bytes)) = some (some (.string ByteArray.empty), 1, 16) := by kernel_rfl

/-- what a row read cell by cell reads as -/
theorem Sl.of_rowIs {α : Type} {enc : α → Value} {w : World} {b : Nat} {t : TypeId} {n : Nat} {f : Nat → Value} {l : List α} (h : w.rowIs b t n f) (hn : n = l.length) (hf : ∀ j x, l[j]? = some x → f j = enc x) :
    Sl enc w (some ⟨b, 0, none⟩) n l :=
  ⟨hn, fun j x hx => ⟨b, 0, rfl, by
    have hj : j < n := by rw [hn]; exact (List.getElem?_eq_some_iff.1 hx).1
    rw [Nat.zero_add, h.cell hj, hf j x hx]⟩⟩

theorem cell_lt {w : World} {a : Addr} {v : Value} (h : w.cell? a = some v) : a.block < w.heap.size := by
  unfold World.cell? at h
  by_cases hb : a.block < w.heap.size
  · exact hb
  · rw [Array.getElem?_eq_none (by omega)] at h
    simp at h

/-- nothing below the heap's old end has turned: what was read reads on -/
theorem Sl.below {α : Type} {enc : α → Value} {w w' : World} {a : Option Addr} {n : Nat} {l : List α} (h : Sl enc w a n l) (hb : Below w.heap.size w w') : Sl enc w' a n l :=
  ⟨h.len, fun j x hx => by
    obtain ⟨b, off, ha, hc⟩ := h.cells j x hx
    exact ⟨b, off, ha, (hb.cell (cell_lt hc)).trans hc⟩⟩

/-- copyStrList's post: the elements, in new memory -/
def Copied (l : List ByteArray) (w : World) (e : Ending) (w' : World) : Prop :=
  ∃ a n c, e = .returned (.slice a n c) ∧ Sl Value.string w' a n l ∧ Below w.heap.size w w' ∧ (a = none → l = [] ∧ c = 0)

set_option maxRecDepth 100000 in
set_option maxHeartbeats 400000 in
theorem copy35 (a : Option Addr) (n c : Nat) (l : List ByteArray) (w : World) (hn : n ≤ 1048576) (h : Sl Value.string w a n l) (hnil : a = none → n = 0) :
    Calls Try.prog 35 #[.slice a n c] w (Copied l w) := by
  have H := hide h
  clear h
  have hq : ∀ (w : World) (a : Option Addr) (n c n' c' : Nat), (binOp .eql 39 (.slice a n c) (.slice none n' c')).run Try.prog w = .ok (.bool a.isNone) w := fun w a n c n' c' => Lib.run_eql_slice_nil w _ _ a n c n' c' Try.underlying39
  cases a with
  | none =>
    obtain rfl := hnil rfl
    go_enter Try.func35, Try.ntmps35
    go_wp2
    go_ret
    refine ⟨none, 0, 0, rfl, ⟨(unhide H).len, ?_⟩, Below.refl _ _, fun _ => ⟨List.eq_nil_of_length_eq_zero (unhide H).len.symm, rfl⟩⟩
    intro j x hx
    have := (List.getElem?_eq_some_iff.1 hx).1
    have := (unhide H).len
    omega
  | some ad =>
    clear hnil
    have hmk := run_make_row' (P := Try.prog) 39 9 (.string ByteArray.empty) 16 Try.underlying39 info9 rfl .i64 .i64 n (by omega) (by omega) w
    go_enter Try.func35, Try.ntmps35
    go_wp2
    go_loopw [4] (fun i wr => ∃ k : Nat, k ≤ n ∧ i = .int .i64 k ∧ wr.rowIs w.heap.size 9 n (fun j => if j < k then .string (l.getD j ByteArray.empty) else .string ByteArray.empty) ∧ Below w.heap.size w wr) (fun i _ => n - (intOf i).toNat)
    case atStart => exact ⟨0, Nat.zero_le _, rfl, (World.rowIs_made w _ n 9).congr (fun j _ => by simp), (Below.refl _ _).alloc (Nat.le_refl _) _⟩
    case round =>
      obtain ⟨k, hk, rfl, hrow, hbel⟩ := hrel
      by_cases hlt : k < n
      · obtain ⟨b, off, x, ha, hx, hc⟩ := (unhide H).at k hlt
        have hcr := (hbel.cell (cell_lt hc)).trans hc
        have hf := hrow.frozen k
        have hold : wr.cell? ⟨w.heap.size, k, none⟩ = some (.string ByteArray.empty) := by rw [hrow.cell hlt]; simp
        have R := hide (And.intro (hrow.set k (.string x)) (hbel.setCell (p := ⟨w.heap.size, k, none⟩) (Nat.le_refl _) (.string x)))
        have HX : Hid (l.getD k ByteArray.empty = x) := by rw [List.getD_eq_getElem?_getD, hx]; rfl
        clear hx hc hrow hbel
        rw [ha]
        clear ha
        go_wp2
        go_roundw
        case rel =>
          refine ⟨k + 1, by omega, by go_num, (unhide R).1.congr ?_, (unhide R).2⟩
          intro j _
          by_cases e : j = k
          · subst e; simp only [if_true, Nat.lt_succ_self]; rw [unhide HX]
          · simp only [if_neg e]
            by_cases e2 : j < k
            · rw [if_pos e2, if_pos (by omega)]
            · rw [if_neg e2, if_neg (by omega)]
        case measure => simp [intOf]; omega
      · go_wp2
        go_ret
        refine ⟨_, _, _, rfl, Sl.of_rowIs hrow (unhide H).len ?_, hbel, fun h => by cases h⟩
        intro j x hx
        have := (List.getElem?_eq_some_iff.1 hx).1
        have := (unhide H).len
        rw [if_pos (by omega), List.getD_eq_getElem?_getD, hx]
        rfl

end Go.Proofs.Qxb6605915a.Strs
