/- READING AND COPYING SLICES at this program: generic predicates, the three clones -/
import Derived.Test.Qxb6605773aRows
import Derived.WalkKit
import Derived.ProofKit
import Derived.OpenShut
import Derived.ShutString
import Derived.WalkLawsBesides
import Derived.WalkSpells
import Derived.Deep.QuietTactic
import Derived.BigQuiet
import Derived.LoopTactic
import Derived.Deep.OwnRows
namespace Go.Proofs.Qxb6605773a.Lw
open Go.ChangeShapes Go.WideShapes Go.ChangeAt Go.RowKit
set_option linter.unusedVariables false

theorem hide {p : Prop} (h : p) : Hid p := h
theorem unhide {p : Prop} (h : Hid p) : p := h
theorem ret_bool {a b : Bool} (h : a = b) : Ending.returned (.bool a) = .returned (.bool b) := by rw [h]
theorem ret_i64 {a b : Int} (h : a = b) : Ending.returned (.int .i64 a) = .returned (.int .i64 b) := by rw [h]

/-- THE SLICE '.slice a n c' READS AS THE LIST l in w, each element by enc. -/
structure Sl {α : Type} (enc : α → Value) (w : World) (a : Option Addr) (n : Nat) (l : List α) : Prop where
  len : n = l.length
  cells : ∀ j x, l[j]? = some x → ∃ b off, a = some ⟨b, off, none⟩ ∧ w.cell? ⟨b, off + j, none⟩ = some (enc x)

theorem Sl.at {α : Type} {enc : α → Value} {w : World} {a : Option Addr} {n : Nat} {l : List α} (h : Sl enc w a n l) (j : Nat) (hj : j < n) :
    ∃ b off x, a = some ⟨b, off, none⟩ ∧ l[j]? = some x ∧ w.cell? ⟨b, off + j, none⟩ = some (enc x) := by
  have hj' : j < l.length := by rw [← h.len]; exact hj
  obtain ⟨b, off, ha, hc⟩ := h.cells j l[j] (List.getElem?_eq_getElem hj')
  exact ⟨b, off, _, ha, List.getElem?_eq_getElem hj', hc⟩

/-- a bool comes back; if it is true then p; nothing turns -/
def Yes (p : Prop) (w : World) (e : Ending) (w' : World) : Prop := ∃ r : Bool, e = .returned (.bool r) ∧ w' = w ∧ (r = true → p)
/-- an int comes back; nothing turns -/
def SomeInt (w : World) (e : Ending) (w' : World) : Prop := ∃ r : Int, e = .returned (.int .i64 r) ∧ w' = w

/-- what a row read cell by cell reads as -/
theorem Sl.of_rowIs {α : Type} {enc : α → Value} {w : World} {b : Nat} {t : TypeId} {n : Nat} {f : Nat → Value} {l : List α} (h : w.rowIs b t n f) (hn : n = l.length) (hf : ∀ j x, l[j]? = some x → f j = enc x) :
    Sl enc w (some ⟨b, 0, none⟩) n l :=
  ⟨hn, fun j x hx => ⟨b, 0, rfl, by
    have hj : j < n := by rw [hn]; exact (List.getElem?_eq_some_iff.1 hx).1
    rw [Nat.zero_add, h.cell hj, hf j x hx]⟩⟩

theorem cell_lt {w : World} {a : Addr} {v : Value} (h : w.cell? a = some v) : a.block < w.heap.size := by
  unfold World.cell? at h
  by_cases hb : a.block < w.heap.size
  · exact hb
  · rw [Array.getElem?_eq_none (by omega)] at h
    simp at h

/-- nothing below the heap's old end has turned: what was read reads on -/
theorem Sl.below {α : Type} {enc : α → Value} {w w' : World} {a : Option Addr} {n : Nat} {l : List α} (h : Sl enc w a n l) (hb : Below w.heap.size w w') : Sl enc w' a n l :=
  ⟨h.len, fun j x hx => by
    obtain ⟨b, off, ha, hc⟩ := h.cells j x hx
    exact ⟨b, off, ha, (hb.cell (cell_lt hc)).trans hc⟩⟩

/-- draws alone part the two -/
def Drawn (w w' : World) : Prop := ∃ q, w.drewN q = w'
theorem Drawn.refl (w : World) : Drawn w w := ⟨0, rfl⟩
theorem Drawn.drewN {w w' : World} (h : Drawn w w') (n : Nat) : Drawn w (w'.drewN n) := by obtain ⟨q, rfl⟩ := h; exact ⟨q + n, by simp⟩
theorem Drawn.cell {w w' : World} (h : Drawn w w') (a : Addr) : w'.cell? a = w.cell? a := by obtain ⟨q, rfl⟩ := h; simp
theorem Drawn.frozen {w w' : World} (h : Drawn w w') (a : Addr) : w'.frozen? a = w.frozen? a := by obtain ⟨q, rfl⟩ := h; simp
theorem Drawn.size {w w' : World} (h : Drawn w w') : w'.heap.size = w.heap.size := by obtain ⟨q, rfl⟩ := h; simp
theorem Drawn.below {w w' : World} (h : Drawn w w') : Below w.heap.size w w' := by obtain ⟨q, rfl⟩ := h; exact ⟨rfl, rfl, rfl, Nat.le_refl _, fun _ _ => rfl⟩

theorem rowIs_drewN {w : World} {b : Nat} {t : TypeId} {n : Nat} {f : Nat → Value} (h : w.rowIs b t n f) (q : Nat) : (w.drewN q).rowIs b t n f := h.of_block rfl

theorem below_drewN {B : Nat} {a w : World} (h : Below B a w) (q : Nat) : Below B a (w.drewN q) := ⟨h.os, h.tape, h.output, h.size, h.block⟩

theorem Sl.drewN {α : Type} {enc : α → Value} {w : World} {a : Option Addr} {n : Nat} {l : List α} (h : Sl enc w a n l) (q : Nat) : Sl enc (w.drewN q) a n l := h.below (below_drewN (Below.refl _ _) q)

theorem info9 : (Try.prog.info? 9).map (fun i => (i.zero, i.size, i.bytes)) = some (some (.string ByteArray.empty), 1, 16) := by kernel_rfl
theorem info2 : (Try.prog.info? 2).map (fun i => (i.zero, i.size, i.bytes)) = some (some (.int .i64 0), 1, 8) := by kernel_rfl
theorem info5 : (Try.prog.info? 5).map (fun i => (i.zero, i.size, i.bytes)) = some (some (.int .u8 0), 1, 1) := by kernel_rfl

/-- a clone's post: the elements, in new memory; nil stays nil -/
def Copied {α : Type} (enc : α → Value) (a : Option Addr) (l : List α) (w : World) (e : Ending) (w' : World) : Prop :=
  ∃ a' n c, e = .returned (.slice a' n c) ∧ Sl enc w' a' n l ∧ Below w.heap.size w w' ∧ (a' = none ↔ a = none) ∧ ∀ ad, a' = some ad → w.heap.size ≤ ad.block

set_option maxRecDepth 100000 in
set_option maxHeartbeats 400000 in
theorem cloneStr (a : Option Addr) (n c : Nat) (l : List ByteArray) (w : World) (hn : n ≤ 1048576) (h : Sl Value.string w a n l) (hnil : a = none → n = 0) :
    Calls Try.prog 23 #[.slice a n c] w (Copied Value.string a l w) := by
  have H := hide h
  clear h
  have hq : ∀ (w : World) (a : Option Addr) (n c n' c' : Nat), (binOp .eql 49 (.slice a n c) (.slice none n' c')).run Try.prog w = .ok (.bool a.isNone) w := fun w a n c n' c' => Lib.run_eql_slice_nil w _ _ a n c n' c' Try.underlying49
  cases a with
  | none =>
    obtain rfl := hnil rfl
    go_enter Try.func23, Try.ntmps23
    go_wp2
    go_ret
    refine ⟨none, 0, 0, rfl, ⟨(unhide H).len, ?_⟩, Below.refl _ _, Iff.rfl, fun ad h => by cases h⟩
    intro j x hx
    have := (List.getElem?_eq_some_iff.1 hx).1
    have := (unhide H).len
    omega
  | some ad =>
    clear hnil
    have hmk := run_make_row' (P := Try.prog) 49 9 (.string ByteArray.empty) 16 Try.underlying49 info9 rfl .i64 .i64 n (by omega) (by omega) w
    go_enter Try.func23, Try.ntmps23
    go_wp2
    go_loopw [4] (fun i wr => ∃ k : Nat, k ≤ n ∧ i = .int .i64 k ∧ wr.rowIs w.heap.size 9 n (fun j => if j < k then .string (l.getD j ByteArray.empty) else .string ByteArray.empty) ∧ Below w.heap.size w wr) (fun i _ => n - (intOf i).toNat)
    case atStart => exact ⟨0, Nat.zero_le _, rfl, (World.rowIs_made w _ n 9).congr (fun j _ => by simp), (Below.refl _ _).alloc (Nat.le_refl _) _⟩
    case round =>
      obtain ⟨k, hk, rfl, hrow, hbel⟩ := hrel
      by_cases hlt : k < n
      · obtain ⟨b, off, x, ha, hx, hc⟩ := (unhide H).at k hlt
        have hcr := (hbel.cell (cell_lt hc)).trans hc
        have hf := hrow.frozen k
        have hold : wr.cell? ⟨w.heap.size, k, none⟩ = some (.string ByteArray.empty) := by rw [hrow.cell hlt]; simp
        have R := hide (And.intro (hrow.set k (.string x)) (hbel.setCell (p := ⟨w.heap.size, k, none⟩) (Nat.le_refl _) (.string x)))
        have HX : Hid (l.getD k ByteArray.empty = x) := by rw [List.getD_eq_getElem?_getD, hx]; rfl
        clear hx hc hrow hbel
        rw [ha]
        clear ha
        go_wp2
        go_roundw
        case rel =>
          refine ⟨k + 1, by omega, by go_num, (unhide R).1.congr ?_, (unhide R).2⟩
          intro j _
          by_cases e : j = k
          · subst e; simp only [if_true, Nat.lt_succ_self]; rw [unhide HX]
          · simp only [if_neg e]
            by_cases e2 : j < k
            · rw [if_pos e2, if_pos (by omega)]
            · rw [if_neg e2, if_neg (by omega)]
        case measure => simp [intOf]; omega
      · go_wp2
        go_ret
        refine ⟨_, _, _, rfl, Sl.of_rowIs hrow (unhide H).len ?_, hbel, ⟨(fun h => by cases h), (fun h => by cases h)⟩, fun ad h => by cases h; exact Nat.le_refl _⟩
        intro j x hx
        have := (List.getElem?_eq_some_iff.1 hx).1
        have := (unhide H).len
        rw [if_pos (by omega), List.getD_eq_getElem?_getD, hx]
        rfl

set_option maxRecDepth 100000 in
set_option maxHeartbeats 400000 in
theorem cloneInt (a : Option Addr) (n c : Nat) (l : List Int) (w : World) (hn : n ≤ 1048576) (h : Sl (Value.int .i64) w a n l) (hnil : a = none → n = 0) :
    Calls Try.prog 10 #[.slice a n c] w (Copied (Value.int .i64) a l w) := by
  have H := hide h
  clear h
  have hq : ∀ (w : World) (a : Option Addr) (n c n' c' : Nat), (binOp .eql 22 (.slice a n c) (.slice none n' c')).run Try.prog w = .ok (.bool a.isNone) w := fun w a n c n' c' => Lib.run_eql_slice_nil w _ _ a n c n' c' Try.underlying22
  cases a with
  | none =>
    obtain rfl := hnil rfl
    go_enter Try.func10, Try.ntmps10
    go_wp2
    go_ret
    refine ⟨none, 0, 0, rfl, ⟨(unhide H).len, ?_⟩, Below.refl _ _, Iff.rfl, fun ad h => by cases h⟩
    intro j x hx
    have := (List.getElem?_eq_some_iff.1 hx).1
    have := (unhide H).len
    omega
  | some ad =>
    clear hnil
    have hmk := run_make_row' (P := Try.prog) 22 2 (.int .i64 0) 8 Try.underlying22 info2 rfl .i64 .i64 n (by omega) (by omega) w
    go_enter Try.func10, Try.ntmps10
    go_wp2
    go_loopw [4] (fun i wr => ∃ k : Nat, k ≤ n ∧ i = .int .i64 k ∧ wr.rowIs w.heap.size 2 n (fun j => if j < k then .int .i64 (l.getD j 0) else .int .i64 0) ∧ Below w.heap.size w wr) (fun i _ => n - (intOf i).toNat)
    case atStart => exact ⟨0, Nat.zero_le _, rfl, (World.rowIs_made w _ n 2).congr (fun j _ => by simp), (Below.refl _ _).alloc (Nat.le_refl _) _⟩
    case round =>
      obtain ⟨k, hk, rfl, hrow, hbel⟩ := hrel
      by_cases hlt : k < n
      · obtain ⟨b, off, x, ha, hx, hc⟩ := (unhide H).at k hlt
        have hcr := (hbel.cell (cell_lt hc)).trans hc
        have hf := hrow.frozen k
        have hold : wr.cell? ⟨w.heap.size, k, none⟩ = some (.int .i64 0) := by rw [hrow.cell hlt]; simp
        have R := hide (And.intro (hrow.set k (.int .i64 x)) (hbel.setCell (p := ⟨w.heap.size, k, none⟩) (Nat.le_refl _) (.int .i64 x)))
        have HX : Hid (l.getD k 0 = x) := by rw [List.getD_eq_getElem?_getD, hx]; rfl
        clear hx hc hrow hbel
        rw [ha]
        clear ha
        go_wp2
        go_roundw
        case rel =>
          refine ⟨k + 1, by omega, by go_num, (unhide R).1.congr ?_, (unhide R).2⟩
          intro j _
          by_cases e : j = k
          · subst e; simp only [if_true, Nat.lt_succ_self]; rw [unhide HX]
          · simp only [if_neg e]
            by_cases e2 : j < k
            · rw [if_pos e2, if_pos (by omega)]
            · rw [if_neg e2, if_neg (by omega)]
        case measure => simp [intOf]; omega
      · go_wp2
        go_ret
        refine ⟨_, _, _, rfl, Sl.of_rowIs hrow (unhide H).len ?_, hbel, ⟨(fun h => by cases h), (fun h => by cases h)⟩, fun ad h => by cases h; exact Nat.le_refl _⟩
        intro j x hx
        have := (List.getElem?_eq_some_iff.1 hx).1
        have := (unhide H).len
        rw [if_pos (by omega), List.getD_eq_getElem?_getD, hx]
        rfl

set_option maxRecDepth 100000 in
set_option maxHeartbeats 400000 in
theorem cloneByte (a : Option Addr) (n c : Nat) (l : List Int) (w : World) (hn : n ≤ 1048576) (h : Sl (Value.int .u8) w a n l) (hnil : a = none → n = 0) :
    Calls Try.prog 33 #[.slice a n c] w (Copied (Value.int .u8) a l w) := by
  have H := hide h
  clear h
  have hq : ∀ (w : World) (a : Option Addr) (n c n' c' : Nat), (binOp .eql 31 (.slice a n c) (.slice none n' c')).run Try.prog w = .ok (.bool a.isNone) w := fun w a n c n' c' => Lib.run_eql_slice_nil w _ _ a n c n' c' Try.underlying31
  cases a with
  | none =>
    obtain rfl := hnil rfl
    go_enter Try.func33, Try.ntmps33
    go_wp2
    go_ret
    refine ⟨none, 0, 0, rfl, ⟨(unhide H).len, ?_⟩, Below.refl _ _, Iff.rfl, fun ad h => by cases h⟩
    intro j x hx
    have := (List.getElem?_eq_some_iff.1 hx).1
    have := (unhide H).len
    omega
  | some ad =>
    clear hnil
    have hmk := run_make_row' (P := Try.prog) 31 5 (.int .u8 0) 1 Try.underlying31 info5 rfl .i64 .i64 n (by omega) (by omega) w
    go_enter Try.func33, Try.ntmps33
    go_wp2
    go_loopw [4] (fun i wr => ∃ k : Nat, k ≤ n ∧ i = .int .i64 k ∧ wr.rowIs w.heap.size 5 n (fun j => if j < k then .int .u8 (l.getD j 0) else .int .u8 0) ∧ Below w.heap.size w wr) (fun i _ => n - (intOf i).toNat)
    case atStart => exact ⟨0, Nat.zero_le _, rfl, (World.rowIs_made w _ n 5).congr (fun j _ => by simp), (Below.refl _ _).alloc (Nat.le_refl _) _⟩
    case round =>
      obtain ⟨k, hk, rfl, hrow, hbel⟩ := hrel
      by_cases hlt : k < n
      · obtain ⟨b, off, x, ha, hx, hc⟩ := (unhide H).at k hlt
        have hcr := (hbel.cell (cell_lt hc)).trans hc
        have hf := hrow.frozen k
        have hold : wr.cell? ⟨w.heap.size, k, none⟩ = some (.int .u8 0) := by rw [hrow.cell hlt]; simp
        have R := hide (And.intro (hrow.set k (.int .u8 x)) (hbel.setCell (p := ⟨w.heap.size, k, none⟩) (Nat.le_refl _) (.int .u8 x)))
        have HX : Hid (l.getD k 0 = x) := by rw [List.getD_eq_getElem?_getD, hx]; rfl
        clear hx hc hrow hbel
        rw [ha]
        clear ha
        go_wp2
        go_roundw
        case rel =>
          refine ⟨k + 1, by omega, by go_num, (unhide R).1.congr ?_, (unhide R).2⟩
          intro j _
          by_cases e : j = k
          · subst e; simp only [if_true, Nat.lt_succ_self]; rw [unhide HX]
          · simp only [if_neg e]
            by_cases e2 : j < k
            · rw [if_pos e2, if_pos (by omega)]
            · rw [if_neg e2, if_neg (by omega)]
        case measure => simp [intOf]; omega
      · go_wp2
        go_ret
        refine ⟨_, _, _, rfl, Sl.of_rowIs hrow (unhide H).len ?_, hbel, ⟨(fun h => by cases h), (fun h => by cases h)⟩, fun ad h => by cases h; exact Nat.le_refl _⟩
        intro j x hx
        have := (List.getElem?_eq_some_iff.1 hx).1
        have := (unhide H).len
        rw [if_pos (by omega), List.getD_eq_getElem?_getD, hx]
        rfl

end Go.Proofs.Qxb6605773a.Lw
