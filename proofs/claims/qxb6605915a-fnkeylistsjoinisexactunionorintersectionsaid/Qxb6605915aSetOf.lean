/- setOfStrs, anyOf: the set is just the values of the lists -/
import Derived.Test.Qxb6605915aPack
namespace Go.Proofs.Qxb6605915a.Strs
open Go.ChangeShapes Go.WideShapes Go.ChangeAt Go.RowKit
set_option linter.unusedVariables false

theorem cmp37q (a b : ByteArray) (w : World) (ha : a.size ≤ maxLen) (hb : b.size ≤ maxLen) :
    Calls Try.prog 37 #[.string a, .string b] w fun e w' => e = .returned (.int .i64 (cb a b)) ∧ ∃ q, w' = w.drewN q :=
  (cmp37 a b w ha hb).mono fun _ _ ⟨he, q, hq⟩ => ⟨he, q, hq.symm⟩

theorem info4 : (Try.prog.info? 4).map (fun i => (i.zero, i.size, i.bytes)) = some (some (.bool false), 1, 1) := by kernel_rfl

theorem wrapk (k : Nat) (h : k ≤ 16777216) : IntKind.i64.wrap (k : Int) = k := by simp [IntKind.wrap, IntKind.bits, IntKind.signed]; omega

/-- draws alone part the two -/
def Drawn (w w' : World) : Prop := ∃ q, w.drewN q = w'
theorem Drawn.refl (w : World) : Drawn w w := ⟨0, rfl⟩
theorem Drawn.drewN {w w' : World} (h : Drawn w w') (n : Nat) : Drawn w (w'.drewN n) := by obtain ⟨q, rfl⟩ := h; exact ⟨q + n, by simp⟩
theorem Drawn.cell {w w' : World} (h : Drawn w w') (a : Addr) : w'.cell? a = w.cell? a := by obtain ⟨q, rfl⟩ := h; simp
theorem Drawn.frozen {w w' : World} (h : Drawn w w') (a : Addr) : w'.frozen? a = w.frozen? a := by obtain ⟨q, rfl⟩ := h; simp
theorem Drawn.size {w w' : World} (h : Drawn w w') : w'.heap.size = w.heap.size := by obtain ⟨q, rfl⟩ := h; simp
theorem Drawn.below {w w' : World} (h : Drawn w w') : Below w.heap.size w w' := by obtain ⟨q, rfl⟩ := h; exact ⟨rfl, rfl, rfl, Nat.le_refl _, fun _ _ => rfl⟩

/-- a slice of slices -/
structure Sll {α : Type} (enc : α → Value) (w : World) (a : Option Addr) (n : Nat) (ll : List (List α)) : Prop where
  len : n = ll.length
  cells : ∀ j l, ll[j]? = some l → ∃ b off, a = some ⟨b, off, none⟩ ∧ ∃ a' c', w.cell? ⟨b, off + j, none⟩ = some (.slice a' l.length c') ∧ Sl enc w a' l.length l ∧ (a' = none → l = [] ∧ c' = 0)

theorem Sll.at {α : Type} {enc : α → Value} {w : World} {a : Option Addr} {n : Nat} {ll : List (List α)} (h : Sll enc w a n ll) (j : Nat) (hj : j < n) :
    ∃ b off l a' c', a = some ⟨b, off, none⟩ ∧ ll[j]? = some l ∧ w.cell? ⟨b, off + j, none⟩ = some (.slice a' l.length c') ∧ Sl enc w a' l.length l ∧ (a' = none → l = [] ∧ c' = 0) := by
  have hj' : j < ll.length := by rw [← h.len]; exact hj
  obtain ⟨b, off, ha, a', c', hc, hs, hn⟩ := h.cells j ll[j] (List.getElem?_eq_getElem hj')
  exact ⟨b, off, _, a', c', ha, List.getElem?_eq_getElem hj', hc, hs, hn⟩

theorem Sll.below {α : Type} {enc : α → Value} {w w' : World} {a : Option Addr} {n : Nat} {ll : List (List α)} (h : Sll enc w a n ll) (hb : Below w.heap.size w w') : Sll enc w' a n ll :=
  ⟨h.len, fun j l hl => by
    obtain ⟨b, off, ha, a', c', hc, hs, hn⟩ := h.cells j l hl
    exact ⟨b, off, ha, a', c', (hb.cell (cell_lt hc)).trans hc, hs.below hb, hn⟩⟩

theorem rowIs_drewN {w : World} {b : Nat} {t : TypeId} {n : Nat} {f : Nat → Value} (h : w.rowIs b t n f) (q : Nat) : (w.drewN q).rowIs b t n f := h.of_block rfl

theorem below_drewN {B : Nat} {a w : World} (h : Below B a w) (q : Nat) : Below B a (w.drewN q) := ⟨h.os, h.tape, h.output, h.size, h.block⟩

/-- a bool comes back; new blocks at most -/
def SaysNew (r : Bool) (w : World) (e : Ending) (w' : World) : Prop := e = .returned (.bool r) ∧ Below w.heap.size w w'

/-- each value of the first i lists that stands at j in S is covered -/
def Cov (S : List ByteArray) (ls : List (List ByteArray)) (cov : Nat → Bool) : Prop := ∀ l, l ∈ ls → ∀ x, x ∈ l → ∀ j, S[j]? = some x → cov j = true
def Cov1 (S l : List ByteArray) (cov : Nat → Bool) : Prop := ∀ x, x ∈ l → ∀ j, S[j]? = some x → cov j = true

theorem inc_inj {S : List ByteArray} (h : Inc S) (i j : Nat) (x : ByteArray) (hi : S[i]? = some x) (hj : S[j]? = some x) : i = j := by
  have hz := cb_refl x
  by_cases h1 : i < j
  · have := inc_get h i j x x h1 hi hj; omega
  · by_cases h2 : j < i
    · have := inc_get h j i x x h2 hj hi; omega
    · omega

theorem cov_set {S : List ByteArray} {ls : List (List ByteArray)} {cov : Nat → Bool} (i : Nat) (h : Cov S ls cov) : Cov S ls (fun j => if j = i then true else cov j) := by
  intro l hl x hx j hj
  by_cases e : j = i
  · simp [e]
  · simp [e, h l hl x hx j hj]

theorem cov1_set {S l : List ByteArray} {cov : Nat → Bool} {k i : Nat} {x : ByteArray} (hS : Inc S) (hx : l[k]? = some x) (hi : S[i]? = some x) (h : Cov1 S (l.take k) cov) : Cov1 S (l.take (k + 1)) (fun j => if j = i then true else cov j) := by
  intro y hy j hj
  rw [List.take_add_one, hx] at hy
  simp only [List.mem_append, Option.toList_some, List.mem_singleton] at hy
  rcases hy with hy | hy
  · by_cases e : j = i
    · simp [e]
    · simp [e, h y hy j hj]
  · subst hy
    simp [inc_inj hS j i y hj hi]

theorem cov_snoc {S : List ByteArray} {ll : List (List ByteArray)} {cov : Nat → Bool} {i : Nat} {l : List ByteArray} (hl : ll[i]? = some l) (h : Cov S (ll.take i) cov) (h1 : Cov1 S l cov) : Cov S (ll.take (i + 1)) cov := by
  intro l' hl' x hx j hj
  rw [List.take_add_one, hl] at hl'
  simp only [List.mem_append, Option.toList_some, List.mem_singleton] at hl'
  rcases hl' with hl' | hl'
  · exact h l' hl' x hx j hj
  · subst hl'; exact h1 x hx j hj

set_option maxRecDepth 100000 in
set_option maxHeartbeats 2000000 in
theorem setAny28 (a : Option Addr) (n c : Nat) (al : Option Addr) (nl cl : Nat) (sv : Value) (S : List ByteArray) (ll : List (List ByteArray)) (w : World)
    (hn : n ≤ 16777216) (hnl : nl ≤ 16777216) (h : Sl Value.string w a n S) (hl : Sll Value.string w al nl ll) (hS : Inc S) (hsz : ∀ x, x ∈ S → x.size ≤ maxLen)
    (hll : ∀ l, l ∈ ll → l.length ≤ 16777216)
    (h1 : ∀ l, l ∈ ll → ∀ x, x ∈ l → x ∈ S) (h2 : ∀ x, x ∈ S → ∃ l, l ∈ ll ∧ x ∈ l) :
    Calls Try.prog 28 #[.slice a n c, .slice al nl cl, sv, .bool true] w (SaysNew true w) := by
  have H := hide h
  have HL := hide hl
  have HS := hide hS
  have HZ := hide hsz
  have HLL := hide hll
  have H1 := hide h1
  have H2 := hide h2
  clear h hl hS hsz hll h1 h2
  have hmk := fun W => run_make_row' (P := Try.prog) 74 4 (.bool false) 1 Try.underlying74 info4 rfl .i64 .i64 n (by omega) (by omega) W
  go_enter Try.func28, Try.ntmps28
  go_wp2
  go_loopw [9] (fun i wr => ∃ k : Nat, k ≤ n ∧ i = .int .i64 ((k : Int) + 1) ∧ Hid (Drawn w wr)) (fun i _ => n + 1 - (intOf i).toNat)
  case atStart => exact ⟨0, Nat.zero_le _, rfl, Drawn.refl w⟩
  case round =>
    obtain ⟨k, hk, rfl, HD⟩ := hrel
    by_cases hlt : k + 1 < n
    · obtain ⟨b, off, x, ha, hx, hc⟩ := (unhide H).at k (by omega)
      obtain ⟨b', off', y, ha', hy, hc'⟩ := (unhide H).at (k + 1) hlt
      have hxs := unhide HZ x (List.mem_of_getElem? hx)
      have hys := unhide HZ y (List.mem_of_getElem? hy)
      have hlt' := inc_get (unhide HS) k (k + 1) x y (by omega) hx hy
      rw [ha] at ha'
      cases ha'
      have hcw := (unhide HD).cell ⟨b, off + k, none⟩ |>.trans hc
      have hcw' := (unhide HD).cell ⟨b, off + (k + 1), none⟩ |>.trans hc'
      clear hx hy hc hc'
      rw [ha]
      clear ha
      have hwk := wrapk k (by omega)
      have hi0 : (0 : Int) ≤ (k : Int) := by omega
      have hi1 : (k : Int) < (n : Int) := by omega
      have hi2 : (0 : Int) ≤ (k : Int) + 1 := by omega
      have hi3 : (k : Int) + 1 < (n : Int) := by omega
      have hi4 : ((k : Int) + 1).toNat = k + 1 := by omega
      go_wp2
      go_quiet ((go_at_call 37; exact Calls.quiet_of (cmp37q _ _ _ hxs hys)))
      go_wp2
      go_roundw
      case rel => exact ⟨k + 1, by omega, by go_num, (unhide HD).drewN _⟩
      case measure => simp [intOf]; omega
    · have hws := (unhide HD).size
      go_wp2
      have hb0 : Below w.heap.size w (wr.alloc (.cells (madeCells #[.bool false] n) 4)) := (unhide HD).below.alloc (by omega) _
      have hr0 := World.rowIs_made wr (.bool false) n 4
      rw [hws] at hr0
      have R0 := hide (And.intro hr0 hb0)
      clear hr0 hb0
      go_loopw [11, 12, 13] (fun i _ _ wr => ∃ (m : Nat) (cov : Nat → Bool), m ≤ nl ∧ i = .int .i64 m ∧ wr.rowIs w.heap.size 4 n (fun j => .bool (cov j)) ∧ Below w.heap.size w wr ∧ Hid (Cov S (ll.take m) cov)) (fun i _ _ _ => nl - (intOf i).toNat)
      case atStart => exact ⟨0, fun _ => false, Nat.zero_le _, rfl, (unhide R0).1, (unhide R0).2, by intro l hl; simp at hl⟩
      case round =>
        clear R0
        obtain ⟨m, cov, hm, rfl, hrow, hbel, HC⟩ := hrel
        by_cases hlt2 : m < nl
        · obtain ⟨b, off, l, a', c', ha, hl, hc, hsl, hnl'⟩ := (unhide HL).at m hlt2
          have hlen := unhide HLL l (List.mem_of_getElem? hl)
          rw [ha]
          have Hl := hide hl
          have HSL := hide hsl
          clear ha hl hsl hnl'
          have R := hide (And.intro hrow hbel)
          have hcm : wr.cell? ⟨b, off + m, none⟩ = some (.slice a' l.length c') := (hbel.cell (cell_lt hc)).trans hc
          clear hrow hbel
          go_wp2
          clear hcm
          go_loopw [12, 13] (fun j _ wi => ∃ (k2 : Nat) (cov : Nat → Bool), k2 ≤ l.length ∧ j = .int .i64 k2 ∧ wi.rowIs w.heap.size 4 n (fun j => .bool (cov j)) ∧ Below w.heap.size w wi ∧ Hid (Cov S (ll.take m) cov ∧ Cov1 S (l.take k2) cov)) (fun j _ _ => l.length - (intOf j).toNat)
          case atStart => exact ⟨0, cov, Nat.zero_le _, rfl, (unhide R).1, (unhide R).2, unhide HC, by intro x hx; simp at hx⟩
          case round =>
            clear R HC
            obtain ⟨k2, cov, hk2, rfl, hrow, hbel, HC⟩ := hrel
            have hcm : wr.cell? ⟨b, off + m, none⟩ = some (.slice a' l.length c') := (hbel.cell (cell_lt hc)).trans hc
            by_cases hlt3 : k2 < l.length
            · obtain ⟨b2, off2, x, ha2, hx2, hc2⟩ := (unhide HSL).at k2 hlt3
              have hcx : wr.cell? ⟨b2, off2 + k2, none⟩ = some (.string x) := (hbel.cell (cell_lt hc2)).trans hc2
              have hxS : x ∈ S := unhide H1 l (List.mem_of_getElem? (unhide Hl)) x (List.mem_of_getElem? hx2)
              have hxs := unhide HZ x hxS
              have HXS := hide hxS
              have Hx2 := hide hx2
              rw [ha2] at hcm
              have Rr := hide hrow
              have Rb := hide hbel
              clear hrow hbel hc2 hx2 hxS ha2
              go_wp2_with fail
              refine (find49 a n c S x _ hn hxs ((unhide H).below (unhide Rb)) (unhide HS) (unhide HZ)).mono ?_
              rintro _ _ ⟨r, rfl, ⟨q2, rfl⟩, hr⟩
              obtain ⟨i2, hri, hi2⟩ : ∃ i2 : Nat, r = i2 ∧ S[i2]? = some x := by
                rcases hr with ⟨_, hno⟩ | hyes
                · exact absurd (unhide HXS) hno
                · exact hyes
              have hin : i2 < n := by have := (List.getElem?_eq_some_iff.1 hi2).1; have := (unhide H).len; omega
              have hf := (unhide Rr).frozen i2
              have hold : ∃ bb, wr.cell? ⟨w.heap.size, i2, none⟩ = some (.bool bb) := ⟨_, (unhide Rr).cell hin⟩
              obtain ⟨bb, hold⟩ := hold
              have R2 := hide (And.intro ((unhide Rr).set i2 (.bool true)) ((unhide Rb).setCell (p := ⟨w.heap.size, i2, none⟩) (Nat.le_refl _) (.bool true)))
              have HC2 := hide (And.intro (cov_set i2 (unhide HC).1) (cov1_set (unhide HS) (unhide Hx2) hi2 (unhide HC).2))
              clear hr hi2
              rw [hri]
              clear hri
              go_wp2
              go_roundw
              case rel => exact ⟨k2 + 1, _, by omega, by go_num, (rowIs_drewN (unhide R2).1 _).congr (fun j _ => by split <;> rfl), below_drewN (unhide R2).2 _, HC2⟩
              case measure => simp [intOf]; omega
            · have HC2 := hide (cov_snoc (unhide Hl) (unhide HC).1 (by have h := (unhide HC).2; rwa [List.take_of_length_le (by omega)] at h))
              go_wp2
              go_roundw
              case rel => exact ⟨m + 1, cov, by omega, by go_num, hrow, hbel, HC2⟩
              case measure => simp [intOf]; omega
        · go_wp2
          have hcov : Hid (∀ j x, S[j]? = some x → cov j = true) := by
            intro j x hx
            obtain ⟨l, hl, hxl⟩ := unhide H2 x (List.mem_of_getElem? hx)
            have e : ll.take m = ll := List.take_of_length_le (by have := (unhide HL).len; omega)
            exact unhide HC l (by rw [e]; exact hl) x hxl j hx
          go_loop [14] (fun i => ∃ k4 : Nat, k4 ≤ n ∧ i = .int .i64 k4) (fun i => n - (intOf i).toNat)
          case atStart => exact ⟨0, Nat.zero_le _, rfl⟩
          case round =>
            obtain ⟨k4, hk4, rfl⟩ := hrel
            by_cases hlt4 : k4 < n
            · have hc4 : wr.cell? ⟨w.heap.size, k4, none⟩ = some (.bool true) := by
                obtain ⟨b, off, x, ha, hx, hc⟩ := (unhide H).at k4 hlt4
                rw [hrow.cell hlt4, unhide hcov k4 x hx]
              go_wp2
              go_round
              case rel => exact ⟨k4 + 1, by omega, by go_num⟩
              case measure => simp [intOf]; omega
            · go_wp2
              go_ret
              exact ⟨rfl, hbel⟩

end Go.Proofs.Qxb6605915a.Strs
