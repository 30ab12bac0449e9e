/- FnTextSetIgnoresOrderAndRepeats: the walk -/
import Derived.Test.Qxb6605915aLaw5
namespace Go.Proofs.Qxb6605915a.Strs
open Go.ChangeShapes Go.WideShapes Go.ChangeAt Go.RowKit
set_option linter.unusedVariables false

theorem Sl.drewN {α : Type} {enc : α → Value} {w : World} {a : Option Addr} {n : Nat} {l : List α} (h : Sl enc w a n l) (q : Nat) : Sl enc (w.drewN q) a n l := h.below (below_drewN (Below.refl _ _) q)

/-- sameEnds at two readings of one list -/
theorem same32 (a a' : Option Addr) (n n' c c' : Nat) (E : List Nat) (w : World) (hn : n ≤ 16777216) (h : Sl encE w a n E) (h' : Sl encE w a' n' E) :
    Calls Try.prog 32 #[.slice a n c, .slice a' n' c'] w fun e w' => e = .returned (.bool true) ∧ ∃ q, w' = w.drewN q := by
  have H := hide h
  have H' := hide h'
  have hnn : n' = n := by rw [h'.len, h.len]
  subst hnn
  clear h h'
  have hbq : (((n' : Nat) : Int) != (n' : Int)) = false := by simp
  go_enter Try.func32, Try.ntmps32
  go_wp2
  go_loopw [5] (fun i wr => ∃ k : Nat, k ≤ n' ∧ i = .int .i64 k ∧ Hid (Drawn w wr)) (fun i _ => n' - (intOf i).toNat)
  case atStart => exact ⟨0, Nat.zero_le _, rfl, Drawn.refl w⟩
  case round =>
    obtain ⟨k, hk, rfl, HD⟩ := hrel
    by_cases hlt : k < n'
    · obtain ⟨b, off, x, ha, hx, hc⟩ := (unhide H).at k hlt
      obtain ⟨b', off', x', ha', hx', hc'⟩ := (unhide H').at k hlt
      rw [hx] at hx'
      cases hx'
      have hcw := ((unhide HD).cell _).trans hc
      have hcw' := ((unhide HD).cell _).trans hc'
      unfold encE at hcw hcw'
      have hne : (((x : Nat) : Int) != (x : Int)) = false := by simp
      have hi1 : (k : Int) < (n' : Int) := by omega
      clear hx hc hc'
      rw [ha, ha']
      clear ha ha'
      go_wp2
      go_quiet (fail)
      go_wp2
      go_roundw
      case rel => exact ⟨k + 1, by omega, by go_num, (unhide HD).drewN _⟩
      case measure => simp [intOf]; omega
    · go_wp2
      go_ret
      obtain ⟨q, hq⟩ := unhide HD
      exact ⟨rfl, q, hq.symm⟩

theorem app_one {F : List ByteArray} {w0 wr w1 : World} {base : Nat} {v v' : Value} {x : ByteArray} (o : Obj) (hown : w1.ownsRow base 9 1 v' (F.length + 1) (F.map Value.string ++ [.string x])) (hbel : Below base w0 wr) (hs : base ≤ wr.heap.size)
    (hv : ∀ g, v.ownBlock = some g → base ≤ g) (hg : (wr.alloc o).grownBy w1 v.ownBlock) : w1.ownsRow base 9 1 v' (F ++ [x]).length ((F ++ [x]).map Value.string) ∧ Below base w0 w1 := by
  refine ⟨by simpa using hown, (hbel.alloc hs o).grown hg (by simp; omega) hv⟩

/-- the least and the greatest of a list stand at the ends of its set -/
theorem set_first {l S : List ByteArray} (h : SetOf l S) {m : ByteArray} (hm : m ∈ l) (hle : ∀ y, y ∈ l → cb m y ≤ 0) : S[0]? = some m := by
  obtain ⟨i, hi⟩ := List.getElem?_of_mem ((h.2 m).2 hm)
  have hl := (List.getElem?_eq_some_iff.1 hi).1
  have h0 : S[0]? = some S[0] := List.getElem?_eq_getElem (by omega)
  by_cases e : i = 0
  · subst e; exact hi
  · have h1 := inc_get h.1 0 i S[0] m (by omega) h0 hi
    have h2 := hle S[0] ((h.2 S[0]).1 (List.getElem_mem _))
    have := cb_anti S[0] m
    omega

theorem set_last {l S : List ByteArray} (h : SetOf l S) {m : ByteArray} (hm : m ∈ l) (hle : ∀ y, y ∈ l → 0 ≤ cb m y) : S[S.length - 1]? = some m := by
  obtain ⟨i, hi⟩ := List.getElem?_of_mem ((h.2 m).2 hm)
  have hl := (List.getElem?_eq_some_iff.1 hi).1
  have h0 : S[S.length - 1]? = some (S[S.length - 1]'(by omega)) := List.getElem?_eq_getElem (by omega)
  by_cases e : i = S.length - 1
  · rw [← e]; exact hi
  · have h1 := inc_get h.1 i (S.length - 1) m _ (by omega) hi h0
    have h2 := hle _ ((h.2 _).1 (List.getElem_mem (l := S) (n := S.length - 1) (by omega)))
    omega

theorem le_step {l : List ByteArray} {k : Nat} {m x : ByteArray} (hx : l[k]? = some x) (h : m ∈ l.take k ∧ ∀ y, y ∈ l.take k → cb m y ≤ 0) (hc : cb x m < 0) : x ∈ l.take (k + 1) ∧ ∀ y, y ∈ l.take (k + 1) → cb x y ≤ 0 := by
  rw [List.take_add_one, hx]
  refine ⟨by simp, fun y hy => ?_⟩
  simp only [Option.toList_some, List.mem_append, List.mem_singleton] at hy
  rcases hy with hy | rfl
  · exact totCb.trans_le x m y (by omega) (h.2 y hy)
  · rw [cb_refl]; exact Int.le_refl _
theorem le_keep {l : List ByteArray} {k : Nat} {m x : ByteArray} (hx : l[k]? = some x) (h : m ∈ l.take k ∧ ∀ y, y ∈ l.take k → cb m y ≤ 0) (hc : ¬ cb x m < 0) : m ∈ l.take (k + 1) ∧ ∀ y, y ∈ l.take (k + 1) → cb m y ≤ 0 := by
  rw [List.take_add_one, hx]
  refine ⟨by simp [h.1], fun y hy => ?_⟩
  simp only [Option.toList_some, List.mem_append, List.mem_singleton] at hy
  rcases hy with hy | rfl
  · exact h.2 y hy
  · have := cb_anti m y; omega
theorem ge_step {l : List ByteArray} {k : Nat} {m x : ByteArray} (hx : l[k]? = some x) (h : m ∈ l.take k ∧ ∀ y, y ∈ l.take k → 0 ≤ cb m y) (hc : 0 < cb x m) : x ∈ l.take (k + 1) ∧ ∀ y, y ∈ l.take (k + 1) → 0 ≤ cb x y := by
  rw [List.take_add_one, hx]
  refine ⟨by simp, fun y hy => ?_⟩
  simp only [Option.toList_some, List.mem_append, List.mem_singleton] at hy
  rcases hy with hy | rfl
  · have h1 := h.2 y hy
    have a1 := cb_anti m y
    have a2 := cb_anti x m
    have a3 := cb_anti x y
    have := totCb.trans_le y m x (by omega) (by omega)
    omega
  · rw [cb_refl]; exact Int.le_refl _
theorem ge_keep {l : List ByteArray} {k : Nat} {m x : ByteArray} (hx : l[k]? = some x) (h : m ∈ l.take k ∧ ∀ y, y ∈ l.take k → 0 ≤ cb m y) (hc : ¬ 0 < cb x m) : m ∈ l.take (k + 1) ∧ ∀ y, y ∈ l.take (k + 1) → 0 ≤ cb m y := by
  rw [List.take_add_one, hx]
  refine ⟨by simp [h.1], fun y hy => ?_⟩
  simp only [Option.toList_some, List.mem_append, List.mem_singleton] at hy
  rcases hy with hy | rfl
  · exact h.2 y hy
  · have := cb_anti m y; omega

theorem tot_reverse (l : List ByteArray) : tot l.reverse = tot l := by
  induction l with
  | nil => rfl
  | cons x l ih =>
    have e : tot (x :: l) = x.size + tot l := rfl
    have e1 : tot [x] = x.size := by simp [tot]
    rw [List.reverse_cons, tot_append, ih, e, e1]; omega

end Go.Proofs.Qxb6605915a.Strs
