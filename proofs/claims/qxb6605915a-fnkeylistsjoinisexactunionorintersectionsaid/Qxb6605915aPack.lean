/- unpack: what is packed comes out again -/
import Derived.Test.Qxb6605915aCmp
import Derived.OwnWalk
import Derived.Deep.AppendLies
namespace Go.Proofs.Qxb6605915a.Strs
open Go.ChangeShapes Go.WideShapes Go.ChangeAt Go.RowKit
set_option linter.unusedVariables false

def encE (k : Nat) : Value := .int .u32 (k : Int)

/-- what is owned reads as its list -/
theorem Sl.of_owns {α : Type} {enc : α → Value} {w : World} {base : Nat} {t : TypeId} {v : Value} {l : List α} (h : w.ownsRow base t 1 v l.length (l.map enc)) :
    ∃ a c, v = .slice a l.length c ∧ Sl enc w a l.length l ∧ (a = none → l = [] ∧ c = 0) := by
  obtain ⟨hl, h⟩ := h
  rcases h with ⟨rfl, h0⟩ | ⟨g, cap, cur, rfl, hb, hg, hn, hm, hs, ht⟩
  · have : l = [] := List.eq_nil_of_length_eq_zero h0
    subst this
    exact ⟨none, 0, rfl, ⟨rfl, fun j x hx => by simp at hx⟩, fun _ => ⟨rfl, rfl⟩⟩
  · refine ⟨some ⟨g, 0, none⟩, cap, rfl, ⟨rfl, fun j x hx => ⟨g, 0, rfl, ?_⟩⟩, fun h => by cases h⟩
    have hj := (List.getElem?_eq_some_iff.1 hx).1
    have e : cur[j]? = some (enc x) := by
      have h2 : (cur.toList.take (l.length * 1))[j]? = some (enc x) := by rw [ht]; simp [hx]
      rw [List.getElem?_take_of_lt (by omega)] at h2
      simpa using h2
    simp [World.cell?, hg, e]

theorem ret_pair {v v' u : Value} (h : v = v') : Ending.returned (.tuple #[v, u]) = .returned (.tuple #[v', u]) := by rw [h]

/-- unpack's post -/
def Unpacked (S : List ByteArray) (w : World) (e : Ending) (w' : World) : Prop :=
  ∃ a n c, e = .returned (.tuple #[.slice a n c, .bool true]) ∧ Sl Value.string w' a n S ∧ Below w.heap.size w w' ∧ (a = none → S = [] ∧ c = 0)

theorem unp_step {S : List ByteArray} {w wr w1 : World} {v v' : Value} {k : Nat} {x : ByteArray} (hx : S[k]? = some x) (hk : k < S.length) (o : Obj)
    (hown : w1.ownsRow w.heap.size 9 1 v' (k + 1) ((S.take k).map Value.string ++ [.string x])) (hbel : Below w.heap.size w wr) (hs : w.heap.size ≤ wr.heap.size)
    (hv : ∀ g, v.ownBlock = some g → w.heap.size ≤ g) (hg : (wr.alloc o).grownBy w1 v.ownBlock) :
    w1.ownsRow w.heap.size 9 1 v' (k + 1) ((S.take (k + 1)).map Value.string) ∧ Below w.heap.size w w1 := by
  refine ⟨?_, ?_⟩
  · rw [List.take_add_one, hx]
    simpa using hown
  · exact (hbel.alloc hs o).grown hg (by simp; omega) hv

set_option maxRecDepth 100000 in
set_option maxHeartbeats 1000000 in
theorem unpack24 (S : List ByteArray) (a : Option Addr) (n c : Nat) (most : Int) (w : World) (hn : n ≤ 16777216) (ht : tot S ≤ 16777216) (h : Sl encE w a n (endsOf S)) (hm : (n : Int) ≤ most) :
    Calls Try.prog 24 #[.string (cat S), .slice a n c, .int .i64 most] w (Unpacked S w) := by
  have hlen : n = S.length := by rw [← endsOf_length S]; exact h.len
  have H := hide h
  have HL := hide hlen
  have hsz := cat_size S
  have hsz1 : (cat S).size ≤ 16777216 := by omega
  have HZ := hide hsz
  clear h hlen hsz
  have hm0 : decide (most < (n : Int)) = false := by simp; omega
  obtain ⟨i0, hi, hz0, hz1, hz2⟩ := info_parts info9
  go_enter Try.func24, Try.ntmps24
  go_wp2_with (at_make; refine wpList_make_own _ rfl _ _ 39 rfl w.heap.size 9 i0 (.string ByteArray.empty) 1 Try.underlying39 hi hz0 hz1 .i64 .i64 _ n rfl rfl rfl (by rw [hz2]; omega) (by unfold maxLen; omega) (Nat.le_refl _) ?_; intro w0 hown0 hgrow0)
  have hb0 : Below w.heap.size w w0 := (Below.refl _ _).grown hgrow0 (Nat.le_refl _) (fun k hk => by cases hk)
  clear hgrow0
  go_loopw [8, 9, 10] (fun v st i wr => ∃ k : Nat, k ≤ n ∧ i = .int .i64 k ∧ st = .int .i64 (tot (S.take k) : Nat) ∧ wr.ownsRow w.heap.size 9 1 v k ((S.take k).map Value.string) ∧ Below w.heap.size w wr) (fun _ _ i _ => n - (intOf i).toNat)
  case atStart => exact ⟨0, Nat.zero_le _, rfl, rfl, by simpa using hown0, hb0⟩
  case round =>
    clear hown0 hb0
    obtain ⟨k, hk, rfl, rfl, hown, hbel⟩ := hrel
    by_cases hlt : k < n
    · have hkS : k < S.length := by have := unhide HL; omega
      have hx : S[k]? = some S[k] := List.getElem?_eq_getElem hkS
      generalize S[k] = x at hx
      obtain ⟨b, off, ha, hc⟩ := (unhide H).cells k _ (endsOf_get S k hkS)
      have hcr := (hbel.cell (cell_lt hc)).trans hc
      unfold encE at hcr
      have HT := hide (tot_take_succ S k x hx)
      have t1 : tot (S.take k) ≤ tot (S.take (k + 1)) := by have := unhide HT; omega
      have t2 : tot (S.take (k + 1)) ≤ (cat S).size := by have := tot_take_le S (k + 1); have := unhide HZ; omega
      have HX := hide (cat_extract S k x hx)
      have hs := hbel.size
      have hown' := hide hown
      have hbel' := hide hbel
      have Hx := hide hx
      clear hc hown hbel hx
      rw [ha]
      clear ha
      generalize ht0 : tot (S.take k) = T0 at *
      generalize ht1 : tot (S.take (k + 1)) = T1 at *
      have HT0 := hide ht0
      have HT1 := hide ht1
      clear ht0 ht1
      go_wp2_with (at_builtin; refine wpList_append_own _ rfl _ _ 39 rfl w.heap.size 9 i0 (.string ByteArray.empty) 1 16 Try.underlying39 hi hz0 hz1 hz2 rfl (by decide) _ _ _ rfl ((unhide hown').alloc _) ⟨wr.heap.size, 0, none⟩ 1 1 [.string ((cat S).extract T0 T1)] rfl rfl ?c1 ?c2 ?c3 ?c4 ?c5 ?_)
      case c1 => exact cell_one_new _ _ _
      case c2 => intro u hu; simp at hu; subst hu; rfl
      case c3 => unfold maxLen; omega
      case c4 => omega
      case c5 => simp; omega
      intro v' w1 ho hg _
      have R := hide (unp_step (unhide Hx) hkS _ (by rw [← unhide HX, List.map_take]; exact ho) (unhide hbel') hs (fun g hg => ((unhide hown').lt g hg).1) hg)
      clear ho hg
      go_wp2
      go_roundw
      case rel => exact ⟨k + 1, by omega, by go_num, by rw [unhide HT1], (unhide R).1, (unhide R).2⟩
      case measure => simp [intOf]; omega
    · obtain rfl : k = n := by omega
      have e : S.take k = S := List.take_of_length_le (by have := unhide HL; omega)
      rw [e] at *
      have hz' : ((tot S : Int) != ((cat S).size : Int)) = false := by rw [bne_eq_false_iff_eq]; have := unhide HZ; omega
      have R := hide (And.intro hown hbel)
      clear hown hbel
      go_wp2
      go_ret2
      have hL := unhide HL
      have ho := (unhide R).1
      rw [hL, List.take_length] at ho
      obtain ⟨a', c', hv, hsl, hnl⟩ := Sl.of_owns ho
      exact ⟨a', _, c', ret_pair hv, hsl, (unhide R).2, hnl⟩

end Go.Proofs.Qxb6605915a.Strs
