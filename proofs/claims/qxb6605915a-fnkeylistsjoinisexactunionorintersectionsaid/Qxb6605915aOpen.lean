/- opening arguments that are slices of slices of strings -/
import Derived.Test.Qxb6605915aSetOf
import Derived.SliceStrings
import Derived.Deep.Slices
namespace Go.Proofs.Qxb6605915a.Strs
open Go.ChangeShapes Go.WideShapes Go.ChangeAt Go.RowKit
set_option linter.unusedVariables false

theorem open_slS {W : World} {ad : Addr} {len : Nat} {ss : List ByteArray} (hl : len ≤ ss.length) (hcell : ∀ i, i < ss.length → W.cell? (ad.add i) = some (.string (ss.getD i ByteArray.empty))) :
    Sl Value.string W (some ad) len (ss.take len) := by
  refine ⟨by rw [List.length_take]; omega, fun j x hx => ?_⟩
  have hj : j < ss.length := by have := (List.getElem?_eq_some_iff.1 hx).1; rw [List.length_take] at this; omega
  have hj2 : j < len := by have := (List.getElem?_eq_some_iff.1 hx).1; rw [List.length_take] at this; omega
  rw [List.getElem?_take, if_pos hj2] at hx
  have hc := hcell j hj
  have h00 := hcell 0 (by omega)
  rw [List.getD_eq_getElem?_getD, hx] at hc
  obtain ⟨b, off, spot⟩ := ad
  have hspot : spot = none := by simpa [Addr.add] using World.cell?_spot h00
  subst hspot
  refine ⟨b, off, rfl, ?_⟩
  rw [Addr.add_lit] at hc
  exact hc

/-- one inner slice -/
def Inner {α : Type} (enc : α → Value) (W : World) (v : Value) (l : List α) : Prop :=
  ∃ a' c', v = .slice a' l.length c' ∧ Sl enc W a' l.length l ∧ (a' = none → l = [] ∧ c' = 0) ∧ l.length ≤ maxLen

theorem sll_of_inner {α : Type} {enc : α → Value} {W : World} {ad : Addr} {len : Nat} {V : Nat → Value} {L : Nat → List α} (hc : ∀ i, i < len → W.cell? (ad.add i) = some (V i)) (hi : ∀ i, i < len → Inner enc W (V i) (L i)) :
    Sll enc W (some ad) len ((List.range len).map L) := by
  refine ⟨by simp, fun j l hl => ?_⟩
  have hj : j < len := by have := (List.getElem?_eq_some_iff.1 hl).1; simpa using this
  rw [List.getElem?_map, List.getElem?_range hj] at hl
  simp at hl
  subst hl
  obtain ⟨a', c', h1, h2, h3, _⟩ := hi j hj
  have hcj := hc j hj
  have h00 := hc 0 (by omega)
  obtain ⟨b, off, spot⟩ := ad
  have hspot : spot = none := by simpa [Addr.add] using World.cell?_spot h00
  subst hspot
  rw [Addr.add_lit] at hcj
  exact ⟨b, off, rfl, a', c', by rw [hcj, h1], h2, h3⟩

theorem open_sll {H : Type} {enc : TypeId × Value → H} {W : World} {fuel : Nat} {a0 : Option Addr} {len0 cap0 : Nat} {x : DataW H × List MemPlace}
    (h : DataW.trod enc Try.prog W 0 (fun _ => true) true fuel 23 [.slice a0 len0 cap0] = some x) :
    ∃ ll, Sll Value.string W a0 len0 ll ∧ (a0 = none → len0 = 0) ∧ len0 ≤ maxLen ∧ ∀ l, l ∈ ll → l.length ≤ maxLen := by
  rcases Deep.open_slice1 Try.underlying23 (by kernel_rfl) h with ⟨hcs, _⟩ | ⟨a, len, cap, m, n, V, D, Pl, hcs, _, hl, hm, hmm, _, hV⟩
  · simp at hcs
    obtain ⟨rfl, rfl, rfl⟩ := hcs
    exact ⟨[], ⟨rfl, fun j l hl => by simp at hl⟩, fun _ => rfl, Nat.zero_le _, fun l hl => by simp at hl⟩
  · simp at hcs
    obtain ⟨rfl, rfl, rfl⟩ := hcs
    simp only [if_true] at hmm
    have key : ∀ i, i < len0 → ∃ l, Inner Value.string W (V i) l := by
      intro i hi
      obtain ⟨_, ht⟩ := hV i (by omega)
      rcases open_strings Try.underlying39 Try.underlying9 (by kernel_rfl) ht with ⟨hcs, _⟩ | ⟨x, l, c, ss, hcs, _, hl', hm', hz, _, hcell, hws⟩
      · simp at hcs
        exact ⟨[], none, 0, hcs, ⟨rfl, fun j x hx => by simp at hx⟩, fun _ => ⟨rfl, rfl⟩, Nat.zero_le _⟩
      · simp at hcs
        simp only [if_true] at hz
        have hlen : (ss.take l).length = l := by rw [List.length_take]; omega
        refine ⟨ss.take l, some x, c, by rw [hlen]; exact hcs, by rw [hlen]; exact open_slS (by omega) hcell, fun h => (by cases h), by omega⟩
    obtain ⟨L, hL⟩ := Deep.choose_lt (α := List ByteArray) (p := fun i l => Inner Value.string W (V i) l) key
    refine ⟨_, sll_of_inner (fun i hi => (hV i (by omega)).1) hL, fun h => (by cases h), by omega, fun l hl => ?_⟩
    obtain ⟨i, hi, rfl⟩ := List.mem_map.1 hl
    obtain ⟨_, _, _, _, _, h5⟩ := hL i (List.mem_range.1 hi)
    exact h5

end Go.Proofs.Qxb6605915a.Strs
