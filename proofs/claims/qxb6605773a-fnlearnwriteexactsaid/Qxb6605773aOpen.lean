/- opening the arguments: strings, pairs of int and ints, the write -/
import Derived.Test.Qxb6605773aBytes
import Derived.SliceStrings
import Derived.ChangeSlices
import Derived.Deep.SlicePairs
namespace Go.Proofs.Qxb6605773a.Lw
open Go.ChangeShapes Go.WideShapes Go.ChangeAt Go.RowKit
set_option linter.unusedVariables false

theorem open_sl {α : Type} {enc : α → Value} {d : α} {W : World} {ad : Addr} {len : Nat} {ss : List α} (hl : len ≤ ss.length) (hcell : ∀ i, i < ss.length → W.cell? (ad.add i) = some (enc (ss.getD i d))) :
    Sl enc W (some ad) len (ss.take len) := by
  refine ⟨by rw [List.length_take]; omega, fun j x hx => ?_⟩
  have hj : j < ss.length := by have := (List.getElem?_eq_some_iff.1 hx).1; rw [List.length_take] at this; omega
  have hj2 : j < len := by have := (List.getElem?_eq_some_iff.1 hx).1; rw [List.length_take] at this; omega
  rw [List.getElem?_take, if_pos hj2] at hx
  have hc := hcell j hj
  have h00 := hcell 0 (by omega)
  rw [List.getD_eq_getElem?_getD, hx] at hc
  obtain ⟨b, off, spot⟩ := ad
  have hspot : spot = none := by simpa [Addr.add] using World.cell?_spot h00
  subst hspot
  refine ⟨b, off, rfl, ?_⟩
  rw [Addr.add_lit] at hc
  exact hc

section
variable {H : Type} {enc : TypeId × Value → H} {W : World}

theorem open_strs {fuel : Nat} {cs : List Value} {x : DataW H × List MemPlace} (h : DataW.trod enc Try.prog W 0 (fun _ => true) true fuel 49 cs = some x) :
    ∃ a n c S, cs = [.slice a n c] ∧ Sl Value.string W a n S ∧ (a = none → n = 0) ∧ n ≤ maxLen ∧ ∀ x, x ∈ S → x.size ≤ maxLen := by
  rcases open_strings Try.underlying49 Try.underlying9 (by kernel_rfl) h with ⟨hcs, _⟩ | ⟨a, l, c, ss, hcs, _, hl, hm, hz, _, hcell, hws⟩
  · exact ⟨none, 0, 0, [], hcs, ⟨rfl, fun j x hx => by simp at hx⟩, fun _ => rfl, Nat.zero_le _, fun x hx => by simp at hx⟩
  · simp only [if_true] at hz
    exact ⟨some a, l, c, ss.take l, hcs, open_sl (by omega) hcell, fun h => (by cases h), by omega, fun x hx => hws x (List.mem_of_mem_take hx)⟩

theorem open_i64s {fuel : Nat} {cs : List Value} {x : DataW H × List MemPlace} (h : DataW.trod enc Try.prog W 0 (fun _ => true) true fuel 22 cs = some x) :
    ∃ a n c l, cs = [.slice a n c] ∧ Sl (Value.int .i64) W a n l ∧ (a = none → n = 0) ∧ n ≤ maxLen := by
  rcases open_ints Try.underlying22 Try.underlying2 (by kernel_rfl) h with ⟨hcs, _⟩ | ⟨a, l, c, ss, hcs, _, hl, hm, hz, _, hcell, hws⟩
  · exact ⟨none, 0, 0, [], hcs, ⟨rfl, fun j x hx => by simp at hx⟩, fun _ => rfl, Nat.zero_le _⟩
  · simp only [if_true] at hz
    exact ⟨some a, l, c, ss.take l, hcs, open_sl (enc := Value.int .i64) (by omega) hcell, fun h => (by cases h), by omega⟩

theorem open_u8s {fuel : Nat} {cs : List Value} {x : DataW H × List MemPlace} (h : DataW.trod enc Try.prog W 0 (fun _ => true) true fuel 31 cs = some x) :
    ∃ a n c l, cs = [.slice a n c] ∧ Sl (Value.int .u8) W a n l ∧ (a = none → n = 0) ∧ n ≤ maxLen := by
  rcases open_ints Try.underlying31 Try.underlying5 (by kernel_rfl) h with ⟨hcs, _⟩ | ⟨a, l, c, ss, hcs, _, hl, hm, hz, _, hcell, hws⟩
  · exact ⟨none, 0, 0, [], hcs, ⟨rfl, fun j x hx => by simp at hx⟩, fun _ => rfl, Nat.zero_le _⟩
  · simp only [if_true] at hz
    exact ⟨some a, l, c, ss.take l, hcs, open_sl (enc := Value.int .u8) (by omega) hcell, fun h => (by cases h), by omega⟩

theorem open_seen {fuel : Nat} {cs : List Value} {x : DataW H × List MemPlace} (h : DataW.trod enc Try.prog W 0 (fun _ => true) true fuel 50 cs = some x) :
    ∃ a n c Tf PA PN PC L, cs = [.slice a n c] ∧ Seen W a n Tf PA PN PC L ∧ n ≤ maxLen ∧ ∀ j, j < n → PN j ≤ maxLen := by
  rcases Deep.open_slice_pairs Try.underlying50 Try.underlying55 (by kernel_rfl) rfl rfl (by kernel_rfl) (by kernel_rfl) h with ⟨hcs, _⟩ | ⟨a, len, cap, m, k, V0, V1, D0, D1, P0, P1, hcs, _, hl, hm, hmm, _, hV⟩
  · exact ⟨none, 0, 0, fun _ => 0, fun _ => none, fun _ => 0, fun _ => 0, fun _ => [], hcs, ⟨fun j hj => by omega⟩, Nat.zero_le _, fun j hj => by omega⟩
  · simp only [if_true] at hmm
    have key : ∀ i, i < len → ∃ q : Int × Option Addr × Nat × Nat × List Int, V0 i = .int .i64 q.1 ∧ V1 i = .slice q.2.1 q.2.2.1 q.2.2.2.1 ∧ Sl (Value.int .i64) W q.2.1 q.2.2.1 q.2.2.2.2 ∧ (q.2.1 = none → q.2.2.1 = 0) ∧ q.2.2.1 ≤ maxLen := by
      intro i hi
      obtain ⟨_, _, h0, h1⟩ := hV i (by omega)
      obtain ⟨t, e0, _⟩ := DataW.trod_int Try.underlying2 h0
      obtain ⟨pa, pn, pc, l, e1, s1, n1, m1⟩ := open_i64s h1
      simp at e0 e1
      exact ⟨(t, pa, pn, pc, l), e0, e1, s1, n1, m1⟩
    obtain ⟨q, hq⟩ := Deep.choose_lt (α := Int × Option Addr × Nat × Nat × List Int) key
    refine ⟨some a, len, cap, fun i => (q i).1, fun i => (q i).2.1, fun i => (q i).2.2.1, fun i => (q i).2.2.2.1, fun i => (q i).2.2.2.2, hcs, ⟨fun j hj => ?_⟩, by omega, fun j hj => (hq j hj).2.2.2.2⟩
    obtain ⟨c0, c1, _, _⟩ := hV j (by omega)
    obtain ⟨e0, e1, e2, e3, _⟩ := hq j hj
    have h00 := (hV 0 (by omega)).1
    obtain ⟨b, off, spot⟩ := a
    have hspot : spot = none := by simpa [Addr.add] using World.cell?_spot h00
    subst hspot
    rw [Addr.add_lit] at c0 c1
    exact ⟨b, off, rfl, by rw [c0, e0], by rw [← e1, ← c1]; rfl, e2, e3⟩

theorem eight {α : Type} : ∀ l : List α, l.length = 8 → ∃ a b c d e f g h, l = [a, b, c, d, e, f, g, h]
  | [a, b, c, d, e, f, g, h], _ => ⟨a, b, c, d, e, f, g, h, rfl⟩

set_option maxRecDepth 100000 in
/-- the write's eight cells -/
theorem open_write {fuel : Nat} {cs : List Value} {x : DataW H × List MemPlace} (h : DataW.trod enc Try.prog W 0 (fun _ => true) true fuel 52 cs = some x) :
    ∃ ky op va vn vc vl dl T site pr pa pn pc pl, cs = [.string ky, .int .i64 op, .slice va vn vc, .int .i64 dl, .int .i64 T, .string site, .int .i64 pr, .slice pa pn pc] ∧ ky.size ≤ maxLen ∧ site.size ≤ maxLen ∧
      Sl (Value.int .u8) W va vn vl ∧ vn ≤ maxLen ∧ (va = none → vn = 0) ∧ Sl (Value.int .i64) W pa pn pl ∧ pn ≤ maxLen ∧ (pa = none → pn = 0) := by
  obtain ⟨xs, n, _, _, hlen, hxl, hf⟩ := DataW.trod_struct Try.underlying52 h
  have hlen' : cs.length = 8 := hlen.trans (by kernel_rfl)
  have hxl' : xs.length = 8 := hxl
  obtain ⟨v0, v1, v2, v3, v4, v5, v6, v7, rfl⟩ := eight cs hlen'
  obtain ⟨y0, y1, y2, y3, y4, y5, y6, y7, rfl⟩ := eight xs hxl'
  have c9 : Try.prog.cellsOf 9 = 1 := by kernel_rfl
  have c3 : Try.prog.cellsOf 3 = 1 := by kernel_rfl
  have c2 : Try.prog.cellsOf 2 = 1 := by kernel_rfl
  have c31 : Try.prog.cellsOf 31 = 1 := by kernel_rfl
  have c22 : Try.prog.cellsOf 22 = 1 := by kernel_rfl
  have g0 : DataW.trod enc Try.prog W 0 (fun _ => true) true n 9 (List.take (Try.prog.cellsOf 9) (List.drop 0 [v0, v1, v2, v3, v4, v5, v6, v7])) = some y0 := hf 0 _ rfl
  have g1 : DataW.trod enc Try.prog W 0 (fun _ => true) true n 3 (List.take (Try.prog.cellsOf 3) (List.drop 1 [v0, v1, v2, v3, v4, v5, v6, v7])) = some y1 := hf 1 _ rfl
  have g2 : DataW.trod enc Try.prog W 0 (fun _ => true) true n 31 (List.take (Try.prog.cellsOf 31) (List.drop 2 [v0, v1, v2, v3, v4, v5, v6, v7])) = some y2 := hf 2 _ rfl
  have g3 : DataW.trod enc Try.prog W 0 (fun _ => true) true n 2 (List.take (Try.prog.cellsOf 2) (List.drop 3 [v0, v1, v2, v3, v4, v5, v6, v7])) = some y3 := hf 3 _ rfl
  have g4 : DataW.trod enc Try.prog W 0 (fun _ => true) true n 2 (List.take (Try.prog.cellsOf 2) (List.drop 4 [v0, v1, v2, v3, v4, v5, v6, v7])) = some y4 := hf 4 _ rfl
  have g5 : DataW.trod enc Try.prog W 0 (fun _ => true) true n 9 (List.take (Try.prog.cellsOf 9) (List.drop 5 [v0, v1, v2, v3, v4, v5, v6, v7])) = some y5 := hf 5 _ rfl
  have g6 : DataW.trod enc Try.prog W 0 (fun _ => true) true n 2 (List.take (Try.prog.cellsOf 2) (List.drop 6 [v0, v1, v2, v3, v4, v5, v6, v7])) = some y6 := hf 6 _ rfl
  have g7 : DataW.trod enc Try.prog W 0 (fun _ => true) true n 22 (List.take (Try.prog.cellsOf 22) (List.drop 7 [v0, v1, v2, v3, v4, v5, v6, v7])) = some y7 := hf 7 _ rfl
  rw [c9] at g0 g5
  rw [c3] at g1
  rw [c31] at g2
  rw [c2] at g3 g4 g6
  rw [c22] at g7
  obtain ⟨ky, e0, _, z0⟩ := DataW.trod_string Try.underlying9 g0
  obtain ⟨op, e1, _⟩ := DataW.trod_int Try.underlying3 g1
  obtain ⟨va, vn, vc, vl, e2, s2, n2, m2⟩ := open_u8s g2
  obtain ⟨dl, e3, _⟩ := DataW.trod_int Try.underlying2 g3
  obtain ⟨T, e4, _⟩ := DataW.trod_int Try.underlying2 g4
  obtain ⟨site, e5, _, z5⟩ := DataW.trod_string Try.underlying9 g5
  obtain ⟨pr, e6, _⟩ := DataW.trod_int Try.underlying2 g6
  obtain ⟨pa, pn, pc, pl, e7, s7, n7, m7⟩ := open_i64s g7
  obtain rfl : v0 = .string ky := (List.cons.inj (show [v0] = [.string ky] from e0)).1
  obtain rfl : v1 = .int .i64 op := (List.cons.inj (show [v1] = [.int .i64 op] from e1)).1
  obtain rfl : v2 = .slice va vn vc := (List.cons.inj (show [v2] = [.slice va vn vc] from e2)).1
  obtain rfl : v3 = .int .i64 dl := (List.cons.inj (show [v3] = [.int .i64 dl] from e3)).1
  obtain rfl : v4 = .int .i64 T := (List.cons.inj (show [v4] = [.int .i64 T] from e4)).1
  obtain rfl : v5 = .string site := (List.cons.inj (show [v5] = [.string site] from e5)).1
  obtain rfl : v6 = .int .i64 pr := (List.cons.inj (show [v6] = [.int .i64 pr] from e6)).1
  obtain rfl : v7 = .slice pa pn pc := (List.cons.inj (show [v7] = [.slice pa pn pc] from e7)).1
  exact ⟨ky, op, va, vn, vc, vl, dl, T, site, pr, pa, pn, pc, pl, rfl, z0, z5, s2, m2, n2, s7, m7, n7⟩
end

end Go.Proofs.Qxb6605773a.Lw
