/- aids of the walk: the box, the row of pairs -/
import Derived.Test.Qxb6605773aBytes
namespace Go.Proofs.Qxb6605773a.Lw
open Go.ChangeShapes Go.WideShapes Go.ChangeAt Go.RowKit
set_option linter.unusedVariables false

theorem info61 : (Try.prog.info? 61).map (fun i => (i.zero, i.size, i.bytes)) = some (some (.agg #[.int .i64 0, .slice none 0 0]), 2, 32) := by kernel_rfl

theorem make58 (n : Nat) (hn : n ≤ 1048576) (w : World) :
    (Instr.makeSlice 58 (.int .i64 (n : Int)) (.int .i64 (n : Int))).run Try.prog w = .ok (.slice (some ⟨w.heap.size, 0, none⟩) n n) (w.alloc (.cells (madeCells #[.int .i64 0, .slice none 0 0] (n * 2)) 61)) := by
  obtain ⟨i, hi, hzz⟩ := Option.map_eq_some_iff.1 info61
  simp only [Prod.mk.injEq] at hzz
  obtain ⟨hz, hs, hb⟩ := hzz
  have hr := run_make (P := Try.prog) w 58 61 i _ Try.underlying58 hi hz .i64 .i64 n n (by omega) (Int.le_refl _) (by rw [hb]; omega) (by omega)
  simp only [Int.toNat_natCast, hs] at hr
  exact hr

theorem pairs_made (w : World) (z0 z1 : Value) (n : Nat) (t : TypeId) : (w.alloc (.cells (madeCells #[z0, z1] (n * 2)) t)).rowIs w.heap.size t (n * 2) (fun j => if j % 2 = 0 then z0 else z1) :=
  ⟨_, Deep.blk_alloc_new _ _, size_madeCells _ _, fun i hi => by
    have : i % 2 = 0 ∨ i % 2 = 1 := by omega
    rcases this with h | h <;> simp [madeCells, hi, h]⟩

/-- THE LAW's OWN BOX OF w -/
structure BoxAt (w : World) (B : Nat) (ky : ByteArray) (op : Int) (va : Option Addr) (vn vc : Nat) (dl T : Int) (site : ByteArray) (pr : Int) (pa : Option Addr) (pn pc : Nat) : Prop where
  c0 : w.cell? ⟨B, 0, none⟩ = some (.string ky)
  c1 : w.cell? ⟨B, 1, none⟩ = some (.int .i64 op)
  c2 : w.cell? ⟨B, 2, none⟩ = some (.slice va vn vc)
  c3 : w.cell? ⟨B, 3, none⟩ = some (.int .i64 dl)
  c4 : w.cell? ⟨B, 4, none⟩ = some (.int .i64 T)
  c5 : w.cell? ⟨B, 5, none⟩ = some (.string site)
  c6 : w.cell? ⟨B, 6, none⟩ = some (.int .i64 pr)
  c7 : w.cell? ⟨B, 7, none⟩ = some (.slice pa pn pc)

theorem BoxAt.below {w w' : World} {B : Nat} {ky : ByteArray} {op : Int} {va : Option Addr} {vn vc : Nat} {dl T : Int} {site : ByteArray} {pr : Int} {pa : Option Addr} {pn pc : Nat} (h : BoxAt w B ky op va vn vc dl T site pr pa pn pc) (hb : Below w.heap.size w w') : BoxAt w' B ky op va vn vc dl T site pr pa pn pc :=
  ⟨(hb.cell (cell_lt h.c0)).trans h.c0, (hb.cell (cell_lt h.c1)).trans h.c1, (hb.cell (cell_lt h.c2)).trans h.c2, (hb.cell (cell_lt h.c3)).trans h.c3, (hb.cell (cell_lt h.c4)).trans h.c4, (hb.cell (cell_lt h.c5)).trans h.c5, (hb.cell (cell_lt h.c6)).trans h.c6, (hb.cell (cell_lt h.c7)).trans h.c7⟩

theorem boxAt_new (w : World) (ky : ByteArray) (op : Int) (va : Option Addr) (vn vc : Nat) (dl T : Int) (site : ByteArray) (pr : Int) (pa : Option Addr) (pn pc : Nat) :
    BoxAt (w.alloc (.cells #[.string ky, .int .i64 op, .slice va vn vc, .int .i64 dl, .int .i64 T, .string site, .int .i64 pr, .slice pa pn pc] 52)) w.heap.size ky op va vn vc dl T site pr pa pn pc :=
  ⟨new_cell _ _ _ 0, new_cell _ _ _ 1, new_cell _ _ _ 2, new_cell _ _ _ 3, new_cell _ _ _ 4, new_cell _ _ _ 5, new_cell _ _ _ 6, new_cell _ _ _ 7⟩

/-- ONE ENTRY OF THE FRONTIER's ROW -/
def Ent (wr : World) (Wb : Nat) (f : Nat → Value) (j : Nat) (T : Int) (nl : Option Addr) (l : List Int) : Prop :=
  f (j * 2) = .int .i64 T ∧ ∃ qa qn qc, f (j * 2 + 1) = .slice qa qn qc ∧ Sl (Value.int .i64) wr qa qn l ∧ (qa = none ↔ nl = none) ∧ ∀ ad, qa = some ad → ad.block ≠ Wb

/-- THE FRONTIER's ROW, its first k entries laid -/
structure WRel (w0 : World) (Wb n k : Nat) (Tf : Nat → Int) (PA : Nat → Option Addr) (L : Nat → List Int) (wr : World) : Prop where
  row : ∃ f, wr.rowIs Wb 61 (n * 2) f ∧ (∀ j, j < k → Ent wr Wb f j (Tf j) (PA j) (L j)) ∧ ∀ j, k ≤ j → f (j * 2) = .int .i64 0 ∧ f (j * 2 + 1) = .slice none 0 0
  bel : Below w0.heap.size w0 wr

theorem Ent.below {wr w' : World} {Wb : Nat} {f : Nat → Value} {j : Nat} {T : Int} {nl : Option Addr} {l : List Int} (h : Ent wr Wb f j T nl l) (hb : Below wr.heap.size wr w') : Ent w' Wb f j T nl l := by
  obtain ⟨h1, qa, qn, qc, h2, h3, h4⟩ := h
  exact ⟨h1, qa, qn, qc, h2, h3.below hb, h4⟩

theorem WRel.later {w0 : World} {Wb n k : Nat} {Tf : Nat → Int} {PA : Nat → Option Addr} {L : Nat → List Int} {wr w' : World} (h : WRel w0 Wb n k Tf PA L wr) (hb : Below wr.heap.size wr w') : WRel w0 Wb n k Tf PA L w' := by
  obtain ⟨f, h1, h2, h3⟩ := h.row
  exact ⟨⟨f, h1.of_block (hb.block _ h1.lt), fun j hj => (h2 j hj).below hb, h3⟩, later_trans h.bel hb⟩

/-- a turn of entry i in a row -/
theorem ent_set {wr : World} {Wb : Nat} {f : Nat → Value} {i j : Nat} {T T' : Int} {nl : Option Addr} {l : List Int} {qa : Option Addr} {qn qc : Nat} (hj : j ≠ i) (h : Ent wr Wb f j T nl l) :
    Ent ((wr.setCell ⟨Wb, i * 2, none⟩ (.int .i64 T')).setCell ⟨Wb, i * 2 + 1, none⟩ (.slice qa qn qc)) Wb (fun m => if m = i * 2 + 1 then .slice qa qn qc else if m = i * 2 then .int .i64 T' else f m) j T nl l := by
  obtain ⟨h1, qa', qn', qc', h2, h3, h4, h5⟩ := h
  refine ⟨?_, qa', qn', qc', ?_, (h3.setAway (p := ⟨Wb, i * 2, none⟩) h5 _).setAway (p := ⟨Wb, i * 2 + 1, none⟩) h5 _, h4, h5⟩
  · simp only []; rw [if_neg (by omega), if_neg (by omega), h1]
  · simp only []; rw [if_neg (by omega), if_neg (by omega), h2]

theorem ent_new {wr : World} {Wb : Nat} {f : Nat → Value} {i : Nat} {T : Int} {nl : Option Addr} {l : List Int} {qa : Option Addr} {qn qc : Nat} (hs : Sl (Value.int .i64) wr qa qn l) (hnl : qa = none ↔ nl = none) (hne : ∀ ad, qa = some ad → ad.block ≠ Wb) :
    Ent ((wr.setCell ⟨Wb, i * 2, none⟩ (.int .i64 T)).setCell ⟨Wb, i * 2 + 1, none⟩ (.slice qa qn qc)) Wb (fun m => if m = i * 2 + 1 then .slice qa qn qc else if m = i * 2 then .int .i64 T else f m) i T nl l := by
  refine ⟨?_, qa, qn, qc, ?_, (hs.setAway (p := ⟨Wb, i * 2, none⟩) hne _).setAway (p := ⟨Wb, i * 2 + 1, none⟩) hne _, hnl, hne⟩
  · simp only [if_true]; rw [if_neg (by omega)]
  · simp only [if_true]

theorem WRel.set {w0 : World} {Wb n k : Nat} {Tf : Nat → Int} {PA : Nat → Option Addr} {L : Nat → List Int} {wr : World} (h : WRel w0 Wb n k Tf PA L wr) (hW : w0.heap.size ≤ Wb) {qa : Option Addr} {qn qc : Nat} (hs : Sl (Value.int .i64) wr qa qn (L k)) (hnl : qa = none ↔ PA k = none) (hne : ∀ ad, qa = some ad → ad.block ≠ Wb) :
    WRel w0 Wb n (k + 1) Tf PA L ((wr.setCell ⟨Wb, k * 2, none⟩ (.int .i64 (Tf k))).setCell ⟨Wb, k * 2 + 1, none⟩ (.slice qa qn qc)) := by
  obtain ⟨f, h1, h2, h3⟩ := h.row
  refine ⟨⟨_, (h1.set (k * 2) (.int .i64 (Tf k))).set (k * 2 + 1) (.slice qa qn qc), fun j hj => ?_, fun j hj => ?_⟩, (h.bel.setCell (p := ⟨Wb, k * 2, none⟩) hW _).setCell (p := ⟨Wb, k * 2 + 1, none⟩) hW _⟩
  · by_cases e : j = k
    · subst e; exact ent_new hs hnl hne
    · exact ent_set e (h2 j (by omega))
  · obtain ⟨a1, a2⟩ := h3 j (by omega)
    refine ⟨?_, ?_⟩
    · rw [if_neg (by omega), if_neg (by omega)]; exact a1
    · rw [if_neg (by omega), if_neg (by omega)]; exact a2

/-- the whole row: entry j holds (G j, M j), nil where N j is -/
def Fin (w : World) (Wb n : Nat) (G : Nat → Int) (N : Nat → Option Addr) (M : Nat → List Int) : Prop := ∃ f, w.rowIs Wb 61 (n * 2) f ∧ ∀ j, j < n → Ent w Wb f j (G j) (N j) (M j)

theorem WRel.fin {w0 : World} {Wb n : Nat} {Tf : Nat → Int} {PA : Nat → Option Addr} {L : Nat → List Int} {wr : World} (h : WRel w0 Wb n n Tf PA L wr) : Fin wr Wb n Tf PA L := by
  obtain ⟨f, h1, h2, _⟩ := h.row
  exact ⟨f, h1, h2⟩

theorem Fin.below {w w' : World} {Wb n : Nat} {G : Nat → Int} {N : Nat → Option Addr} {M : Nat → List Int} (h : Fin w Wb n G N M) (hb : Below w.heap.size w w') : Fin w' Wb n G N M := by
  obtain ⟨f, h1, h2⟩ := h
  exact ⟨f, h1.of_block (hb.block _ h1.lt), fun j hj => (h2 j hj).below hb⟩

theorem Fin.cells {w : World} {Wb n : Nat} {G : Nat → Int} {N : Nat → Option Addr} {M : Nat → List Int} (h : Fin w Wb n G N M) (j : Nat) (hj : j < n) :
    w.cell? ⟨Wb, j * 2, none⟩ = some (.int .i64 (G j)) ∧ ∃ qa qn qc, w.cell? ⟨Wb, j * 2 + 1, none⟩ = some (.slice qa qn qc) ∧ Sl (Value.int .i64) w qa qn (M j) ∧ (qa = none ↔ N j = none) := by
  obtain ⟨f, h1, h2⟩ := h
  obtain ⟨a1, qa, qn, qc, a2, a3, a4, _⟩ := h2 j hj
  exact ⟨by rw [h1.cell (by omega), a1], qa, qn, qc, by rw [h1.cell (by omega), a2], a3, a4⟩

theorem Fin.frozen {w : World} {Wb n : Nat} {G : Nat → Int} {N : Nat → Option Addr} {M : Nat → List Int} (h : Fin w Wb n G N M) (i : Nat) : w.frozen? ⟨Wb, i, none⟩ = false := by
  obtain ⟨f, h1, _⟩ := h
  exact h1.frozen i

theorem Fin.lt {w : World} {Wb n : Nat} {G : Nat → Int} {N : Nat → Option Addr} {M : Nat → List Int} (h : Fin w Wb n G N M) : Wb < w.heap.size := by
  obtain ⟨f, h1, _⟩ := h
  exact h1.lt

theorem Fin.set {w : World} {Wb n : Nat} {G : Nat → Int} {N : Nat → Option Addr} {M : Nat → List Int} (h : Fin w Wb n G N M) (i : Nat) {T : Int} {qa nl : Option Addr} {qn qc : Nat} {l : List Int} (hs : Sl (Value.int .i64) w qa qn l) (hnl : qa = none ↔ nl = none) (hne : ∀ ad, qa = some ad → ad.block ≠ Wb) :
    Fin ((w.setCell ⟨Wb, i * 2, none⟩ (.int .i64 T)).setCell ⟨Wb, i * 2 + 1, none⟩ (.slice qa qn qc)) Wb n (fun j => if (j : Int) = i then T else G j) (fun j => if (j : Int) = i then nl else N j) (fun j => if (j : Int) = i then l else M j) := by
  obtain ⟨f, h1, h2⟩ := h
  refine ⟨_, (h1.set (i * 2) (.int .i64 T)).set (i * 2 + 1) (.slice qa qn qc), fun j hj => ?_⟩
  by_cases e : j = i
  · subst e
    simp only [if_true]
    exact ent_new hs hnl hne
  · have e' : ¬ ((j : Int) = i) := by omega
    simp only [if_neg e']
    exact ent_set e (h2 j hj)

/-- what is read at a block that is not Wb reads on behind the turn -/
theorem cell_away {w : World} {p a : Addr} {v x : Value} (hne : a.block ≠ p.block) (h : w.cell? a = some x) : (w.setCell p v).cell? a = some x :=
  (World.cell?_setCell_other w p a v (fun e => hne (by rw [e]))).trans h

end Go.Proofs.Qxb6605773a.Lw
