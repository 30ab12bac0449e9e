/- b1ToWrite -/
import Derived.Test.Qxb6605773aSmall
namespace Go.Proofs.Qxb6605773a.Lw
open Go.ChangeShapes Go.WideShapes Go.ChangeAt Go.RowKit
set_option linter.unusedVariables false

theorem size_alloc (w : World) (o : Obj) : (w.alloc o).heap.size = w.heap.size + 1 := by simp

theorem Sl.setAway {α : Type} {enc : α → Value} {w : World} {a : Option Addr} {n : Nat} {l : List α} {p : Addr} (h : Sl enc w a n l) (hne : ∀ ad, a = some ad → ad.block ≠ p.block) (v : Value) : Sl enc (w.setCell p v) a n l :=
  ⟨h.len, fun j x hx => by
    obtain ⟨b, off, ha, hc⟩ := h.cells j x hx
    refine ⟨b, off, ha, (World.cell?_setCell_other w p ⟨b, off + j, none⟩ v (fun e => ?_)).trans hc⟩
    exact hne _ ha (by rw [e])⟩

/-- the argument's box holds; a row lies behind it; nothing old has turned -/
abbrev HeldT (w0 : World) (v0 v1 v2 v3 v4 v5 v6 v7 : Value) (w' : World) : Prop :=
  w'.cell? ⟨w0.heap.size, 0, none⟩ = some v0 ∧ w'.cell? ⟨w0.heap.size, 1, none⟩ = some v1 ∧ w'.cell? ⟨w0.heap.size, 2, none⟩ = some v2 ∧ w'.cell? ⟨w0.heap.size, 3, none⟩ = some v3 ∧ w'.cell? ⟨w0.heap.size, 4, none⟩ = some v4 ∧ w'.cell? ⟨w0.heap.size, 5, none⟩ = some v5 ∧ w'.cell? ⟨w0.heap.size, 6, none⟩ = some v6 ∧ w'.cell? ⟨w0.heap.size, 7, none⟩ = some v7 ∧ Hid (Below w0.heap.size w0 w' ∧ ∃ f, w'.rowIs (w0.heap.size + 1) 68 8 f)

theorem heldT_below {w0 : World} {v0 v1 v2 v3 v4 v5 v6 v7 : Value} {w1 : World} (h : HeldT w0 v0 v1 v2 v3 v4 v5 v6 v7 w1) : Below w0.heap.size w0 w1 := (unhide h.2.2.2.2.2.2.2.2).1

theorem heldT_later {w0 : World} {v0 v1 v2 v3 v4 v5 v6 v7 : Value} {w1 w2 : World} (h : HeldT w0 v0 v1 v2 v3 v4 v5 v6 v7 w1) (hb : Below w1.heap.size w1 w2) : HeldT w0 v0 v1 v2 v3 v4 v5 v6 v7 w2 := by
  have h9 := heldT_below h
  obtain ⟨h0, h1, h2, h3, h4, h5, h6, h7, h8⟩ := h
  obtain ⟨_, f, hr⟩ := unhide h8
  exact ⟨(hb.cell (cell_lt h0)).trans h0, (hb.cell (cell_lt h1)).trans h1, (hb.cell (cell_lt h2)).trans h2, (hb.cell (cell_lt h3)).trans h3, (hb.cell (cell_lt h4)).trans h4, (hb.cell (cell_lt h5)).trans h5, (hb.cell (cell_lt h6)).trans h6, (hb.cell (cell_lt h7)).trans h7, ⟨later_trans h9 hb, f, hr.of_block (hb.block _ hr.lt)⟩⟩

theorem set_away {w1 : World} {B i : Nat} {x : Value} (h : w1.cell? ⟨B, i, none⟩ = some x) (k : Nat) (v : Value) : (w1.setCell ⟨B + 1, k, none⟩ v).cell? ⟨B, i, none⟩ = some x :=
  (World.cell?_setCell_other w1 ⟨B + 1, k, none⟩ ⟨B, i, none⟩ v (by simp)).trans h

theorem heldT_set {w0 : World} {v0 v1 v2 v3 v4 v5 v6 v7 : Value} {w1 : World} (h : HeldT w0 v0 v1 v2 v3 v4 v5 v6 v7 w1) (k : Nat) (v : Value) : HeldT w0 v0 v1 v2 v3 v4 v5 v6 v7 (w1.setCell ⟨w0.heap.size + 1, k, none⟩ v) := by
  have h9 := heldT_below h
  obtain ⟨h0, h1, h2, h3, h4, h5, h6, h7, h8⟩ := h
  obtain ⟨_, f, hr⟩ := unhide h8
  refine ⟨set_away h0 k v, set_away h1 k v, set_away h2 k v, set_away h3 k v, set_away h4 k v, set_away h5 k v, set_away h6 k v, set_away h7 k v, ⟨h9.setCell (p := ⟨w0.heap.size + 1, k, none⟩) (Nat.le_succ _) v, _, hr.set k v⟩⟩

/-- a store under a name of our own: the walk's goals are told apart by it -/
def put (w : World) (a : Addr) (v : Value) : World := w.setCell a v
theorem put_eq (w : World) (a : Addr) (v : Value) : w.setCell a v = put w a v := rfl

theorem heldT_set8 {w0 : World} {v0 v1 v2 v3 v4 v5 v6 v7 : Value} {w1 : World} {a0 a1 a2 a3 a4 a5 a6 a7 : Value} (h : HeldT w0 v0 v1 v2 v3 v4 v5 v6 v7 w1) : HeldT w0 v0 v1 v2 v3 v4 v5 v6 v7 (put (put (put (put (put (put (put (put w1 ⟨w0.heap.size + 1, 0, none⟩ a0) ⟨w0.heap.size + 1, 1, none⟩ a1) ⟨w0.heap.size + 1, 2, none⟩ a2) ⟨w0.heap.size + 1, 3, none⟩ a3) ⟨w0.heap.size + 1, 4, none⟩ a4) ⟨w0.heap.size + 1, 5, none⟩ a5) ⟨w0.heap.size + 1, 6, none⟩ a6) ⟨w0.heap.size + 1, 7, none⟩ a7) :=
  heldT_set (heldT_set (heldT_set (heldT_set (heldT_set (heldT_set (heldT_set (heldT_set (h) 0 a0) 1 a1) 2 a2) 3 a3) 4 a4) 5 a5) 6 a6) 7 a7

set_option maxRecDepth 100000 in
set_option maxHeartbeats 8000000 in
theorem toWrite25 (ky : ByteArray) (op : Int) (va : Option Addr) (vn vc : Nat) (vl : List Int) (dl T : Int) (site : ByteArray) (pr : Int) (pa : Option Addr) (pn pc : Nat) (pl : List Int) (w : World)
    (hvn : vn ≤ 1048576) (hpn : pn ≤ 1048576) (hv : Sl (Value.int .u8) w va vn vl) (hp : Sl (Value.int .i64) w pa pn pl) (hvnil : va = none → vn = 0) (hpnil : pa = none → pn = 0) :
    Calls Try.prog 25 #[.agg #[.string ky, .int .i64 op, .slice va vn vc, .int .i64 dl, .int .i64 T, .string site, .int .i64 pr, .slice pa pn pc]] w fun e w' => ∃ va' vn' vc' pa' pn' pc', e = .returned (.agg #[.string ky, .int .i64 op, .slice va' vn' vc', .int .i64 dl, .int .i64 T, .string site, .int .i64 pr, .slice pa' pn' pc']) ∧
      Below w.heap.size w w' ∧ Sl (Value.int .i64) w' pa' pn' pl ∧ (pa' = none ↔ pa = none) ∧ ∀ ad, pa' = some ad → w.heap.size ≤ ad.block := by
  have HVN := hide hvnil
  have HPN := hide hpnil
  obtain ⟨W, hWe⟩ : ∃ W, W = (w.alloc (.cells #[.string ky, .int .i64 op, .slice va vn vc, .int .i64 dl, .int .i64 T, .string site, .int .i64 pr, .slice pa pn pc] 52)).alloc (.cells #[.string { data := #[] }, .int .i64 0, .slice none 0 0, .int .i64 0, .int .i64 0, .string { data := #[] }, .int .i64 0, .slice none 0 0] 68) := ⟨_, rfl⟩
  have hB1 := later_alloc w (.cells #[.string ky, .int .i64 op, .slice va vn vc, .int .i64 dl, .int .i64 T, .string site, .int .i64 pr, .slice pa pn pc] 52)
  have hsz1 : (w.alloc (.cells #[.string ky, .int .i64 op, .slice va vn vc, .int .i64 dl, .int .i64 T, .string site, .int .i64 pr, .slice pa pn pc] 52)).heap.size = w.heap.size + 1 := size_alloc _ _
  have hB2 := later_alloc (w.alloc (.cells #[.string ky, .int .i64 op, .slice va vn vc, .int .i64 dl, .int .i64 T, .string site, .int .i64 pr, .slice pa pn pc] 52)) (.cells #[.string { data := #[] }, .int .i64 0, .slice none 0 0, .int .i64 0, .int .i64 0, .string { data := #[] }, .int .i64 0, .slice none 0 0] 68)
  rw [← hWe] at hB2
  have hWB : Below w.heap.size w W := later_trans hB1 hB2
  have hrow0 : W.rowIs (w.heap.size + 1) 68 8 (fun j => match j with | 0 => .string { data := #[] } | 1 => .int .i64 0 | 2 => .slice none 0 0 | 3 => .int .i64 0 | 4 => .int .i64 0 | 5 => .string { data := #[] } | 6 => .int .i64 0 | _ => .slice none 0 0) := by
    rw [hWe, ← hsz1]
    exact World.rowIs_alloc _ _ _ _ (fun i hi => by
      have : i < 8 := hi
      match i with
      | 0 | 1 | 2 | 3 | 4 | 5 | 6 | 7 => rfl
      | k + 8 => omega)
  have hsW : w.heap.size + 2 = W.heap.size := by rw [hWe, size_alloc, size_alloc]
  have S0 : HeldT w (.string ky) (.int .i64 op) (.slice va vn vc) (.int .i64 dl) (.int .i64 T) (.string site) (.int .i64 pr) (.slice pa pn pc) W := by
    refine ⟨?_, ?_, ?_, ?_, ?_, ?_, ?_, ?_, ⟨hWB, _, hrow0⟩⟩
    all_goals (rw [hB2.cell (by rw [hsz1]; exact Nat.lt_succ_self _), new_cell]; rfl)
  have HSV := hide (fun W' (h : HeldT w (.string ky) (.int .i64 op) (.slice va vn vc) (.int .i64 dl) (.int .i64 T) (.string site) (.int .i64 pr) (.slice pa pn pc) W') => hv.below (heldT_below h))
  have HSP := hide (fun W' (h : HeldT w (.string ky) (.int .i64 op) (.slice va vn vc) (.int .i64 dl) (.int .i64 T) (.string site) (.int .i64 pr) (.slice pa pn pc) W') => hp.below (heldT_below h))
  have HF : Hid (∀ w2 : World, HeldT w (.string ky) (.int .i64 op) (.slice va vn vc) (.int .i64 dl) (.int .i64 T) (.string site) (.int .i64 pr) (.slice pa pn pc) w2 → Below w.heap.size w w2 ∧ ∃ f, w2.rowIs (w.heap.size + 1) 68 8 f ∧ w2.cell? ⟨w.heap.size + 1, 0, none⟩ = some (f 0) ∧ w2.cell? ⟨w.heap.size + 1, 1, none⟩ = some (f 1) ∧ w2.cell? ⟨w.heap.size + 1, 2, none⟩ = some (f 2) ∧ w2.cell? ⟨w.heap.size + 1, 3, none⟩ = some (f 3) ∧ w2.cell? ⟨w.heap.size + 1, 4, none⟩ = some (f 4) ∧ w2.cell? ⟨w.heap.size + 1, 5, none⟩ = some (f 5) ∧ w2.cell? ⟨w.heap.size + 1, 6, none⟩ = some (f 6) ∧ w2.cell? ⟨w.heap.size + 1, 7, none⟩ = some (f 7) ∧ w2.frozen? ⟨w.heap.size + 1, 0, none⟩ = false ∧ w2.frozen? ⟨w.heap.size + 1, 1, none⟩ = false ∧ w2.frozen? ⟨w.heap.size + 1, 2, none⟩ = false ∧ w2.frozen? ⟨w.heap.size + 1, 3, none⟩ = false ∧ w2.frozen? ⟨w.heap.size + 1, 4, none⟩ = false ∧ w2.frozen? ⟨w.heap.size + 1, 5, none⟩ = false ∧ w2.frozen? ⟨w.heap.size + 1, 6, none⟩ = false ∧ w2.frozen? ⟨w.heap.size + 1, 7, none⟩ = false) := by
    intro w2 hb
    obtain ⟨_, f, hr⟩ := unhide hb.2.2.2.2.2.2.2.2
    exact ⟨heldT_below hb, f, hr, hr.cell (i := 0) (by decide), hr.cell (i := 1) (by decide), hr.cell (i := 2) (by decide), hr.cell (i := 3) (by decide), hr.cell (i := 4) (by decide), hr.cell (i := 5) (by decide), hr.cell (i := 6) (by decide), hr.cell (i := 7) (by decide), hr.frozen 0, hr.frozen 1, hr.frozen 2, hr.frozen 3, hr.frozen 4, hr.frozen 5, hr.frozen 6, hr.frozen 7⟩
  have HS0 := hide S0
  have HsW := hide hsW
  clear hv hp hB1 hB2 hsz1 hrow0 S0 hWB hsW hvnil hpnil
  go_enter Try.func25, Try.ntmps25
  go_wp2
  rw [← hWe]
  clear hWe
  go_region_held3 (fun w' => w'.cell? ⟨w.heap.size, 0, none⟩ = some (.string ky) ∧ w'.cell? ⟨w.heap.size, 1, none⟩ = some (.int .i64 op) ∧ w'.cell? ⟨w.heap.size, 2, none⟩ = some (.slice va vn vc) ∧ w'.cell? ⟨w.heap.size, 3, none⟩ = some (.int .i64 dl) ∧ w'.cell? ⟨w.heap.size, 4, none⟩ = some (.int .i64 T) ∧ w'.cell? ⟨w.heap.size, 5, none⟩ = some (.string site) ∧ w'.cell? ⟨w.heap.size, 6, none⟩ = some (.int .i64 pr) ∧ w'.cell? ⟨w.heap.size, 7, none⟩ = some (.slice pa pn pc) ∧ Hid (Below w.heap.size w w' ∧ ∃ f, w'.rowIs (w.heap.size + 1) 68 8 f))
    (first | (simp only [put_eq]; exact heldT_set8 (w0 := w) (v0 := .string ky) (v1 := .int .i64 op) (v2 := .slice va vn vc) (v3 := .int .i64 dl) (v4 := .int .i64 T) (v5 := .string site) (v6 := .int .i64 pr) (v7 := .slice pa pn pc) (w1 := w2) (a0 := .string ky) (a1 := .int .i64 op) (a2 := .slice va' vn' vc') (a3 := .int .i64 dl) (a4 := .int .i64 T) (a5 := .string site) (a6 := .int .i64 pr) (a7 := .slice pa' pn' pc') (unhide hS2)) | (exact heldT_later (w0 := w) (w1 := W) (unhide HS0) (later_drew W)) | (exact heldT_later (w0 := w) (v0 := .string ky) (v1 := .int .i64 op) (v2 := .slice va vn vc) (v3 := .int .i64 dl) (v4 := .int .i64 T) (v5 := .string site) (v6 := .int .i64 pr) (v7 := .slice pa pn pc) (by assumption) b2) | (exact heldT_later (w0 := w) (v0 := .string ky) (v1 := .int .i64 op) (v2 := .slice va vn vc) (v3 := .int .i64 dl) (v4 := .int .i64 T) (v5 := .string site) (v6 := .int .i64 pr) (v7 := .slice pa pn pc) (by assumption) b1))
    (first
      | (go_at_call 33; refine (cloneByte va vn vc vl _ hvn ?_ (unhide HVN)).mono ?_; (exact unhide HSV _ (by assumption)); rintro _ w1 ⟨va', vn', vc', rfl, s1, b1, _, _⟩)
      | (go_at_call 10; refine (cloneInt pa pn pc pl _ hpn ?_ (unhide HPN)).mono ?_; (exact unhide HSP _ (by assumption)); rintro _ w2 ⟨pa', pn', pc', rfl, s2, b2, i2, m2⟩; have hS2 := hide (heldT_later (w0 := w) (v0 := .string ky) (v1 := .int .i64 op) (v2 := .slice va vn vc) (v3 := .int .i64 dl) (v4 := .int .i64 T) (v5 := .string site) (v6 := .int .i64 pr) (v7 := .slice pa pn pc) (w1 := w1) (by assumption) b2); have hW2 := unhide HF w2 (unhide hS2); obtain ⟨hbw, f, hrow, c0, c1, c2, c3, c4, c5, c6, c7, f0, f1, f2, f3, f4, f5, f6, f7⟩ := hW2; have HROW := hide hrow; have HBW := hide hbw; clear hrow hbw))
  have HNE : Hid (∀ ad, pa' = some ad → ad.block ≠ w.heap.size + 1) := fun ad h => by
    have h1 := m2 ad h
    have h2 := b1.size
    have h3 : W.drew.heap.size = W.heap.size := rfl
    have h4 := unhide HsW
    omega
  have HGE : Hid (∀ ad, pa' = some ad → w.heap.size ≤ ad.block) := fun ad h => by
    have h1 := m2 ad h
    have h2 := b1.size
    have h3 : W.drew.heap.size = W.heap.size := rfl
    have h4 := unhide HsW
    omega
  have HI2 := hide i2
  have S2 := hide s2
  have R8 := hide ((((((((((unhide HROW).set 0 (.string ky)).set 1 (.int .i64 op)).set 2 (.slice va' vn' vc')).set 3 (.int .i64 dl)).set 4 (.int .i64 T)).set 5 (.string site)).set 6 (.int .i64 pr)).set 7 (.slice pa' pn' pc')))
  have HB8 := hide ((((((((((unhide HBW).setCell (p := ⟨w.heap.size + 1, 0, none⟩) (Nat.le_succ _) (.string ky)).setCell (p := ⟨w.heap.size + 1, 1, none⟩) (Nat.le_succ _) (.int .i64 op)).setCell (p := ⟨w.heap.size + 1, 2, none⟩) (Nat.le_succ _) (.slice va' vn' vc')).setCell (p := ⟨w.heap.size + 1, 3, none⟩) (Nat.le_succ _) (.int .i64 dl)).setCell (p := ⟨w.heap.size + 1, 4, none⟩) (Nat.le_succ _) (.int .i64 T)).setCell (p := ⟨w.heap.size + 1, 5, none⟩) (Nat.le_succ _) (.string site)).setCell (p := ⟨w.heap.size + 1, 6, none⟩) (Nat.le_succ _) (.int .i64 pr)).setCell (p := ⟨w.heap.size + 1, 7, none⟩) (Nat.le_succ _) (.slice pa' pn' pc')))
  have HS8 := hide ((((((((((unhide S2).setAway (p := ⟨w.heap.size + 1, 0, none⟩) (unhide HNE) (.string ky)).setAway (p := ⟨w.heap.size + 1, 1, none⟩) (unhide HNE) (.int .i64 op)).setAway (p := ⟨w.heap.size + 1, 2, none⟩) (unhide HNE) (.slice va' vn' vc')).setAway (p := ⟨w.heap.size + 1, 3, none⟩) (unhide HNE) (.int .i64 dl)).setAway (p := ⟨w.heap.size + 1, 4, none⟩) (unhide HNE) (.int .i64 T)).setAway (p := ⟨w.heap.size + 1, 5, none⟩) (unhide HNE) (.string site)).setAway (p := ⟨w.heap.size + 1, 6, none⟩) (unhide HNE) (.int .i64 pr)).setAway (p := ⟨w.heap.size + 1, 7, none⟩) (unhide HNE) (.slice pa' pn' pc')))
  clear s1 b1 s2 b2 i2 m2 c0 f0 c1 f1 c2 f2 c3 f3 c4 f4 c5 f5 c6 f6 c7 f7 HROW HBW S2 HF HSV HSP HS0
  go_wp2
  generalize ((((((((w2.setCell ⟨w.heap.size + 1, 0, none⟩ (.string ky)).setCell ⟨w.heap.size + 1, 1, none⟩ (.int .i64 op)).setCell ⟨w.heap.size + 1, 2, none⟩ (.slice va' vn' vc')).setCell ⟨w.heap.size + 1, 3, none⟩ (.int .i64 dl)).setCell ⟨w.heap.size + 1, 4, none⟩ (.int .i64 T)).setCell ⟨w.heap.size + 1, 5, none⟩ (.string site)).setCell ⟨w.heap.size + 1, 6, none⟩ (.int .i64 pr)).setCell ⟨w.heap.size + 1, 7, none⟩ (.slice pa' pn' pc')) = Z at *
  have r8 := unhide R8
  have hs0 : Z.cell? ⟨w.heap.size + 1, 0, none⟩ = some (.string ky) := by rw [r8.cell (i := 0) (by decide)]; rfl
  have hs1 : Z.cell? ⟨w.heap.size + 1, 1, none⟩ = some (.int .i64 op) := by rw [r8.cell (i := 1) (by decide)]; rfl
  have hs2 : Z.cell? ⟨w.heap.size + 1, 2, none⟩ = some (.slice va' vn' vc') := by rw [r8.cell (i := 2) (by decide)]; rfl
  have hs3 : Z.cell? ⟨w.heap.size + 1, 3, none⟩ = some (.int .i64 dl) := by rw [r8.cell (i := 3) (by decide)]; rfl
  have hs4 : Z.cell? ⟨w.heap.size + 1, 4, none⟩ = some (.int .i64 T) := by rw [r8.cell (i := 4) (by decide)]; rfl
  have hs5 : Z.cell? ⟨w.heap.size + 1, 5, none⟩ = some (.string site) := by rw [r8.cell (i := 5) (by decide)]; rfl
  have hs6 : Z.cell? ⟨w.heap.size + 1, 6, none⟩ = some (.int .i64 pr) := by rw [r8.cell (i := 6) (by decide)]; rfl
  have hs7 : Z.cell? ⟨w.heap.size + 1, 7, none⟩ = some (.slice pa' pn' pc') := by rw [r8.cell (i := 7) (by decide)]; rfl
  refine bodyPost_ret (v := .agg #[.string ky, .int .i64 op, .slice va' vn' vc', .int .i64 dl, .int .i64 T, .string site, .int .i64 pr, .slice pa' pn' pc']) (by simp [results, Try.results25, go_sem, hs0, hs1, hs2, hs3, hs4, hs5, hs6, hs7]) rfl ⟨va', vn', vc', pa', pn', pc', rfl, unhide HB8, unhide HS8, unhide HI2, unhide HGE⟩

end Go.Proofs.Qxb6605773a.Lw
