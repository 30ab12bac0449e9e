/- keyLists.join, ZZjoin, the readers of a keySet -/
import Derived.Test.Qxb6605915aJoinI
import Derived.Test.Qxb6605915aLists2
import Derived.Deep.RegionHeld3
namespace Go.Proofs.Qxb6605915a.Strs
open Go.ChangeShapes Go.WideShapes Go.ChangeAt Go.RowKit
set_option linter.unusedVariables false

/-- the three cells of the lists' box hold; nothing old has turned -/
def HeldC (w0 : World) (B : Nat) (v0 v1 v2 : Value) (w' : World) : Prop :=
  w'.cell? ⟨B, 0, none⟩ = some v0 ∧ w'.cell? ⟨B, 1, none⟩ = some v1 ∧ w'.cell? ⟨B, 2, none⟩ = some v2 ∧ Hid (Below w0.heap.size w0 w')

theorem held_later {w0 : World} {B : Nat} {v0 v1 v2 : Value} {w1 w2 : World} (h : HeldC w0 B v0 v1 v2 w1) (hb : Below w1.heap.size w1 w2) : HeldC w0 B v0 v1 v2 w2 := by
  obtain ⟨h0, h1, h2, h3⟩ := h
  exact ⟨(hb.cell (cell_lt h0)).trans h0, (hb.cell (cell_lt h1)).trans h1, (hb.cell (cell_lt h2)).trans h2, (unhide h3).trans (hb.mono (unhide h3).size)⟩

theorem held_sll {α : Type} {enc : α → Value} {w0 : World} {B : Nat} {v0 v1 v2 : Value} {w1 : World} {a : Option Addr} {n : Nat} {ll : List (List α)} (hs : Sll enc w0 a n ll) (h : HeldC w0 B v0 v1 v2 w1) : Sll enc w1 a n ll := hs.below (unhide h.2.2.2)

theorem below_drew (w : World) : Below w.heap.size w w.drew := ⟨rfl, rfl, rfl, Nat.le_refl _, fun _ _ => rfl⟩

/-- join's set of the lists -/
def JSet {α : Type} (cf : α → α → Int) (ll : List (List α)) (need : Nat) (R : List α) : Prop := (R.Pairwise fun a b => cf a b < 0) ∧ ∀ x, x ∈ R ↔ x ∈ ll.flatten ∧ need ≤ cnt cf x ll.flatten

/-- a keySet lies at block K -/
structure KeyAt (w : World) (K : Nat) (by' : Int) (N : List Int) (D T : List ByteArray) : Prop where
  c0 : w.cell? ⟨K, 0, none⟩ = some (.int .i64 by')
  num : ∃ a n c, w.cell? ⟨K, 1, none⟩ = some (.slice a n c) ∧ Sl (Value.int .i64) w a n N
  c2 : w.cell? ⟨K, 2, none⟩ = some (.string (cat D))
  dec : ∃ a n c, w.cell? ⟨K, 3, none⟩ = some (.slice a n c) ∧ Sl encE w a n (endsOf D)
  c4 : w.cell? ⟨K, 4, none⟩ = some (.string (cat T))
  tex : ∃ a n c, w.cell? ⟨K, 5, none⟩ = some (.slice a n c) ∧ Sl encE w a n (endsOf T)

/-- join's post -/
def Keyed (NL : List (List Int)) (DL TL : List (List ByteArray)) (by' : Int) (nN nD nT : Nat) (w : World) (e : Ending) (w' : World) : Prop :=
  ∃ K N D T, e = .returned (.pointer (some ⟨K, 0, none⟩)) ∧ KeyAt w' K by' N D T ∧ JSet ci NL nN N ∧ JSet cb DL nD D ∧ JSet cb TL nT T ∧ Below w.heap.size w w'

theorem keyAt_new {w : World} (by' : Int) {N : List Int} {D T : List ByteArray} {na : Option Addr} {nn nc : Nat} {da : Option Addr} {dn dc : Nat} {ta : Option Addr} {tn tc : Nat} (hN : Sl (Value.int .i64) w na nn N) (hD : Sl encE w da dn (endsOf D)) (hT : Sl encE w ta tn (endsOf T)) :
    KeyAt (w.alloc (.cells #[.int .i64 by', .slice na nn nc, .string (cat D), .slice da dn dc, .string (cat T), .slice ta tn tc] 72)) w.heap.size by' N D T := by
  have hb : Below w.heap.size w (w.alloc (.cells #[.int .i64 by', .slice na nn nc, .string (cat D), .slice da dn dc, .string (cat T), .slice ta tn tc] 72)) := (Below.refl _ _).alloc (Nat.le_refl _) _
  have hh := Deep.blk_alloc_new w (.cells #[.int .i64 by', .slice na nn nc, .string (cat D), .slice da dn dc, .string (cat T), .slice ta tn tc] 72)
  exact ⟨by rw [Lib.cell_of_heap hh]; rfl, ⟨na, nn, nc, by rw [Lib.cell_of_heap hh]; rfl, hN.below hb⟩, by rw [Lib.cell_of_heap hh]; rfl, ⟨da, dn, dc, by rw [Lib.cell_of_heap hh]; rfl, hD.below hb⟩, by rw [Lib.cell_of_heap hh]; rfl, ⟨ta, tn, tc, by rw [Lib.cell_of_heap hh]; rfl, hT.below hb⟩⟩

theorem KeyAt.later {w w' : World} {K : Nat} {by' : Int} {N : List Int} {D T : List ByteArray} (h : KeyAt w K by' N D T) (hb : Below w.heap.size w w') : KeyAt w' K by' N D T := by
  obtain ⟨c0, ⟨a1, n1, k1, c1, s1⟩, c2, ⟨a3, n3, k3, c3, s3⟩, c4, ⟨a5, n5, k5, c5, s5⟩⟩ := h
  exact ⟨(hb.cell (cell_lt c0)).trans c0, ⟨a1, n1, k1, (hb.cell (cell_lt c1)).trans c1, s1.below hb⟩, (hb.cell (cell_lt c2)).trans c2, ⟨a3, n3, k3, (hb.cell (cell_lt c3)).trans c3, s3.below hb⟩, (hb.cell (cell_lt c4)).trans c4, ⟨a5, n5, k5, (hb.cell (cell_lt c5)).trans c5, s5.below hb⟩⟩

theorem jset_le {l R : List ByteArray} (h : Inc R) (hm : ∀ x, x ∈ R → x ∈ l) : R.length ≤ l.length ∧ tot R ≤ tot l := inc_le R l h hm

set_option maxRecDepth 100000 in
set_option maxHeartbeats 8000000 in
theorem join46 (B : Nat) (na : Option Addr) (nn nc : Nat) (NL : List (List Int)) (da : Option Addr) (dn dc : Nat) (DL : List (List ByteArray)) (ta : Option Addr) (tn tc : Nat) (TL : List (List ByteArray)) (by' : Int) (any : Bool) (nN nD nT : Nat) (w : World)
    (h0 : w.cell? ⟨B, 0, none⟩ = some (.slice na nn nc)) (h1 : w.cell? ⟨B, 1, none⟩ = some (.slice da dn dc)) (h2 : w.cell? ⟨B, 2, none⟩ = some (.slice ta tn tc))
    (hN : Sll (Value.int .i64) w na nn NL) (hD : Sll Value.string w da dn DL) (hT : Sll Value.string w ta tn TL)
    (bN : nn ≤ 16777216) (bD : dn ≤ 16777216) (bT : tn ≤ 16777216) (fN : NL.flatten.length ≤ 16777216) (fD : DL.flatten.length ≤ 16777216) (fT : TL.flatten.length ≤ 16777216)
    (tD : tot DL.flatten ≤ 16777216) (tT : tot TL.flatten ≤ 16777216)
    (hnN : nN = cond any 1 nn) (hnD : nD = cond any 1 dn) (hnT : nT = cond any 1 tn) :
    Calls Try.prog 46 #[.pointer (some ⟨B, 0, none⟩), .int .i64 by', .bool any] w (Keyed NL DL TL by' nN nD nT w) := by
  have HN := hide hN
  have HD := hide hD
  have HT := hide hT
  have HnN := hide hnN
  have HnD := hide hnD
  have HnT := hide hnT
  have HLN := hide (fun W (h : HeldC w B (.slice na nn nc) (.slice da dn dc) (.slice ta tn tc) W) => held_sll hN h)
  have HLD := hide (fun W (h : HeldC w B (.slice na nn nc) (.slice da dn dc) (.slice ta tn tc) W) => held_sll hD h)
  have HLT := hide (fun W (h : HeldC w B (.slice na nn nc) (.slice da dn dc) (.slice ta tn tc) W) => held_sll hT h)
  clear hN hD hT hnN hnD hnT
  go_enter Try.func46, Try.ntmps46
  go_wp2
  go_region_held3 (fun w' => w'.cell? ⟨B, 0, none⟩ = some (.slice na nn nc) ∧ w'.cell? ⟨B, 1, none⟩ = some (.slice da dn dc) ∧ w'.cell? ⟨B, 2, none⟩ = some (.slice ta tn tc) ∧ Hid (Below w.heap.size w w'))
    (first | (exact held_later (w0 := w) ⟨h0, h1, h2, Below.refl _ _⟩ (below_drew w)) | (exact held_later (w0 := w) (B := B) (v0 := .slice na nn nc) (v1 := .slice da dn dc) (v2 := .slice ta tn tc) (by assumption) ((Below.refl _ _).alloc (Nat.le_refl _) _)) | (exact held_later (w0 := w) (B := B) (v0 := .slice na nn nc) (v1 := .slice da dn dc) (v2 := .slice ta tn tc) (by assumption) b5) | (exact held_later (w0 := w) (B := B) (v0 := .slice na nn nc) (v1 := .slice da dn dc) (v2 := .slice ta tn tc) (by assumption) b4) | (exact held_later (w0 := w) (B := B) (v0 := .slice na nn nc) (v1 := .slice da dn dc) (v2 := .slice ta tn tc) (by assumption) b3) | (exact held_later (w0 := w) (B := B) (v0 := .slice na nn nc) (v1 := .slice da dn dc) (v2 := .slice ta tn tc) (by assumption) b2) | (exact held_later (w0 := w) (B := B) (v0 := .slice na nn nc) (v1 := .slice da dn dc) (v2 := .slice ta tn tc) (by assumption) b1))
    (first
      | (go_at_call 56; refine (join56 na nn nc NL any nN _ bN fN ?_ (unhide HnN)).mono ?_; (exact unhide HLN _ (by assumption)); rintro _ w1 ⟨ra, rn, rc, N, rfl, sN, iN, mN, b1⟩)
      | (go_at_call_of 59 da; refine (join59 da dn dc DL any nD _ bD fD ?_ (unhide HnD)).mono ?_; (exact unhide HLD _ (by assumption)); rintro _ w2 ⟨da', dn', dc', D, rfl, sD, iD, mD, b2⟩)
      | (go_at_call_of 59 ta; refine (join59 ta tn tc TL any nT _ bT fT ?_ (unhide HnT)).mono ?_; (exact unhide HLT _ (by assumption)); rintro _ w4 ⟨ta', tn', tc', T, rfl, sT, iT, mT, b4⟩)
      | (go_at_call_of 58 ta'; refine (pack58 T ta' tn' tc' w4 ?_ ?_ sT).mono ?_; (rw [sT.len]; have := (jset_le iT (fun x hx => ((mT x).1 hx).1)).1; omega); (have := (jset_le iT (fun x hx => ((mT x).1 hx).1)).2; omega); rintro _ w5 ⟨te, ten, tec, rfl, sTe, b5, _⟩)
      | (go_at_call_of 58 da'; refine (pack58 D da' dn' dc' w2 ?_ ?_ sD).mono ?_; (rw [sD.len]; have := (jset_le iD (fun x hx => ((mD x).1 hx).1)).1; omega); (have := (jset_le iD (fun x hx => ((mD x).1 hx).1)).2; omega); rintro _ w3 ⟨de, den, dec, rfl, sDe, b3, _⟩))
  have hb5 : Hid (Below w.heap.size w w5) := by
    have e0 := below_drew w
    have s1 := b1.size
    have s2 := b2.size
    have s3 := b3.size
    have s4 := b4.size
    have e1 : Below w.heap.size w w1 := e0.trans (b1.mono (by simp))
    have e2 := e1.trans (b2.mono e1.size)
    have e3 := e2.trans (b3.mono e2.size)
    have e4 := e3.trans (b4.mono e3.size)
    exact e4.trans (b5.mono e4.size)
  have sN5 := hide (((((sN.below b2).below b3).below b4).below b5))
  have sD5 := hide ((sDe.below b4).below b5)
  have sT5 := hide sTe
  have JN := hide (And.intro iN mN)
  have JD := hide (And.intro iD mD)
  have JT := hide (And.intro iT mT)
  clear sN sD sT sDe sTe iN mN iD mD iT mT b1 b2 b3 b4 b5
  go_wp2
  go_ret
  refine ⟨_, N, D, T, rfl, keyAt_new by' (unhide sN5) (unhide sD5) (unhide sT5), unhide JN, unhide JD, unhide JT, (unhide hb5).alloc (unhide hb5).size _⟩

set_option maxRecDepth 100000 in
set_option maxHeartbeats 2000000 in
theorem zzJoin19 (na : Option Addr) (nn nc : Nat) (NL : List (List Int)) (da : Option Addr) (dn dc : Nat) (DL : List (List ByteArray)) (ta : Option Addr) (tn tc : Nat) (TL : List (List ByteArray)) (by' : Int) (any : Bool) (nN nD nT : Nat) (w : World)
    (hN : Sll (Value.int .i64) w na nn NL) (hD : Sll Value.string w da dn DL) (hT : Sll Value.string w ta tn TL)
    (bN : nn ≤ 16777216) (bD : dn ≤ 16777216) (bT : tn ≤ 16777216) (fN : NL.flatten.length ≤ 16777216) (fD : DL.flatten.length ≤ 16777216) (fT : TL.flatten.length ≤ 16777216)
    (tD : tot DL.flatten ≤ 16777216) (tT : tot TL.flatten ≤ 16777216)
    (hnN : nN = cond any 1 nn) (hnD : nD = cond any 1 dn) (hnT : nT = cond any 1 tn) :
    Calls Try.prog 19 #[.slice na nn nc, .slice da dn dc, .slice ta tn tc, .int .i64 by', .bool any] w (Keyed NL DL TL by' nN nD nT w) := by
  have hW : Hid (∀ W, W = w.alloc (.cells #[.slice na nn nc, .slice da dn dc, .slice ta tn tc] 66) → Below w.heap.size w W ∧ W.cell? ⟨w.heap.size, 0, none⟩ = some (.slice na nn nc) ∧ W.cell? ⟨w.heap.size, 1, none⟩ = some (.slice da dn dc) ∧ W.cell? ⟨w.heap.size, 2, none⟩ = some (.slice ta tn tc) ∧
      Sll (Value.int .i64) W na nn NL ∧ Sll Value.string W da dn DL ∧ Sll Value.string W ta tn TL) := by
    rintro W rfl
    have hb : Below w.heap.size w (w.alloc (.cells #[.slice na nn nc, .slice da dn dc, .slice ta tn tc] 66)) := (Below.refl _ _).alloc (Nat.le_refl _) _
    have hh := Deep.blk_alloc_new w (.cells #[.slice na nn nc, .slice da dn dc, .slice ta tn tc] 66)
    exact ⟨hb, by rw [Lib.cell_of_heap hh]; rfl, by rw [Lib.cell_of_heap hh]; rfl, by rw [Lib.cell_of_heap hh]; rfl, hN.below hb, hD.below hb, hT.below hb⟩
  have HnN := hide hnN
  have HnD := hide hnD
  have HnT := hide hnT
  clear hN hD hT hnN hnD hnT
  go_enter Try.func19, Try.ntmps19
  go_wp2_with fail
  obtain ⟨W, hWe⟩ : ∃ W, W = w.alloc (.cells #[.slice na nn nc, .slice da dn dc, .slice ta tn tc] 66) := ⟨_, rfl⟩
  obtain ⟨g0, g1, g2, g3, g4, g5, g6⟩ := unhide hW W hWe
  rw [← hWe]
  refine (join46 w.heap.size na nn nc NL da dn dc DL ta tn tc TL by' any nN nD nT W g1 g2 g3 g4 g5 g6 bN bD bT fN fD fT tD tT (unhide HnN) (unhide HnD) (unhide HnT)).mono ?_
  rintro _ w1 ⟨K, N, D, T, rfl, k1, k2, k3, k4, k5⟩
  have HR : Hid (KeyAt w1 K by' N D T ∧ JSet ci NL nN N ∧ JSet cb DL nD D ∧ JSet cb TL nT T ∧ Below w.heap.size w w1) := ⟨k1, k2, k3, k4, g0.trans (k5.mono g0.size)⟩
  clear k1 k2 k3 k4 k5 g0 g1 g2 g3 g4 g5 g6 hWe
  go_wp2
  go_ret
  exact ⟨K, N, D, T, rfl, unhide HR⟩

set_option maxRecDepth 100000 in
theorem by20 (K : Nat) (by' : Int) (w : World) (h : w.cell? ⟨K, 0, none⟩ = some (.int .i64 by')) : Calls Try.prog 20 #[.pointer (some ⟨K, 0, none⟩)] w fun e w' => e = .returned (.int .i64 by') ∧ w' = w := by
  go_enter Try.func20, Try.ntmps20
  go_wp2
  go_ret
  exact ⟨rfl, rfl⟩

set_option maxRecDepth 100000 in
theorem num21 (K : Nat) (v : Value) (a : Option Addr) (n c : Nat) (hv : v = .slice a n c) (w : World) (h : w.cell? ⟨K, 1, none⟩ = some v) : Calls Try.prog 21 #[.pointer (some ⟨K, 0, none⟩)] w fun e w' => e = .returned v ∧ w' = w := by
  subst hv
  go_enter Try.func21, Try.ntmps21
  go_wp2
  go_ret
  exact ⟨rfl, rfl⟩

set_option maxRecDepth 100000 in
set_option maxHeartbeats 1000000 in
theorem dec23 (K : Nat) (x : ByteArray) (a : Option Addr) (n c : Nat) (w : World) (h : w.cell? ⟨K, 2, none⟩ = some (.string x)) (h' : w.cell? ⟨K, 3, none⟩ = some (.slice a n c)) : Calls Try.prog 23 #[.pointer (some ⟨K, 0, none⟩)] w fun e w' => e = .returned (.tuple #[.string x, .slice a n c]) ∧ ∃ q, w' = w.drewN q := by
  go_enter Try.func23, Try.ntmps23
  go_wp2
  go_quiet (fail)
  go_wp2
  go_ret2
  exact ⟨rfl, _, rfl⟩

set_option maxRecDepth 100000 in
set_option maxHeartbeats 1000000 in
theorem tex26 (K : Nat) (x : ByteArray) (a : Option Addr) (n c : Nat) (w : World) (h : w.cell? ⟨K, 4, none⟩ = some (.string x)) (h' : w.cell? ⟨K, 5, none⟩ = some (.slice a n c)) : Calls Try.prog 26 #[.pointer (some ⟨K, 0, none⟩)] w fun e w' => e = .returned (.tuple #[.string x, .slice a n c]) ∧ ∃ q, w' = w.drewN q := by
  go_enter Try.func26, Try.ntmps26
  go_wp2
  go_quiet (fail)
  go_wp2
  go_ret2
  exact ⟨rfl, _, rfl⟩

end Go.Proofs.Qxb6605915a.Strs
