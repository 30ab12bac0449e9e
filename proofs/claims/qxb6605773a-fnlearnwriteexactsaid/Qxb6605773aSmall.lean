/- the makers and readers: ZZmkSawWrite, ZZnewFrontier, ZZlearnWrite, b1WriteBytes -/
import Derived.Test.Qxb6605773aFront
import Derived.Deep.Slices
import Derived.Deep.RegionHeld3
namespace Go.Proofs.Qxb6605773a.Lw
open Go.ChangeShapes Go.WideShapes Go.ChangeAt Go.RowKit
set_option linter.unusedVariables false

theorem later_trans {a b c : World} (h : Below a.heap.size a b) (k : Below b.heap.size b c) : Below a.heap.size a c := h.trans (k.mono h.size)
theorem later_drewN (w : World) (q : Nat) : Below w.heap.size w (w.drewN q) := below_drewN (Below.refl _ _) q
theorem later_drew (w : World) : Below w.heap.size w w.drew := ⟨rfl, rfl, rfl, Nat.le_refl _, fun _ _ => rfl⟩
theorem later_alloc (w : World) (o : Obj) : Below w.heap.size w (w.alloc o) := (Below.refl _ _).alloc (Nat.le_refl _) _
theorem new_cell (w : World) (c : Array Value) (t : TypeId) (i : Nat) : (w.alloc (.cells c t)).cell? ⟨w.heap.size, i, none⟩ = c[i]? := by
  rw [Lib.cell_of_heap (Deep.blk_alloc_new w (.cells c t))]
theorem new_frozen (w : World) (c : Array Value) (t : TypeId) (i : Nat) : (w.alloc (.cells c t)).frozen? ⟨w.heap.size, i, none⟩ = false :=
  Lib.frozen_of_heap (Deep.blk_alloc_new w (.cells c t)) i

set_option maxRecDepth 100000 in
set_option maxHeartbeats 800000 in
theorem mkSaw21 (T : Int) (pa : Option Addr) (pn pc : Nat) (w : World) :
    Calls Try.prog 21 #[.int .i64 T, .slice pa pn pc] w fun e w' => e = .returned (.agg #[.int .i64 T, .slice pa pn pc]) ∧ Below w.heap.size w w' := by
  have h0 := new_cell w #[.int .i64 T, .slice pa pn pc] 61 0
  have h1 := new_cell w #[.int .i64 T, .slice pa pn pc] 61 1
  have hb := later_alloc w (.cells #[.int .i64 T, .slice pa pn pc] 61)
  go_enter Try.func21, Try.ntmps21
  go_wp2
  generalize w.alloc (.cells #[.int .i64 T, .slice pa pn pc] 61) = W at *
  refine bodyPost_ret (v := .agg #[.int .i64 T, .slice pa pn pc]) (by simp [results, Try.results21, go_sem, h0, h1]) rfl ⟨rfl, hb⟩

set_option maxRecDepth 100000 in
set_option maxHeartbeats 800000 in
theorem newFrontier22 (sa : Option Addr) (sn sc : Nat) (self : Int) (wa : Option Addr) (wn wc : Nat) (w : World) :
    Calls Try.prog 22 #[.slice sa sn sc, .int .i64 self, .slice wa wn wc] w fun e w' => e = .returned (.pointer (some ⟨w.heap.size, 0, none⟩)) ∧ Below w.heap.size w w' ∧
      w'.cell? ⟨w.heap.size, 0, none⟩ = some (.slice sa sn sc) ∧ w'.cell? ⟨w.heap.size, 2, none⟩ = some (.int .i64 self) ∧ w'.cell? ⟨w.heap.size, 3, none⟩ = some (.slice wa wn wc) := by
  go_enter Try.func22, Try.ntmps22
  go_wp2
  go_ret
  exact ⟨rfl, later_alloc _ _, new_cell _ _ _ 0, new_cell _ _ _ 2, new_cell _ _ _ 3⟩

set_option maxRecDepth 100000 in
set_option maxHeartbeats 800000 in
theorem learn24 (F Wb n c : Nat) (sa : Option Addr) (sn sc : Nat) (S : List ByteArray) (self : Nat) (ky : ByteArray) (op : Int) (va : Option Addr) (vn vc : Nat) (dl T : Int) (site : ByteArray) (pr : Int) (pa : Option Addr) (pn pc : Nat) (w : World)
    (hn : n ≤ 1048576) (hsn : sn = n) (hF : F < w.heap.size) (hWb : Wb < w.heap.size)
    (h0 : w.cell? ⟨F, 0, none⟩ = some (.slice sa sn sc)) (h2 : w.cell? ⟨F, 2, none⟩ = some (.int .i64 (self : Int))) (h3 : w.cell? ⟨F, 3, none⟩ = some (.slice (some ⟨Wb, 0, none⟩) n c)) (h : Sl Value.string w sa sn S)
    (hc0 : ∀ i, i < n → ∃ t, w.cell? ⟨Wb, i * 2, none⟩ = some (.int .i64 t)) (hc1 : ∀ i, i < n → ∃ qa qn qc, w.cell? ⟨Wb, i * 2 + 1, none⟩ = some (.slice qa qn qc)) (hfz : ∀ i, w.frozen? ⟨Wb, i, none⟩ = false) :
    Calls Try.prog 24 #[.pointer (some ⟨F, 0, none⟩), .agg #[.string ky, .int .i64 op, .slice va vn vc, .int .i64 dl, .int .i64 T, .string site, .int .i64 pr, .slice pa pn pc]] w fun e w' => e = .returned (.tuple #[]) ∧ ∃ W,
      Below w.heap.size w W ∧ (((site ∉ S ∨ S[self]? = some site) ∧ Below W.heap.size W w') ∨
       ∃ i : Nat, S[i]? = some site ∧ i ≠ self ∧ Below W.heap.size ((W.setCell ⟨Wb, i * 2, none⟩ (.int .i64 T)).setCell ⟨Wb, i * 2 + 1, none⟩ (.slice pa pn pc)) w') := by
  have hb := later_alloc w (.cells #[.string ky, .int .i64 op, .slice va vn vc, .int .i64 dl, .int .i64 T, .string site, .int .i64 pr, .slice pa pn pc] 68)
  go_enter Try.func24, Try.ntmps24
  go_wp2_with fail
  generalize w.alloc (.cells #[.string ky, .int .i64 op, .slice va vn vc, .int .i64 dl, .int .i64 T, .string site, .int .i64 pr, .slice pa pn pc] 68) = W at *
  have hfz' : ∀ i, W.frozen? ⟨Wb, i, none⟩ = false := fun i => by
    have e : W.frozen? ⟨Wb, i, none⟩ = w.frozen? ⟨Wb, i, none⟩ := by unfold World.frozen?; rw [hb.block _ hWb]
    rw [e]; exact hfz i
  refine (learn37 F Wb n c sa sn sc S self ky op va vn vc dl T site pr pa pn pc W hn hsn (Nat.lt_of_lt_of_le hF hb.size) (Nat.lt_of_lt_of_le hWb hb.size) ((hb.cell (cell_lt h0)).trans h0) ((hb.cell (cell_lt h2)).trans h2) ((hb.cell (cell_lt h3)).trans h3) (h.below hb)
    (fun i hi => by obtain ⟨t, ht⟩ := hc0 i hi; exact ⟨t, (hb.cell (cell_lt ht)).trans ht⟩) (fun i hi => by obtain ⟨qa, qn, qc, ht⟩ := hc1 i hi; exact ⟨qa, qn, qc, (hb.cell (cell_lt ht)).trans ht⟩) hfz').mono ?_
  rintro _ w' ⟨rfl, q, hq⟩
  have HQ := hide hq
  have HB := hide hb
  clear hq hb h0 h2 h3 hc0 hc1 hfz hfz' h
  go_wp2
  go_end0
  refine ⟨rfl, W, unhide HB, ?_⟩
  rcases unhide HQ with ⟨a1, rfl⟩ | ⟨i, a1, a2, rfl⟩
  · exact Or.inl ⟨a1, below_drewN (later_alloc _ _) q⟩
  · refine Or.inr ⟨i, a1, a2, ?_⟩
    refine below_drewN ?_ q
    exact (Below.refl _ _).alloc (by simp) _

set_option maxRecDepth 100000 in
set_option maxHeartbeats 2000000 in
theorem writeBytes19 (ky : ByteArray) (op : Int) (va : Option Addr) (vn vc : Nat) (dl T : Int) (site : ByteArray) (pr : Int) (pa : Option Addr) (pn pc : Nat) (w : World) (hk : ky.size ≤ maxLen) (hs : site.size ≤ maxLen) (hv : vn ≤ maxLen) (hp : pn ≤ maxLen) :
    Calls Try.prog 19 #[.agg #[.string ky, .int .i64 op, .slice va vn vc, .int .i64 dl, .int .i64 T, .string site, .int .i64 pr, .slice pa pn pc]] w fun e w' => ∃ r : Nat, e = .returned (.int .i64 (r : Int)) ∧ Below w.heap.size w w' ∧ r ≤ 8388608 ∧ (r ≤ 1048576 → vn ≤ 1048576 ∧ pn ≤ 131072) := by
  unfold maxLen at hk hs hv hp
  have hb := hide (later_alloc w (.cells #[.string ky, .int .i64 op, .slice va vn vc, .int .i64 dl, .int .i64 T, .string site, .int .i64 pr, .slice pa pn pc] 52))
  by_cases h1 : 1048576 < ky.size
  · go_enter Try.func19, Try.ntmps19
    go_wp2
    go_ret
    exact ⟨1048577, rfl, unhide hb, by omega, by omega⟩
  by_cases h2 : 1048576 < vn
  · go_enter Try.func19, Try.ntmps19
    go_wp2
    go_ret
    exact ⟨1048577, rfl, unhide hb, by omega, by omega⟩
  by_cases h3 : 1048576 < site.size
  · go_enter Try.func19, Try.ntmps19
    go_wp2
    go_ret
    exact ⟨1048577, rfl, unhide hb, by omega, by omega⟩
  by_cases h4 : 131072 < pn
  · go_enter Try.func19, Try.ntmps19
    go_wp2
    go_ret
    exact ⟨1048577, rfl, unhide hb, by omega, by omega⟩
  · go_enter Try.func19, Try.ntmps19
    go_wp2
    go_ret
    exact ⟨112 + ky.size + vn + site.size + 8 * pn, ret_i64 (by omega), unhide hb, by omega, by omega⟩

end Go.Proofs.Qxb6605773a.Lw
