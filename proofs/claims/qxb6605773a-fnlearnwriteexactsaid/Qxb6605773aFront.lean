/- the frontier: index, other, learnWrite, its makers and readers -/
import Derived.Test.Qxb6605773aReads
import Derived.RegionTactic
import Derived.BigRegion
namespace Go.Proofs.Qxb6605773a.Lw
open Go.ChangeShapes Go.WideShapes Go.ChangeAt Go.RowKit
set_option linter.unusedVariables false

set_option maxRecDepth 100000 in
set_option maxHeartbeats 800000 in
theorem index44 (F : Nat) (sa : Option Addr) (sn sc : Nat) (S : List ByteArray) (v : ByteArray) (w : World) (hn : sn ≤ 1048576) (h0 : w.cell? ⟨F, 0, none⟩ = some (.slice sa sn sc)) (h : Sl Value.string w sa sn S) :
    Calls Try.prog 44 #[.pointer (some ⟨F, 0, none⟩), .string v] w (Found S v w) := by
  have H := hide h
  clear h
  go_enter Try.func44, Try.ntmps44
  go_wp2
  go_loop [5, 11] (fun _ i => ∃ k : Nat, k ≤ sn ∧ i = .int .i64 k ∧ Hid (∀ i x, i < k → S[i]? = some x → x ≠ v)) (fun _ i => sn - (intOf i).toNat)
  case atStart => exact ⟨0, Nat.zero_le _, rfl, fun i x hi => by omega⟩
  case round =>
    obtain ⟨k, hk, rfl, HI⟩ := hrel
    by_cases hlt : k < sn
    · obtain ⟨b, off, x, ha, hx, hc⟩ := (unhide H).at k hlt
      have HX := hide hx
      clear hx
      rw [ha] at h0
      clear ha
      by_cases e : x = v
      · have he : (x.toList == v.toList) = true := by rw [e]; simp
        go_wp2
        go_ret
        exact ⟨_, rfl, rfl, Or.inr ⟨k, rfl, by rw [← e]; exact unhide HX⟩⟩
      · have he := str_ne e
        have HI2 : Hid (∀ i x, i < k + 1 → S[i]? = some x → x ≠ v) := by
          intro i y hi hy
          by_cases e2 : i = k
          · subst e2; rw [unhide HX] at hy; cases hy; exact e
          · exact unhide HI i y (by omega) hy
        clear e
        go_wp2
        go_round
        case rel => exact ⟨k + 1, by omega, by go_num, HI2⟩
        case measure => simp [intOf]; omega
    · go_wp2
      go_ret
      refine ⟨_, rfl, rfl, Or.inl ⟨rfl, fun hv => ?_⟩⟩
      obtain ⟨i, hi⟩ := List.getElem?_of_mem hv
      have := (List.getElem?_eq_some_iff.1 hi).1
      have := (unhide H).len
      exact unhide HI i v (by omega) hi rfl

/-- another site's place, or -1 -/
def Other (S : List ByteArray) (self : Nat) (v : ByteArray) (w : World) (e : Ending) (w' : World) : Prop :=
  ∃ r : Int, e = .returned (.int .i64 r) ∧ w' = w ∧ ((r = -1 ∧ (v ∉ S ∨ S[self]? = some v)) ∨ ∃ i : Nat, r = i ∧ S[i]? = some v ∧ i ≠ self)

set_option maxRecDepth 100000 in
theorem other41 (F : Nat) (sa : Option Addr) (sn sc : Nat) (S : List ByteArray) (self : Nat) (v : ByteArray) (w : World) (hn : sn ≤ 1048576) (h0 : w.cell? ⟨F, 0, none⟩ = some (.slice sa sn sc)) (h2 : w.cell? ⟨F, 2, none⟩ = some (.int .i64 (self : Int))) (h : Sl Value.string w sa sn S) :
    Calls Try.prog 41 #[.pointer (some ⟨F, 0, none⟩), .string v] w (Other S self v w) := by
  go_enter Try.func41, Try.ntmps41
  go_wp2_with fail
  refine (index44 F sa sn sc S v w hn h0 h).mono ?_
  rintro _ w ⟨r, rfl, rfl, hr⟩
  have HR := hide hr
  clear hr h h0
  by_cases e : r = (self : Int)
  · have he : (r != (self : Int)) = false := by rw [bne_eq_false_iff_eq]; exact e
    have HE := hide e
    clear e
    go_wp2
    go_ret
    refine ⟨_, rfl, rfl, Or.inl ⟨rfl, ?_⟩⟩
    rcases unhide HR with ⟨g1, g2⟩ | ⟨i, g1, g2⟩
    · exact Or.inl g2
    · have := unhide HE
      have : i = self := by omega
      subst this
      exact Or.inr g2
  · have he : (r != (self : Int)) = true := by rw [bne_iff_ne]; exact e
    have HE := hide e
    clear e
    go_wp2
    go_ret
    refine ⟨_, rfl, rfl, ?_⟩
    rcases unhide HR with ⟨g1, g2⟩ | ⟨i, g1, g2⟩
    · exact Or.inl ⟨g1, Or.inl g2⟩
    · exact Or.inr ⟨i, g1, g2, fun hi => unhide HE (by rw [g1, hi])⟩

set_option maxRecDepth 100000 in
set_option maxHeartbeats 800000 in
theorem wroteAt27 (F Wb n c j : Nat) (T : Int) (pv : Value) (w : World) (hn : n ≤ 1048576) (hj : j < n) (h3 : w.cell? ⟨F, 3, none⟩ = some (.slice (some ⟨Wb, 0, none⟩) n c))
    (hT : w.cell? ⟨Wb, j * 2, none⟩ = some (.int .i64 T)) (hP : w.cell? ⟨Wb, j * 2 + 1, none⟩ = some pv) :
    Calls Try.prog 27 #[.pointer (some ⟨F, 0, none⟩), .int .i64 (j : Int)] w fun e w' => e = .returned (.tuple #[.int .i64 T, pv]) ∧ ∃ q, w' = w.drewN q := by
  have hi1 : (j : Int) < (n : Int) := by omega
  go_enter Try.func27, Try.ntmps27
  go_wp2
  go_quiet (fail)
  go_wp2
  go_ret2
  exact ⟨rfl, _, rfl⟩

/-- the write's box -/
def boxW (ky op vl dl : Value) (T : Int) (site : ByteArray) (pr pv : Value) : Obj := .cells #[ky, op, vl, dl, .int .i64 T, .string site, pr, pv] 68

set_option maxRecDepth 100000 in
set_option maxHeartbeats 2000000 in
theorem learn37 (F Wb n c : Nat) (sa : Option Addr) (sn sc : Nat) (S : List ByteArray) (self : Nat) (ky : ByteArray) (op : Int) (va : Option Addr) (vn vc : Nat) (dl T : Int) (site : ByteArray) (pr : Int) (pa : Option Addr) (pn pc : Nat) (w : World)
    (hn : n ≤ 1048576) (hsn : sn = n) (hF : F < w.heap.size) (hWb : Wb < w.heap.size)
    (h0 : w.cell? ⟨F, 0, none⟩ = some (.slice sa sn sc)) (h2 : w.cell? ⟨F, 2, none⟩ = some (.int .i64 (self : Int))) (h3 : w.cell? ⟨F, 3, none⟩ = some (.slice (some ⟨Wb, 0, none⟩) n c)) (h : Sl Value.string w sa sn S)
    (hc0 : ∀ i, i < n → ∃ t, w.cell? ⟨Wb, i * 2, none⟩ = some (.int .i64 t)) (hc1 : ∀ i, i < n → ∃ qa qn qc, w.cell? ⟨Wb, i * 2 + 1, none⟩ = some (.slice qa qn qc)) (hfz : ∀ i, w.frozen? ⟨Wb, i, none⟩ = false) :
    Calls Try.prog 37 #[.pointer (some ⟨F, 0, none⟩), .agg #[.string ky, .int .i64 op, .slice va vn vc, .int .i64 dl, .int .i64 T, .string site, .int .i64 pr, .slice pa pn pc]] w fun e w' => e = .returned (.tuple #[]) ∧ ∃ q,
      (((site ∉ S ∨ S[self]? = some site) ∧ w' = (w.alloc (boxW (.string ky) (.int .i64 op) (.slice va vn vc) (.int .i64 dl) T site (.int .i64 pr) (.slice pa pn pc))).drewN q) ∨
       ∃ i : Nat, S[i]? = some site ∧ i ≠ self ∧ w' = (((w.setCell ⟨Wb, i * 2, none⟩ (.int .i64 T)).setCell ⟨Wb, i * 2 + 1, none⟩ (.slice pa pn pc)).alloc (boxW (.string ky) (.int .i64 op) (.slice va vn vc) (.int .i64 dl) T site (.int .i64 pr) (.slice pa pn pc))).drewN q) := by
  have hbel : Below w.heap.size w (w.alloc (boxW (.string ky) (.int .i64 op) (.slice va vn vc) (.int .i64 dl) T site (.int .i64 pr) (.slice pa pn pc))) := (Below.refl _ _).alloc (Nat.le_refl _) _
  have hA0 := (hbel.cell (p := ⟨F, 0, none⟩) hF).trans h0
  have hA2 := (hbel.cell (p := ⟨F, 2, none⟩) hF).trans h2
  have hSl := h.below hbel
  have HA0 := hide hA0
  have HA2 := hide hA2
  have HSl := hide hSl
  have HLn := hide h.len
  have HC0 := hide hc0
  have HC1 := hide hc1
  have HFZ := hide hfz
  have HB := hide hbel
  subst hsn
  clear hA0 hA2 hSl hc0 hc1 hfz h hbel h0 h2
  unfold boxW at *
  go_enter Try.func37, Try.ntmps37
  go_wp2_with fail
  refine (other41 F sa sn sc S self site _ hn (unhide HA0) (unhide HA2) (unhide HSl)).mono ?_
  rintro _ _ ⟨r, rfl, rfl, hr⟩
  rcases hr with ⟨hr, hw⟩ | ⟨i, hr, hi, hne⟩
  · rw [hr]
    have HW := hide hw
    clear hr hw
    go_wp2
    go_end0
    exact ⟨rfl, 0, Or.inl ⟨unhide HW, rfl⟩⟩
  · rw [hr]
    have HI := hide hi
    have HNE := hide hne
    have hin : i < sn := by have := (List.getElem?_eq_some_iff.1 hi).1; have := unhide HLn; omega
    have hi1 : (i : Int) < (sn : Int) := by omega
    have hi0 : (0 : Int) ≤ (i : Int) := by omega
    obtain ⟨t0, ht0⟩ := unhide HC0 i hin
    obtain ⟨qa, qn, qc, hq0⟩ := unhide HC1 i hin
    have hf0 := unhide HFZ (i * 2)
    have hf1 := unhide HFZ (i * 2 + 1)
    clear hr hi hne
    go_wp2
    go_region
    go_wp2
    go_end0
    exact ⟨rfl, 1, Or.inr ⟨i, unhide HI, unhide HNE, rfl⟩⟩

end Go.Proofs.Qxb6605773a.Lw
