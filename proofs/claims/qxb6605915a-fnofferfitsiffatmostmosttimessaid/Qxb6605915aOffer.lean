import Derived.Test.Qxb6605915aRows
import Derived.WalkKit
import Derived.ProofKit
import Derived.OpenShut
import Derived.ShutString
import Derived.WalkLawsBesides
import Derived.Deep.QuietTactic
import Derived.BigQuiet
import Derived.RegionTactic
import Derived.ChangeAlike
import Derived.BigRegion
namespace Go.Proofs.Qxb6605915a.Offer
open Go.ChangeShapes Go.WideShapes Go.ChangeAt Go.RowKit
set_option linter.unusedVariables false

theorem hide {p : Prop} (h : p) : Hid p := h
theorem unhide {p : Prop} (h : Hid p) : p := h
theorem grown_drewN {W w' : World} (h : Grown W w') (n : Nat) : Grown W (w'.drewN n) := by
  induction n with
  | zero => exact h
  | succ n ih => exact ih.drew
theorem grown_trans {a b c : World} (h : Grown a b) (k : Grown b c) : Grown a c :=
  ⟨World.keptBut_trans h.1 k.1, fun x => (k.2.1 x).trans (h.2.1 x), Nat.le_trans h.2.2 k.2.2⟩
theorem ret_bool {a b : Bool} (h : a = b) : Ending.returned (.bool a) = .returned (.bool b) := by rw [h]

def inDom (b g n tb tg e : Int) : Bool :=
  decide (0 ≤ b ∧ 0 ≤ g ∧ 0 ≤ n ∧ 0 ≤ tb ∧ tb ≤ 2305843009213693952 ∧ 0 ≤ tg ∧ tg ≤ 2305843009213693952 ∧ 0 ≤ e ∧ e ≤ 2305843009213693952
    ∧ (0 < b → n ≤ 2305843009213693952 / b) ∧ (0 < g → n ≤ 2305843009213693952 / g))

set_option maxHeartbeats 400000 in
theorem indom_any (b g n tb tg e : Int) (w : World) :
    Calls Try.prog 38 #[.int .i64 b, .int .i64 g, .int .i64 n, .int .i64 tb, .int .i64 tg, .int .i64 e] w fun r w' => r = .returned (.bool (inDom b g n tb tg e)) ∧ w' = w := by
  go_enter Try.func38, Try.ntmps38
  go_wp2
  all_goals
    go_ret
    refine ⟨ret_bool ?_, rfl⟩
    unfold inDom
    symm
    first | (refine decide_eq_true ?_; omega) | (refine decide_eq_false ?_; omega)

def fitsB (b g n tb tg e : Int) : Bool := decide (0 ≤ tb + e - n * b ∧ n * g ≤ tg + min e (tb + e - n * b))

set_option maxHeartbeats 400000 in
theorem spare_any (bk : Nat) (b n tb tg e : Int) (w : World) (hcell : w.cell? ⟨bk, 2, none⟩ = some (.int .i64 b)) (hbk : bk < w.heap.size)
    (hb0 : 0 ≤ n * b) (hb1 : n * b ≤ 2305843009213693952)
    (h1 : 0 ≤ tb) (h2 : tb ≤ 2305843009213693952) (h5 : 0 ≤ e) (h6 : e ≤ 2305843009213693952) :
    Calls Try.prog 61 #[.pointer (some ⟨bk, 0, none⟩), .int .i64 n, .agg #[.int .i64 tb, .int .i64 tg, .int .i64 e]] w fun r w' =>
      r = .returned (.int .i64 (tb + e - n * b)) ∧ ∃ k, (w.alloc (.cells #[.int .i64 tb, .int .i64 tg, .int .i64 e] 86)).drewN k = w' := by
  go_enter Try.func61, Try.ntmps61
  go_wp2
  go_quiet (fail)
  go_wp2
  go_ret
  exact ⟨rfl, _, rfl⟩

set_option maxHeartbeats 400000 in
theorem fits52 (bk : Nat) (b g n tb tg e : Int) (w : World) (hcell : w.cell? ⟨bk, 2, none⟩ = some (.int .i64 b)) (hcell3 : w.cell? ⟨bk, 3, none⟩ = some (.int .i64 g)) (hbk : bk < w.heap.size)
    (hb0 : 0 ≤ n * b) (hb1 : n * b ≤ 2305843009213693952) (hg0 : 0 ≤ n * g) (hg1 : n * g ≤ 2305843009213693952)
    (h1 : 0 ≤ tb) (h2 : tb ≤ 2305843009213693952) (h3 : 0 ≤ tg) (h4 : tg ≤ 2305843009213693952) (h5 : 0 ≤ e) (h6 : e ≤ 2305843009213693952) :
    Calls Try.prog 52 #[.pointer (some ⟨bk, 0, none⟩), .int .i64 n, .agg #[.int .i64 tb, .int .i64 tg, .int .i64 e]] w fun r w' => r = .returned (.bool (fitsB b g n tb tg e)) ∧ Grown w w' := by
  obtain ⟨sp, hsp⟩ : ∃ sp, sp = tb + e - n * b := ⟨_, rfl⟩
  have HF : Hid (fitsB b g n tb tg e = decide (0 ≤ sp ∧ n * g ≤ tg + min e sp)) := by rw [hsp]; rfl
  have SP := spare_any bk b n tb tg e
  rw [← hsp] at SP
  have HS := hide SP
  have hq1 : sp ≤ 4611686018427387904 := by omega
  have hq2 : -4611686018427387904 ≤ sp := by omega
  clear SP hsp
  by_cases hs : 0 ≤ sp
  · by_cases hm : sp < e
    all_goals
      go_enter Try.func52, Try.ntmps52
      go_wp2_with fail
      refine (unhide HS _ ?_ ?_ hb0 hb1 h1 h2 h5 h6).mono ?_
      · go_simp
      · go_simp
      rintro _ _ ⟨rfl, k, rfl⟩
      go_wp2
      go_quiet (fail)
      go_wp2
      go_ret
      refine ⟨ret_bool ?_, grown_drewN (grown_drewN (((Grown.refl _).alloc _ _).alloc _ _) _) _⟩
      rw [unhide HF, Int.min_def]
      simp only [decide_eq_decide]
      first | (rw [if_neg (by omega)]; omega) | (rw [if_pos (by omega)]; omega)
  · have hs' : decide (0 ≤ sp) = false := decide_eq_false hs
    go_enter Try.func52, Try.ntmps52
    go_wp2_with fail
    refine (unhide HS _ ?_ ?_ hb0 hb1 h1 h2 h5 h6).mono ?_
    · go_simp
    · go_simp
    rintro _ _ ⟨rfl, k, rfl⟩
    go_wp2
    go_quiet (fail)
    go_wp2
    go_ret
    refine ⟨ret_bool ?_, grown_drewN (grown_drewN (((Grown.refl _).alloc _ _).alloc _ _) _) _⟩
    rw [unhide HF]
    exact (decide_eq_false (by omega)).symm

set_option maxHeartbeats 400000 in
theorem fits_any (b g n tb tg e : Int) (w : World)
    (hb0 : 0 ≤ n * b) (hb1 : n * b ≤ 2305843009213693952) (hg0 : 0 ≤ n * g) (hg1 : n * g ≤ 2305843009213693952)
    (h1 : 0 ≤ tb) (h2 : tb ≤ 2305843009213693952) (h3 : 0 ≤ tg) (h4 : tg ≤ 2305843009213693952) (h5 : 0 ≤ e) (h6 : e ≤ 2305843009213693952) :
    Calls Try.prog 39 #[.int .i64 b, .int .i64 g, .int .i64 n, .int .i64 tb, .int .i64 tg, .int .i64 e] w fun r w' => r = .returned (.bool (fitsB b g n tb tg e)) ∧ Grown w w' := by
  go_enter Try.func39, Try.ntmps39
  go_wp2_with fail
  refine (fits52 _ b g n tb tg e _ ?_ ?_ ?_ hb0 hb1 hg0 hg1 h1 h2 h3 h4 h5 h6).mono ?_
  · go_simp
  · go_simp
  · go_simp
  rintro _ w1 ⟨rfl, hg⟩
  go_wp2
  go_ret
  exact ⟨rfl, grown_trans ((Grown.refl _).alloc _ _) hg⟩

theorem fits_is (v : Bool) (b g n tb tg e : Int) (w : World) (hv : Hid (fitsB b g n tb tg e = v))
    (hb0 : 0 ≤ n * b) (hb1 : n * b ≤ 2305843009213693952) (hg0 : 0 ≤ n * g) (hg1 : n * g ≤ 2305843009213693952)
    (h1 : 0 ≤ tb) (h2 : tb ≤ 2305843009213693952) (h3 : 0 ≤ tg) (h4 : tg ≤ 2305843009213693952) (h5 : 0 ≤ e) (h6 : e ≤ 2305843009213693952) :
    Calls Try.prog 39 #[.int .i64 b, .int .i64 g, .int .i64 n, .int .i64 tb, .int .i64 tg, .int .i64 e] w fun r w' => r = .returned (.bool v) ∧ Grown w w' := by
  have h := fits_any b g n tb tg e w hb0 hb1 hg0 hg1 h1 h2 h3 h4 h5 h6
  rw [unhide hv] at h
  exact h

theorem indom_is (v : Bool) (b g n tb tg e : Int) (w : World) (hv : Hid (inDom b g n tb tg e = v)) :
    Calls Try.prog 38 #[.int .i64 b, .int .i64 g, .int .i64 n, .int .i64 tb, .int .i64 tg, .int .i64 e] w fun r w' => r = .returned (.bool v) ∧ w' = w := by
  have h := indom_any b g n tb tg e w
  rw [unhide hv] at h
  exact h

theorem fits_iff (b g n tb tg e : Int) (h5 : 0 ≤ e) : fitsB b g n tb tg e = decide (n * g ≤ tg + e ∧ n * b ≤ tb + e ∧ n * b + n * g ≤ tb + tg + e) := by
  unfold fitsB
  rw [Int.min_def, decide_eq_decide]
  split <;> omega

theorem dom_facts {b g n tb tg e : Int} (h : inDom b g n tb tg e = true) :
    0 ≤ b ∧ 0 ≤ g ∧ 0 ≤ n ∧ 0 ≤ tb ∧ tb ≤ 2305843009213693952 ∧ 0 ≤ tg ∧ tg ≤ 2305843009213693952 ∧ 0 ≤ e ∧ e ≤ 2305843009213693952
    ∧ 0 ≤ n * b ∧ n * b ≤ 2305843009213693952 ∧ 0 ≤ n * g ∧ n * g ≤ 2305843009213693952 := by
  have h' := of_decide_eq_true h
  obtain ⟨a1, a2, a3, a4, a5, a6, a7, a8, a9, a10, a11⟩ := h'
  have key : ∀ x : Int, 0 ≤ x → (0 < x → n ≤ 2305843009213693952 / x) → 0 ≤ n * x ∧ n * x ≤ 2305843009213693952 := by
    intro x hx h
    refine ⟨Int.mul_nonneg a3 hx, ?_⟩
    by_cases h0 : 0 < x
    · exact (Int.le_ediv_iff_mul_le h0).1 (h h0)
    · have : x = 0 := by omega
      subst this
      simp
  have kb := key b a1 a10
  have kg := key g a2 a11
  exact ⟨a1, a2, a3, a4, a5, a6, a7, a8, a9, kb.1, kb.2, kg.1, kg.2⟩
end Go.Proofs.Qxb6605915a.Offer
