import Derived.Test.Qxb6605915aOffer
namespace Go.Proofs.Qxb6605915a.Offer
open Go.ChangeShapes Go.WideShapes Go.ChangeAt Go.RowKit

def tightO (m b : Int) : Int := if m < 0 ∨ b < m then b else m

theorem tight_spec (m b : Int) (hb : 0 ≤ b) : 0 ≤ tightO m b ∧ ∀ n, n ≤ tightO m b ↔ (m < 0 ∨ n ≤ m) ∧ n ≤ b := by
  unfold tightO
  split
  · exact ⟨hb, fun n => by omega⟩
  · exact ⟨by omega, fun n => by omega⟩

theorem ret_i64 {a b : Int} (h : a = b) : Ending.returned (.int .i64 a) = .returned (.int .i64 b) := by rw [h]

theorem tight_any (m b : Int) (w : World) :
    Calls Try.prog 40 #[.int .i64 m, .int .i64 b] w fun r w' => r = .returned (.int .i64 (tightO m b)) ∧ w' = w := by
  by_cases h1 : m < 0
  · go_enter Try.func40, Try.ntmps40
    go_wp2
    go_ret
    exact ⟨ret_i64 (by unfold tightO; rw [if_pos (by omega)]), rfl⟩
  · by_cases h2 : b < m
    · go_enter Try.func40, Try.ntmps40
      go_wp2
      go_ret
      exact ⟨ret_i64 (by unfold tightO; rw [if_pos (by omega)]), rfl⟩
    · go_enter Try.func40, Try.ntmps40
      go_wp2
      go_ret
      exact ⟨ret_i64 (by unfold tightO; rw [if_neg (by omega)]), rfl⟩

/-- n ≤ S / d, d above 0: n * d ≤ S -/
theorem le_div {n S d : Int} (hd : 0 < d) : n ≤ S / d ↔ n * d ≤ S := Int.le_ediv_iff_mul_le hd
theorem div_nn {S d : Int} (hS : 0 ≤ S) (hd : 0 < d) : 0 ≤ S / d := Int.ediv_nonneg hS (by omega)
theorem div_le {S : Int} (d : Int) (hS : 0 ≤ S) : S / d ≤ S := Int.ediv_le_self d hS
end Go.Proofs.Qxb6605915a.Offer
