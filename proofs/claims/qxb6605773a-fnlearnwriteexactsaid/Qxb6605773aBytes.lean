/- the seen writes; zzBytes -/
import Derived.Test.Qxb6605773aToWrite
namespace Go.Proofs.Qxb6605773a.Lw
open Go.ChangeShapes Go.WideShapes Go.ChangeAt Go.RowKit
set_option linter.unusedVariables false

/-- WHAT A FRONTIER KNOWS, AS LISTED: the slice '.slice a n c' of pairs reads so -/
structure Seen (w : World) (a : Option Addr) (n : Nat) (Tf : Nat → Int) (PA : Nat → Option Addr) (PN PC : Nat → Nat) (L : Nat → List Int) : Prop where
  ent : ∀ j, j < n → ∃ b off, a = some ⟨b, off, none⟩ ∧ w.cell? ⟨b, off + j * 2, none⟩ = some (.int .i64 (Tf j)) ∧ w.cell? ⟨b, off + j * 2 + 1, none⟩ = some (.slice (PA j) (PN j) (PC j)) ∧ Sl (Value.int .i64) w (PA j) (PN j) (L j) ∧ (PA j = none → PN j = 0)

theorem Seen.below {w w' : World} {a : Option Addr} {n : Nat} {Tf : Nat → Int} {PA : Nat → Option Addr} {PN PC : Nat → Nat} {L : Nat → List Int} (h : Seen w a n Tf PA PN PC L) (hb : Below w.heap.size w w') : Seen w' a n Tf PA PN PC L :=
  ⟨fun j hj => by
    obtain ⟨b, off, h1, h2, h3, h4, h5⟩ := h.ent j hj
    exact ⟨b, off, h1, (hb.cell (cell_lt h2)).trans h2, (hb.cell (cell_lt h3)).trans h3, h4.below hb, h5⟩⟩

/-- a bool comes back, in a later world -/
def Bool' (w : World) (e : Ending) (w' : World) : Prop := ∃ r : Bool, e = .returned (.bool r) ∧ Below w.heap.size w w'

set_option maxRecDepth 100000 in
set_option maxHeartbeats 4000000 in
theorem zzBytes18 (a : Option Addr) (n c : Nat) (S : List ByteArray) (self : Int) (a2 : Option Addr) (n2 c2 : Nat) (Tf : Nat → Int) (PA : Nat → Option Addr) (PN PC : Nat → Nat) (L : Nat → List Int) (ky : ByteArray) (op : Int) (va : Option Addr) (vn vc : Nat) (dl T : Int) (site : ByteArray) (pr : Int) (pa : Option Addr) (pn pc : Nat) (w : World)
    (hn : n ≤ maxLen) (hn2 : n2 ≤ maxLen) (h : Sl Value.string w a n S) (hz : ∀ x, x ∈ S → x.size ≤ maxLen) (h2 : Seen w a2 n2 Tf PA PN PC L) (hP : ∀ j, j < n2 → PN j ≤ maxLen) (hk : ky.size ≤ maxLen) (hs : site.size ≤ maxLen) (hv : vn ≤ maxLen) (hp : pn ≤ maxLen) :
    Calls Try.prog 18 #[.slice a n c, .int .i64 self, .slice a2 n2 c2, .agg #[.string ky, .int .i64 op, .slice va vn vc, .int .i64 dl, .int .i64 T, .string site, .int .i64 pr, .slice pa pn pc]] w (Bool' w) := by
  unfold maxLen at hn hn2 hk hs hv hp
  have hb := later_alloc w (.cells #[.string ky, .int .i64 op, .slice va vn vc, .int .i64 dl, .int .i64 T, .string site, .int .i64 pr, .slice pa pn pc] 52)
  have c0 := new_cell w #[.string ky, .int .i64 op, .slice va vn vc, .int .i64 dl, .int .i64 T, .string site, .int .i64 pr, .slice pa pn pc] 52 0
  have c2' := new_cell w #[.string ky, .int .i64 op, .slice va vn vc, .int .i64 dl, .int .i64 T, .string site, .int .i64 pr, .slice pa pn pc] 52 2
  have c5 := new_cell w #[.string ky, .int .i64 op, .slice va vn vc, .int .i64 dl, .int .i64 T, .string site, .int .i64 pr, .slice pa pn pc] 52 5
  have c7 := new_cell w #[.string ky, .int .i64 op, .slice va vn vc, .int .i64 dl, .int .i64 T, .string site, .int .i64 pr, .slice pa pn pc] 52 7
  have C0 : Hid _ := hide (c0.trans rfl : _ = some (.string ky))
  have C2 : Hid _ := hide (c2'.trans rfl : _ = some (.slice va vn vc))
  have C5 : Hid _ := hide (c5.trans rfl : _ = some (.string site))
  have C7 : Hid _ := hide (c7.trans rfl : _ = some (.slice pa pn pc))
  have H := hide (h.below hb)
  have H2 := hide (h2.below hb)
  have HB := hide hb
  have HZ := hide hz
  have HP := hide hP
  clear h h2 hb hz hP c0 c2' c5 c7
  by_cases h1 : 1048576 < n
  · go_enter Try.func18, Try.ntmps18
    go_wp2
    go_ret
    exact ⟨false, rfl, unhide HB⟩
  go_enter Try.func18, Try.ntmps18
  go_wp2
  generalize w.alloc (.cells #[.string ky, .int .i64 op, .slice va vn vc, .int .i64 dl, .int .i64 T, .string site, .int .i64 pr, .slice pa pn pc] 52) = W at *
  go_loop [9, 10] (fun z i => ∃ k t : Nat, k ≤ n ∧ i = .int .i64 k ∧ z = .int .i64 (t : Int) ∧ t ≤ 1048576) (fun _ i => n - (intOf i).toNat)
  case atStart => exact ⟨0, n, Nat.zero_le _, rfl, rfl, by omega⟩
  case round =>
    obtain ⟨k, t, hk, rfl, rfl, ht⟩ := hrel
    by_cases hlt : k < n
    · obtain ⟨b, off, x, ha, hx, hc⟩ := (unhide H).at k hlt
      have hxz := unhide HZ x (List.mem_of_getElem? hx)
      unfold maxLen at hxz
      clear hx
      rw [ha]
      clear ha
      by_cases h2 : 1048576 < x.size
      · go_wp2
        go_ret
        exact ⟨false, rfl, unhide HB⟩
      by_cases h3 : 1048576 < t + x.size
      · go_wp2
        go_ret
        exact ⟨false, rfl, unhide HB⟩
      go_wp2
      go_round
      case rel => exact ⟨k + 1, t + x.size, by omega, by go_num, by go_num, by omega⟩
      case measure => simp [intOf]; omega
    · by_cases h2 : 1048576 < n2
      · go_wp2
        go_ret
        exact ⟨false, rfl, unhide HB⟩
      by_cases h3 : 1048576 < t + n2
      · go_wp2
        go_ret
        exact ⟨false, rfl, unhide HB⟩
      go_wp2
      go_loop [9, 11] (fun z i => ∃ k t : Nat, k ≤ n2 ∧ i = .int .i64 k ∧ z = .int .i64 (t : Int) ∧ t ≤ 1048576) (fun _ i => n2 - (intOf i).toNat)
      case atStart => exact ⟨0, t + n2, Nat.zero_le _, rfl, by go_num, by omega⟩
      case round =>
        obtain ⟨k, t, hk, rfl, rfl, ht⟩ := hrel
        by_cases hlt : k < n2
        · obtain ⟨b, off, ha, hc0, hc1, _, _⟩ := (unhide H2).ent k hlt
          have hpk := unhide HP k hlt
          unfold maxLen at hpk
          generalize PN k = pk at *
          rw [ha]
          clear ha
          by_cases h2 : 1048576 < pk
          · go_wp2
            go_ret
            exact ⟨false, rfl, unhide HB⟩
          by_cases h3 : 1048576 < t + pk
          · go_wp2
            go_ret
            exact ⟨false, rfl, unhide HB⟩
          go_wp2
          go_round
          case rel => exact ⟨k + 1, t + pk, by omega, by go_num, by go_num, by omega⟩
          case measure => simp [intOf]; omega
        · have c0 := unhide C0
          have c2 := unhide C2
          have c5 := unhide C5
          have c7 := unhide C7
          by_cases g1 : 1048576 < ky.size
          · go_wp2
            go_ret
            exact ⟨false, rfl, unhide HB⟩
          by_cases g2 : 1048576 < t + ky.size
          · go_wp2
            go_ret
            exact ⟨false, rfl, unhide HB⟩
          by_cases g3 : 1048576 < vn
          · go_wp2
            go_ret
            exact ⟨false, rfl, unhide HB⟩
          by_cases g4 : 1048576 < t + ky.size + vn
          · go_wp2
            go_ret
            exact ⟨false, rfl, unhide HB⟩
          by_cases g5 : 1048576 < site.size
          · go_wp2
            go_ret
            exact ⟨false, rfl, unhide HB⟩
          by_cases g6 : 1048576 < t + ky.size + vn + site.size
          · go_wp2
            go_ret
            exact ⟨false, rfl, unhide HB⟩
          by_cases g7 : 1048576 < pn
          · go_wp2
            go_ret
            exact ⟨false, rfl, unhide HB⟩
          by_cases g8 : 1048576 < t + ky.size + vn + site.size + pn
          · go_wp2
            go_ret
            exact ⟨false, rfl, unhide HB⟩
          go_wp2
          go_ret
          exact ⟨true, rfl, unhide HB⟩

end Go.Proofs.Qxb6605773a.Lw
