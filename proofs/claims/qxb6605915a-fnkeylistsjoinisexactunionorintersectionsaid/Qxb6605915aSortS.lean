/- sortStrs -/
import Derived.Test.Qxb6605915aSortI
namespace Go.Proofs.Qxb6605915a.Strs
open Go.ChangeShapes Go.WideShapes Go.ChangeAt Go.RowKit
set_option linter.unusedVariables false

set_option maxRecDepth 100000 in
set_option maxHeartbeats 16000000 in
theorem sort45 (a : Option Addr) (n c : Nat) (l : List ByteArray) (w : World) (hn : n ≤ 1048576) (h : Sl Value.string w a n l) (hz : ∀ x, x ∈ l → x.size ≤ maxLen) :
    Calls Try.prog 45 #[.slice a n c] w (SortedTo Value.string leS l n w) := by
  have H := hide h
  have HL := hide h.len
  clear h
  have HZ := hide hz
  clear hz
  have hmk := fun W => run_make_row' (P := Try.prog) 39 9 (.string ByteArray.empty) 16 Try.underlying39 info9 rfl .i64 .i64 n (by omega) (by omega) W
  go_enter Try.func45, Try.ntmps45
  go_wp2
  go_loopw [5] (fun i wr => ∃ k : Nat, k ≤ n ∧ i = .int .i64 k ∧ wr.rowIs w.heap.size 9 n (fun j => if j < k then .string (l.getD j ByteArray.empty) else (.string ByteArray.empty)) ∧ Below w.heap.size w wr) (fun i _ => n - (intOf i).toNat)
  case atStart => exact ⟨0, Nat.zero_le _, rfl, (World.rowIs_made w _ n 9).congr (fun j _ => by simp), (Below.refl _ _).alloc (Nat.le_refl _) _⟩
  case round =>
    obtain ⟨k, hk, rfl, hrow, hbel⟩ := hrel
    by_cases hlt : k < n
    · obtain ⟨b, off, x, ha, hx, hc⟩ := (unhide H).at k hlt
      have hcr := (hbel.cell (cell_lt hc)).trans hc
      have hf := hrow.frozen k
      have hold : wr.cell? ⟨w.heap.size, k, none⟩ = some (.string ByteArray.empty) := by rw [hrow.cell hlt]; simp
      have R := hide (And.intro (hrow.set k (.string x)) (hbel.setCell (p := ⟨w.heap.size, k, none⟩) (Nat.le_refl _) (.string x)))
      have HX : Hid (l.getD k ByteArray.empty = x) := by rw [List.getD_eq_getElem?_getD, hx]; rfl
      clear hx hc hrow hbel
      rw [ha]
      clear ha
      go_wp2
      go_roundw
      case rel =>
        refine ⟨k + 1, by omega, by go_num, (unhide R).1.congr ?_, (unhide R).2⟩
        intro j _
        by_cases e : j = k
        · subst e; simp only [if_true, Nat.lt_succ_self]; rw [unhide HX]
        · simp only [if_neg e]
          by_cases e2 : j < k
          · rw [if_pos e2, if_pos (by omega)]
          · rw [if_neg e2, if_neg (by omega)]
      case measure => simp [intOf]; omega
    · obtain rfl : k = n := by omega
      have R0 : Hid (SRel Value.string ByteArray.empty leS 9 l k w 1 w.heap.size wr.heap.size l (wr.alloc (.cells (madeCells #[(.string ByteArray.empty)] k) 9))) := by
        have hlt2 := hrow.lt
        refine ⟨by omega, Nat.le_refl _, by omega, unhide HL, List.Perm.refl _, blk_one _, ?_, ⟨_, World.rowIs_made wr _ k 9⟩, hbel.alloc (by omega) _⟩
        exact (hrow.alloc _).congr (fun j hj => by rw [if_pos hj])
      clear hrow hbel
      obtain ⟨Y, hY⟩ : ∃ Y, Y = wr.heap.size := ⟨_, rfl⟩
      rw [← hY] at R0
      go_wp2
      rw [← hY]
      clear hY
      go_loopw [4, 6, 7, 8, 9, 10, 11, 12, 13, 14] (fun sv dv wv _ _ _ _ _ _ _ wr => ∃ (X Y wd : Nat) (A : List ByteArray), sv = .slice (some ⟨X, 0, none⟩) k k ∧ dv = .slice (some ⟨Y, 0, none⟩) k k ∧ wv = .int .i64 wd ∧ 1 ≤ wd ∧ wd ≤ 2097152 ∧ Hid (SRel Value.string ByteArray.empty leS 9 l k w wd X Y A wr)) (fun _ _ wv _ _ _ _ _ _ _ _ => k - (intOf wv).toNat)
      case atStart => exact ⟨_, _, 1, l, rfl, rfl, rfl, by omega, by omega, R0⟩
      case round =>
        clear R0
        obtain ⟨X, Y, wd, A, rfl, rfl, rfl, hw1, hw2, HS⟩ := hrel
        by_cases hwn : wd < k
        · have hAl := (unhide HS).len
          have P0 : Hid (PRel Value.string ByteArray.empty leS 9 k w wd X Y A 0 [] wr) := (unhide HS).pstart
          have HAl := hide hAl
          clear hAl
          go_wp2
          go_loopw [8, 9, 10, 11, 12, 13] (fun lov _ _ _ _ _ wr => ∃ (lo : Nat) (D : List ByteArray), lov = .int .i64 lo ∧ lo ≤ 8388608 ∧ Hid (PRel Value.string ByteArray.empty leS 9 k w wd X Y A lo D wr)) (fun lov _ _ _ _ _ _ => k - (intOf lov).toNat)
          case atStart => exact ⟨0, [], rfl, by omega, P0⟩
          case round =>
            clear P0
            obtain ⟨lo, D, rfl, hlo8, HP⟩ := hrel
            by_cases hlk : lo < k
            · skip
              by_cases c1 : k < lo + wd
              · have c2 : k < lo + 2 * wd := by omega
                have hd1 : decide ((k : Int) < (lo : Int) + (wd : Int)) = true := by simp; omega
                have hd2 : decide ((k : Int) < (lo : Int) + 2 * (wd : Int)) = true := by simp; omega
                have M0 : Hid (MRel Value.string ByteArray.empty leS 9 k w wd X Y A lo k k D [] lo k lo wr) := (unhide HP).mstart hlk (by omega) (by omega) (unhide HAl)
                go_wp2
                go_loopw [11, 12, 13] (fun iv jv kv wr => ∃ (i j t : Nat) (E : List ByteArray), iv = .int .i64 i ∧ jv = .int .i64 j ∧ kv = .int .i64 t ∧ i ≤ k ∧ j ≤ k ∧ t ≤ k ∧ Hid (MRel Value.string ByteArray.empty leS 9 k w wd X Y A lo k k D E i j t wr)) (fun _ _ kv _ => k - (intOf kv).toNat)
                case atStart => exact ⟨lo, k, lo, [], rfl, by first | rfl | go_num, rfl, by omega, by omega, by omega, M0⟩
                case round =>
                  clear M0
                  obtain ⟨i, j, t, E, rfl, rfl, rfl, hiM, hjH, htH, HM⟩ := hrel
                  by_cases htlt : t < k
                  · have hsum := (unhide HM).inv.2.2.2.2.1
                    have hMj := (unhide HM).inv.2.2.1
                    have htE := (unhide HM).kk
                    have htn : t < k := by omega
                    have hold : ∃ v, wr.cell? ⟨Y, t, none⟩ = some v := (unhide HM).dstCell htn
                    obtain ⟨v, hold⟩ := hold
                    have hfz := (unhide HM).dstFrozen t
                    have ht1 : (t : Int) < (k : Int) := by omega
                    by_cases h1 : i < k
                    · obtain ⟨x, hx⟩ := get_some (l := A) (i := i) (by have := unhide HAl; omega)
                      have hcx := (unhide HM).srcCell (by omega) hx
                      have hi1 : (i : Int) < (k : Int) := by omega
                      have hg1 : decide ((i : Int) < (k : Int)) = true := by simp; omega
                      by_cases h2 : k ≤ j
                      · have hg2 : decide ((k : Int) ≤ (j : Int)) = true := by simp; omega
                        have R := hide (fun q => (unhide HM).left q h1 hx (Or.inl h2))
                        clear hx hsum hMj htE
                        go_wp2
                        go_quiet (fail)
                        go_wp2
                        go_roundw
                        case rel => exact ⟨i + 1, j, t + 1, E ++ [x], by go_num, rfl, by go_num, by omega, by omega, by omega, unhide R _⟩
                        case measure => simp [intOf]; omega
                      · obtain ⟨y, hy⟩ := get_some (l := A) (i := j) (by have := unhide HAl; omega)
                        have hcy := (unhide HM).srcCell (by omega) hy
                        have hj1 : (j : Int) < (k : Int) := by omega
                        have hg2 : decide ((k : Int) ≤ (j : Int)) = false := by simp; omega
                        have hxs := unhide HZ x ((unhide HS).mem hx)
                        have hys := unhide HZ y ((unhide HS).mem hy)
                        by_cases h3 : cb x y ≤ 0
                        · have hg3 : decide ((cb x y : Int) ≤ 0) = true := by simp; omega
                          have R := hide (fun q => (unhide HM).left q h1 hx (Or.inr ⟨y, by omega, hy, by simp [leS]; exact h3⟩))
                          clear hx hy hsum hMj htE
                          go_wp2
                          go_quiet ((go_at_call 37; exact Calls.quiet_of (cmp37q _ _ _ hxs hys)))
                          go_wp2
                          go_roundw
                          case rel => exact ⟨i + 1, j, t + 1, E ++ [x], by go_num, rfl, by go_num, by omega, by omega, by omega, unhide R _⟩
                          case measure => simp [intOf]; omega
                        · have hg3 : decide ((cb x y : Int) ≤ 0) = false := by simp; omega
                          have R := hide (fun q => (unhide HM).right q (by omega) hy (Or.inr ⟨x, h1, hx, by simp [leS]; omega⟩))
                          clear hx hy hsum hMj htE
                          go_wp2
                          go_quiet ((go_at_call 37; exact Calls.quiet_of (cmp37q _ _ _ hxs hys)))
                          go_wp2
                          go_roundw
                          case rel => exact ⟨i, j + 1, t + 1, E ++ [y], rfl, by go_num, by go_num, by omega, by omega, by omega, unhide R _⟩
                          case measure => simp [intOf]; omega
                    · obtain ⟨y, hy⟩ := get_some (l := A) (i := j) (by have := unhide HAl; omega)
                      have hcy := (unhide HM).srcCell (by omega) hy
                      have hj1 : (j : Int) < (k : Int) := by omega
                      have hjlt : j < k := by omega
                      have hg1 : decide ((i : Int) < (k : Int)) = false := by simp; omega
                      have R := hide (fun q => (unhide HM).right q hjlt hy (Or.inl (by omega)))
                      clear hy hsum hMj htE
                      go_wp2
                      go_quiet (fail)
                      go_wp2
                      go_roundw
                      case rel => exact ⟨i, j + 1, t + 1, E ++ [y], rfl, by go_num, by go_num, by omega, by omega, by omega, unhide R _⟩
                      case measure => simp [intOf]; omega
                  · have RP := hide ((unhide HM).done leS_tot (by omega) (unhide HS).blk hw1 (by omega) (by omega) (unhide HAl))
                    go_wp2
                    go_roundw
                    case rel => exact ⟨lo + 2 * wd, _, by go_num, by omega, RP⟩
                    case measure => simp [intOf]; omega
              · have hd1 : decide ((k : Int) < (lo : Int) + (wd : Int)) = false := by simp; omega
                by_cases c2 : k < lo + 2 * wd
                · have hd2 : decide ((k : Int) < (lo : Int) + 2 * (wd : Int)) = true := by simp; omega
                  have M0 : Hid (MRel Value.string ByteArray.empty leS 9 k w wd X Y A lo (lo + wd) k D [] lo (lo + wd) lo wr) := (unhide HP).mstart hlk (by omega) (by omega) (unhide HAl)
                  go_wp2
                  go_loopw [11, 12, 13] (fun iv jv kv wr => ∃ (i j t : Nat) (E : List ByteArray), iv = .int .i64 i ∧ jv = .int .i64 j ∧ kv = .int .i64 t ∧ i ≤ (lo + wd) ∧ j ≤ k ∧ t ≤ k ∧ Hid (MRel Value.string ByteArray.empty leS 9 k w wd X Y A lo (lo + wd) k D E i j t wr)) (fun _ _ kv _ => k - (intOf kv).toNat)
                  case atStart => exact ⟨lo, (lo + wd), lo, [], rfl, by first | rfl | go_num, rfl, by omega, by omega, by omega, M0⟩
                  case round =>
                    clear M0
                    obtain ⟨i, j, t, E, rfl, rfl, rfl, hiM, hjH, htH, HM⟩ := hrel
                    by_cases htlt : t < k
                    · have hsum := (unhide HM).inv.2.2.2.2.1
                      have hMj := (unhide HM).inv.2.2.1
                      have htE := (unhide HM).kk
                      have htn : t < k := by omega
                      have hold : ∃ v, wr.cell? ⟨Y, t, none⟩ = some v := (unhide HM).dstCell htn
                      obtain ⟨v, hold⟩ := hold
                      have hfz := (unhide HM).dstFrozen t
                      have ht1 : (t : Int) < (k : Int) := by omega
                      by_cases h1 : i < (lo + wd)
                      · obtain ⟨x, hx⟩ := get_some (l := A) (i := i) (by have := unhide HAl; omega)
                        have hcx := (unhide HM).srcCell (by omega) hx
                        have hi1 : (i : Int) < (k : Int) := by omega
                        have hg1 : decide ((i : Int) < ((lo : Int) + (wd : Int))) = true := by simp; omega
                        by_cases h2 : k ≤ j
                        · have hg2 : decide ((k : Int) ≤ (j : Int)) = true := by simp; omega
                          have R := hide (fun q => (unhide HM).left q h1 hx (Or.inl h2))
                          clear hx hsum hMj htE
                          go_wp2
                          go_quiet (fail)
                          go_wp2
                          go_roundw
                          case rel => exact ⟨i + 1, j, t + 1, E ++ [x], by go_num, rfl, by go_num, by omega, by omega, by omega, unhide R _⟩
                          case measure => simp [intOf]; omega
                        · obtain ⟨y, hy⟩ := get_some (l := A) (i := j) (by have := unhide HAl; omega)
                          have hcy := (unhide HM).srcCell (by omega) hy
                          have hj1 : (j : Int) < (k : Int) := by omega
                          have hg2 : decide ((k : Int) ≤ (j : Int)) = false := by simp; omega
                          have hxs := unhide HZ x ((unhide HS).mem hx)
                          have hys := unhide HZ y ((unhide HS).mem hy)
                          by_cases h3 : cb x y ≤ 0
                          · have hg3 : decide ((cb x y : Int) ≤ 0) = true := by simp; omega
                            have R := hide (fun q => (unhide HM).left q h1 hx (Or.inr ⟨y, by omega, hy, by simp [leS]; exact h3⟩))
                            clear hx hy hsum hMj htE
                            go_wp2
                            go_quiet ((go_at_call 37; exact Calls.quiet_of (cmp37q _ _ _ hxs hys)))
                            go_wp2
                            go_roundw
                            case rel => exact ⟨i + 1, j, t + 1, E ++ [x], by go_num, rfl, by go_num, by omega, by omega, by omega, unhide R _⟩
                            case measure => simp [intOf]; omega
                          · have hg3 : decide ((cb x y : Int) ≤ 0) = false := by simp; omega
                            have R := hide (fun q => (unhide HM).right q (by omega) hy (Or.inr ⟨x, h1, hx, by simp [leS]; omega⟩))
                            clear hx hy hsum hMj htE
                            go_wp2
                            go_quiet ((go_at_call 37; exact Calls.quiet_of (cmp37q _ _ _ hxs hys)))
                            go_wp2
                            go_roundw
                            case rel => exact ⟨i, j + 1, t + 1, E ++ [y], rfl, by go_num, by go_num, by omega, by omega, by omega, unhide R _⟩
                            case measure => simp [intOf]; omega
                      · obtain ⟨y, hy⟩ := get_some (l := A) (i := j) (by have := unhide HAl; omega)
                        have hcy := (unhide HM).srcCell (by omega) hy
                        have hj1 : (j : Int) < (k : Int) := by omega
                        have hjlt : j < k := by omega
                        have hg1 : decide ((i : Int) < ((lo : Int) + (wd : Int))) = false := by simp; omega
                        have R := hide (fun q => (unhide HM).right q hjlt hy (Or.inl (by omega)))
                        clear hy hsum hMj htE
                        go_wp2
                        go_quiet (fail)
                        go_wp2
                        go_roundw
                        case rel => exact ⟨i, j + 1, t + 1, E ++ [y], rfl, by go_num, by go_num, by omega, by omega, by omega, unhide R _⟩
                        case measure => simp [intOf]; omega
                    · have RP := hide ((unhide HM).done leS_tot (by omega) (unhide HS).blk hw1 (by omega) (by omega) (unhide HAl))
                      go_wp2
                      go_roundw
                      case rel => exact ⟨lo + 2 * wd, _, by go_num, by omega, RP⟩
                      case measure => simp [intOf]; omega
                · have hd2 : decide ((k : Int) < (lo : Int) + 2 * (wd : Int)) = false := by simp; omega
                  have M0 : Hid (MRel Value.string ByteArray.empty leS 9 k w wd X Y A lo (lo + wd) (lo + 2 * wd) D [] lo (lo + wd) lo wr) := (unhide HP).mstart hlk (by omega) (by omega) (unhide HAl)
                  go_wp2
                  go_loopw [11, 12, 13] (fun iv jv kv wr => ∃ (i j t : Nat) (E : List ByteArray), iv = .int .i64 i ∧ jv = .int .i64 j ∧ kv = .int .i64 t ∧ i ≤ (lo + wd) ∧ j ≤ (lo + 2 * wd) ∧ t ≤ (lo + 2 * wd) ∧ Hid (MRel Value.string ByteArray.empty leS 9 k w wd X Y A lo (lo + wd) (lo + 2 * wd) D E i j t wr)) (fun _ _ kv _ => (lo + 2 * wd) - (intOf kv).toNat)
                  case atStart => exact ⟨lo, (lo + wd), lo, [], rfl, by first | rfl | go_num, rfl, by omega, by omega, by omega, M0⟩
                  case round =>
                    clear M0
                    obtain ⟨i, j, t, E, rfl, rfl, rfl, hiM, hjH, htH, HM⟩ := hrel
                    by_cases htlt : t < (lo + 2 * wd)
                    · have hsum := (unhide HM).inv.2.2.2.2.1
                      have hMj := (unhide HM).inv.2.2.1
                      have htE := (unhide HM).kk
                      have htn : t < k := by omega
                      have hold : ∃ v, wr.cell? ⟨Y, t, none⟩ = some v := (unhide HM).dstCell htn
                      obtain ⟨v, hold⟩ := hold
                      have hfz := (unhide HM).dstFrozen t
                      have ht1 : (t : Int) < (k : Int) := by omega
                      by_cases h1 : i < (lo + wd)
                      · obtain ⟨x, hx⟩ := get_some (l := A) (i := i) (by have := unhide HAl; omega)
                        have hcx := (unhide HM).srcCell (by omega) hx
                        have hi1 : (i : Int) < (k : Int) := by omega
                        have hg1 : decide ((i : Int) < ((lo : Int) + (wd : Int))) = true := by simp; omega
                        by_cases h2 : (lo + 2 * wd) ≤ j
                        · have hg2 : decide (((lo : Int) + 2 * (wd : Int)) ≤ (j : Int)) = true := by simp; omega
                          have R := hide (fun q => (unhide HM).left q h1 hx (Or.inl h2))
                          clear hx hsum hMj htE
                          go_wp2
                          go_quiet (fail)
                          go_wp2
                          go_roundw
                          case rel => exact ⟨i + 1, j, t + 1, E ++ [x], by go_num, rfl, by go_num, by omega, by omega, by omega, unhide R _⟩
                          case measure => simp [intOf]; omega
                        · obtain ⟨y, hy⟩ := get_some (l := A) (i := j) (by have := unhide HAl; omega)
                          have hcy := (unhide HM).srcCell (by omega) hy
                          have hj1 : (j : Int) < (k : Int) := by omega
                          have hg2 : decide (((lo : Int) + 2 * (wd : Int)) ≤ (j : Int)) = false := by simp; omega
                          have hxs := unhide HZ x ((unhide HS).mem hx)
                          have hys := unhide HZ y ((unhide HS).mem hy)
                          by_cases h3 : cb x y ≤ 0
                          · have hg3 : decide ((cb x y : Int) ≤ 0) = true := by simp; omega
                            have R := hide (fun q => (unhide HM).left q h1 hx (Or.inr ⟨y, by omega, hy, by simp [leS]; exact h3⟩))
                            clear hx hy hsum hMj htE
                            go_wp2
                            go_quiet ((go_at_call 37; exact Calls.quiet_of (cmp37q _ _ _ hxs hys)))
                            go_wp2
                            go_roundw
                            case rel => exact ⟨i + 1, j, t + 1, E ++ [x], by go_num, rfl, by go_num, by omega, by omega, by omega, unhide R _⟩
                            case measure => simp [intOf]; omega
                          · have hg3 : decide ((cb x y : Int) ≤ 0) = false := by simp; omega
                            have R := hide (fun q => (unhide HM).right q (by omega) hy (Or.inr ⟨x, h1, hx, by simp [leS]; omega⟩))
                            clear hx hy hsum hMj htE
                            go_wp2
                            go_quiet ((go_at_call 37; exact Calls.quiet_of (cmp37q _ _ _ hxs hys)))
                            go_wp2
                            go_roundw
                            case rel => exact ⟨i, j + 1, t + 1, E ++ [y], rfl, by go_num, by go_num, by omega, by omega, by omega, unhide R _⟩
                            case measure => simp [intOf]; omega
                      · obtain ⟨y, hy⟩ := get_some (l := A) (i := j) (by have := unhide HAl; omega)
                        have hcy := (unhide HM).srcCell (by omega) hy
                        have hj1 : (j : Int) < (k : Int) := by omega
                        have hjlt : j < (lo + 2 * wd) := by omega
                        have hg1 : decide ((i : Int) < ((lo : Int) + (wd : Int))) = false := by simp; omega
                        have R := hide (fun q => (unhide HM).right q hjlt hy (Or.inl (by omega)))
                        clear hy hsum hMj htE
                        go_wp2
                        go_quiet (fail)
                        go_wp2
                        go_roundw
                        case rel => exact ⟨i, j + 1, t + 1, E ++ [y], rfl, by go_num, by go_num, by omega, by omega, by omega, unhide R _⟩
                        case measure => simp [intOf]; omega
                    · have RP := hide ((unhide HM).done leS_tot (by omega) (unhide HS).blk hw1 (by omega) (by omega) (unhide HAl))
                      go_wp2
                      go_roundw
                      case rel => exact ⟨lo + 2 * wd, _, by go_num, by omega, RP⟩
                      case measure => simp [intOf]; omega
            · have HS2 := hide ((unhide HS).passed (unhide HP) (by omega))
              go_wp2
              go_roundw
              case rel => exact ⟨Y, X, 2 * wd, D, rfl, rfl, by go_num, by omega, by omega, HS2⟩
              case measure => simp [intOf]; omega
        · have HF := hide ((unhide HS).fin hw1 (by omega))
          go_wp2
          go_ret
          exact ⟨X, A, rfl, unhide HF⟩

end Go.Proofs.Qxb6605915a.Strs
