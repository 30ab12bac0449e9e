/- strings.Builder's copyCheck and WriteString at this program (the shelf's two are not laid here: this cut's copyCheck bears a refused arm, which no run below comes to). After the shelf's own proofs. -/
import Derived.Test.Qxb6605915aSetOf
import Derived.Shelf.Strings.BuilderK
namespace Go.Proofs.Qxb6605915a.Strs
open Go.ChangeShapes Go.WideShapes Go.ChangeAt Go.RowKit
set_option linter.unusedVariables false

theorem sizeB : (Try.prog.info? 99).map (·.size) = some 2 := by kernel_rfl
theorem liesB : liesAt Try.prog Try.prog.depth 99 (2 / Try.prog.cellsOf 99) 0 99 1 = true := by kernel_rfl
theorem infoByte : (Try.prog.info? 5).map (fun i => (i.zero, i.size, i.bytes)) = some (some (.int .u8 0), 1, 1) := by kernel_rfl

/-- a pointer as a bare place, and back: the address as it is -/
theorem to_place (b : Nat) (w : World) (hsh : w.shape? b = some (99, 2)) : (convert 96 122 (.pointer (some ⟨b, 0, none⟩))).run Try.prog w = .ok (.pointer (some ⟨b, 0, none⟩)) w := by
  obtain ⟨j, hj, hjs⟩ := Option.map_eq_some_iff.1 sizeB
  simp [convert, run_underlying Try.underlying96, run_underlying Try.underlying122]
  show Sem.run Try.prog (underlying 96 >>= _) w = _
  simp [run_underlying Try.underlying96, run_underlying Try.underlying122, Conv.seenAt, viewAt, cellsIn, hsh, sizeOf, typeInfo, hj, hjs]

theorem from_place (b : Nat) (w : World) (hsh : w.shape? b = some (99, 2)) : (convert 122 96 (.pointer (some ⟨b, 0, none⟩))).run Try.prog w = .ok (.pointer (some ⟨b, 0, none⟩)) w := by
  obtain ⟨j, hj, hjs⟩ := Option.map_eq_some_iff.1 sizeB
  simp [convert, run_underlying Try.underlying96, run_underlying Try.underlying122]
  show Sem.run Try.prog (underlying 122 >>= _) w = _
  simp [run_underlying Try.underlying96, run_underlying Try.underlying122, Conv.seenAt, viewAt, hsh, variablesAt, liesB, sizeOf, typeInfo, hj]

set_option maxHeartbeats 1000000 in
set_option maxRecDepth 100000 in
theorem check_used (b : Nat) (w : World) (h0 : w.cell? ⟨b, 0, none⟩ = some (.pointer (some ⟨b, 0, none⟩))) :
    Calls Try.prog 74 #[.pointer (some ⟨b, 0, none⟩)] w fun e w' => e = .returned (.tuple #[]) ∧ w' = w := by
  obtain ⟨j, hj, _⟩ := Option.map_eq_some_iff.1 sizeB
  go_enter Try.func74, Try.ntmps74
  go_wp2
  rw [Lib.run_neq_ptr_same w _ Try.underlying96 hj]
  go_wp2
  go_end0
  exact ⟨rfl, rfl⟩

set_option maxHeartbeats 1000000 in
set_option maxRecDepth 100000 in
theorem check_fresh (b : Nat) (w : World) (h0 : w.cell? ⟨b, 0, none⟩ = some (.pointer none)) (hsh : w.shape? b = some (99, 2)) (hfz : w.frozen? ⟨b, 0, none⟩ = false) :
    Calls Try.prog 74 #[.pointer (some ⟨b, 0, none⟩)] w fun e w' => e = .returned (.tuple #[]) ∧ w' = w.setCell ⟨b, 0, none⟩ (.pointer (some ⟨b, 0, none⟩)) := by
  go_enter Try.func74, Try.ntmps74
  go_wp2
  rw [to_place b w hsh]
  simp only [Result.andThen]
  rw [Oper.upon_value]
  go_wp2
  rw [run_callFunc_extern Try.func88 (by kernel_rfl) (by kernel_rfl) (by kernel_rfl) (e := Extern.AbiNoEscape.same) (by kernel_rfl)]
  rw [Lib.run_noEscape]
  simp only [Result.andThen]
  rw [Oper.upon_value]
  go_wp2
  rw [from_place b w hsh]
  simp only [Result.andThen]
  rw [Oper.upon_value]
  go_wp2
  go_end0
  exact ⟨rfl, rfl⟩

theorem check74 (B b : Nat) (bs : List Value) (w : World) (h : Lib.IsBuilderF 99 5 B b bs w) :
    Calls Try.prog 74 #[.pointer (some ⟨b, 0, none⟩)] w fun e w' => e = .returned (.tuple #[]) ∧ (Lib.BuilderAtF 99 5 B b (.pointer (some ⟨b, 0, none⟩)) bs w' ∧ Below B w w' ∧ Lib.OthersKept 5 (some b) w w') := by
  rcases h with h | h
  · refine (check_fresh b w h.cell0 h.shape h.frozen0).mono ?_
    rintro e w' ⟨rfl, rfl⟩
    exact ⟨rfl, h.used _, (Below.refl B w).setCell (p := ⟨b, 0, none⟩) h.1 _, (Lib.OthersKept.refl _ _ w).setCell ⟨b, 0, none⟩ rfl _⟩
  · refine (check_used b w h.cell0).mono ?_
    rintro e w' ⟨rfl, rfl⟩
    exact ⟨rfl, h, Below.refl B _, Lib.OthersKept.refl _ _ _⟩

set_option maxHeartbeats 2000000 in
set_option maxRecDepth 100000 in
theorem write66 (B b : Nat) (bs : List Value) (s : ByteArray) (w : World) (h : Lib.IsBuilderF 99 5 B b bs w) (hlen : bs.length + s.size ≤ 140737488355328) (hBw : B ≤ w.heap.size) :
    Calls Try.prog 66 #[.pointer (some ⟨b, 0, none⟩), .string s] w fun e w' => e = .returned (.tuple #[.int .i64 s.size, .nilIface]) ∧ (Lib.BuilderAtF 99 5 B b (.pointer (some ⟨b, 0, none⟩)) (bs ++ Lib.strCells s) w' ∧ Below B w w' ∧ Lib.OthersKept 5 (some b) w w') := by
  obtain ⟨i0, hi, hz0, hz1, hz2⟩ := info_parts infoByte
  go_enter Try.func66, Try.ntmps66
  go_wp2_with (go_at_call 74; refine (check74 B b bs _ h).mono ?_)
  rintro e w1 ⟨rfl, h1, hb1, hk1⟩
  obtain ⟨hB, v, hbk, hown, hne⟩ := h1
  have c0 : w1.cell? ⟨b, 0, none⟩ = some (.pointer (some ⟨b, 0, none⟩)) := by rw [Lib.cell_of_heap hbk]; rfl
  have c1 : w1.cell? ⟨b, 1, none⟩ = some v := by rw [Lib.cell_of_heap hbk]; rfl
  go_wp2_with (at_builtin; refine Lib.wpList_append_own_stringF _ rfl _ _ 97 9 rfl B 5 i0 Try.underlying97 Try.underlying9 hi hz0 hz1 hz2 _ _ _ rfl hown s rfl ?c3 ?c4 ?c5 ?_)
  case c3 => unfold maxLen; omega
  case c4 => omega
  case c5 => have := hb1.size; omega
  intro v' w2 hown' hgrow _
  have hlt : b < w1.heap.size := by
    rcases Nat.lt_or_ge b w1.heap.size with h' | h'
    · exact h'
    · simp [Array.getElem?_eq_none h'] at hbk
  have hb2 : w2.heap[b]? = some (.cells #[.pointer (some ⟨b, 0, none⟩), v] 99 (0, 0)) := by
    rw [hgrow.block b hlt (fun e => hne e.symm)]
    exact hbk
  have d0 : w2.cell? ⟨b, 0, none⟩ = some (.pointer (some ⟨b, 0, none⟩)) := by rw [Lib.cell_of_heap hb2]; rfl
  have d1 : w2.cell? ⟨b, 1, none⟩ = some v := by rw [Lib.cell_of_heap hb2]; rfl
  have f1 : w2.frozen? ⟨b, 1, none⟩ = false := Lib.frozen_of_heap hb2 1
  obtain ⟨ao, n', cap, rfl⟩ : ∃ ao n' cap, v' = .slice ao n' cap := by
    rcases hown'.2 with ⟨hv, _⟩ | ⟨g, cap, cur, fz, hv, _⟩
    · exact ⟨_, _, _, hv⟩
    · exact ⟨_, _, _, hv⟩
  go_wp2
  go_ret2
  refine ⟨rfl, ?_, ?_, (hk1.grown hgrow (Lib.ownsRowF_kind hown)).setCell ⟨b, 1, none⟩ rfl _⟩
  · exact Lib.BuilderAtF.put (T := 99) (e := 5) hB hb2 (bs' := bs ++ Lib.strCells s) (by simpa [Lib.strCells_length] using hown') (by decide)
  · exact (hb1.grown hgrow (by have := hb1.size; omega) (fun k hk => (hown.lt k hk).1)).setCell (p := ⟨b, 1, none⟩) hB _

end Go.Proofs.Qxb6605915a.Strs
