/- pack: the strings of a list end to end in one string, with where each ends -/
import Derived.Test.Qxb6605915aBuilder
import Derived.Test.Qxb6605915aShelf
namespace Go.Proofs.Qxb6605915a.Strs
open Go.ChangeShapes Go.WideShapes Go.ChangeAt Go.RowKit
set_option linter.unusedVariables false

theorem info73 : (Try.prog.info? 73).map (fun i => (i.zero, i.size, i.bytes)) = some (some (.int .u32 0), 1, 4) := by kernel_rfl

/-- pack's post -/
def Packed (S : List ByteArray) (w : World) (e : Ending) (w' : World) : Prop :=
  ∃ ea n ec, e = .returned (.agg #[.string (cat S), .slice ea n ec]) ∧ Sl encE w' ea n (endsOf S) ∧ Below w.heap.size w w' ∧ ∀ ad, ea = some ad → w.heap.size ≤ ad.block

/-- what the second loop keeps -/
structure PackRel (S : List ByteArray) (W : World) (B E n k : Nat) (wr : World) : Prop where
  bld : Lib.IsBuilderF 99 5 B B (Lib.byteCells (bytesOf (S.take k))) wr
  row : wr.rowIs E 73 n (fun j => if j < k then encE (tot (S.take (j + 1))) else .int .u32 0)
  bel : Below B W wr
  ne : E ≠ B
  le : B ≤ E

theorem bld_setOther {E : Nat} {t : TypeId} {n : Nat} {f : Nat → Value} {B b : Nat} {bs : List Value} {w : World} (h : Lib.IsBuilderF 99 5 B b bs w) (hr : w.rowIs E t n f) (ht : t ≠ 5) (hne : E ≠ b) (i : Nat) (v : Value) :
    Lib.IsBuilderF 99 5 B b bs (w.setCell ⟨E, i, none⟩ v) := by
  obtain ⟨c, hc, _, _⟩ := hr
  have key : ∀ p, Lib.BuilderAtF 99 5 B b p bs w → Lib.BuilderAtF 99 5 B b p bs (w.setCell ⟨E, i, none⟩ v) := by
    rintro p ⟨hB, v', hb, hown, hne'⟩
    have h2 := Lib.ownBlock_neF hown hc ht
    refine ⟨hB, v', ?_, ?_, hne'⟩
    · rw [Below.heap_setCell _ _ _ _ (by simpa using Ne.symm hne)]; exact hb
    · exact hown.kept (row := some E) ⟨rfl, rfl, rfl, by simp [World.setCell], fun k _ hk => Below.heap_setCell _ _ _ _ (fun e => hk (by simp [e]))⟩ (Or.inr h2)
  rcases h with h | h
  · exact .inl (key _ h)
  · exact .inr (key _ h)

theorem rowIs_kept {w w' : World} {E b : Nat} {n : Nat} {f : Nat → Value} (h : w.rowIs E 73 n f) (hk : Lib.OthersKept 5 (some b) w w') (hne : E ≠ b) : w'.rowIs E 73 n f := by
  obtain ⟨c, hc, hn, hf⟩ := h
  refine ⟨c, hk E _ hc (by simpa using hne) ?_, hn, hf⟩
  intro c' fz he
  simp at he

theorem byteCells_snoc_str (S : List ByteArray) (k : Nat) (x : ByteArray) (h : S[k]? = some x) : Lib.byteCells (bytesOf (S.take k)) ++ Lib.strCells x = Lib.byteCells (bytesOf (S.take (k + 1))) := by
  rw [List.take_add_one, h, bytesOf_append, Lib.byteCells_append, Lib.strCells_eq]
  simp [bytesOf]

theorem pack_start (w : World) : let W := ((w.alloc (Obj.cells #[Value.string { data := #[] }, Value.slice none 0 0] 70)).alloc (Obj.cells #[Value.pointer none, Value.slice none 0 0] 99));
    W.heap[w.heap.size + 1]? = some (.cells #[.pointer none, .slice none 0 0] 99 (0, 0)) ∧ w.heap.size + 1 ≤ W.heap.size ∧ (∀ p : Addr, p.block < w.heap.size → W.cell? p = w.cell? p) ∧ Below w.heap.size w W ∧ W.heap[w.heap.size]? = some (.cells #[.string { data := #[] }, .slice none 0 0] 70 (0, 0)) := by
  have hb : Below w.heap.size w ((w.alloc (Obj.cells #[Value.string { data := #[] }, Value.slice none 0 0] 70)).alloc (Obj.cells #[Value.pointer none, Value.slice none 0 0] 99)) := ((Below.refl _ _).alloc (Nat.le_refl _) _).alloc (by simp) _
  refine ⟨?_, by simp, fun p hp => hb.cell hp, hb, ?_⟩
  · have h := Deep.blk_alloc_new (w.alloc (Obj.cells #[Value.string { data := #[] }, Value.slice none 0 0] 70)) (Obj.cells #[Value.pointer none, Value.slice none 0 0] 99)
    rwa [Deep.nblk_alloc] at h
  · exact (Deep.blk_alloc_lt _ _ _ (by simp)).trans (Deep.blk_alloc_new _ _)

set_option maxRecDepth 100000 in
set_option maxHeartbeats 2000000 in
theorem pack58 (S : List ByteArray) (a : Option Addr) (n c : Nat) (w : World) (hn : n ≤ 16777216) (ht : tot S ≤ 16777216) (h : Sl Value.string w a n S) :
    Calls Try.prog 58 #[.slice a n c] w (Packed S w) := by
  have hlen := h.len
  have H := hide h
  have HL := hide hlen
  clear h hlen
  have hmk := fun W => run_make_row' (P := Try.prog) 36 73 (.int .u32 0) 4 Try.underlying36 info73 rfl .i64 .i64 n (by omega) (by omega) W
  go_enter Try.func58, Try.ntmps58
  go_wp2
  go_loop [3, 5, 12] (fun z _ i => ∃ k : Nat, k ≤ n ∧ i = .int .i64 k ∧ z = .int .i64 (tot (S.take k) : Nat)) (fun _ _ i => n - (intOf i).toNat)
  case atStart => exact ⟨0, Nat.zero_le _, rfl, rfl⟩
  case round =>
    obtain ⟨k, hk, rfl, rfl⟩ := hrel
    by_cases hlt : k < n
    · obtain ⟨b, off, x, ha, hx, hc⟩ := (unhide H).at k hlt
      have HT := hide (tot_take_succ S k x hx)
      have hle := tot_take_le S (k + 1)
      have hle' : tot (S.take k) + x.size ≤ 16777216 := by have := unhide HT; omega
      have hc' := fun o => (Below.alloc (Below.refl w.heap.size w) (Nat.le_refl _) o).cell (cell_lt hc) |>.trans hc
      clear hx hle hc
      rw [ha]
      clear ha
      generalize tot (S.take k) = T at *
      go_wp2
      go_round
      case rel => exact ⟨k + 1, by omega, by go_num, by rw [unhide HT]; go_num⟩
      case measure => simp [intOf]; omega
    · obtain rfl : k = n := by omega
      have e : S.take k = S := List.take_of_length_le (by have := unhide HL; omega)
      rw [e]
      clear e
      have hcR := pack_start w
      generalize hW : ((w.alloc (Obj.cells #[Value.string { data := #[] }, Value.slice none 0 0] 70)).alloc (Obj.cells #[Value.pointer none, Value.slice none 0 0] 99)) = W at hcR
      have HW := hide hW
      have HcR := hide hcR
      clear hcR hW
      go_wp2_with fail
      rw [unhide HW]
      refine (Try.Builder_Grow_fresh_cap (w.heap.size + 1) (w.heap.size + 1) (tot S) W (Nat.le_refl _) (unhide HcR).1 (unhide HcR).2.1 (by omega)).mono ?_
      rintro _ w1 ⟨rfl, ⟨hbld, hbel⟩, _⟩
      have R0 : Hid (PackRel S W (w.heap.size + 1) w1.heap.size k 0 (w1.alloc (.cells (madeCells #[.int .u32 0] k) 73))) := by
        have hlt := hbld.lt
        refine ⟨?_, ?_, ?_, by omega, by omega⟩
        · exact (Lib.IsBuilderF.of (.inr hbld)).alloc _
        · exact (World.rowIs_made w1 _ k 73).congr (fun j _ => by simp)
        · exact hbel.alloc (by omega) _
      clear hbld hbel
      go_wp2
      generalize w1.heap.size = E at *
      go_loopw [8, 9, 28] (fun _ _ i wr => ∃ m : Nat, m ≤ k ∧ i = .int .i64 m ∧ Hid (PackRel S W (w.heap.size + 1) E k m wr)) (fun _ _ i _ => k - (intOf i).toNat)
      case atStart => exact ⟨0, Nat.zero_le _, rfl, R0⟩
      case round =>
        obtain ⟨m, hm, rfl, HR⟩ := hrel
        by_cases hlt2 : m < k
        · obtain ⟨b, off, x, ha, hx, hc⟩ := (unhide H).at m hlt2
          have hc1 : wr.cell? ⟨b, off + m, none⟩ = some (.string x) := ((unhide HR).bel.cell (Nat.lt_trans (cell_lt hc) (Nat.lt_succ_self _))).trans (((unhide HcR).2.2.1 ⟨b, off + m, none⟩ (cell_lt hc)).trans hc)
          have hle := tot_take_le S (m + 1)
          have HT := hide (tot_take_succ S m x hx)
          have hxz : (Lib.byteCells (bytesOf (S.take m))).length + x.size ≤ 140737488355328 := by rw [Lib.byteCells_length, bytesOf_length]; have := unhide HT; omega
          have HX := hide hx
          clear hx hc
          rw [ha]
          clear ha
          go_wp2_with fail
          refine (write66 (w.heap.size + 1) (w.heap.size + 1) _ x wr (unhide HR).bld hxz ?_).mono ?_
          · have h1 := (unhide HR).bel.size; have h2 := (unhide HcR).2.1; omega
          rintro _ w2 ⟨rfl, hb2, hbel2, hk2⟩
          rw [byteCells_snoc_str S m x (unhide HX)] at hb2
          have hrow2 := rowIs_kept (unhide HR).row hk2 (unhide HR).ne
          have hlen2 : (Lib.byteCells (bytesOf (S.take (m + 1)))).length = tot (S.take (m + 1)) := by rw [Lib.byteCells_length, bytesOf_length]
          have Hb2 := hide hb2
          have Hrow2 := hide hrow2
          have Hbel2 := hide hbel2
          have Hlen2 := hide hlen2
          clear hb2 hbel2 hk2 hrow2 hlen2
          go_wp2_with fail
          refine (Try.Builder_Len_f (w.heap.size + 1) (w.heap.size + 1) _ w2 (.inr (unhide Hb2))).mono ?_
          rintro _ w2 ⟨rfl, rfl⟩
          rw [unhide Hlen2]
          have hb20 : tot (S.take (m + 1)) ≤ 16777216 := by omega
          have hold : w2.cell? ⟨E, m, none⟩ = some (.int .u32 0) := by rw [(unhide Hrow2).cell hlt2]; simp
          have hfz := (unhide Hrow2).frozen m
          have R2 : Hid (PackRel S W (w.heap.size + 1) E k (m + 1) (w2.setCell ⟨E, m, none⟩ (.int .u32 (tot (S.take (m + 1)) : Nat)))) := by
            have r := unhide HR
            refine ⟨bld_setOther (.inr (unhide Hb2)) (unhide Hrow2) (by decide) r.ne m _, ?_, ?_, r.ne, r.le⟩
            · refine ((unhide Hrow2).set m _).congr ?_
              intro j _
              by_cases e : j = m
              · subst e; simp [encE]
              · simp only [if_neg e]
                by_cases e2 : j < m
                · rw [if_pos e2, if_pos (by omega)]
                · rw [if_neg e2, if_neg (by omega)]
            · exact (r.bel.trans (unhide Hbel2)).setCell (p := ⟨E, m, none⟩) r.le _
          generalize tot (S.take (m + 1)) = T at *
          go_wp2
          go_roundw
          case rel => exact ⟨m + 1, by omega, by go_num, R2⟩
          case measure => simp [intOf]; omega
        · obtain rfl : m = k := by omega
          have e : S.take m = S := List.take_of_length_le (by have := unhide HL; omega)
          have HR' : Hid (Lib.IsBuilderF 99 5 (w.heap.size + 1) (w.heap.size + 1) (Lib.byteCells (bytesOf S)) wr) := by have h := (unhide HR).bld; rw [e] at h; exact h
          go_wp2_with fail
          refine (Try.Builder_String_any_k (w.heap.size + 1) (w.heap.size + 1) (bytesOf S) wr (unhide HR') ?_).mono ?_
          · have h1 := (unhide HR).bel.size; have h2 := (unhide HcR).2.1; omega
          rintro _ w3 ⟨rfl, _, hbel3, hk3⟩
          have hblk : w3.heap[w.heap.size]? = some (.cells #[.string { data := #[] }, .slice none 0 0] 70 (0, 0)) := by
            rw [hbel3.block _ (Nat.lt_succ_self _), (unhide HR).bel.block _ (Nat.lt_succ_self _)]
            exact (unhide HcR).2.2.2.2
          have hA0 : w3.cell? ⟨w.heap.size, 0, none⟩ = some (.string { data := #[] }) := by rw [Lib.cell_of_heap hblk]; rfl
          have hA1 : w3.cell? ⟨w.heap.size, 1, none⟩ = some (.slice none 0 0) := by rw [Lib.cell_of_heap hblk]; rfl
          have hF0 := Lib.frozen_of_heap hblk 0
          have hF1 := Lib.frozen_of_heap hblk 1
          have hrow3 := hide (rowIs_kept (unhide HR).row hk3 (unhide HR).ne)
          have hB3 : Hid (Below w.heap.size w w3) := ((unhide HcR).2.2.2.1.trans ((unhide HR).bel.mono (Nat.le_succ _))).trans (hbel3.mono (Nat.le_succ _))
          have hEne : E ≠ w.heap.size := by have := (unhide HR).le; omega
          clear hblk hbel3 hk3
          go_wp2
          have hs0 : (w3.setCell ⟨w.heap.size, 0, none⟩ (.string { data := (bytesOf S).toArray })).cell? ⟨w.heap.size, 0, none⟩ = some (.string { data := (bytesOf S).toArray }) := World.cell?_setCell_same _ _ _ hA0
          have hs1 : ((w3.setCell ⟨w.heap.size, 0, none⟩ (.string { data := (bytesOf S).toArray })).setCell ⟨w.heap.size, 1, none⟩ (.slice (some ⟨E, 0, none⟩) m m)).cell? ⟨w.heap.size, 1, none⟩ = some (.slice (some ⟨E, 0, none⟩) m m) := World.cell?_setCell_same _ _ _ (u := .slice none 0 0) ((World.cell?_setCell_other (w := w3) (a := ⟨w.heap.size, 0, none⟩) (b := ⟨w.heap.size, 1, none⟩) (v := _) (h := by simp)).trans hA1)
          refine bodyPost_ret (v := .agg #[.string (cat S), .slice (some ⟨E, 0, none⟩) m m]) (by simp [results, Try.results58, go_sem, hs0, hs1]; rfl) rfl ⟨_, _, _, rfl, ?_, ?_, fun ad h => by cases h; have := (unhide HR).le; show w.heap.size ≤ E; omega⟩
          · have hr := ((unhide hrow3).setOther (a := ⟨w.heap.size, 0, none⟩) (by simpa using hEne) (.string (cat S))).setOther (a := ⟨w.heap.size, 1, none⟩) (by simpa using hEne) (.slice (some ⟨E, 0, none⟩) m m)
            refine Sl.of_rowIs hr (by rw [endsOf_length]; exact unhide HL) ?_
            intro j x hx
            have hj := (List.getElem?_eq_some_iff.1 hx).1
            rw [endsOf_length] at hj
            rw [endsOf_get S j hj] at hx
            cases hx
            have := unhide HL
            rw [if_pos (by omega)]
          · exact ((unhide hB3).setCell (p := ⟨w.heap.size, 0, none⟩) (Nat.le_refl _) _).setCell (p := ⟨w.heap.size, 1, none⟩) (Nat.le_refl _) _

end Go.Proofs.Qxb6605915a.Strs
