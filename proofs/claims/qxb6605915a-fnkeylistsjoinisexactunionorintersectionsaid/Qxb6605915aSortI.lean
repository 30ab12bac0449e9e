/- sortInts: a bottom-up merge sort walked -/
import Derived.Test.Qxb6605915aKeys
import Derived.Test.Qxb6605915aMerge
namespace Go.Proofs.Qxb6605915a.Strs
open Go.ChangeShapes Go.WideShapes Go.ChangeAt Go.RowKit
set_option linter.unusedVariables false

structure TotLe {α : Type} (le : α → α → Bool) : Prop where
  trans : ∀ a b c, le a b = true → le b c = true → le a c = true
  tot : ∀ a b, (le a b || le b a) = true

def leI (a b : Int) : Bool := decide (a ≤ b)
def leS (a b : ByteArray) : Bool := decide (cb a b ≤ 0)
theorem leI_tot : TotLe leI := ⟨fun a b c h1 h2 => by simp only [leI, decide_eq_true_eq] at *; omega, fun a b => by simp only [leI, Bool.or_eq_true, decide_eq_true_eq]; omega⟩
theorem leS_tot : TotLe leS := ⟨fun a b c h1 h2 => by simp only [leS, decide_eq_true_eq] at *; exact totCb.trans_le a b c h1 h2, fun a b => by simp only [leS, Bool.or_eq_true, decide_eq_true_eq]; have := cb_anti a b; omega⟩

/-- the sorter's post: a sorted row in new memory -/
def SortedTo {α : Type} (enc : α → Value) (le : α → α → Bool) (l : List α) (n : Nat) (w : World) (e : Ending) (w' : World) : Prop :=
  ∃ X A, e = .returned (.slice (some ⟨X, 0, none⟩) n n) ∧ Sl enc w' (some ⟨X, 0, none⟩) n A ∧ A.Perm l ∧ (A.Pairwise fun a b => le a b = true) ∧ Below w.heap.size w w'

section
variable {α : Type}

structure SRel (enc : α → Value) (z : α) (le : α → α → Bool) (ty : TypeId) (l : List α) (n : Nat) (w : World) (wd X Y : Nat) (A : List α) (wr : World) : Prop where
  ne : X ≠ Y
  bX : w.heap.size ≤ X
  bY : w.heap.size ≤ Y
  len : n = A.length
  perm : A.Perm l
  blk : Blk le wd A
  src : wr.rowIs X ty n (fun j => enc (A.getD j z))
  dst : ∃ f : Nat → Value, wr.rowIs Y ty n f
  bel : Below w.heap.size w wr

structure PRel (enc : α → Value) (z : α) (le : α → α → Bool) (ty : TypeId) (n : Nat) (w : World) (wd X Y : Nat) (A : List α) (lo : Nat) (D : List α) (wr : World) : Prop where
  inv : PInv le A wd lo D
  ne : X ≠ Y
  bX : w.heap.size ≤ X
  bY : w.heap.size ≤ Y
  src : wr.rowIs X ty n (fun j => enc (A.getD j z))
  dst : ∃ f : Nat → Value, wr.rowIs Y ty n (fun j => if j < D.length then enc (D.getD j z) else f j)
  bel : Below w.heap.size w wr

structure MRel (enc : α → Value) (z : α) (le : α → α → Bool) (ty : TypeId) (n : Nat) (w : World) (wd X Y : Nat) (A : List α) (lo mid hi : Nat) (D E : List α) (i j t : Nat) (wr : World) : Prop where
  inv : MInv le A lo mid hi E i j
  kk : t = lo + E.length
  lt : lo < n
  pin : PInv le A wd lo D
  dl : D.length = lo
  ne : X ≠ Y
  bX : w.heap.size ≤ X
  bY : w.heap.size ≤ Y
  src : wr.rowIs X ty n (fun j => enc (A.getD j z))
  dst : ∃ f : Nat → Value, wr.rowIs Y ty n (fun x => if x < (D ++ E).length then enc ((D ++ E).getD x z) else f x)
  bel : Below w.heap.size w wr

variable {enc : α → Value} {z : α} {le : α → α → Bool} {ty : TypeId} {l : List α} {n : Nat} {w : World} {wd X Y : Nat} {A : List α} {wr wr' : World} {lo mid hi : Nat} {D E : List α} {i j t : Nat}

theorem SRel.pstart (h : SRel enc z le ty l n w wd X Y A wr) : PRel enc z le ty n w wd X Y A 0 [] wr := by
  obtain ⟨f, hf⟩ := h.dst
  exact ⟨pinv_start A wd, h.ne, h.bX, h.bY, h.src, ⟨f, hf.congr (fun j _ => by simp)⟩, h.bel⟩

theorem SRel.mem (h : SRel enc z le ty l n w wd X Y A wr) {i : Nat} {x : α} (hx : A[i]? = some x) : x ∈ l := h.perm.mem_iff.1 (List.mem_of_getElem? hx)

theorem PRel.mstart (h : PRel enc z le ty n w wd X Y A lo D wr) (hlo : lo < n) (h1 : lo ≤ mid) (h2 : mid ≤ hi) (hA : n = A.length) : MRel enc z le ty n w wd X Y A lo mid hi D [] lo mid lo wr := by
  refine ⟨minv_start A lo mid hi h1 h2, by simp, hlo, h.inv, by rw [pinv_len h.inv]; omega, h.ne, h.bX, h.bY, h.src, ?_, h.bel⟩
  obtain ⟨f, hf⟩ := h.dst
  exact ⟨f, hf.congr (fun j _ => by simp)⟩

theorem MRel.dstCell (h : MRel enc z le ty n w wd X Y A lo mid hi D E i j t wr) {k : Nat} (hk : k < n) : ∃ v, wr.cell? ⟨Y, k, none⟩ = some v := by
  obtain ⟨f, hf⟩ := h.dst
  exact ⟨_, hf.cell hk⟩
theorem MRel.dstFrozen (h : MRel enc z le ty n w wd X Y A lo mid hi D E i j t wr) (k : Nat) : wr.frozen? ⟨Y, k, none⟩ = false := by
  obtain ⟨f, hf⟩ := h.dst
  exact hf.frozen k
theorem MRel.srcCell (h : MRel enc z le ty n w wd X Y A lo mid hi D E i j t wr) {k : Nat} {x : α} (hk : k < n) (hx : A[k]? = some x) : wr.cell? ⟨X, k, none⟩ = some (enc x) := by
  rw [h.src.cell hk, List.getD_eq_getElem?_getD, hx]; rfl

theorem MRel.put (h : MRel enc z le ty n w wd X Y A lo mid hi D E i j t wr) (q : Nat) {x : α} {i' j' : Nat} (hv : MInv le A lo mid hi (E ++ [x]) i' j') :
    MRel enc z le ty n w wd X Y A lo mid hi D (E ++ [x]) i' j' (t + 1) ((wr.setCell ⟨Y, t, none⟩ (enc x)).drewN q) := by
  obtain ⟨f, hf⟩ := h.dst
  have htl : (D ++ E).length = t := by rw [List.length_append, h.dl, h.kk]
  refine ⟨hv, by rw [h.kk, List.length_append, List.length_singleton]; omega, h.lt, h.pin, h.dl, h.ne, h.bX, h.bY, rowIs_drewN (h.src.setOther (a := ⟨Y, t, none⟩) (by simpa using h.ne) _) q, ⟨f, (rowIs_drewN (hf.set t (enc x)) q).congr ?_⟩, below_drewN (h.bel.setCell (p := ⟨Y, t, none⟩) h.bY _) q⟩
  intro u _
  rw [← List.append_assoc]
  by_cases e : u = t
  · subst e
    rw [if_pos rfl, if_pos (by rw [List.length_append, htl]; simp), getD_append _ _ _ _ (by omega), if_neg (by omega)]
  · rw [if_neg e]
    by_cases e2 : u < (D ++ E).length
    · rw [if_pos e2, if_pos (by rw [List.length_append]; omega), getD_append _ _ _ _ (by omega), if_pos e2]
    · rw [if_neg e2, if_neg (by rw [List.length_append, List.length_singleton]; omega)]

theorem MRel.left (h : MRel enc z le ty n w wd X Y A lo mid hi D E i j t wr) (q : Nat) {x : α} (hi' : i < mid) (hx : A[i]? = some x) (hc : hi ≤ j ∨ ∃ y, j < hi ∧ A[j]? = some y ∧ le x y = true) :
    MRel enc z le ty n w wd X Y A lo mid hi D (E ++ [x]) (i + 1) j (t + 1) ((wr.setCell ⟨Y, t, none⟩ (enc x)).drewN q) := h.put q (minv_left h.inv hi' hx hc)
theorem MRel.right (h : MRel enc z le ty n w wd X Y A lo mid hi D E i j t wr) (q : Nat) {y : α} (hj : j < hi) (hy : A[j]? = some y) (hc : mid ≤ i ∨ ∃ x, i < mid ∧ A[i]? = some x ∧ le x y = false) :
    MRel enc z le ty n w wd X Y A lo mid hi D (E ++ [y]) i (j + 1) (t + 1) ((wr.setCell ⟨Y, t, none⟩ (enc y)).drewN q) := h.put q (minv_right h.inv hj hy hc)

theorem MRel.done (h : MRel enc z le ty n w wd X Y A lo mid hi D E i j t wr) (tl : TotLe le) (hk : hi ≤ t) (hA : Blk le wd A) (hw : 1 ≤ wd) (hm : mid = min (lo + wd) n) (hh : hi = min (lo + 2 * wd) n) (hAl : n = A.length) :
    PRel enc z le ty n w wd X Y A (lo + 2 * wd) (D ++ E) wr := by
  have hE := minv_end h.inv (by have := h.kk; omega)
  refine ⟨?_, h.ne, h.bX, h.bY, h.src, h.dst, h.bel⟩
  rw [hE]
  exact pinv_step tl.trans tl.tot h.pin (by omega) hA (by rw [← hAl]; exact h.lt) (by rw [← hAl]; exact hm) (by rw [← hAl]; exact hh)

theorem SRel.passed (h : SRel enc z le ty l n w wd X Y A wr) (p : PRel enc z le ty n w wd X Y A lo D wr') (hlo : n ≤ lo) : SRel enc z le ty l n w (2 * wd) Y X D wr' := by
  obtain ⟨hp, hb⟩ := pinv_done p.inv (by rw [← h.len]; exact hlo)
  obtain ⟨f, hf⟩ := p.dst
  have hl : n = D.length := by rw [hp.length_eq]; exact h.len
  exact ⟨h.ne.symm, h.bY, h.bX, hl, hp.trans h.perm, hb, hf.congr (fun j hj => by rw [if_pos (by omega)]), ⟨_, p.src⟩, p.bel⟩

theorem SRel.fin (h : SRel enc z le ty l n w wd X Y A wr) (hw : 1 ≤ wd) (hn : n ≤ wd) : Sl enc wr (some ⟨X, 0, none⟩) n A ∧ A.Perm l ∧ (A.Pairwise fun a b => le a b = true) ∧ Below w.heap.size w wr := by
  refine ⟨Sl.of_rowIs h.src h.len ?_, h.perm, blk_all h.blk (by omega) (by rw [← h.len]; exact hn), h.bel⟩
  intro j x hx
  rw [List.getD_eq_getElem?_getD, hx]; rfl
end

set_option maxRecDepth 100000 in
set_option maxHeartbeats 16000000 in
theorem sort44 (a : Option Addr) (n c : Nat) (l : List Int) (w : World) (hn : n ≤ 1048576) (h : Sl (Value.int .i64) w a n l) :
    Calls Try.prog 44 #[.slice a n c] w (SortedTo (Value.int .i64) leI l n w) := by
  have H := hide h
  have HL := hide h.len
  clear h
  have hmk := fun W => run_make_row' (P := Try.prog) 34 2 (.int .i64 0) 8 Try.underlying34 info2 rfl .i64 .i64 n (by omega) (by omega) W
  go_enter Try.func44, Try.ntmps44
  go_wp2
  go_loopw [5] (fun i wr => ∃ k : Nat, k ≤ n ∧ i = .int .i64 k ∧ wr.rowIs w.heap.size 2 n (fun j => if j < k then .int .i64 (l.getD j 0) else (.int .i64 0)) ∧ Below w.heap.size w wr) (fun i _ => n - (intOf i).toNat)
  case atStart => exact ⟨0, Nat.zero_le _, rfl, (World.rowIs_made w _ n 2).congr (fun j _ => by simp), (Below.refl _ _).alloc (Nat.le_refl _) _⟩
  case round =>
    obtain ⟨k, hk, rfl, hrow, hbel⟩ := hrel
    by_cases hlt : k < n
    · obtain ⟨b, off, x, ha, hx, hc⟩ := (unhide H).at k hlt
      have hcr := (hbel.cell (cell_lt hc)).trans hc
      have hf := hrow.frozen k
      have hold : wr.cell? ⟨w.heap.size, k, none⟩ = some (.int .i64 0) := by rw [hrow.cell hlt]; simp
      have R := hide (And.intro (hrow.set k (.int .i64 x)) (hbel.setCell (p := ⟨w.heap.size, k, none⟩) (Nat.le_refl _) (.int .i64 x)))
      have HX : Hid (l.getD k 0 = x) := by rw [List.getD_eq_getElem?_getD, hx]; rfl
      clear hx hc hrow hbel
      rw [ha]
      clear ha
      go_wp2
      go_roundw
      case rel =>
        refine ⟨k + 1, by omega, by go_num, (unhide R).1.congr ?_, (unhide R).2⟩
        intro j _
        by_cases e : j = k
        · subst e; simp only [if_true, Nat.lt_succ_self]; rw [unhide HX]
        · simp only [if_neg e]
          by_cases e2 : j < k
          · rw [if_pos e2, if_pos (by omega)]
          · rw [if_neg e2, if_neg (by omega)]
      case measure => simp [intOf]; omega
    · obtain rfl : k = n := by omega
      have R0 : Hid (SRel (Value.int .i64) 0 leI 2 l k w 1 w.heap.size wr.heap.size l (wr.alloc (.cells (madeCells #[(.int .i64 0)] k) 2))) := by
        have hlt2 := hrow.lt
        refine ⟨by omega, Nat.le_refl _, by omega, unhide HL, List.Perm.refl _, blk_one _, ?_, ⟨_, World.rowIs_made wr _ k 2⟩, hbel.alloc (by omega) _⟩
        exact (hrow.alloc _).congr (fun j hj => by rw [if_pos hj])
      clear hrow hbel
      obtain ⟨Y, hY⟩ : ∃ Y, Y = wr.heap.size := ⟨_, rfl⟩
      rw [← hY] at R0
      go_wp2
      rw [← hY]
      clear hY
      go_loopw [4, 6, 7, 8, 9, 10, 11, 12, 13, 14] (fun sv dv wv _ _ _ _ _ _ _ wr => ∃ (X Y wd : Nat) (A : List Int), sv = .slice (some ⟨X, 0, none⟩) k k ∧ dv = .slice (some ⟨Y, 0, none⟩) k k ∧ wv = .int .i64 wd ∧ 1 ≤ wd ∧ wd ≤ 2097152 ∧ Hid (SRel (Value.int .i64) 0 leI 2 l k w wd X Y A wr)) (fun _ _ wv _ _ _ _ _ _ _ _ => k - (intOf wv).toNat)
      case atStart => exact ⟨_, _, 1, l, rfl, rfl, rfl, by omega, by omega, R0⟩
      case round =>
        clear R0
        obtain ⟨X, Y, wd, A, rfl, rfl, rfl, hw1, hw2, HS⟩ := hrel
        by_cases hwn : wd < k
        · have hAl := (unhide HS).len
          have P0 : Hid (PRel (Value.int .i64) 0 leI 2 k w wd X Y A 0 [] wr) := (unhide HS).pstart
          have HAl := hide hAl
          clear hAl
          go_wp2
          go_loopw [8, 9, 10, 11, 12, 13] (fun lov _ _ _ _ _ wr => ∃ (lo : Nat) (D : List Int), lov = .int .i64 lo ∧ lo ≤ 8388608 ∧ Hid (PRel (Value.int .i64) 0 leI 2 k w wd X Y A lo D wr)) (fun lov _ _ _ _ _ _ => k - (intOf lov).toNat)
          case atStart => exact ⟨0, [], rfl, by omega, P0⟩
          case round =>
            clear P0
            obtain ⟨lo, D, rfl, hlo8, HP⟩ := hrel
            by_cases hlk : lo < k
            · skip
              by_cases c1 : k < lo + wd
              · have c2 : k < lo + 2 * wd := by omega
                have hd1 : decide ((k : Int) < (lo : Int) + (wd : Int)) = true := by simp; omega
                have hd2 : decide ((k : Int) < (lo : Int) + 2 * (wd : Int)) = true := by simp; omega
                have M0 : Hid (MRel (Value.int .i64) 0 leI 2 k w wd X Y A lo k k D [] lo k lo wr) := (unhide HP).mstart hlk (by omega) (by omega) (unhide HAl)
                go_wp2
                go_loopw [11, 12, 13] (fun iv jv kv wr => ∃ (i j t : Nat) (E : List Int), iv = .int .i64 i ∧ jv = .int .i64 j ∧ kv = .int .i64 t ∧ i ≤ k ∧ j ≤ k ∧ t ≤ k ∧ Hid (MRel (Value.int .i64) 0 leI 2 k w wd X Y A lo k k D E i j t wr)) (fun _ _ kv _ => k - (intOf kv).toNat)
                case atStart => exact ⟨lo, k, lo, [], rfl, by first | rfl | go_num, rfl, by omega, by omega, by omega, M0⟩
                case round =>
                  clear M0
                  obtain ⟨i, j, t, E, rfl, rfl, rfl, hiM, hjH, htH, HM⟩ := hrel
                  by_cases htlt : t < k
                  · have hsum := (unhide HM).inv.2.2.2.2.1
                    have hMj := (unhide HM).inv.2.2.1
                    have htE := (unhide HM).kk
                    have htn : t < k := by omega
                    have hold : ∃ v, wr.cell? ⟨Y, t, none⟩ = some v := (unhide HM).dstCell htn
                    obtain ⟨v, hold⟩ := hold
                    have hfz := (unhide HM).dstFrozen t
                    have ht1 : (t : Int) < (k : Int) := by omega
                    by_cases h1 : i < k
                    · obtain ⟨x, hx⟩ := get_some (l := A) (i := i) (by have := unhide HAl; omega)
                      have hcx := (unhide HM).srcCell (by omega) hx
                      have hi1 : (i : Int) < (k : Int) := by omega
                      have hg1 : decide ((i : Int) < (k : Int)) = true := by simp; omega
                      by_cases h2 : k ≤ j
                      · have hg2 : decide ((k : Int) ≤ (j : Int)) = true := by simp; omega
                        have R := hide (fun q => (unhide HM).left q h1 hx (Or.inl h2))
                        clear hx hsum hMj htE
                        go_wp2
                        go_quiet (fail)
                        go_wp2
                        go_roundw
                        case rel => exact ⟨i + 1, j, t + 1, E ++ [x], by go_num, rfl, by go_num, by omega, by omega, by omega, unhide R _⟩
                        case measure => simp [intOf]; omega
                      · obtain ⟨y, hy⟩ := get_some (l := A) (i := j) (by have := unhide HAl; omega)
                        have hcy := (unhide HM).srcCell (by omega) hy
                        have hj1 : (j : Int) < (k : Int) := by omega
                        have hg2 : decide ((k : Int) ≤ (j : Int)) = false := by simp; omega
                        by_cases h3 : x ≤ y
                        · have hg3 : decide ((x : Int) ≤ y) = true := by simp; omega
                          have R := hide (fun q => (unhide HM).left q h1 hx (Or.inr ⟨y, by omega, hy, by simp [leI]; exact h3⟩))
                          clear hx hy hsum hMj htE
                          go_wp2
                          go_quiet (fail)
                          go_wp2
                          go_roundw
                          case rel => exact ⟨i + 1, j, t + 1, E ++ [x], by go_num, rfl, by go_num, by omega, by omega, by omega, unhide R _⟩
                          case measure => simp [intOf]; omega
                        · have hg3 : decide ((x : Int) ≤ y) = false := by simp; omega
                          have R := hide (fun q => (unhide HM).right q (by omega) hy (Or.inr ⟨x, h1, hx, by simp [leI]; omega⟩))
                          clear hx hy hsum hMj htE
                          go_wp2
                          go_quiet (fail)
                          go_wp2
                          go_roundw
                          case rel => exact ⟨i, j + 1, t + 1, E ++ [y], rfl, by go_num, by go_num, by omega, by omega, by omega, unhide R _⟩
                          case measure => simp [intOf]; omega
                    · obtain ⟨y, hy⟩ := get_some (l := A) (i := j) (by have := unhide HAl; omega)
                      have hcy := (unhide HM).srcCell (by omega) hy
                      have hj1 : (j : Int) < (k : Int) := by omega
                      have hjlt : j < k := by omega
                      have hg1 : decide ((i : Int) < (k : Int)) = false := by simp; omega
                      have R := hide (fun q => (unhide HM).right q hjlt hy (Or.inl (by omega)))
                      clear hy hsum hMj htE
                      go_wp2
                      go_quiet (fail)
                      go_wp2
                      go_roundw
                      case rel => exact ⟨i, j + 1, t + 1, E ++ [y], rfl, by go_num, by go_num, by omega, by omega, by omega, unhide R _⟩
                      case measure => simp [intOf]; omega
                  · have RP := hide ((unhide HM).done leI_tot (by omega) (unhide HS).blk hw1 (by omega) (by omega) (unhide HAl))
                    go_wp2
                    go_roundw
                    case rel => exact ⟨lo + 2 * wd, _, by go_num, by omega, RP⟩
                    case measure => simp [intOf]; omega
              · have hd1 : decide ((k : Int) < (lo : Int) + (wd : Int)) = false := by simp; omega
                by_cases c2 : k < lo + 2 * wd
                · have hd2 : decide ((k : Int) < (lo : Int) + 2 * (wd : Int)) = true := by simp; omega
                  have M0 : Hid (MRel (Value.int .i64) 0 leI 2 k w wd X Y A lo (lo + wd) k D [] lo (lo + wd) lo wr) := (unhide HP).mstart hlk (by omega) (by omega) (unhide HAl)
                  go_wp2
                  go_loopw [11, 12, 13] (fun iv jv kv wr => ∃ (i j t : Nat) (E : List Int), iv = .int .i64 i ∧ jv = .int .i64 j ∧ kv = .int .i64 t ∧ i ≤ (lo + wd) ∧ j ≤ k ∧ t ≤ k ∧ Hid (MRel (Value.int .i64) 0 leI 2 k w wd X Y A lo (lo + wd) k D E i j t wr)) (fun _ _ kv _ => k - (intOf kv).toNat)
                  case atStart => exact ⟨lo, (lo + wd), lo, [], rfl, by first | rfl | go_num, rfl, by omega, by omega, by omega, M0⟩
                  case round =>
                    clear M0
                    obtain ⟨i, j, t, E, rfl, rfl, rfl, hiM, hjH, htH, HM⟩ := hrel
                    by_cases htlt : t < k
                    · have hsum := (unhide HM).inv.2.2.2.2.1
                      have hMj := (unhide HM).inv.2.2.1
                      have htE := (unhide HM).kk
                      have htn : t < k := by omega
                      have hold : ∃ v, wr.cell? ⟨Y, t, none⟩ = some v := (unhide HM).dstCell htn
                      obtain ⟨v, hold⟩ := hold
                      have hfz := (unhide HM).dstFrozen t
                      have ht1 : (t : Int) < (k : Int) := by omega
                      by_cases h1 : i < (lo + wd)
                      · obtain ⟨x, hx⟩ := get_some (l := A) (i := i) (by have := unhide HAl; omega)
                        have hcx := (unhide HM).srcCell (by omega) hx
                        have hi1 : (i : Int) < (k : Int) := by omega
                        have hg1 : decide ((i : Int) < ((lo : Int) + (wd : Int))) = true := by simp; omega
                        by_cases h2 : k ≤ j
                        · have hg2 : decide ((k : Int) ≤ (j : Int)) = true := by simp; omega
                          have R := hide (fun q => (unhide HM).left q h1 hx (Or.inl h2))
                          clear hx hsum hMj htE
                          go_wp2
                          go_quiet (fail)
                          go_wp2
                          go_roundw
                          case rel => exact ⟨i + 1, j, t + 1, E ++ [x], by go_num, rfl, by go_num, by omega, by omega, by omega, unhide R _⟩
                          case measure => simp [intOf]; omega
                        · obtain ⟨y, hy⟩ := get_some (l := A) (i := j) (by have := unhide HAl; omega)
                          have hcy := (unhide HM).srcCell (by omega) hy
                          have hj1 : (j : Int) < (k : Int) := by omega
                          have hg2 : decide ((k : Int) ≤ (j : Int)) = false := by simp; omega
                          by_cases h3 : x ≤ y
                          · have hg3 : decide ((x : Int) ≤ y) = true := by simp; omega
                            have R := hide (fun q => (unhide HM).left q h1 hx (Or.inr ⟨y, by omega, hy, by simp [leI]; exact h3⟩))
                            clear hx hy hsum hMj htE
                            go_wp2
                            go_quiet (fail)
                            go_wp2
                            go_roundw
                            case rel => exact ⟨i + 1, j, t + 1, E ++ [x], by go_num, rfl, by go_num, by omega, by omega, by omega, unhide R _⟩
                            case measure => simp [intOf]; omega
                          · have hg3 : decide ((x : Int) ≤ y) = false := by simp; omega
                            have R := hide (fun q => (unhide HM).right q (by omega) hy (Or.inr ⟨x, h1, hx, by simp [leI]; omega⟩))
                            clear hx hy hsum hMj htE
                            go_wp2
                            go_quiet (fail)
                            go_wp2
                            go_roundw
                            case rel => exact ⟨i, j + 1, t + 1, E ++ [y], rfl, by go_num, by go_num, by omega, by omega, by omega, unhide R _⟩
                            case measure => simp [intOf]; omega
                      · obtain ⟨y, hy⟩ := get_some (l := A) (i := j) (by have := unhide HAl; omega)
                        have hcy := (unhide HM).srcCell (by omega) hy
                        have hj1 : (j : Int) < (k : Int) := by omega
                        have hjlt : j < k := by omega
                        have hg1 : decide ((i : Int) < ((lo : Int) + (wd : Int))) = false := by simp; omega
                        have R := hide (fun q => (unhide HM).right q hjlt hy (Or.inl (by omega)))
                        clear hy hsum hMj htE
                        go_wp2
                        go_quiet (fail)
                        go_wp2
                        go_roundw
                        case rel => exact ⟨i, j + 1, t + 1, E ++ [y], rfl, by go_num, by go_num, by omega, by omega, by omega, unhide R _⟩
                        case measure => simp [intOf]; omega
                    · have RP := hide ((unhide HM).done leI_tot (by omega) (unhide HS).blk hw1 (by omega) (by omega) (unhide HAl))
                      go_wp2
                      go_roundw
                      case rel => exact ⟨lo + 2 * wd, _, by go_num, by omega, RP⟩
                      case measure => simp [intOf]; omega
                · have hd2 : decide ((k : Int) < (lo : Int) + 2 * (wd : Int)) = false := by simp; omega
                  have M0 : Hid (MRel (Value.int .i64) 0 leI 2 k w wd X Y A lo (lo + wd) (lo + 2 * wd) D [] lo (lo + wd) lo wr) := (unhide HP).mstart hlk (by omega) (by omega) (unhide HAl)
                  go_wp2
                  go_loopw [11, 12, 13] (fun iv jv kv wr => ∃ (i j t : Nat) (E : List Int), iv = .int .i64 i ∧ jv = .int .i64 j ∧ kv = .int .i64 t ∧ i ≤ (lo + wd) ∧ j ≤ (lo + 2 * wd) ∧ t ≤ (lo + 2 * wd) ∧ Hid (MRel (Value.int .i64) 0 leI 2 k w wd X Y A lo (lo + wd) (lo + 2 * wd) D E i j t wr)) (fun _ _ kv _ => (lo + 2 * wd) - (intOf kv).toNat)
                  case atStart => exact ⟨lo, (lo + wd), lo, [], rfl, by first | rfl | go_num, rfl, by omega, by omega, by omega, M0⟩
                  case round =>
                    clear M0
                    obtain ⟨i, j, t, E, rfl, rfl, rfl, hiM, hjH, htH, HM⟩ := hrel
                    by_cases htlt : t < (lo + 2 * wd)
                    · have hsum := (unhide HM).inv.2.2.2.2.1
                      have hMj := (unhide HM).inv.2.2.1
                      have htE := (unhide HM).kk
                      have htn : t < k := by omega
                      have hold : ∃ v, wr.cell? ⟨Y, t, none⟩ = some v := (unhide HM).dstCell htn
                      obtain ⟨v, hold⟩ := hold
                      have hfz := (unhide HM).dstFrozen t
                      have ht1 : (t : Int) < (k : Int) := by omega
                      by_cases h1 : i < (lo + wd)
                      · obtain ⟨x, hx⟩ := get_some (l := A) (i := i) (by have := unhide HAl; omega)
                        have hcx := (unhide HM).srcCell (by omega) hx
                        have hi1 : (i : Int) < (k : Int) := by omega
                        have hg1 : decide ((i : Int) < ((lo : Int) + (wd : Int))) = true := by simp; omega
                        by_cases h2 : (lo + 2 * wd) ≤ j
                        · have hg2 : decide (((lo : Int) + 2 * (wd : Int)) ≤ (j : Int)) = true := by simp; omega
                          have R := hide (fun q => (unhide HM).left q h1 hx (Or.inl h2))
                          clear hx hsum hMj htE
                          go_wp2
                          go_quiet (fail)
                          go_wp2
                          go_roundw
                          case rel => exact ⟨i + 1, j, t + 1, E ++ [x], by go_num, rfl, by go_num, by omega, by omega, by omega, unhide R _⟩
                          case measure => simp [intOf]; omega
                        · obtain ⟨y, hy⟩ := get_some (l := A) (i := j) (by have := unhide HAl; omega)
                          have hcy := (unhide HM).srcCell (by omega) hy
                          have hj1 : (j : Int) < (k : Int) := by omega
                          have hg2 : decide (((lo : Int) + 2 * (wd : Int)) ≤ (j : Int)) = false := by simp; omega
                          by_cases h3 : x ≤ y
                          · have hg3 : decide ((x : Int) ≤ y) = true := by simp; omega
                            have R := hide (fun q => (unhide HM).left q h1 hx (Or.inr ⟨y, by omega, hy, by simp [leI]; exact h3⟩))
                            clear hx hy hsum hMj htE
                            go_wp2
                            go_quiet (fail)
                            go_wp2
                            go_roundw
                            case rel => exact ⟨i + 1, j, t + 1, E ++ [x], by go_num, rfl, by go_num, by omega, by omega, by omega, unhide R _⟩
                            case measure => simp [intOf]; omega
                          · have hg3 : decide ((x : Int) ≤ y) = false := by simp; omega
                            have R := hide (fun q => (unhide HM).right q (by omega) hy (Or.inr ⟨x, h1, hx, by simp [leI]; omega⟩))
                            clear hx hy hsum hMj htE
                            go_wp2
                            go_quiet (fail)
                            go_wp2
                            go_roundw
                            case rel => exact ⟨i, j + 1, t + 1, E ++ [y], rfl, by go_num, by go_num, by omega, by omega, by omega, unhide R _⟩
                            case measure => simp [intOf]; omega
                      · obtain ⟨y, hy⟩ := get_some (l := A) (i := j) (by have := unhide HAl; omega)
                        have hcy := (unhide HM).srcCell (by omega) hy
                        have hj1 : (j : Int) < (k : Int) := by omega
                        have hjlt : j < (lo + 2 * wd) := by omega
                        have hg1 : decide ((i : Int) < ((lo : Int) + (wd : Int))) = false := by simp; omega
                        have R := hide (fun q => (unhide HM).right q hjlt hy (Or.inl (by omega)))
                        clear hy hsum hMj htE
                        go_wp2
                        go_quiet (fail)
                        go_wp2
                        go_roundw
                        case rel => exact ⟨i, j + 1, t + 1, E ++ [y], rfl, by go_num, by go_num, by omega, by omega, by omega, unhide R _⟩
                        case measure => simp [intOf]; omega
                    · have RP := hide ((unhide HM).done leI_tot (by omega) (unhide HS).blk hw1 (by omega) (by omega) (unhide HAl))
                      go_wp2
                      go_roundw
                      case rel => exact ⟨lo + 2 * wd, _, by go_num, by omega, RP⟩
                      case measure => simp [intOf]; omega
            · have HS2 := hide ((unhide HS).passed (unhide HP) (by omega))
              go_wp2
              go_roundw
              case rel => exact ⟨Y, X, 2 * wd, D, rfl, rfl, by go_num, by omega, by omega, HS2⟩
              case measure => simp [intOf]; omega
        · have HF := hide ((unhide HS).fin hw1 (by omega))
          go_wp2
          go_ret
          exact ⟨X, A, rfl, unhide HF⟩

end Go.Proofs.Qxb6605915a.Strs
