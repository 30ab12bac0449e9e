/- textSet, ZZtextSet -/
import Derived.Test.Qxb6605915aJoin
namespace Go.Proofs.Qxb6605915a.Strs
open Go.ChangeShapes Go.WideShapes Go.ChangeAt Go.RowKit
set_option linter.unusedVariables false

/-- the set of l: sorted, each once -/
def SetOf (l S : List ByteArray) : Prop := Inc S ∧ ∀ x, x ∈ S ↔ x ∈ l

theorem setOf_le {l S : List ByteArray} (h : SetOf l S) : S.length ≤ l.length ∧ tot S ≤ tot l := inc_le S l h.1 fun x hx => (h.2 x).1 hx
theorem setOf_unique {l l' S S' : List ByteArray} (h : SetOf l S) (h' : SetOf l' S') (hl : ∀ x, x ∈ l ↔ x ∈ l') : S = S' :=
  inc_ext S S' h.1 h'.1 fun x => by rw [h.2, h'.2, hl]

/-- textSet's post -/
def TextSet (l : List ByteArray) (w : World) (e : Ending) (w' : World) : Prop :=
  ∃ S ea n ec, e = .returned (.agg #[.string (cat S), .slice ea n ec]) ∧ Sl encE w' ea n (endsOf S) ∧ SetOf l S ∧ Below w.heap.size w w' ∧ ∀ ad, ea = some ad → w.heap.size < ad.block

/-- ZZtextSet's post -/
def TextSet2 (l : List ByteArray) (w : World) (e : Ending) (w' : World) : Prop :=
  ∃ S ea n ec, e = .returned (.tuple #[.string (cat S), .slice ea n ec]) ∧ Sl encE w' ea n (endsOf S) ∧ SetOf l S ∧ Below w.heap.size w w'

theorem joined_set {l R : List ByteArray} (hi : R.Pairwise fun a b => cb a b < 0) (hm : ∀ x, x ∈ R ↔ x ∈ l ∧ 1 ≤ cnt cb x l) : SetOf l R :=
  ⟨hi, fun x => by rw [hm, cnt_pos totCb, and_self]⟩

set_option maxRecDepth 100000 in
set_option maxHeartbeats 2000000 in
theorem text51 (a : Option Addr) (n c : Nat) (l : List ByteArray) (w : World) (hn : n ≤ 16777216) (ht : tot l ≤ 16777216) (h : Sl Value.string w a n l) (hnil : a = none → l = [] ∧ c = 0) :
    Calls Try.prog 51 #[.slice a n c] w (TextSet l w) := by
  have H := hide h
  have HN := hide hnil
  clear h hnil
  have hW : Hid (let W := (w.alloc (.cells #[.string { data := #[] }, .slice none 0 0] 70)).alloc (.cells #[.slice a n c] 39)
      Sll Value.string W (some ⟨w.heap.size + 1, 0, none⟩) 1 [l] ∧ Below w.heap.size w W ∧ w.heap.size + 1 < W.heap.size ∧ W.heap[w.heap.size]? = some (.cells #[.string { data := #[] }, .slice none 0 0] 70 (0, 0))) := by
    have hb : Below w.heap.size w ((w.alloc (.cells #[.string { data := #[] }, .slice none 0 0] 70)).alloc (.cells #[.slice a n c] 39)) := ((Below.refl _ _).alloc (Nat.le_refl _) _).alloc (by simp) _
    refine ⟨⟨rfl, ?_⟩, hb, by simp, (Deep.blk_alloc_lt _ _ _ (by simp)).trans (Deep.blk_alloc_new _ _)⟩
    intro j l' hl
    have hj := (List.getElem?_eq_some_iff.1 hl).1
    have : j = 0 := by simp at hj; exact hj
    subst this
    simp at hl
    subst hl
    have hl' := (unhide H).len
    refine ⟨_, _, rfl, a, c, ?_, ?_, unhide HN⟩
    · have hh := Deep.blk_alloc_new (w.alloc (.cells #[.string { data := #[] }, .slice none 0 0] 70)) (.cells #[.slice a n c] 39)
      rw [Deep.nblk_alloc] at hh
      rw [Lib.cell_of_heap hh, ← hl']; rfl
    · rw [← hl']; exact (unhide H).below hb
  have hlen : l.length ≤ 16777216 := by rw [← (unhide H).len]; exact hn
  generalize hWe : ((w.alloc (Obj.cells #[Value.string { data := #[] }, Value.slice none 0 0] 70)).alloc (Obj.cells #[Value.slice a n c] 39)) = W at hW
  have HWe := hide hWe
  clear hWe
  go_enter Try.func51, Try.ntmps51
  go_wp2_with fail
  rw [unhide HWe]
  obtain ⟨hs, hb, hlt, hblk⟩ := unhide hW
  refine (join59 _ 1 1 [l] true 1 W (by omega) (by simp; omega) hs rfl).mono ?_
  rintro _ w1 ⟨ra, rn, rc, R, rfl, hsl, hinc, hmem, hb1⟩
  rw [show [l].flatten = l by simp] at hmem
  have hset := joined_set hinc hmem
  have hle := setOf_le hset
  have hrl : rn ≤ 16777216 := by rw [hsl.len]; omega
  have HS := hide hset
  have HSL := hide hsl
  have HB1 := hide hb1
  have HBK := hide hblk
  have HB := hide hb
  have hlt1 : w.heap.size < W.heap.size := by omega
  clear hset hinc hmem hsl hb1 hs hb hblk hW
  go_wp2_with fail
  refine (pack58 R ra rn rc w1 hrl (by omega) (unhide HSL)).mono ?_
  rintro _ w2 ⟨ea, en, ec, rfl, hsl2, hb2, hea⟩
  have hblk2 : w2.heap[w.heap.size]? = some (.cells #[.string { data := #[] }, .slice none 0 0] 70 (0, 0)) := by
    have h1 := (unhide HB1).size
    rw [hb2.block _ (by omega), (unhide HB1).block _ (by omega)]
    exact unhide HBK
  have hA0 : w2.cell? ⟨w.heap.size, 0, none⟩ = some (.string { data := #[] }) := by rw [Lib.cell_of_heap hblk2]; rfl
  have hA1 : w2.cell? ⟨w.heap.size, 1, none⟩ = some (.slice none 0 0) := by rw [Lib.cell_of_heap hblk2]; rfl
  have hF0 := Lib.frozen_of_heap hblk2 0
  have hF1 := Lib.frozen_of_heap hblk2 1
  have HSL2 := hide hsl2
  have HB2 : Hid (Below w.heap.size w w2) := by
    have h1 := (unhide HB1).size
    exact ((unhide HB).trans ((unhide HB1).mono (by omega))).trans (hb2.mono (by omega))
  have HEA := hide hea
  clear hblk2 hsl2 hb2 hea
  go_wp2
  have hs0 : (w2.setCell ⟨w.heap.size, 0, none⟩ (.string (cat R))).cell? ⟨w.heap.size, 0, none⟩ = some (.string (cat R)) := World.cell?_setCell_same _ _ _ hA0
  have hs1 : ((w2.setCell ⟨w.heap.size, 0, none⟩ (.string (cat R))).setCell ⟨w.heap.size, 1, none⟩ (.slice ea en ec)).cell? ⟨w.heap.size, 1, none⟩ = some (.slice ea en ec) := World.cell?_setCell_same _ _ _ (u := .slice none 0 0) ((World.cell?_setCell_other (w := w2) (a := ⟨w.heap.size, 0, none⟩) (b := ⟨w.heap.size, 1, none⟩) (v := _) (h := by simp)).trans hA1)
  refine bodyPost_ret (v := .agg #[.string (cat R), .slice ea en ec]) (by simp [results, Try.results51, go_sem, hs0, hs1]) rfl ⟨R, ea, en, ec, rfl, ?_, unhide HS, ?_, fun ad h => by have := unhide HEA ad h; have := (unhide HB1).size; omega⟩
  · refine ⟨(unhide HSL2).len, fun j x hx => ?_⟩
    obtain ⟨b, off, he, hc⟩ := (unhide HSL2).cells j x hx
    have hb1 := unhide HEA _ he
    have h1 := (unhide HB1).size
    have hne : b ≠ w.heap.size := by simp only at hb1; omega
    refine ⟨b, off, he, ?_⟩
    exact (World.cell?_setCell_other _ _ _ _ (fun e => hne (congrArg Addr.block e).symm)).trans ((World.cell?_setCell_other _ _ _ _ (fun e => hne (congrArg Addr.block e).symm)).trans hc)
  · exact ((unhide HB2).setCell (p := ⟨w.heap.size, 0, none⟩) (Nat.le_refl _) _).setCell (p := ⟨w.heap.size, 1, none⟩) (Nat.le_refl _) _

set_option maxRecDepth 100000 in
set_option maxHeartbeats 2000000 in
theorem zzText30 (a : Option Addr) (n c : Nat) (l : List ByteArray) (w : World) (hn : n ≤ 16777216) (ht : tot l ≤ 16777216) (h : Sl Value.string w a n l) (hnil : a = none → l = [] ∧ c = 0) :
    Calls Try.prog 30 #[.slice a n c] w (TextSet2 l w) := by
  have H := hide h
  have HN := hide hnil
  clear h hnil
  go_enter Try.func30, Try.ntmps30
  go_wp2_with fail
  refine (text51 a n c l w hn ht (unhide H) (unhide HN)).mono ?_
  rintro _ w1 ⟨S, ea, en, ec, rfl, hsl, hset, hb, _⟩
  have HR : Hid (∀ q, Sl encE ((w1.alloc (.cells #[.string (cat S), .slice ea en ec] 70)).drewN q) ea en (endsOf S) ∧ SetOf l S ∧ Below w.heap.size w ((w1.alloc (.cells #[.string (cat S), .slice ea en ec] 70)).drewN q)) := by
    intro q
    have h1 : Below w1.heap.size w1 ((w1.alloc (.cells #[.string (cat S), .slice ea en ec] 70)).drewN q) := below_drewN ((Below.refl _ _).alloc (Nat.le_refl _) _) q
    exact ⟨hsl.below h1, hset, hb.trans (h1.mono hb.size)⟩
  clear hsl hset hb
  go_wp2
  go_quiet (fail)
  go_wp2
  go_ret2
  exact ⟨S, ea, en, ec, rfl, unhide HR _⟩

end Go.Proofs.Qxb6605915a.Strs
