/- PLAIN LAWS: the order of strings byte by byte; strictly increasing lists. No Go in sight. -/
import Derived.Lib.Bytealg
namespace Go.Proofs.Qxb6605915a.Strs

theorem cmpL_cases : ∀ a b : List UInt8, Lib.compareBytes a b = -1 ∨ Lib.compareBytes a b = 0 ∨ Lib.compareBytes a b = 1
  | [], [] => by simp [Lib.compareBytes]
  | [], _ :: _ => by simp [Lib.compareBytes]
  | _ :: _, [] => by simp [Lib.compareBytes]
  | a :: as, b :: bs => by
    have ih := cmpL_cases as bs
    unfold Lib.compareBytes
    split
    · simp
    · split
      · simp
      · exact ih

theorem cmpL_refl : ∀ a : List UInt8, Lib.compareBytes a a = 0
  | [] => rfl
  | a :: as => by
    unfold Lib.compareBytes
    rw [if_neg (UInt8.lt_irrefl a), if_neg (UInt8.lt_irrefl a)]
    exact cmpL_refl as

theorem cmpL_eq0 : ∀ a b : List UInt8, Lib.compareBytes a b = 0 → a = b
  | [], [], _ => rfl
  | [], _ :: _, h => by simp [Lib.compareBytes] at h
  | _ :: _, [], h => by simp [Lib.compareBytes] at h
  | a :: as, b :: bs, h => by
    unfold Lib.compareBytes at h
    split at h
    · simp at h
    · split at h
      · simp at h
      · rename_i h1 h2
        have e : a = b := by
          apply UInt8.toNat_inj.1
          rw [UInt8.lt_iff_toNat_lt] at h1 h2
          omega
        rw [e, cmpL_eq0 as bs h]

theorem cmpL_anti : ∀ a b : List UInt8, Lib.compareBytes b a = - Lib.compareBytes a b
  | [], [] => rfl
  | [], _ :: _ => rfl
  | _ :: _, [] => rfl
  | a :: as, b :: bs => by
    have ih := cmpL_anti as bs
    unfold Lib.compareBytes
    by_cases h1 : a < b
    · rw [if_pos h1, if_neg (by rw [UInt8.lt_iff_toNat_lt] at *; omega), if_pos h1]; rfl
    · by_cases h2 : b < a
      · rw [if_pos h2, if_neg h1, if_pos h2]
      · rw [if_neg h1, if_neg h2, if_neg h2, if_neg h1]
        exact ih

theorem cmpL_trans : ∀ a b c : List UInt8, Lib.compareBytes a b < 0 → Lib.compareBytes b c < 0 → Lib.compareBytes a c < 0
  | [], [], _, h, _ => by simp [Lib.compareBytes] at h
  | [], _ :: _, [], _, h => by simp [Lib.compareBytes] at h
  | [], _ :: _, _ :: _, _, _ => by simp [Lib.compareBytes]
  | _ :: _, [], _, h, _ => by simp [Lib.compareBytes] at h
  | _ :: _, _ :: _, [], _, h => by simp [Lib.compareBytes] at h
  | a :: as, b :: bs, c :: cs, h, k => by
    have ih := cmpL_trans as bs cs
    unfold Lib.compareBytes at h k ⊢
    simp only [UInt8.lt_iff_toNat_lt] at h k ⊢
    by_cases h1 : a.toNat < b.toNat
    · by_cases k1 : c.toNat < b.toNat
      · rw [if_neg (by omega), if_pos k1] at k; omega
      · rw [if_pos (by omega)]; omega
    · by_cases h2 : b.toNat < a.toNat
      · rw [if_neg h1, if_pos h2] at h; omega
      · rw [if_neg h1, if_neg h2] at h
        by_cases k1 : b.toNat < c.toNat
        · rw [if_pos (by omega)]; omega
        · by_cases k2 : c.toNat < b.toNat
          · rw [if_neg k1, if_pos k2] at k; omega
          · rw [if_neg k1, if_neg k2] at k
            rw [if_neg (by omega), if_neg (by omega)]
            exact ih h k

/-- the comparison of two strings byte by byte -/
def cb (a b : ByteArray) : Int := Lib.compareBytes a.data.toList b.data.toList

theorem cb_cases (a b : ByteArray) : cb a b = -1 ∨ cb a b = 0 ∨ cb a b = 1 := cmpL_cases _ _
theorem cb_refl (a : ByteArray) : cb a a = 0 := cmpL_refl _
theorem cb_eq0 {a b : ByteArray} (h : cb a b = 0) : a = b := by
  have := cmpL_eq0 _ _ h
  have := Array.toList_inj.1 this
  cases a; cases b; simp_all
theorem cb_anti (a b : ByteArray) : cb b a = - cb a b := cmpL_anti _ _
theorem cb_trans {a b c : ByteArray} (h : cb a b < 0) (k : cb b c < 0) : cb a c < 0 := cmpL_trans _ _ _ h k

/-- strictly increasing -/
def Inc (S : List ByteArray) : Prop := S.Pairwise fun a b => cb a b < 0

theorem inc_get {S : List ByteArray} (h : Inc S) (i j : Nat) (x y : ByteArray) (hij : i < j) (hx : S[i]? = some x) (hy : S[j]? = some y) : cb x y < 0 := by
  obtain ⟨hi, rfl⟩ := List.getElem?_eq_some_iff.1 hx
  obtain ⟨hj, rfl⟩ := List.getElem?_eq_some_iff.1 hy
  exact List.pairwise_iff_getElem.1 h i j hi hj hij

/-- two strictly increasing lists of the same members are one -/
theorem inc_ext : ∀ (S T : List ByteArray), Inc S → Inc T → (∀ x, x ∈ S ↔ x ∈ T) → S = T
  | [], [], _, _, _ => rfl
  | [], y :: _, _, _, h => by have := (h y).2 (by simp); simp at this
  | x :: _, [], _, _, h => by have := (h x).1 (by simp); simp at this
  | x :: S, y :: T, hS, hT, h => by
    obtain ⟨hS1, hS2⟩ := List.pairwise_cons.1 hS
    obtain ⟨hT1, hT2⟩ := List.pairwise_cons.1 hT
    have e : x = y := by
      rcases List.mem_cons.1 ((h x).1 (by simp)) with e | e
      · exact e
      · rcases List.mem_cons.1 ((h y).2 (by simp)) with e' | e'
        · exact e'.symm
        · have a := hT1 x e
          have b := hS1 y e'
          have := cb_anti x y
          omega
    subst e
    have : S = T := inc_ext S T hS2 hT2 fun z => by
      constructor
      · intro hz
        rcases List.mem_cons.1 ((h z).1 (List.mem_cons_of_mem _ hz)) with e | e
        · subst e; have := hS1 z hz; rw [cb_refl] at this; omega
        · exact e
      · intro hz
        rcases List.mem_cons.1 ((h z).2 (List.mem_cons_of_mem _ hz)) with e | e
        · subst e; have := hT1 z hz; rw [cb_refl] at this; omega
        · exact e
    rw [this]

/-- the bytes of all strings together -/
def tot (l : List ByteArray) : Nat := (l.map ByteArray.size).foldr (· + ·) 0

theorem tot_append (a b : List ByteArray) : tot (a ++ b) = tot a + tot b := by
  induction a with
  | nil => simp [tot]
  | cons x a ih => simp only [tot, List.cons_append, List.map_cons, List.foldr_cons] at *; omega

theorem tot_take_succ (l : List ByteArray) (k : Nat) (x : ByteArray) (h : l[k]? = some x) : tot (l.take (k + 1)) = tot (l.take k) + x.size := by
  rw [List.take_add_one, h, tot_append]; simp [tot]

theorem tot_take_le (l : List ByteArray) (k : Nat) : tot (l.take k) ≤ tot l := by
  have h := tot_append (l.take k) (l.drop k)
  rw [List.take_append_drop] at h
  omega

/-- all bytes, end to end -/
def bytesOf (S : List ByteArray) : List UInt8 := S.flatMap fun x => x.data.toList

theorem bytesOf_length (S : List ByteArray) : (bytesOf S).length = tot S := by
  induction S with
  | nil => rfl
  | cons x S ih =>
    simp only [bytesOf, List.flatMap_cons, List.length_append, tot, List.map_cons, List.foldr_cons] at *
    rw [ih]; simp

theorem bytesOf_append (a b : List ByteArray) : bytesOf (a ++ b) = bytesOf a ++ bytesOf b := by simp [bytesOf]

/-- the strings packed end to end -/
def cat (S : List ByteArray) : ByteArray := ⟨(bytesOf S).toArray⟩

theorem cat_size (S : List ByteArray) : (cat S).size = tot S := by
  rw [← bytesOf_length]; rfl

/-- where each ends -/
def endsOf (S : List ByteArray) : List Nat := (List.range S.length).map fun k => tot (S.take (k + 1))

theorem endsOf_length (S : List ByteArray) : (endsOf S).length = S.length := by simp [endsOf]

theorem endsOf_get (S : List ByteArray) (k : Nat) (hk : k < S.length) : (endsOf S)[k]? = some (tot (S.take (k + 1))) := by
  simp [endsOf, hk]

/-- the k'th string, cut out of the pack -/
theorem cat_extract (S : List ByteArray) (k : Nat) (x : ByteArray) (h : S[k]? = some x) : (cat S).extract (tot (S.take k)) (tot (S.take (k + 1))) = x := by
  have hk := (List.getElem?_eq_some_iff.1 h).1
  have e : bytesOf S = bytesOf (S.take k) ++ (x.data.toList ++ bytesOf (S.drop (k + 1))) := by
    have : S = S.take k ++ (x :: S.drop (k + 1)) := by
      have hx := (List.getElem?_eq_some_iff.1 h).2
      rw [← hx, ← List.drop_eq_getElem_cons hk, List.take_append_drop]
    exact (congrArg bytesOf this).trans (by rw [bytesOf_append]; simp [bytesOf])
  have hl := bytesOf_length (S.take k)
  have ht := tot_take_succ S k x h
  have hd : ((cat S).extract (tot (S.take k)) (tot (S.take (k + 1)))).data.toList = x.data.toList := by
    have : ((cat S).extract (tot (S.take k)) (tot (S.take (k + 1)))).data = (bytesOf S).toArray.extract (tot (S.take k)) (tot (S.take (k + 1))) := by
      simp [cat, ByteArray.data_extract]
    rw [this, e, ht]
    simp only [List.extract_toArray, List.extract_eq_take_drop]
    rw [← hl, List.drop_left]
    have hx' : (bytesOf (S.take k)).length + x.size - (bytesOf (S.take k)).length = x.data.toList.length := by
      rw [Nat.add_sub_cancel_left]; simp
    rw [hx', List.take_left]
  have := Array.toList_inj.1 hd
  cases x
  generalize (cat S).extract _ _ = y at *
  cases y
  simp_all

/-- distinct strings out of l weigh no more than l -/
theorem inc_le : ∀ (S l : List ByteArray), Inc S → (∀ x, x ∈ S → x ∈ l) → S.length ≤ l.length ∧ tot S ≤ tot l
  | [], l, _, _ => by simp [tot]
  | x :: S, l, hS, h => by
    obtain ⟨hS1, hS2⟩ := List.pairwise_cons.1 hS
    obtain ⟨l1, l2, rfl⟩ := List.append_of_mem (h x (by simp))
    have ih := inc_le S (l1 ++ l2) hS2 fun y hy => by
      have hy' := h y (List.mem_cons_of_mem _ hy)
      rw [List.mem_append, List.mem_cons] at hy'
      rw [List.mem_append]
      rcases hy' with h1 | rfl | h1
      · exact Or.inl h1
      · have := hS1 y hy; rw [cb_refl] at this; omega
      · exact Or.inr h1
    have e1 : tot (x :: S) = x.size + tot S := rfl
    have e2 : tot (x :: l2) = x.size + tot l2 := rfl
    rw [e1, tot_append, e2]
    rw [tot_append, List.length_append] at ih
    simp only [List.length_cons, List.length_append]
    omega

end Go.Proofs.Qxb6605915a.Strs
