/- FnLearnWriteExact: the walk -/
import Derived.Test.Qxb6605773aAid
namespace Go.Proofs.Qxb6605773a.Lw
open Go.ChangeShapes Go.WideShapes Go.ChangeAt Go.RowKit
set_option linter.unusedVariables false

/-- true comes back; nothing old has turned -/
def Says (w : World) (e : Ending) (w' : World) : Prop := e = .returned (.bool true) ∧ Below w.heap.size w w'

theorem wrel_start (w3 : World) (n2 : Nat) (Tf : Nat → Int) (PA : Nat → Option Addr) (L : Nat → List Int) : WRel w3 w3.heap.size n2 0 Tf PA L (w3.alloc (.cells (madeCells #[.int .i64 0, .slice none 0 0] (n2 * 2)) 61)) :=
  ⟨⟨_, pairs_made w3 _ _ n2 61, fun j hj => by omega, fun j _ => ⟨if_pos (by omega), if_neg (by omega)⟩⟩, later_alloc _ _⟩

/-- the seen pair holds; the frontier's row lies; nothing old has turned -/
abbrev HeldR (w0 : World) (m b o : Nat) (v0 v1 : Value) (w' : World) : Prop :=
  w'.cell? ⟨b, o, none⟩ = some v0 ∧ w'.cell? ⟨b, o + 1, none⟩ = some v1 ∧ Hid (Below w0.heap.size w0 w' ∧ ∃ f, w'.rowIs w0.heap.size 61 m f)

theorem heldR_later {w0 : World} {m b o : Nat} {v0 v1 : Value} {w1 w2 : World} (h : HeldR w0 m b o v0 v1 w1) (hb : Below w1.heap.size w1 w2) : HeldR w0 m b o v0 v1 w2 := by
  obtain ⟨h0, h1, h2⟩ := h
  obtain ⟨h3, f, hr⟩ := unhide h2
  exact ⟨(hb.cell (cell_lt h0)).trans h0, (hb.cell (cell_lt h1)).trans h1, ⟨later_trans h3 hb, f, hr.of_block (hb.block _ hr.lt)⟩⟩

theorem heldR_set {w0 : World} {m b o : Nat} {v0 v1 : Value} {w1 : World} (hlt : b < w0.heap.size) (p : Nat) (a0 a1 : Value) (h : HeldR w0 m b o v0 v1 w1) :
    HeldR w0 m b o v0 v1 (put (put w1 ⟨w0.heap.size, p, none⟩ a0) ⟨w0.heap.size, p + 1, none⟩ a1) := by
  unfold put
  obtain ⟨h0, h1, h2⟩ := h
  obtain ⟨h3, f, hr⟩ := unhide h2
  have hne : b ≠ w0.heap.size := by omega
  exact ⟨cell_away hne (cell_away hne h0), cell_away hne (cell_away hne h1), ⟨(h3.setCell (p := ⟨w0.heap.size, p, none⟩) (Nat.le_refl _) a0).setCell (p := ⟨w0.heap.size, p + 1, none⟩) (Nat.le_refl _) a1, _, (hr.set p a0).set (p + 1) a1⟩⟩

/-- which entry is turned: none, or another site's -/
def Turned (S : List ByteArray) (sf : Nat) (site : ByteArray) (tg : Int) : Prop := (tg = -1 ∧ (site ∉ S ∨ S[sf]? = some site)) ∨ ∃ i : Nat, tg = i ∧ S[i]? = some site ∧ i ≠ sf

theorem after_learn {w3 w8 w9 Wq : World} {n F sf : Nat} {Tf : Nat → Int} {PA : Nat → Option Addr} {L : Nat → List Int} {S : List ByteArray} {site : ByteArray} {T : Int} {pa pa' : Option Addr} {pn' pc' : Nat} {pl : List Int} {v : Value}
    (hB : Below w3.heap.size w3 w8) (hfin : Fin w8 w3.heap.size n Tf PA L) (hs : Sl (Value.int .i64) w8 pa' pn' pl) (hnl : pa' = none ↔ pa = none) (hne : ∀ ad, pa' = some ad → ad.block ≠ w3.heap.size) (hF : F ≠ w3.heap.size) (hv : w8.cell? ⟨F, 3, none⟩ = some v)
    (hq : Below w8.heap.size w8 Wq) (hc : ((site ∉ S ∨ S[sf]? = some site) ∧ Below Wq.heap.size Wq w9) ∨ ∃ i : Nat, S[i]? = some site ∧ i ≠ sf ∧ Below Wq.heap.size ((Wq.setCell ⟨w3.heap.size, i * 2, none⟩ (.int .i64 T)).setCell ⟨w3.heap.size, i * 2 + 1, none⟩ (.slice pa' pn' pc')) w9) :
    ∃ tg : Int, Turned S sf site tg ∧ Fin w9 w3.heap.size n (fun j => if (j : Int) = tg then T else Tf j) (fun j => if (j : Int) = tg then pa else PA j) (fun j => if (j : Int) = tg then pl else L j) ∧ Below w3.heap.size w3 w9 ∧ w9.cell? ⟨F, 3, none⟩ = some v := by
  have hBq := later_trans hB hq
  have hvq := (hq.cell (cell_lt hv)).trans hv
  rcases hc with ⟨h1, h2⟩ | ⟨i, h1, h2, h3⟩
  · refine ⟨-1, Or.inl ⟨rfl, h1⟩, ?_, later_trans hBq h2, (h2.cell (cell_lt hvq)).trans hvq⟩
    have e : ∀ j : Nat, ¬ ((j : Int) = -1) := fun j => by omega
    simp only [if_neg (e _)]
    exact (hfin.below hq).below h2
  · have hsz : ((Wq.setCell ⟨w3.heap.size, i * 2, none⟩ (.int .i64 T)).setCell ⟨w3.heap.size, i * 2 + 1, none⟩ (.slice pa' pn' pc')).heap.size = Wq.heap.size := by simp
    have h3' := h3
    rw [← hsz] at h3'
    have hf := ((hfin.below hq).set i (T := T) (nl := pa) (qc := pc') (hs.below hq) hnl hne).below h3'
    have hBs : Below w3.heap.size w3 ((Wq.setCell ⟨w3.heap.size, i * 2, none⟩ (.int .i64 T)).setCell ⟨w3.heap.size, i * 2 + 1, none⟩ (.slice pa' pn' pc')) := (hBq.setCell (p := ⟨w3.heap.size, i * 2, none⟩) (Nat.le_refl _) _).setCell (p := ⟨w3.heap.size, i * 2 + 1, none⟩) (Nat.le_refl _) _
    have hvs : ((Wq.setCell ⟨w3.heap.size, i * 2, none⟩ (.int .i64 T)).setCell ⟨w3.heap.size, i * 2 + 1, none⟩ (.slice pa' pn' pc')).cell? ⟨F, 3, none⟩ = some v := cell_away hF (cell_away hF hvq)
    exact ⟨i, Or.inr ⟨i, rfl, h1, h2⟩, hf, later_trans hBs h3', (h3'.cell (cell_lt hvs)).trans hvs⟩

/-- the law's own search comes to the same entry -/
theorem target_is {S : List ByteArray} {sf : Nat} {site : ByteArray} {tg r : Int} (hS : Incr S) (ht : Turned S sf site tg) (hr : (r = -1 ∧ site ∉ S) ∨ ∃ i : Nat, r = i ∧ S[i]? = some site) : (r = sf ∧ tg = -1) ∨ (r ≠ sf ∧ r = tg) := by
  rcases ht with ⟨h1, h2⟩ | ⟨i, h1, h2, h3⟩
  · rcases hr with ⟨r1, r2⟩ | ⟨m, r1, r2⟩
    · exact Or.inr ⟨by omega, by omega⟩
    · rcases h2 with h2 | h2
      · exact absurd (List.mem_of_getElem? r2) h2
      · have := incr_inj hS m sf site r2 h2
        exact Or.inl ⟨by omega, h1⟩
  · rcases hr with ⟨r1, r2⟩ | ⟨m, r1, r2⟩
    · exact absurd (List.mem_of_getElem? h2) r2
    · have := incr_inj hS m i site r2 h2
      exact Or.inr ⟨by omega, by omega⟩

set_option maxRecDepth 100000 in
set_option maxHeartbeats 16000000 in
theorem law6 (a : Option Addr) (n c : Nat) (S : List ByteArray) (self : Int) (a2 : Option Addr) (n2 c2 : Nat) (Tf : Nat → Int) (PA : Nat → Option Addr) (PN PC : Nat → Nat) (L : Nat → List Int) (ky : ByteArray) (op : Int) (va : Option Addr) (vn vc : Nat) (vl : List Int) (dl T : Int) (site : ByteArray) (pr : Int) (pa : Option Addr) (pn pc : Nat) (pl : List Int) (w : World)
    (hn : n ≤ maxLen) (hn2 : n2 ≤ maxLen) (h : Sl Value.string w a n S) (hnil : a = none → n = 0) (hz : ∀ x, x ∈ S → x.size ≤ maxLen) (h2 : Seen w a2 n2 Tf PA PN PC L) (hP : ∀ j, j < n2 → PN j ≤ maxLen) (hk : ky.size ≤ maxLen) (hs : site.size ≤ maxLen)
    (hv : Sl (Value.int .u8) w va vn vl) (hvm : vn ≤ maxLen) (hvn : va = none → vn = 0) (hp : Sl (Value.int .i64) w pa pn pl) (hpm : pn ≤ maxLen) (hpn : pa = none → pn = 0) :
    Calls Try.prog 6 #[.slice a n c, .int .i64 self, .slice a2 n2 c2, .agg #[.string ky, .int .i64 op, .slice va vn vc, .int .i64 dl, .int .i64 T, .string site, .int .i64 pr, .slice pa pn pc]] w (Says w) := by
  have hb := later_alloc w (.cells #[.string ky, .int .i64 op, .slice va vn vc, .int .i64 dl, .int .i64 T, .string site, .int .i64 pr, .slice pa pn pc] 52)
  have HX := hide (boxAt_new w ky op va vn vc dl T site pr pa pn pc)
  have H := hide (h.below hb)
  have H2 := hide (h2.below hb)
  have HV := hide (hv.below hb)
  have HP' := hide (hp.below hb)
  have HB := hide hb
  have HZ := hide hz
  have HP := hide hP
  have HNIL := hide hnil
  have HVN := hide hvn
  have HPN := hide hpn
  have HM := hide (And.intro hk (And.intro hs (And.intro hvm hpm)))
  clear h h2 hb hz hP hv hp hnil hvn hpn hk hs hvm hpm
  go_enter Try.func6, Try.ntmps6
  go_wp2_with fail
  obtain ⟨W, hW⟩ : ∃ W, W = w.alloc (.cells #[.string ky, .int .i64 op, .slice va vn vc, .int .i64 dl, .int .i64 T, .string site, .int .i64 pr, .slice pa pn pc] 52) := ⟨_, rfl⟩
  rw [← hW] at HX H H2 HV HP' HB ⊢
  clear hW
  refine (zzBytes18 a n c S self a2 n2 c2 Tf PA PN PC L ky op va vn vc dl T site pr pa pn pc W hn hn2 (unhide H) (unhide HZ) (unhide H2) (unhide HP) (unhide HM).1 (unhide HM).2.1 (unhide HM).2.2.1 (unhide HM).2.2.2).mono ?_
  rintro _ w1 ⟨r, rfl, b1⟩
  replace H := hide ((unhide H).below b1)
  replace H2 := hide ((unhide H2).below b1)
  replace HV := hide ((unhide HV).below b1)
  replace HP' := hide ((unhide HP').below b1)
  replace HX := hide ((unhide HX).below b1)
  replace HB := hide (later_trans (unhide HB) b1)
  clear b1
  unfold maxLen at hn hn2
  cases r
  · go_wp2
    go_ret
    exact ⟨rfl, unhide HB⟩
  by_cases g1 : 65536 < n
  · go_wp2
    go_ret
    exact ⟨rfl, unhide HB⟩
  by_cases g2 : 65536 < n2
  · go_wp2
    go_ret
    exact ⟨rfl, unhide HB⟩
  have hd1 : decide ((65536 : Int) < (n : Int)) = false := by simp only [decide_eq_false_iff_not]; omega
  have hd2 : decide ((65536 : Int) < (n2 : Int)) = false := by simp only [decide_eq_false_iff_not]; omega
  go_wp2
  go_loop [9, 10] (fun z i => ∃ k t : Nat, k ≤ n ∧ i = .int .i64 k ∧ z = .int .i64 (t : Int) ∧ t ≤ 1048576) (fun _ i => n - (intOf i).toNat)
  case atStart => exact ⟨0, 0, Nat.zero_le _, rfl, rfl, by omega⟩
  case round =>
    obtain ⟨k, t, hk, rfl, rfl, ht⟩ := hrel
    by_cases hlt : k < n
    · obtain ⟨b, off, x, ha, hx, hc⟩ := (unhide H).at k hlt
      have hxz := unhide HZ x (List.mem_of_getElem? hx)
      unfold maxLen at hxz
      clear hx
      rw [ha]
      clear ha
      by_cases h2 : 1048576 < x.size
      · go_wp2
        go_ret
        exact ⟨rfl, unhide HB⟩
      by_cases h3 : 1048576 < t + (16 + x.size)
      · go_wp2
        go_ret
        exact ⟨rfl, unhide HB⟩
      go_wp2
      go_round
      case rel => exact ⟨k + 1, t + (16 + x.size), by omega, by go_num, by go_num, by omega⟩
      case measure => simp [intOf]; omega
    have hkn : decide ((k : Int) < (n : Int)) = false := by simp only [decide_eq_false_iff_not]; omega
    clear hk hkn
    go_wp2
    go_loop [9, 11] (fun z i => ∃ k t : Nat, k ≤ n2 ∧ i = .int .i64 k ∧ z = .int .i64 (t : Int) ∧ t ≤ 1048576 ∧ Hid (∀ j, j < k → PN j ≤ 131072)) (fun _ i => n2 - (intOf i).toNat)
    case atStart => exact ⟨0, t, Nat.zero_le _, rfl, rfl, ht, fun j hj => by omega⟩
    case round =>
      obtain ⟨k2, t2, hk2, rfl, rfl, ht2, HQ⟩ := hrel
      by_cases hlt2 : k2 < n2
      · obtain ⟨b, off, ha, hc0, hc1, _, _⟩ := (unhide H2).ent k2 hlt2
        have hpk := unhide HP k2 hlt2
        unfold maxLen at hpk
        have HQ' : Hid (PN k2 ≤ 131072 → ∀ j, j < k2 + 1 → PN j ≤ 131072) := fun h j hj => by
          by_cases e : j = k2
          · subst e; exact h
          · exact unhide HQ j (by omega)
        generalize PN k2 = pk at *
        rw [ha]
        clear ha
        by_cases h2 : 131072 < pk
        · go_wp2
          go_ret
          exact ⟨rfl, unhide HB⟩
        have HQ2 := hide (unhide HQ' (by omega))
        clear HQ HQ'
        by_cases h3 : 1048576 < t2 + (32 + 8 * pk)
        · go_wp2
          go_ret
          exact ⟨rfl, unhide HB⟩
        go_wp2
        go_round
        case rel => exact ⟨k2 + 1, t2 + (32 + 8 * pk), by omega, by go_num, by go_num, by omega, HQ2⟩
        case measure => simp [intOf]; omega
      have HQn : Hid (∀ j, j < n2 → PN j ≤ 131072) := fun j hj => unhide HQ j (by omega)
      have hkn2 : decide ((k2 : Int) < (n2 : Int)) = false := by simp only [decide_eq_false_iff_not]; omega
      clear HQ hk2 hkn2 HP
      obtain ⟨x0, x1, x2, x3, x4, x5, x6, x7⟩ := unhide HX
      go_wp2_with fail
      refine (writeBytes19 ky op va vn vc dl T site pr pa pn pc w1 (unhide HM).1 (unhide HM).2.1 (unhide HM).2.2.1 (unhide HM).2.2.2).mono ?_
      rintro _ w2 ⟨rb, rfl, b2, hrb, hrb'⟩
      replace H := hide ((unhide H).below b2)
      replace H2 := hide ((unhide H2).below b2)
      replace HV := hide ((unhide HV).below b2)
      replace HP' := hide ((unhide HP').below b2)
      replace HX := hide ((unhide HX).below b2)
      replace HB := hide (later_trans (unhide HB) b2)
      clear b2 x0 x1 x2 x3 x4 x5 x6 x7
      by_cases g3 : 1048576 < t2 + rb
      · go_wp2
        go_ret
        exact ⟨rfl, unhide HB⟩
      have hvp := hrb' (by omega)
      have hvnb : vn ≤ 1048576 := hvp.1
      have hpnb : pn ≤ 1048576 := by omega
      clear hrb' hvp
      by_cases e1 : ¬ n2 = n
      · have he1 : ((n2 : Int) != (n : Int)) = true := by rw [bne_iff_ne]; omega
        go_wp2
        go_ret
        exact ⟨rfl, unhide HB⟩
      replace e1 : n2 = n := Decidable.not_not.1 e1
      subst e1
      have he1 : ((n2 : Int) != (n2 : Int)) = false := by simp
      by_cases e2 : self < 0
      · go_wp2
        go_ret
        exact ⟨rfl, unhide HB⟩
      by_cases e3 : (n2 : Int) ≤ self
      · go_wp2
        go_ret
        exact ⟨rfl, unhide HB⟩
      obtain ⟨sf, rfl⟩ : ∃ sf : Nat, self = sf := ⟨self.toNat, by omega⟩
      have hsf : sf < n2 := by omega
      clear e2 e3
      obtain ⟨b, off, ha, hc0, hc1, _, _⟩ := (unhide H2).ent sf hsf
      subst ha
      have hq : ∀ (w : World) (a : Option Addr) (n c n' c' : Nat), (binOp .neq 22 (.slice a n c) (.slice none n' c')).run Try.prog w = .ok (.bool (!a.isNone)) w := fun w a n c n' c' => run_neq_slice_nil_any w _ _ a n c n' c' Try.underlying22
      by_cases e4 : ¬ Tf sf = 0
      · have he4 : (Tf sf != 0) = true := by rw [bne_iff_ne]; exact e4
        clear e4
        go_wp2
        go_ret
        exact ⟨rfl, unhide HB⟩
      have he4 : (Tf sf != 0) = false := by rw [bne_eq_false_iff_eq]; exact Decidable.not_not.1 e4
      clear e4
      cases e5 : (PA sf).isNone
      · go_wp2
        go_ret
        exact ⟨rfl, unhide HB⟩
      go_wp2_with fail
      refine (sorted20 a n2 c S w2 (by omega) (unhide H)).mono ?_
      rintro _ _ ⟨rs, rfl, ⟨q3, rfl⟩, hrs⟩
      have b3 := later_drewN w2 q3
      replace H := hide ((unhide H).below b3)
      replace H2 := hide ((unhide H2).below b3)
      replace HV := hide ((unhide HV).below b3)
      replace HP' := hide ((unhide HP').below b3)
      replace HX := hide ((unhide HX).below b3)
      replace HB := hide (later_trans (unhide HB) b3)
      clear b3 hc0 hc1
      generalize w2.drewN q3 = w3 at *
      by_cases e6 : ¬ rs = 1
      · have he6 : (rs == 1) = false := by simp; exact e6
        clear e6 hrs
        go_wp2
        go_ret
        exact ⟨rfl, unhide HB⟩
      replace e6 : rs = 1 := Decidable.not_not.1 e6
      have HS := hide (hrs e6)
      have he6 : (rs == 1) = true := by simp; exact e6
      clear e6 hrs hq
      have hmk := make58 n2 (by omega) w3
      have HL0 := hide (wrel_start w3 n2 Tf PA L)
      go_wp2
      clear hmk
      go_loopw [13] (fun i wr => ∃ k : Nat, k ≤ n2 ∧ i = .int .i64 k ∧ Hid (WRel w3 w3.heap.size n2 k Tf PA L wr)) (fun i _ => n2 - (intOf i).toNat)
      case atStart => exact ⟨0, Nat.zero_le _, rfl, HL0⟩
      case round =>
        obtain ⟨k3, hk3, rfl, HR⟩ := hrel
        by_cases hlt3 : k3 < n2
        · obtain ⟨b', off', ha', hc0, hc1, hsl, hnl⟩ := (unhide H2).ent k3 hlt3
          obtain ⟨rfl, rfl⟩ : b = b' ∧ off = off' := by simpa using ha'
          clear ha'
          have hbw : b < w3.heap.size := cell_lt hc0
          have hi1 : (k3 : Int) < (n2 : Int) := by omega
          have HPk : Hid (PN k3 ≤ 131072) := unhide HQn k3 hlt3
          have S0 : Hid (HeldR w3 (n2 * 2) b (off + k3 * 2) (.int .i64 (Tf k3)) (.slice (PA k3) (PN k3) (PC k3)) wr) := ⟨((unhide HR).bel.cell hbw).trans hc0, ((unhide HR).bel.cell hbw).trans hc1, ⟨(unhide HR).bel, by obtain ⟨f, hf, _⟩ := (unhide HR).row; exact ⟨f, hf⟩⟩⟩
          have HSP : Hid (∀ W', HeldR w3 (n2 * 2) b (off + k3 * 2) (.int .i64 (Tf k3)) (.slice (PA k3) (PN k3) (PC k3)) W' → Sl (Value.int .i64) W' (PA k3) (PN k3) (L k3)) := fun W' h => hsl.below (unhide h.2.2).1
          have HNL := hide hnl
          have HF : Hid (∀ W', HeldR w3 (n2 * 2) b (off + k3 * 2) (.int .i64 (Tf k3)) (.slice (PA k3) (PN k3) (PC k3)) W' → ∃ f0 f1, W'.cell? ⟨w3.heap.size, k3 * 2, none⟩ = some f0 ∧ W'.cell? ⟨w3.heap.size, k3 * 2 + 1, none⟩ = some f1 ∧ W'.frozen? ⟨w3.heap.size, k3 * 2, none⟩ = false ∧ W'.frozen? ⟨w3.heap.size, k3 * 2 + 1, none⟩ = false) := by
            intro W' h
            obtain ⟨_, f, hr⟩ := unhide h.2.2
            exact ⟨_, _, hr.cell (by omega), hr.cell (by omega), hr.frozen _, hr.frozen _⟩
          clear hc0 hc1 hsl hnl
          go_wp2
          go_region_held3 (fun w' => w'.cell? ⟨b, off + k3 * 2, none⟩ = some (.int .i64 (Tf k3)) ∧ w'.cell? ⟨b, off + k3 * 2 + 1, none⟩ = some (.slice (PA k3) (PN k3) (PC k3)) ∧ Hid (Below w3.heap.size w3 w' ∧ ∃ f, w'.rowIs w3.heap.size 61 (n2 * 2) f))
            (first | (simp only [put_eq]; exact heldR_set (w0 := w3) (m := n2 * 2) (b := b) (o := off + k3 * 2) (v0 := .int .i64 (Tf k3)) (v1 := .slice (PA k3) (PN k3) (PC k3)) (w1 := w5) hbw (k3 * 2) (.int .i64 (Tf k3)) (.slice qa qn qc) (by assumption)) | (exact heldR_later (w0 := w3) (w1 := wr) (unhide S0) (later_drew wr)) | (exact heldR_later (w0 := w3) (m := n2 * 2) (b := b) (o := off + k3 * 2) (v0 := .int .i64 (Tf k3)) (v1 := .slice (PA k3) (PN k3) (PC k3)) (by assumption) b5) | (exact heldR_later (w0 := w3) (m := n2 * 2) (b := b) (o := off + k3 * 2) (v0 := .int .i64 (Tf k3)) (v1 := .slice (PA k3) (PN k3) (PC k3)) (by assumption) b4))
            (first
              | (go_at_call 10; refine (cloneInt (PA k3) (PN k3) (PC k3) (L k3) _ ?_ ?_ (unhide HNL)).mono ?_; (have := unhide HPk; omega); (exact unhide HSP _ (by assumption)); rintro _ w4 ⟨qa, qn, qc, rfl, s4, b4, i4, m4⟩)
              | (go_at_call 21; refine (mkSaw21 (Tf k3) qa qn qc _).mono ?_; rintro _ w5 ⟨rfl, b5⟩; obtain ⟨f0, f1, d0, d1, e0, e1⟩ := unhide HF w5 (heldR_later (w0 := w3) (m := n2 * 2) (b := b) (o := off + k3 * 2) (v0 := .int .i64 (Tf k3)) (v1 := .slice (PA k3) (PN k3) (PC k3)) (w1 := w4) (by assumption) b5)))
          have HR5 : Hid (WRel w3 w3.heap.size n2 (k3 + 1) Tf PA L ((w5.setCell ⟨w3.heap.size, k3 * 2, none⟩ (.int .i64 (Tf k3))).setCell ⟨w3.heap.size, k3 * 2 + 1, none⟩ (.slice qa qn qc))) := by
            have hwr : w3.heap.size < wr.heap.size := by obtain ⟨f, hf, _⟩ := (unhide HR).row; exact hf.lt
            refine ((((unhide HR).later (later_drew wr)).later b4).later b5).set (Nat.le_refl _) (s4.below b5) i4 (fun ad h => ?_)
            have h1 := m4 ad h
            have h2 : wr.drew.heap.size = wr.heap.size := rfl
            omega
          clear s4 b4 b5 i4 m4 d0 d1 e0 e1 HF HSP S0 HNL HPk
          go_wp2
          go_roundw
          case rel => exact ⟨k3 + 1, by omega, by go_num, HR5⟩
          case measure => simp [intOf]; omega
        obtain rfl : n2 = k3 := by omega
        have HFin := hide (unhide HR).fin
        have B3 := hide (unhide HR).bel
        have hwlt : w3.heap.size < wr.heap.size := (unhide HFin).lt
        clear HR hk3
        go_wp2_with fail
        refine (cloneStr a n2 c S wr (by omega) ((unhide H).below (unhide B3)) (unhide HNIL)).mono ?_
        rintro _ w6 ⟨sa, sn, sc, rfl, s6, b6, _, _⟩
        have hsn : sn = n2 := by rw [s6.len, ← (unhide H).len]
        subst hsn
        have S6 := hide s6
        replace HFin := hide ((unhide HFin).below b6)
        replace B3 := hide (later_trans (unhide B3) b6)
        have hsz6 := b6.size
        clear s6 b6
        go_wp2_with fail
        refine (newFrontier22 sa sn sc (sf : Int) (some ⟨w3.heap.size, 0, none⟩) sn sn w6).mono ?_
        rintro _ w7 ⟨rfl, b7, d0, d2, d3⟩
        have hF : w6.heap.size ≠ w3.heap.size := by omega
        have hF7 : w6.heap.size < w7.heap.size := cell_lt d0
        have hW7 : w3.heap.size < w7.heap.size := by omega
        replace S6 := hide ((unhide S6).below b7)
        replace HFin := hide ((unhide HFin).below b7)
        replace B3 := hide (later_trans (unhide B3) b7)
        clear b7
        generalize w6.heap.size = F at *
        obtain ⟨x0, x1, x2, x3, x4, x5, x6, x7⟩ := (unhide HX).below (unhide B3)
        have D0 := hide d0
        have D2 := hide d2
        have D3 := hide d3
        clear d0 d2 d3
        go_wp2_with fail
        refine (toWrite25 ky op va vn vc vl dl T site pr pa pn pc pl w7 hvnb hpnb ((unhide HV).below (unhide B3)) ((unhide HP').below (unhide B3)) (unhide HVN) (unhide HPN)).mono ?_
        rintro _ w8 ⟨va', vn', vc', pa', pn', pc', rfl, b8, s8, i8, m8⟩
        have M8 : Hid (∀ ad, pa' = some ad → ad.block ≠ w3.heap.size) := fun ad h => by have := m8 ad h; omega
        have hF8 : F < w8.heap.size := Nat.lt_of_lt_of_le hF7 b8.size
        have hW8 : w3.heap.size < w8.heap.size := Nat.lt_of_lt_of_le hW7 b8.size
        replace D0 := hide ((b8.cell (cell_lt (unhide D0))).trans (unhide D0))
        replace D2 := hide ((b8.cell (cell_lt (unhide D2))).trans (unhide D2))
        replace D3 := hide ((b8.cell (cell_lt (unhide D3))).trans (unhide D3))
        replace S6 := hide ((unhide S6).below b8)
        replace HFin := hide ((unhide HFin).below b8)
        replace B3 := hide (later_trans (unhide B3) b8)
        have I8 := hide i8
        have S8 := hide s8
        clear b8 s8 i8 m8 x0 x1 x2 x3 x4 x5 x6 x7
        go_wp2_with fail
        refine (learn24 F w3.heap.size sn sn sa sn sc S sf ky op va' vn' vc' dl T site pr pa' pn' pc' w8 (by omega) rfl hF8 hW8 (unhide D0) (unhide D2) (unhide D3) (unhide S6) (fun i hi => ⟨_, ((unhide HFin).cells i hi).1⟩) (fun i hi => by obtain ⟨_, qa, qn, qc, h, _⟩ := (unhide HFin).cells i hi; exact ⟨qa, qn, qc, h⟩) (unhide HFin).frozen).mono ?_
        rintro _ w9 ⟨rfl, Wq, bq, hq⟩
        obtain ⟨tg, htg, hfin9, b39, hv9⟩ := after_learn (unhide B3) (unhide HFin) (unhide S8) (unhide I8) (unhide M8) hF (unhide D3) bq hq
        have HTG := hide htg
        have HF9 := hide hfin9
        have B9 := hide b39
        have D9 := hide hv9
        clear htg hfin9 b39 hv9 bq hq HFin B3 D0 D2 D3 S6 S8 I8 M8
        obtain ⟨x0, x1, x2, x3, x4, x5, x6, x7⟩ := (unhide HX).below (unhide B9)
        go_wp2_with fail
        refine (search26 a sn c S site w9 (by omega) ((unhide H).below (unhide B9)) (unhide HS)).mono ?_
        rintro _ w9 ⟨r, rfl, rfl, hr⟩
        rcases target_is (unhide HS) (unhide HTG) hr with ⟨hr1, hr2⟩ | ⟨hr1, hr2⟩
        · subst hr2
          subst hr1
          have hee : ((sf : Int) == (sf : Int)) = true := by simp
          clear hr HTG
          have HG : Hid (∀ j, j < sn → w9.cell? ⟨w3.heap.size, j * 2, none⟩ = some (.int .i64 (if (j : Int) = (-1) then T else Tf j)) ∧ ∃ qa qn qc, w9.cell? ⟨w3.heap.size, j * 2 + 1, none⟩ = some (.slice qa qn qc) ∧ Sl (Value.int .i64) w9 qa qn (if (j : Int) = (-1) then pl else L j) ∧ (qa = none ↔ (if (j : Int) = (-1) then pa else PA j) = none)) := (unhide HF9).cells
          clear HF9
          go_wp2
          go_loopw [16, 17, 18, 19, 20] (fun i _ _ _ _ wr => ∃ k : Nat, k ≤ sn ∧ i = .int .i64 k ∧ Hid (Drawn w9 wr)) (fun i _ _ _ _ _ => sn - (intOf i).toNat)
          case atStart => exact ⟨0, Nat.zero_le _, rfl, Drawn.refl w9⟩
          case round =>
            obtain ⟨k4, hk4, rfl, HD⟩ := hrel
            have bD := (unhide HD).below
            by_cases hlt4 : k4 < sn
            · obtain ⟨b', off', ha', hc0, hc1, hsl, hnl⟩ := ((unhide H2).below (unhide B9)).ent k4 hlt4
              obtain ⟨rfl, rfl⟩ : b = b' ∧ off = off' := by simpa using ha'
              obtain ⟨hg0, qa, qn, qc, hg1, hgs, hgn⟩ := unhide HG k4 hlt4
              have hc0' := (bD.cell (cell_lt hc0)).trans hc0
              have hc1' := (bD.cell (cell_lt hc1)).trans hc1
              have hy4 := (bD.cell (cell_lt x4)).trans x4
              have hy7 := (bD.cell (cell_lt x7)).trans x7
              have G0 := hide ((bD.cell (cell_lt hg0)).trans hg0)
              have G1 := hide ((bD.cell (cell_lt hg1)).trans hg1)
              have GS := hide (hgs.below bD)
              have GL := hide (hsl.below bD)
              have GP := hide (((unhide HP').below (unhide B9)).below bD)
              have D9' := hide ((bD.cell (cell_lt (unhide D9))).trans (unhide D9))
              have GN := hide hgn
              have HPk : PN k4 ≤ 131072 := unhide HQn k4 hlt4
              clear hc0 hc1 hg0 hg1 hgs hgn hsl hnl ha' bD
              by_cases ek : (k4 : Int) = (-1)
              · have hek : ((k4 : Int) == (-1)) = true := by rw [beq_iff_eq]; exact ek
                rw [if_pos ek] at G0 GS GN
                have HEK := hide ek
                clear ek
                go_wp2_with fail
                refine (wroteAt27 F w3.heap.size sn sn k4 T (.slice qa qn qc) wr (by omega) hlt4 (unhide D9') (unhide G0) (unhide G1)).mono ?_
                rintro _ _ ⟨rfl, q, rfl⟩
                have hTT : (T != T) = false := by simp
                have bq := later_drewN wr q
                replace GS := hide ((unhide GS).below bq)
                replace GP := hide ((unhide GP).below bq)
                replace HD := hide ((unhide HD).drewN q)
                clear bq hc0' hc1' hy4 hy7 G0 G1 D9'
                generalize wr.drewN q = wq at *
                go_wp2_with fail
                refine (same28 qa pa qn pn qc pc pl wq (by rw [(unhide GS).len, ← (unhide GP).len]; exact hpnb) (unhide GS) (unhide GP) (unhide GN)).mono ?_
                rintro _ _ ⟨rfl, q2, rfl⟩
                replace HD := hide ((unhide HD).drewN q2)
                generalize wq.drewN q2 = wz at *
                go_wp2
                go_roundw
                case rel => exact ⟨k4 + 1, by omega, by go_num, HD⟩
                case measure => simp [intOf]; omega
              · have hek : ((k4 : Int) == (-1)) = false := by rw [beq_eq_false_iff_ne]; exact ek
                rw [if_neg ek] at G0 GS GN
                have HEK := hide ek
                clear ek
                go_wp2_with fail
                refine (wroteAt27 F w3.heap.size sn sn k4 (Tf k4) (.slice qa qn qc) wr (by omega) hlt4 (unhide D9') (unhide G0) (unhide G1)).mono ?_
                rintro _ _ ⟨rfl, q, rfl⟩
                have hTT : (Tf k4 != Tf k4) = false := by simp
                have bq := later_drewN wr q
                replace GS := hide ((unhide GS).below bq)
                replace GL := hide ((unhide GL).below bq)
                replace HD := hide ((unhide HD).drewN q)
                clear bq hc0' hc1' hy4 hy7 G0 G1 D9'
                generalize wr.drewN q = wq at *
                go_wp2_with fail
                refine (same28 qa (PA k4) qn (PN k4) qc (PC k4) (L k4) wq (by rw [(unhide GS).len, ← (unhide GL).len]; omega) (unhide GS) (unhide GL) (unhide GN)).mono ?_
                rintro _ _ ⟨rfl, q2, rfl⟩
                replace HD := hide ((unhide HD).drewN q2)
                generalize wq.drewN q2 = wz at *
                go_wp2
                go_roundw
                case rel => exact ⟨k4 + 1, by omega, by go_num, HD⟩
                case measure => simp [intOf]; omega
            · have hlast := hide (later_trans (later_trans (unhide HB) (unhide B9)) bD)
              clear bD
              go_wp2
              go_ret
              exact ⟨rfl, unhide hlast⟩
        · subst hr2
          have hee : (r == (sf : Int)) = false := by rw [beq_eq_false_iff_ne]; exact hr1
          clear hr HTG hr1
          have HG : Hid (∀ j, j < sn → w9.cell? ⟨w3.heap.size, j * 2, none⟩ = some (.int .i64 (if (j : Int) = r then T else Tf j)) ∧ ∃ qa qn qc, w9.cell? ⟨w3.heap.size, j * 2 + 1, none⟩ = some (.slice qa qn qc) ∧ Sl (Value.int .i64) w9 qa qn (if (j : Int) = r then pl else L j) ∧ (qa = none ↔ (if (j : Int) = r then pa else PA j) = none)) := (unhide HF9).cells
          clear HF9
          go_wp2
          go_loopw [16, 17, 18, 19, 20] (fun i _ _ _ _ wr => ∃ k : Nat, k ≤ sn ∧ i = .int .i64 k ∧ Hid (Drawn w9 wr)) (fun i _ _ _ _ _ => sn - (intOf i).toNat)
          case atStart => exact ⟨0, Nat.zero_le _, rfl, Drawn.refl w9⟩
          case round =>
            obtain ⟨k4, hk4, rfl, HD⟩ := hrel
            have bD := (unhide HD).below
            by_cases hlt4 : k4 < sn
            · obtain ⟨b', off', ha', hc0, hc1, hsl, hnl⟩ := ((unhide H2).below (unhide B9)).ent k4 hlt4
              obtain ⟨rfl, rfl⟩ : b = b' ∧ off = off' := by simpa using ha'
              obtain ⟨hg0, qa, qn, qc, hg1, hgs, hgn⟩ := unhide HG k4 hlt4
              have hc0' := (bD.cell (cell_lt hc0)).trans hc0
              have hc1' := (bD.cell (cell_lt hc1)).trans hc1
              have hy4 := (bD.cell (cell_lt x4)).trans x4
              have hy7 := (bD.cell (cell_lt x7)).trans x7
              have G0 := hide ((bD.cell (cell_lt hg0)).trans hg0)
              have G1 := hide ((bD.cell (cell_lt hg1)).trans hg1)
              have GS := hide (hgs.below bD)
              have GL := hide (hsl.below bD)
              have GP := hide (((unhide HP').below (unhide B9)).below bD)
              have D9' := hide ((bD.cell (cell_lt (unhide D9))).trans (unhide D9))
              have GN := hide hgn
              have HPk : PN k4 ≤ 131072 := unhide HQn k4 hlt4
              clear hc0 hc1 hg0 hg1 hgs hgn hsl hnl ha' bD
              by_cases ek : (k4 : Int) = r
              · have hek : ((k4 : Int) == r) = true := by rw [beq_iff_eq]; exact ek
                rw [if_pos ek] at G0 GS GN
                have HEK := hide ek
                clear ek
                go_wp2_with fail
                refine (wroteAt27 F w3.heap.size sn sn k4 T (.slice qa qn qc) wr (by omega) hlt4 (unhide D9') (unhide G0) (unhide G1)).mono ?_
                rintro _ _ ⟨rfl, q, rfl⟩
                have hTT : (T != T) = false := by simp
                have bq := later_drewN wr q
                replace GS := hide ((unhide GS).below bq)
                replace GP := hide ((unhide GP).below bq)
                replace HD := hide ((unhide HD).drewN q)
                clear bq hc0' hc1' hy4 hy7 G0 G1 D9'
                generalize wr.drewN q = wq at *
                go_wp2_with fail
                refine (same28 qa pa qn pn qc pc pl wq (by rw [(unhide GS).len, ← (unhide GP).len]; exact hpnb) (unhide GS) (unhide GP) (unhide GN)).mono ?_
                rintro _ _ ⟨rfl, q2, rfl⟩
                replace HD := hide ((unhide HD).drewN q2)
                generalize wq.drewN q2 = wz at *
                go_wp2
                go_roundw
                case rel => exact ⟨k4 + 1, by omega, by go_num, HD⟩
                case measure => simp [intOf]; omega
              · have hek : ((k4 : Int) == r) = false := by rw [beq_eq_false_iff_ne]; exact ek
                rw [if_neg ek] at G0 GS GN
                have HEK := hide ek
                clear ek
                go_wp2_with fail
                refine (wroteAt27 F w3.heap.size sn sn k4 (Tf k4) (.slice qa qn qc) wr (by omega) hlt4 (unhide D9') (unhide G0) (unhide G1)).mono ?_
                rintro _ _ ⟨rfl, q, rfl⟩
                have hTT : (Tf k4 != Tf k4) = false := by simp
                have bq := later_drewN wr q
                replace GS := hide ((unhide GS).below bq)
                replace GL := hide ((unhide GL).below bq)
                replace HD := hide ((unhide HD).drewN q)
                clear bq hc0' hc1' hy4 hy7 G0 G1 D9'
                generalize wr.drewN q = wq at *
                go_wp2_with fail
                refine (same28 qa (PA k4) qn (PN k4) qc (PC k4) (L k4) wq (by rw [(unhide GS).len, ← (unhide GL).len]; omega) (unhide GS) (unhide GL) (unhide GN)).mono ?_
                rintro _ _ ⟨rfl, q2, rfl⟩
                replace HD := hide ((unhide HD).drewN q2)
                generalize wq.drewN q2 = wz at *
                go_wp2
                go_roundw
                case rel => exact ⟨k4 + 1, by omega, by go_num, HD⟩
                case measure => simp [intOf]; omega
            · have hlast := hide (later_trans (later_trans (unhide HB) (unhide B9)) bD)
              clear bD
              go_wp2
              go_ret
              exact ⟨rfl, unhide hlast⟩

end Go.Proofs.Qxb6605773a.Lw
