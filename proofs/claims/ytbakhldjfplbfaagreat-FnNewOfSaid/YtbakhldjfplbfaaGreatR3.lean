/-
  A geometry of a kind that is made of parts. No condition.
-/
import Derived.Test.YtbakhldjfplbfaaGreatR2
import Derived.Test.YtbakhldjfplbfaaGreatGrow4
set_option linter.unusedVariables false
set_option linter.unusedSimpArgs false
namespace Go.Proofs.YtbakhldjfplbfaaGreat
open Go.RowKit Go.Fl Go.Sl Go.Pg Go.Ch Go.Kf
/-- the row's block is not among these -/
def Apart (v : Value) (G : Nat → Prop) : Prop := ∀ g, v.ownBlock = some g → ¬ G g
theorem Apart.or {v : Value} {G G2 : Nat → Prop} (h : Apart v G) (h2 : Apart v G2) : Apart v (fun b => G b ∨ G2 b) := fun g hg hb => hb.elim (h g hg) (h2 g hg)
theorem Apart.next {v v' : Value} {G : Nat → Prop} {s : Nat} (h : Apart v G) (ha : v'.ownBlock = v.ownBlock ∨ v'.ownBlock = some s) (hs : ∀ b, G b → b < s) : Apart v' G := fun g hg hb => by
  rcases ha with ha | ha
  · exact h g (by rw [← ha]; exact hg) hb
  · rw [ha] at hg
    cases hg
    exact absurd (hs _ hb) (by omega)
theorem GrowG.owns {α : Type} {R : World → (Nat → Prop) → List Value → α → Prop} {wr : World} {B : Nat} {G : Nat → Prop} {T : TypeId} {kc m : Nat} {v : Value} {ys : List α} (h : GrowG B G wr R T kc m v ys) : ∃ xs, wr.ownsRow B T kc v m xs := by obtain ⟨_, _, _, _, _, h, _⟩ := h; exact ⟨_, h⟩
theorem GrowG.data {α : Type} {R : World → (Nat → Prop) → List Value → α → Prop} {wr : World} {B : Nat} {G : Nat → Prop} {T : TypeId} {kc m : Nat} {v : Value} {ys : List α} (h : GrowG B G wr R T kc m v ys) : ∀ b, G b → b < wr.heap.size := by obtain ⟨_, _, _, _, _, _, _, _, _, _, h, _⟩ := h; exact fun b hb => (h b hb).2
/-- the three lists of parts that are gathered -/
structure Three (B n : Nat) (kids : List GT) (k : Nat) (vp vl va : Value) (wr : World) (mp ml ma : Nat) (Gp Gl Ga : Nat → Prop) : Prop where
  p : GrowG B Gp wr PtR 141 6 mp vp (((kids.take k).map newP).filter (takes 4))
  l : GrowG B Gl wr LsR 99 2 ml vl (((kids.take k).map newP).filter (takes 5))
  a : GrowG B Ga wr PyR 121 2 ma va (((kids.take k).map newP).filter (takes 6))
  bp : mp ≤ k
  bl : ml ≤ k
  ba : ma ≤ k
  pl : Apart vp Gl
  pa : Apart vp Ga
  lp : Apart vl Gp
  la : Apart vl Ga
  ap : Apart va Gp
  al : Apart va Gl
  zp : mp = 0 → vp = .slice none 0 0
  zl : ml = 0 → vl = .slice none 0 0
  za : ma = 0 → va = .slice none 0 0
theorem Three.keep {B n : Nat} {kids : List GT} {k : Nat} {vp vl va : Value} {wr w4 : World} {mp ml ma : Nat} {Gp Gl Ga : Nat → Prop} (h : Three B n kids k vp vl va wr mp ml ma Gp Gl Ga) (hk : Stab.Keeps wr w4) : Three B n kids k vp vl va w4 mp ml ma Gp Gl Ga :=
  ⟨h.p.keep ptS hk, h.l.keep lsS hk, h.a.keep pyS hk, h.bp, h.bl, h.ba, h.pl, h.pa, h.lp, h.la, h.ap, h.al, h.zp, h.zl, h.za⟩
theorem Three.more_p {B n : Nat} {kids : List GT} {k : Nat} {vp vl va : Value} {wr w' : World} {mp ml ma : Nat} {Gp Gl Ga G2 : Nat → Prop} (h : Three B n kids k vp vl va wr mp ml ma Gp Gl Ga) (hk : k < kids.length) (hkd : kids[k].hd.kind = 1) {al : Option Addr} {c s0 : Nat}
    (hG : GrowG B (fun b => Gp b ∨ G2 b) w' PtR 141 6 (mp + 1) (.slice al (mp + 1) c) (((kids.take k).map newP).filter (takes 4) ++ [newP kids[k]])) (hgr : wr.grownBy w' vp.ownBlock) (hat : (Value.slice al (mp + 1) c).ownBlock = vp.ownBlock ∨ (Value.slice al (mp + 1) c).ownBlock = some wr.heap.size)
    (h2 : Apart vl G2 ∧ Apart va G2) : Three B n kids (k + 1) (.slice al (mp + 1) c) vl va w' (mp + 1) ml ma (fun b => Gp b ∨ G2 b) Gl Ga := by
  have hsn : ∀ t, ((kids.take (k + 1)).map newP).filter (takes t) = if takes t (newP kids[k]) then ((kids.take k).map newP).filter (takes t) ++ [newP kids[k]] else ((kids.take k).map newP).filter (takes t) := fun t => by
    rw [List.take_succ_eq_append_getElem hk, List.map_append]; exact filter_snoc _ _ _
  have hkn : (newP kids[k]).kind = 1 := by rw [newP_kind, hkd]; rfl
  have t4 : takes 4 (newP kids[k]) = true := by simp [takes, hkn]
  have t5 : takes 5 (newP kids[k]) = false := by simp [takes, hkn]
  have t6 : takes 6 (newP kids[k]) = false := by simp [takes, hkn]
  obtain ⟨xp, hxp⟩ := GrowG.owns h.p
  obtain ⟨xl, hxl⟩ := GrowG.owns h.l
  obtain ⟨xa, hxa⟩ := GrowG.owns h.a
  refine ⟨?_, ?_, ?_, by have := h.bp; omega, by have := h.bl; omega, by have := h.ba; omega, Apart.next h.pl hat (GrowG.data h.l), Apart.next h.pa hat (GrowG.data h.a), Apart.or h.lp h2.1, h.la, Apart.or h.ap h2.2, h.al, fun h => by omega, h.zl, h.za⟩
  · rw [hsn 4, if_pos t4]; exact hG
  · rw [hsn 5, if_neg (by rw [t5]; decide)]; exact h.l.other lsS hgr (owns_apart hxl hxp (by decide)) (fun k hk => h.pl k hk)
  · rw [hsn 6, if_neg (by rw [t6]; decide)]; exact h.a.other pyS hgr (owns_apart hxa hxp (by decide)) (fun k hk => h.pa k hk)
theorem Three.more_l {B n : Nat} {kids : List GT} {k : Nat} {vp vl va : Value} {wr w' : World} {mp ml ma : Nat} {Gp Gl Ga G2 : Nat → Prop} (h : Three B n kids k vp vl va wr mp ml ma Gp Gl Ga) (hk : k < kids.length) (hkd : kids[k].hd.kind = 2) {al : Option Addr} {c s0 : Nat}
    (hG : GrowG B (fun b => Gl b ∨ G2 b) w' LsR 99 2 (ml + 1) (.slice al (ml + 1) c) (((kids.take k).map newP).filter (takes 5) ++ [newP kids[k]])) (hgr : wr.grownBy w' vl.ownBlock) (hat : (Value.slice al (ml + 1) c).ownBlock = vl.ownBlock ∨ (Value.slice al (ml + 1) c).ownBlock = some wr.heap.size)
    (h2 : Apart vp G2 ∧ Apart va G2) : Three B n kids (k + 1) vp (.slice al (ml + 1) c) va w' mp (ml + 1) ma Gp (fun b => Gl b ∨ G2 b) Ga := by
  have hsn : ∀ t, ((kids.take (k + 1)).map newP).filter (takes t) = if takes t (newP kids[k]) then ((kids.take k).map newP).filter (takes t) ++ [newP kids[k]] else ((kids.take k).map newP).filter (takes t) := fun t => by
    rw [List.take_succ_eq_append_getElem hk, List.map_append]; exact filter_snoc _ _ _
  have hkn : (newP kids[k]).kind = 2 := by rw [newP_kind, hkd]; rfl
  have t4 : takes 4 (newP kids[k]) = false := by simp [takes, hkn]
  have t5 : takes 5 (newP kids[k]) = true := by simp [takes, hkn]
  have t6 : takes 6 (newP kids[k]) = false := by simp [takes, hkn]
  obtain ⟨xp, hxp⟩ := GrowG.owns h.p
  obtain ⟨xl, hxl⟩ := GrowG.owns h.l
  obtain ⟨xa, hxa⟩ := GrowG.owns h.a
  refine ⟨?_, ?_, ?_, by have := h.bp; omega, by have := h.bl; omega, by have := h.ba; omega, Apart.or h.pl h2.1, h.pa, Apart.next h.lp hat (GrowG.data h.p), Apart.next h.la hat (GrowG.data h.a), h.ap, Apart.or h.al h2.2, h.zp, fun h => by omega, h.za⟩
  · rw [hsn 4, if_neg (by rw [t4]; decide)]; exact h.p.other ptS hgr (owns_apart hxp hxl (by decide)) (fun k hk => h.lp k hk)
  · rw [hsn 5, if_pos t5]; exact hG
  · rw [hsn 6, if_neg (by rw [t6]; decide)]; exact h.a.other pyS hgr (owns_apart hxa hxl (by decide)) (fun k hk => h.la k hk)
theorem Three.more_a {B n : Nat} {kids : List GT} {k : Nat} {vp vl va : Value} {wr w' : World} {mp ml ma : Nat} {Gp Gl Ga G2 : Nat → Prop} (h : Three B n kids k vp vl va wr mp ml ma Gp Gl Ga) (hk : k < kids.length) (hkd : kids[k].hd.kind = 3) {al : Option Addr} {c s0 : Nat}
    (hG : GrowG B (fun b => Ga b ∨ G2 b) w' PyR 121 2 (ma + 1) (.slice al (ma + 1) c) (((kids.take k).map newP).filter (takes 6) ++ [newP kids[k]])) (hgr : wr.grownBy w' va.ownBlock) (hat : (Value.slice al (ma + 1) c).ownBlock = va.ownBlock ∨ (Value.slice al (ma + 1) c).ownBlock = some wr.heap.size)
    (h2 : Apart vp G2 ∧ Apart vl G2) : Three B n kids (k + 1) vp vl (.slice al (ma + 1) c) w' mp ml (ma + 1) Gp Gl (fun b => Ga b ∨ G2 b) := by
  have hsn : ∀ t, ((kids.take (k + 1)).map newP).filter (takes t) = if takes t (newP kids[k]) then ((kids.take k).map newP).filter (takes t) ++ [newP kids[k]] else ((kids.take k).map newP).filter (takes t) := fun t => by
    rw [List.take_succ_eq_append_getElem hk, List.map_append]; exact filter_snoc _ _ _
  have hkn : (newP kids[k]).kind = 3 := by rw [newP_kind, hkd]; rfl
  have t4 : takes 4 (newP kids[k]) = false := by simp [takes, hkn]
  have t5 : takes 5 (newP kids[k]) = false := by simp [takes, hkn]
  have t6 : takes 6 (newP kids[k]) = true := by simp [takes, hkn]
  obtain ⟨xp, hxp⟩ := GrowG.owns h.p
  obtain ⟨xl, hxl⟩ := GrowG.owns h.l
  obtain ⟨xa, hxa⟩ := GrowG.owns h.a
  refine ⟨?_, ?_, ?_, by have := h.bp; omega, by have := h.bl; omega, by have := h.ba; omega, h.pl, Apart.or h.pa h2.1, h.lp, Apart.or h.la h2.2, Apart.next h.ap hat (GrowG.data h.p), Apart.next h.al hat (GrowG.data h.l), h.zp, h.zl, fun h => by omega⟩
  · rw [hsn 4, if_neg (by rw [t4]; decide)]; exact h.p.other ptS hgr (owns_apart hxp hxa (by decide)) (fun k hk => h.ap k hk)
  · rw [hsn 5, if_neg (by rw [t5]; decide)]; exact h.l.other lsS hgr (owns_apart hxl hxa (by decide)) (fun k hk => h.al k hk)
  · rw [hsn 6, if_pos t6]; exact hG
theorem Three.same {B n : Nat} {kids : List GT} {k : Nat} {vp vl va : Value} {wr : World} {mp ml ma : Nat} {Gp Gl Ga : Nat → Prop} (h : Three B n kids k vp vl va wr mp ml ma Gp Gl Ga) (hk : k < kids.length) (h1 : kids[k].hd.kind ≠ 1) (h2 : kids[k].hd.kind ≠ 2) (h3 : kids[k].hd.kind ≠ 3) : Three B n kids (k + 1) vp vl va wr mp ml ma Gp Gl Ga := by
  have hsn : ∀ t, ((kids.take (k + 1)).map newP).filter (takes t) = if takes t (newP kids[k]) then ((kids.take k).map newP).filter (takes t) ++ [newP kids[k]] else ((kids.take k).map newP).filter (takes t) := fun t => by
    rw [List.take_succ_eq_append_getElem hk, List.map_append]; exact filter_snoc _ _ _
  have hq : ∀ j : Nat, (j = 1 ∨ j = 2 ∨ j = 3) → (kindN kids[k].hd.kind == j) = false := fun j hj => by
    simp only [kindN, beq_eq_false_iff_ne, ne_eq]
    split <;> omega
  have t4 : takes 4 (newP kids[k]) = false := by simp only [takes, newP_kind]; exact hq 1 (by omega)
  have t5 : takes 5 (newP kids[k]) = false := by simp only [takes, newP_kind]; exact hq 2 (by omega)
  have t6 : takes 6 (newP kids[k]) = false := by simp only [takes, newP_kind]; exact hq 3 (by omega)
  refine ⟨?_, ?_, ?_, by have := h.bp; omega, by have := h.bl; omega, by have := h.ba; omega, h.pl, h.pa, h.lp, h.la, h.ap, h.al, h.zp, h.zl, h.za⟩
  · rw [hsn 4, if_neg (by rw [t4]; decide)]; exact h.p
  · rw [hsn 5, if_neg (by rw [t5]; decide)]; exact h.l
  · rw [hsn 6, if_neg (by rw [t6]; decide)]; exact h.a
theorem newPyA_ {F : Nat → Prop} (al : Option Addr) (m c : Nat) (css : List (List Value)) (ys : List Pg) (w : World) (hz : m = 0 → al = none ∧ c = 0) (hm : m ≤ 250000) (hR : Go.Kf.Rows w F LsR al m c 2 css ys) : Calls Tryz.prog 97 #[.slice al m c] w (RetR w F PyR (wholeP 3 0 ys)) := by
  rcases Nat.eq_zero_or_pos m with h0 | h0
  · subst h0
    obtain ⟨rfl, rfl⟩ := hz rfl
    have : ys = [] := List.length_eq_zero_iff.1 hR.lx
    subst this
    exact newPy0_ w
  · exact newPyN_ al m c css ys w h0 hm hR
theorem newMpA_ {F : Nat → Prop} (al : Option Addr) (m c : Nat) (css : List (List Value)) (ys : List Pg) (w : World) (hz : m = 0 → al = none ∧ c = 0) (hm : m ≤ 250000) (hR : Go.Kf.Rows w F PtR al m c 6 css ys) : Calls Tryz.prog 98 #[.slice al m c] w (RetR w F MpR (wholeP 4 0 ys)) := by
  rcases Nat.eq_zero_or_pos m with h0 | h0
  · subst h0
    obtain ⟨rfl, rfl⟩ := hz rfl
    have : ys = [] := List.length_eq_zero_iff.1 hR.lx
    subst this
    exact newMp0_ none 0 w
  · exact newMpN_ al m c css ys w h0 hm hR
theorem newMlA_ {F : Nat → Prop} (al : Option Addr) (m c : Nat) (css : List (List Value)) (ys : List Pg) (w : World) (hz : m = 0 → al = none ∧ c = 0) (hm : m ≤ 250000) (hR : Go.Kf.Rows w F LsR al m c 2 css ys) : Calls Tryz.prog 99 #[.slice al m c] w (RetR w F MlR (wholeP 5 0 ys)) := by
  rcases Nat.eq_zero_or_pos m with h0 | h0
  · subst h0
    obtain ⟨rfl, rfl⟩ := hz rfl
    have : ys = [] := List.length_eq_zero_iff.1 hR.lx
    subst this
    exact newMl0_ none 0 w
  · exact newMlN_ al m c css ys w h0 hm hR
theorem newMyA_ {F : Nat → Prop} (al : Option Addr) (m c : Nat) (css : List (List Value)) (ys : List Pg) (w : World) (hz : m = 0 → al = none ∧ c = 0) (hm : m ≤ 250000) (hR : Go.Kf.Rows w F PyR al m c 2 css ys) : Calls Tryz.prog 100 #[.slice al m c] w (RetR w F MyR (wholeP 6 0 ys)) := by
  rcases Nat.eq_zero_or_pos m with h0 | h0
  · subst h0
    obtain ⟨rfl, rfl⟩ := hz rfl
    have : ys = [] := List.length_eq_zero_iff.1 hR.lx
    subst this
    exact newMy0_ w
  · exact newMyN_ al m c css ys w h0 hm hR
theorem newGcA_ {F : Nat → Prop} (al : Option Addr) (m c : Nat) (css : List (List Value)) (ys : List Pg) (w : World) (hm : m ≤ 250000) (hR : Go.Kf.Rows w F GeoR al m c 2 css ys) : Calls Tryz.prog 95 #[.slice al m c] w (RetR w F GcR (wholeP 0 0 ys)) := by
  rcases Nat.eq_zero_or_pos m with h0 | h0
  · subst h0
    have : ys = [] := List.length_eq_zero_iff.1 hR.lx
    subst this
    exact newGc0_ al c w
  · exact newGcN_ al m c css ys w h0 hm hR
def NewOfPost (w : World) (kind : Nat) (ts : List GT) (e : Ending) (w' : World) : Prop := ∃ cs, e = .returned (.tuple #[.agg cs.toArray, .bool (!(kind == 1 || kind == 2))]) ∧ Stab.Keeps w w' ∧ if kind = 1 ∨ kind = 2 then cs = [.int .i64 0, .nilIface] else GeoR w' (orNew no w.heap.size) cs (wholeP kind 0 ((ts.map newP).filter (takes kind)))
set_option maxRecDepth 100000 in
set_option maxHeartbeats 4000000 in
theorem newOf_ (kind : Nat) (hk6 : kind ≤ 6) (a : Option Addr) (n cap : Nat) (kids : List GT) (w : World) (hn : kids.length = n) (hb : n ≤ 1000) (hS : Sz w a n cap 4 (kids.flatMap GT.cells)) (hA : ∀ t ∈ kids, t.At w) (hs : ∀ t ∈ kids, t.Small) : Calls Tryz.prog 52 #[.int .i64 kind, .slice a n cap] w (NewOfPost w kind kids) := by
  obtain ⟨ip, hip, p1, p2, p3⟩ := info_parts infoPt
  have Hp1 := Lib.hid hip
  have Hp2 := Lib.hid p1
  have Hp3 := Lib.hid p2
  have Hp4 := Lib.hid p3
  obtain ⟨il, hil, l1, l2, l3⟩ := info_parts infoLs
  have Hl1 := Lib.hid hil
  have Hl2 := Lib.hid l1
  have Hl3 := Lib.hid l2
  have Hl4 := Lib.hid l3
  obtain ⟨ia, hia, a1, a2, a3⟩ := info_parts infoPy
  have Ha1 := Lib.hid hia
  have Ha2 := Lib.hid a1
  have Ha3 := Lib.hid a2
  have Ha4 := Lib.hid a3
  clear hip p1 p2 p3 hil l1 l2 l3 hia a1 a2 a3
  have hle := hS.le
  have hmx := hS.max
  unfold maxLen at hmx
  have HN := Lib.hid hn
  have HA := Lib.hid hA
  have HS := Lib.hid hs
  clear hn hA hs
  go_enter Tryz.func52, Tryz.ntmps52
  go_wp2_with fail
  have hkA : Stab.Keeps w (w.alloc (.cells #[.int .i64 0, .nilIface] 78)) := by with_reducible (repeat (first | exact Kx.r _ | assumption | refine Kx.a ?_ _ | refine Kx.d ?_ | refine Kx.e ?_ _ | (refine Kx.s ?_ ?_ _; focus (first | (simp; done) | (simp; omega))) | refine Kx.t ?_ (by assumption)))
  have hBA : Blk (w.alloc (.cells #[.int .i64 0, .nilIface] 78)) w.heap.size 78 [.int .i64 0, .nilIface] := by with_reducible (repeat (first | assumption | ((refine Bx.n ⟨?_, ?_⟩) <;> focus (first | rfl | (simp; done) | omega)) | refine Bx.a ?_ _ | refine Bx.d ?_ | refine Bx.e ?_ _ | (refine Bx.p ?_ ?_; focus (first | (simp; done) | (simp; omega) | omega))))
  have hsA : (w.alloc (.cells #[.int .i64 0, .nilIface] 78)).heap.size = w.heap.size + 1 := by simp
  generalize (w.alloc (.cells #[.int .i64 0, .nilIface] 78)) = WA at *
  obtain ⟨B, hBe⟩ : ∃ B, WA.heap.size = B := ⟨_, rfl⟩
  have hBw : B = w.heap.size + 1 := by omega
  have hT0 : Three B n kids 0 (.slice none 0 0) (.slice none 0 0) (.slice none 0 0) WA 0 0 0 (fun _ => False) (fun _ => False) (fun _ => False) :=
    ⟨by simpa using GrowG.nil B WA PtR 141 6 (by omega), by simpa using GrowG.nil B WA LsR 99 2 (by omega), by simpa using GrowG.nil B WA PyR 121 2 (by omega), Nat.le_refl _, Nat.le_refl _, Nat.le_refl _, fun _ _ h => h, fun _ _ h => h, fun _ _ h => h, fun _ _ h => h, fun _ _ h => h, fun _ _ h => h, fun _ => rfl, fun _ => rfl, fun _ => rfl⟩
  have HBW := Lib.hid hBw
  clear hsA hBe hBw
  go_loopw [6, 7, 8, 13] (fun vp vl va iv wr => ∃ (k mp ml ma : Nat) (Gp Gl Ga : Nat → Prop), k ≤ n ∧ iv = .int .i64 k ∧ Stab.Keeps w wr ∧ Blk wr w.heap.size 78 [.int .i64 0, .nilIface] ∧ Three B n kids k vp vl va wr mp ml ma Gp Gl Ga) (fun _ _ _ iv _ => n - (intOf iv).toNat)
  case atStart => exact ⟨0, 0, 0, 0, _, _, _, by omega, rfl, hkA, hBA, hT0⟩
  case round =>
    clear hkA hBA hT0
    obtain ⟨k, mp, ml, ma, Gp, Gl, Ga, hk, rfl, hkw, hB0, hT⟩ := hrel
    by_cases hlt : k < n
    · obtain ⟨b, off, ha, hb, hc⟩ := (hS.keep hkw).elem hlt
      subst ha
      have hkk : k < kids.length := by have := HN.out; omega
      obtain ⟨c0, c1, c2, c3⟩ := kid_cells (T := []) hkk HN.out hc
      clear hc
      have hbp := hT.bp
      have hbl := hT.bl
      have hba := hT.ba
      by_cases hkd : kids[k].hd.kind = 1
      · have hM1 := fun w' (hk' : Stab.Keeps w w') => makePt_ kids[k] w' ((HA.out _ (List.getElem_mem _)).keep hk') (HS.out _ (List.getElem_mem _)) hkd
        have hmore := fun (w' : World) (wq : World) (G2 : Nat → Prop) (h : Three B n kids k u6 u7 u8 wq mp ml ma Gp Gl Ga) {al : Option Addr} {c : Nat} hG hgr hat h2 => Three.more_p (w' := w') (G2 := G2) (al := al) (c := c) (s0 := 0) h hkk hkd hG hgr hat h2
        have HMORE := Lib.hid hmore
        clear hmore
        generalize hke : kids[k]'hkk = xg at *
        generalize hnp : newP xg = P at *
        obtain ⟨⟨xk, xd, xna, xnn, xnc, xka, xkn, xkc⟩, xnums, xkids⟩ := xg
        simp only [GT.hd] at hkd
        subst hkd
        simp only [GT.hd, Gm.val] at hM1 c0 c1 c2 c3
        clear hke hnp
        go_wp2_with fail
        refine (hM1 _ (by with_reducible (repeat (first | exact Kx.r _ | assumption | refine Kx.a ?_ _ | refine Kx.d ?_ | refine Kx.e ?_ _ | (refine Kx.s ?_ ?_ _; focus (first | (simp; done) | (simp; omega))) | refine Kx.t ?_ (by assumption))))).mono ?_
        clear hM1
        rintro e w4 ⟨cs4, rfl, hk4, hx4⟩
        have hk5 : Stab.Keeps wr w4 := Stab.Keeps.trans (Stab.Keeps.alloc (Stab.Keeps.refl _) _) hk4
        have hs4 : wr.heap.size + 1 ≤ w4.heap.size := by have := hk4.size; simp at this; omega
        have hone := hx4.ones
        obtain ⟨xz, yz, zz, mz, dz, fz, rfl⟩ := hx4.six
        have hkN : Stab.Keeps wr (w4.alloc (.cells #[.float .f64 xz, .float .f64 yz, .float .f64 zz, .float .f64 mz, .int .u8 dz, .bool fz] 141)) := hk5.alloc _
        have hT5 := hT.keep hkN
        have hx5 : PtR (w4.alloc (.cells #[.float .f64 xz, .float .f64 yz, .float .f64 zz, .float .f64 mz, .int .u8 dz, .bool fz] 141)) (fun b => wr.heap.size + 1 ≤ b ∧ b < w4.heap.size) [.float .f64 xz, .float .f64 yz, .float .f64 zz, .float .f64 mz, .int .u8 dz, .bool fz] _ := ptS.kf (ptS.mono hx4 (fun b hb hf => hf.elim (fun h => h.elim) (fun h => ⟨by simpa using h, hb⟩))) ((KF.refl _ _).alloc _)
        have hkw5 := Stab.Keeps.trans hkw hkN
        have hB5 := hB0.keep hkN
        have hsN : (w4.alloc (.cells #[.float .f64 xz, .float .f64 yz, .float .f64 zz, .float .f64 mz, .int .u8 dz, .bool fz] 141)).heap.size = w4.heap.size + 1 := by simp
        have ho1 : ∀ g, u7.ownBlock = some g → g < wr.heap.size := fun g hg => by obtain ⟨_, h⟩ := GrowG.owns hT.l; exact (h.lt g hg).2
        have ho2 : ∀ g, u8.ownBlock = some g → g < wr.heap.size := fun g hg => by obtain ⟨_, h⟩ := GrowG.owns hT.a; exact (h.lt g hg).2
        have ho0 : ∀ g, u6.ownBlock = some g → g < wr.heap.size := fun g hg => by obtain ⟨_, h⟩ := GrowG.owns hT.p; exact (h.lt g hg).2
        have hge : B ≤ wr.heap.size := hT.p.size
        have hGX := Lib.hid hT5.p
        have hmb := hT.bp
        have HT5 := Lib.hid hT5
        clear hT hT5 hkN hx4 hk4 hk5 c0 c1 c2 c3 hB0 hkw
        go_wp2_with (at_builtin; (refine append_growG (B := B) (G := Gp) ptS rfl _ _ 124 rfl 141 ip _ 6 48 Tryz.underlying124 Hp1.out Hp2.out Hp3.out Hp4.out rfl (by decide) _ mp _ rfl hGX.out ⟨w4.heap.size, 0, none⟩ 1 [.float .f64 xz, .float .f64 yz, .float .f64 zz, .float .f64 mz, .int .u8 dz, .bool fz] rfl rfl ?c1 hone ?c2 ?c3 P _ hx5 ?c4 ?c5 ?_))
        case c1 => exact new_cells _ _ _ _ rfl
        case c2 => unfold maxLen; omega
        case c3 => omega
        case c4 => exact fun b hb => ⟨by omega, by simp; omega⟩
        case c5 => exact fun g hg hb => by have := ho0 g hg; omega
        intro al' c' w7 hG7 hB7 hgr hat
        rw [← hsN] at hat
        rw [← List.map_take] at hG7
        have hT7 := HMORE.out w7 _ (fun b => wr.heap.size + 1 ≤ b ∧ b < w4.heap.size) HT5.out hG7 hgr hat ⟨fun g hg hb => by have := ho1 g hg; omega, fun g hg hb => by have := ho2 g hg; omega⟩
        have hbw := HBW.out
        have hk7 : Stab.Keeps w w7 := Below.trans hkw5 (Below.mono hB7 (by omega))
        have hB07 := hB5.below hB7 (by omega)
        clear hGX HT5 HMORE hG7 hgr hat hB7 hkw5 hB5 hx5
        go_wp2_with fail
        exact ⟨⟨k + 1, mp + 1, ml, ma, _, Gl, Ga, by omega, by simp, hk7, hB07, hT7⟩, by simp [intOf]; omega⟩
      by_cases hkd2 : kids[k].hd.kind = 2
      · have hM1 := fun w' (hk' : Stab.Keeps w w') => makeLs_ kids[k] w' ((HA.out _ (List.getElem_mem _)).keep hk') (HS.out _ (List.getElem_mem _)) hkd2
        have hmore := fun (w' : World) (wq : World) (G2 : Nat → Prop) (h : Three B n kids k u6 u7 u8 wq mp ml ma Gp Gl Ga) {al : Option Addr} {c : Nat} hG hgr hat h2 => Three.more_l (w' := w') (G2 := G2) (al := al) (c := c) (s0 := 0) h hkk hkd2 hG hgr hat h2
        have HMORE := Lib.hid hmore
        clear hmore
        generalize hke : kids[k]'hkk = xg at *
        generalize hnp : newP xg = P at *
        obtain ⟨⟨xk, xd, xna, xnn, xnc, xka, xkn, xkc⟩, xnums, xkids⟩ := xg
        simp only [GT.hd] at hkd2
        subst hkd2
        simp only [GT.hd, Gm.val] at hM1 c0 c1 c2 c3
        clear hke hnp
        go_wp2_with fail
        refine (hM1 _ (by with_reducible (repeat (first | exact Kx.r _ | assumption | refine Kx.a ?_ _ | refine Kx.d ?_ | refine Kx.e ?_ _ | (refine Kx.s ?_ ?_ _; focus (first | (simp; done) | (simp; omega))) | refine Kx.t ?_ (by assumption))))).mono ?_
        clear hM1
        rintro e w4 ⟨cs4, rfl, hk4, hx4⟩
        have hk5 : Stab.Keeps wr w4 := Stab.Keeps.trans (Stab.Keeps.alloc (Stab.Keeps.refl _) _) hk4
        have hs4 : wr.heap.size + 1 ≤ w4.heap.size := by have := hk4.size; simp at this; omega
        have hone := hx4.ones
        obtain ⟨dz, az, nz, cz, rfl⟩ := hx4.two
        have hkN : Stab.Keeps wr (w4.alloc (.cells #[.int .u8 dz, .slice az nz cz] 99)) := hk5.alloc _
        have hT5 := hT.keep hkN
        have hx5 : LsR (w4.alloc (.cells #[.int .u8 dz, .slice az nz cz] 99)) (fun b => wr.heap.size + 1 ≤ b ∧ b < w4.heap.size) [.int .u8 dz, .slice az nz cz] _ := lsS.kf (lsS.mono hx4 (fun b hb hf => hf.elim (fun h => h.elim) (fun h => ⟨by simpa using h, hb⟩))) ((KF.refl _ _).alloc _)
        have hkw5 := Stab.Keeps.trans hkw hkN
        have hB5 := hB0.keep hkN
        have hsN : (w4.alloc (.cells #[.int .u8 dz, .slice az nz cz] 99)).heap.size = w4.heap.size + 1 := by simp
        have ho1 : ∀ g, u6.ownBlock = some g → g < wr.heap.size := fun g hg => by obtain ⟨_, h⟩ := GrowG.owns hT.p; exact (h.lt g hg).2
        have ho2 : ∀ g, u8.ownBlock = some g → g < wr.heap.size := fun g hg => by obtain ⟨_, h⟩ := GrowG.owns hT.a; exact (h.lt g hg).2
        have ho0 : ∀ g, u7.ownBlock = some g → g < wr.heap.size := fun g hg => by obtain ⟨_, h⟩ := GrowG.owns hT.l; exact (h.lt g hg).2
        have hge : B ≤ wr.heap.size := hT.p.size
        have hGX := Lib.hid hT5.l
        have hmb := hT.bl
        have HT5 := Lib.hid hT5
        clear hT hT5 hkN hx4 hk4 hk5 c0 c1 c2 c3 hB0 hkw
        go_wp2_with (at_builtin; (refine append_growG (B := B) (G := Gl) lsS rfl _ _ 119 rfl 99 il _ 2 32 Tryz.underlying119 Hl1.out Hl2.out Hl3.out Hl4.out rfl (by decide) _ ml _ rfl hGX.out ⟨w4.heap.size, 0, none⟩ 1 [.int .u8 dz, .slice az nz cz] rfl rfl ?c1 hone ?c2 ?c3 P _ hx5 ?c4 ?c5 ?_))
        case c1 => exact new_cells _ _ _ _ rfl
        case c2 => unfold maxLen; omega
        case c3 => omega
        case c4 => exact fun b hb => ⟨by omega, by simp; omega⟩
        case c5 => exact fun g hg hb => by have := ho0 g hg; omega
        intro al' c' w7 hG7 hB7 hgr hat
        rw [← hsN] at hat
        rw [← List.map_take] at hG7
        have hT7 := HMORE.out w7 _ (fun b => wr.heap.size + 1 ≤ b ∧ b < w4.heap.size) HT5.out hG7 hgr hat ⟨fun g hg hb => by have := ho1 g hg; omega, fun g hg hb => by have := ho2 g hg; omega⟩
        have hbw := HBW.out
        have hk7 : Stab.Keeps w w7 := Below.trans hkw5 (Below.mono hB7 (by omega))
        have hB07 := hB5.below hB7 (by omega)
        clear hGX HT5 HMORE hG7 hgr hat hB7 hkw5 hB5 hx5
        go_wp2_with fail
        exact ⟨⟨k + 1, mp, ml + 1, ma, Gp, _, Ga, by omega, by simp, hk7, hB07, hT7⟩, by simp [intOf]; omega⟩
      by_cases hkd3 : kids[k].hd.kind = 3
      · have hM1 := fun w' (hk' : Stab.Keeps w w') => makePy_ kids[k] w' ((HA.out _ (List.getElem_mem _)).keep hk') (HS.out _ (List.getElem_mem _)) hkd3
        have hmore := fun (w' : World) (wq : World) (G2 : Nat → Prop) (h : Three B n kids k u6 u7 u8 wq mp ml ma Gp Gl Ga) {al : Option Addr} {c : Nat} hG hgr hat h2 => Three.more_a (w' := w') (G2 := G2) (al := al) (c := c) (s0 := 0) h hkk hkd3 hG hgr hat h2
        have HMORE := Lib.hid hmore
        clear hmore
        generalize hke : kids[k]'hkk = xg at *
        generalize hnp : newP xg = P at *
        obtain ⟨⟨xk, xd, xna, xnn, xnc, xka, xkn, xkc⟩, xnums, xkids⟩ := xg
        simp only [GT.hd] at hkd3
        subst hkd3
        simp only [GT.hd, Gm.val] at hM1 c0 c1 c2 c3
        clear hke hnp
        go_wp2_with fail
        refine (hM1 _ (by with_reducible (repeat (first | exact Kx.r _ | assumption | refine Kx.a ?_ _ | refine Kx.d ?_ | refine Kx.e ?_ _ | (refine Kx.s ?_ ?_ _; focus (first | (simp; done) | (simp; omega))) | refine Kx.t ?_ (by assumption))))).mono ?_
        clear hM1
        rintro e w4 ⟨cs4, rfl, hk4, hx4⟩
        have hk5 : Stab.Keeps wr w4 := Stab.Keeps.trans (Stab.Keeps.alloc (Stab.Keeps.refl _) _) hk4
        have hs4 : wr.heap.size + 1 ≤ w4.heap.size := by have := hk4.size; simp at this; omega
        have hone := hx4.ones
        obtain ⟨az, nz, cz, dz, rfl⟩ := hx4.two
        have hkN : Stab.Keeps wr (w4.alloc (.cells #[.slice az nz cz, .int .u8 dz] 121)) := hk5.alloc _
        have hT5 := hT.keep hkN
        have hx5 : PyR (w4.alloc (.cells #[.slice az nz cz, .int .u8 dz] 121)) (fun b => wr.heap.size + 1 ≤ b ∧ b < w4.heap.size) [.slice az nz cz, .int .u8 dz] _ := pyS.kf (pyS.mono hx4 (fun b hb hf => hf.elim (fun h => h.elim) (fun h => ⟨by simpa using h, hb⟩))) ((KF.refl _ _).alloc _)
        have hkw5 := Stab.Keeps.trans hkw hkN
        have hB5 := hB0.keep hkN
        have hsN : (w4.alloc (.cells #[.slice az nz cz, .int .u8 dz] 121)).heap.size = w4.heap.size + 1 := by simp
        have ho1 : ∀ g, u6.ownBlock = some g → g < wr.heap.size := fun g hg => by obtain ⟨_, h⟩ := GrowG.owns hT.p; exact (h.lt g hg).2
        have ho2 : ∀ g, u7.ownBlock = some g → g < wr.heap.size := fun g hg => by obtain ⟨_, h⟩ := GrowG.owns hT.l; exact (h.lt g hg).2
        have ho0 : ∀ g, u8.ownBlock = some g → g < wr.heap.size := fun g hg => by obtain ⟨_, h⟩ := GrowG.owns hT.a; exact (h.lt g hg).2
        have hge : B ≤ wr.heap.size := hT.p.size
        have hGX := Lib.hid hT5.a
        have hmb := hT.ba
        have HT5 := Lib.hid hT5
        clear hT hT5 hkN hx4 hk4 hk5 c0 c1 c2 c3 hB0 hkw
        go_wp2_with (at_builtin; (refine append_growG (B := B) (G := Ga) pyS rfl _ _ 132 rfl 121 ia _ 2 32 Tryz.underlying132 Ha1.out Ha2.out Ha3.out Ha4.out rfl (by decide) _ ma _ rfl hGX.out ⟨w4.heap.size, 0, none⟩ 1 [.slice az nz cz, .int .u8 dz] rfl rfl ?c1 hone ?c2 ?c3 P _ hx5 ?c4 ?c5 ?_))
        case c1 => exact new_cells _ _ _ _ rfl
        case c2 => unfold maxLen; omega
        case c3 => omega
        case c4 => exact fun b hb => ⟨by omega, by simp; omega⟩
        case c5 => exact fun g hg hb => by have := ho0 g hg; omega
        intro al' c' w7 hG7 hB7 hgr hat
        rw [← hsN] at hat
        rw [← List.map_take] at hG7
        have hT7 := HMORE.out w7 _ (fun b => wr.heap.size + 1 ≤ b ∧ b < w4.heap.size) HT5.out hG7 hgr hat ⟨fun g hg hb => by have := ho1 g hg; omega, fun g hg hb => by have := ho2 g hg; omega⟩
        have hbw := HBW.out
        have hk7 : Stab.Keeps w w7 := Below.trans hkw5 (Below.mono hB7 (by omega))
        have hB07 := hB5.below hB7 (by omega)
        clear hGX HT5 HMORE hG7 hgr hat hB7 hkw5 hB5 hx5
        go_wp2_with fail
        exact ⟨⟨k + 1, mp, ml, ma + 1, Gp, Gl, _, by omega, by simp, hk7, hB07, hT7⟩, by simp [intOf]; omega⟩
      · have hT2 := hT.same hkk hkd hkd2 hkd3
        have q1 : decide (kids[k].hd.kind = 1) = false := by simpa using hkd
        have q2 : decide (kids[k].hd.kind = 2) = false := by simpa using hkd2
        have q3 : decide (kids[k].hd.kind = 3) = false := by simpa using hkd3
        have r1 : (kids[k].hd.kind == 1) = false := by simpa using hkd
        have r2 : (kids[k].hd.kind == 2) = false := by simpa using hkd2
        have r3 : (kids[k].hd.kind == 3) = false := by simpa using hkd3
        clear hkd hkd2 hkd3
        generalize hke : kids[k]'hkk = xg at *
        obtain ⟨⟨xk, xd, xna, xnn, xnc, xka, xkn, xkc⟩, xnums, xkids⟩ := xg
        simp only [GT.hd] at q1 q2 q3 r1 r2 r3 c0 c1 c2 c3
        clear hke
        have hkN : Stab.Keeps wr (wr.alloc (.cells #[.int .i64 xk, .int .i64 xd, .slice xna xnn xnc, .slice xka xkn xkc] 25)) := by with_reducible (repeat (first | exact Kx.r _ | assumption | refine Kx.a ?_ _ | refine Kx.d ?_ | refine Kx.e ?_ _ | (refine Kx.s ?_ ?_ _; focus (first | (simp; done) | (simp; omega))) | refine Kx.t ?_ (by assumption)))
        have hT5 := hT2.keep hkN
        have hkw5 := Stab.Keeps.trans hkw hkN
        have hB5 := hB0.keep hkN
        clear hT hT2 hkN hkw hB0
        go_wp2_with fail
        exact ⟨⟨k + 1, mp, ml, ma, Gp, Gl, Ga, by omega, by simp, hkw5, hB5, hT5⟩, by simp [intOf]; omega⟩
    · obtain rfl : n = k := by omega
      have hfull : kids.take n = kids := List.take_of_length_le (by rw [HN.out]; exact Nat.le_refl _)
      obtain ⟨alp, cp, rfl, _, _⟩ := hT.p.shape
      obtain ⟨all, cl, rfl, _, _⟩ := hT.l.shape
      obtain ⟨ala, ca, rfl, _, _⟩ := hT.a.shape
      obtain ⟨cssp, hRp⟩ := hT.p.toRows ptS
      obtain ⟨cssl, hRl⟩ := hT.l.toRows lsS
      obtain ⟨cssa, hRa⟩ := hT.a.toRows pyS
      rw [hfull] at hRp hRl hRa
      have hzp : mp = 0 → alp = none ∧ cp = 0 := fun h => by have := hT.zp h; injection this with e1 e2 e3; exact ⟨e1, e3⟩
      have hzl : ml = 0 → all = none ∧ cl = 0 := fun h => by have := hT.zl h; injection this with e1 e2 e3; exact ⟨e1, e3⟩
      have hza : ma = 0 → ala = none ∧ ca = 0 := fun h => by have := hT.za h; injection this with e1 e2 e3; exact ⟨e1, e3⟩
      have hbp := hT.bp
      have hbl := hT.bl
      have hba := hT.ba
      have hsw : w.heap.size + 1 ≤ wr.heap.size := by have := hT.p.size; have := HBW.out; omega
      have HZP := Lib.hid hzp
      have HZL := Lib.hid hzl
      have HZA := Lib.hid hza
      clear hT hzp hzl hza
      have hkc : kind = 0 ∨ kind = 1 ∨ kind = 2 ∨ kind = 3 ∨ kind = 4 ∨ kind = 5 ∨ kind = 6 := by omega
      rcases hkc with rfl | rfl | rfl | rfl | rfl | rfl | rfl
      · skip
        have hG0 := fun w' (hk' : Stab.Keeps w w') => geometries_ a n cap kids w' HN.out hb (hS.keep hk') (fun t ht => (HA.out t ht).keep hk') HS.out (fun t _ => makeGeo_ t)
        clear hRp hRl hRa
        go_wp2_with fail
        refine (hG0 _ hkw).mono ?_
        clear hG0
        rintro e w4 ⟨a4, c4, css4, rfl, hk4, hR4⟩
        have hkw4 := Stab.Keeps.trans hkw hk4
        have hB04 := hB0.keep hk4
        have hs4 := hk4.size
        clear hkw hk4 hB0
        go_wp2_with fail
        refine (newGcA_ a4 n c4 css4 _ _ (by omega) hR4).mono ?_
        rintro e w5 ⟨cs5, rfl, hk5', hx5⟩
        have hk5 := Stab.Keeps.trans hkw4 hk5'
        have hB05 := hB04.keep hk5'
        have hs5 := hk5'.size
        obtain ⟨az, nz, cz, dz, rfl⟩ := hx5.two
        replace hx5 := gcS.mono (G := fun b => w.heap.size + 1 ≤ b) hx5 (fun b _ hb => hb.elim (fun h => h.elim (fun h => h.elim) (fun h => by omega)) (fun h => by omega))
        clear hkw4 hk5' hB04 hR4
        go_wp2_with fail
        refine (geoGc_ az nz cz dz _).mono ?_
        rintro e w6 ⟨b6, rfl, hk6, hb6, hB6⟩
        have hk56 := Stab.Keeps.trans hk5 hk6
        have hx6 := gcS.kf hx5 (KF.keeps hk6)
        have hB06 := hB05.keep hk6
        have hs6 := hk6.size
        clear hk5 hk6 hx5 hB05
        have r0 := hB06.cell (i := 0) rfl
        have r1 := hB06.cell (i := 1) rfl
        have rf := hB06.free
        have rl := hB06.lt
        have hkz : Stab.Keeps w ((w6.setCell ⟨w.heap.size, 0, none⟩ (.int .i64 0)).setCell ⟨w.heap.size, 1, none⟩ (.iface 210 (.pointer (some ⟨b6, 0, none⟩)))) := by with_reducible (repeat (first | exact Kx.r _ | assumption | refine Kx.a ?_ _ | refine Kx.d ?_ | refine Kx.e ?_ _ | (refine Kx.s ?_ ?_ _; focus (first | (simp; done) | (simp; omega))) | refine Kx.t ?_ (by assumption)))
        have hxz := gcS.kf (w' := ((w6.setCell ⟨w.heap.size, 0, none⟩ (.int .i64 0)).setCell ⟨w.heap.size, 1, none⟩ (.iface 210 (.pointer (some ⟨b6, 0, none⟩))))) hx6 (((KF.refl _ _).set (fun h => by first | (simp at h; done) | (simp at h; omega))).set (fun h => by first | (simp at h; done) | (simp at h; omega)))
        have hBz : Blk ((w6.setCell ⟨w.heap.size, 0, none⟩ (.int .i64 0)).setCell ⟨w.heap.size, 1, none⟩ (.iface 210 (.pointer (some ⟨b6, 0, none⟩)))) b6 150 [.slice az nz cz, .int .u8 dz] := by with_reducible (repeat (first | assumption | ((refine Bx.n ⟨?_, ?_⟩) <;> focus (first | rfl | (simp; done) | omega)) | refine Bx.a ?_ _ | refine Bx.d ?_ | refine Bx.e ?_ _ | (refine Bx.p ?_ ?_; focus (first | (simp; done) | (simp; omega) | omega))))
        have hB0z := (hB06.set 0 (.int .i64 0)).set 1 (.iface 210 (.pointer (some ⟨b6, 0, none⟩)))
        simp only [List.set] at hB0z
        go_wp2_with fail
        generalize ((w6.setCell ⟨w.heap.size, 0, none⟩ (.int .i64 0)).setCell ⟨w.heap.size, 1, none⟩ (.iface 210 (.pointer (some ⟨b6, 0, none⟩)))) = Wz at *
        clear hB06 r0 r1 rf rl
        have y0 := hB0z.cell (i := 0) rfl
        have y1 := hB0z.cell (i := 1) rfl
        have yf := hB0z.free
        have yl := hB0z.lt
        refine bodyPost_ret (v := .tuple #[.agg #[.int .i64 0, .iface 210 (.pointer (some ⟨b6, 0, none⟩))], .bool true]) (by simp [results, Tryz.results52, go_sem, *]) rfl ⟨[.int .i64 0, .iface 210 (.pointer (some ⟨b6, 0, none⟩))], rfl, hkz, ?_⟩
        rw [if_neg (by omega)]
        exact by rw [filter_all]; exact GcR.geo (gcS.mono hxz (fun b _ hb => .inr (by omega))) (.inr (by omega)) hBz
      · skip
        clear hRp hRl hRa
        have r0 := hB0.cell (i := 0) rfl
        have r1 := hB0.cell (i := 1) rfl
        have rf := hB0.free
        have rl := hB0.lt
        have hkz : Stab.Keeps w ((wr.setCell ⟨w.heap.size, 0, none⟩ (.int .i64 0)).setCell ⟨w.heap.size, 1, none⟩ .nilIface) := by with_reducible (repeat (first | exact Kx.r _ | assumption | refine Kx.a ?_ _ | refine Kx.d ?_ | refine Kx.e ?_ _ | (refine Kx.s ?_ ?_ _; focus (first | (simp; done) | (simp; omega))) | refine Kx.t ?_ (by assumption)))
        have hB0z := (hB0.set 0 (.int .i64 0)).set 1 .nilIface
        simp only [List.set] at hB0z
        go_wp2_with fail
        generalize ((wr.setCell ⟨w.heap.size, 0, none⟩ (.int .i64 0)).setCell ⟨w.heap.size, 1, none⟩ .nilIface) = Wz at *
        clear hB0 r0 r1 rf rl
        have y0 := hB0z.cell (i := 0) rfl
        have y1 := hB0z.cell (i := 1) rfl
        have yf := hB0z.free
        have yl := hB0z.lt
        refine bodyPost_ret (v := .tuple #[.agg #[.int .i64 0, .nilIface], .bool false]) (by simp [results, Tryz.results52, go_sem, *]) rfl ⟨[.int .i64 0, .nilIface], rfl, hkz, ?_⟩
        rw [if_pos (by omega)]
      · skip
        clear hRp hRl hRa
        have r0 := hB0.cell (i := 0) rfl
        have r1 := hB0.cell (i := 1) rfl
        have rf := hB0.free
        have rl := hB0.lt
        have hkz : Stab.Keeps w ((wr.setCell ⟨w.heap.size, 0, none⟩ (.int .i64 0)).setCell ⟨w.heap.size, 1, none⟩ .nilIface) := by with_reducible (repeat (first | exact Kx.r _ | assumption | refine Kx.a ?_ _ | refine Kx.d ?_ | refine Kx.e ?_ _ | (refine Kx.s ?_ ?_ _; focus (first | (simp; done) | (simp; omega))) | refine Kx.t ?_ (by assumption)))
        have hB0z := (hB0.set 0 (.int .i64 0)).set 1 .nilIface
        simp only [List.set] at hB0z
        go_wp2_with fail
        generalize ((wr.setCell ⟨w.heap.size, 0, none⟩ (.int .i64 0)).setCell ⟨w.heap.size, 1, none⟩ .nilIface) = Wz at *
        clear hB0 r0 r1 rf rl
        have y0 := hB0z.cell (i := 0) rfl
        have y1 := hB0z.cell (i := 1) rfl
        have yf := hB0z.free
        have yl := hB0z.lt
        refine bodyPost_ret (v := .tuple #[.agg #[.int .i64 0, .nilIface], .bool false]) (by simp [results, Tryz.results52, go_sem, *]) rfl ⟨[.int .i64 0, .nilIface], rfl, hkz, ?_⟩
        rw [if_pos (by omega)]
      · skip
        have hRl3 : Go.Kf.Rows wr (fun b => B ≤ b) LsR all ml cl 2 cssl ((kids.map newP).filter (takes 3)) := hRl
        have hNw := newPyA_ all ml cl cssl _ wr HZL.out (by omega) hRl3
        clear hRp hRl hRa
        go_wp2_with fail
        refine hNw.mono ?_
        clear hNw
        rintro e w5 ⟨cs5, rfl, hk5', hx5⟩
        have hk5 := Stab.Keeps.trans hkw hk5'
        have hB05 := hB0.keep hk5'
        have hs5 := hk5'.size
        obtain ⟨az, nz, cz, dz, rfl⟩ := hx5.two
        replace hx5 := pyS.mono (G := fun b => w.heap.size + 1 ≤ b) hx5 (fun b _ hb => hb.elim (fun h => by have := HBW.out; omega) (fun h => by omega))
        clear hkw hk5' hB0
        go_wp2_with fail
        refine (geoPy_ az nz cz dz _).mono ?_
        rintro e w6 ⟨b6, rfl, hk6, hb6, hB6⟩
        have hk56 := Stab.Keeps.trans hk5 hk6
        have hx6 := pyS.kf hx5 (KF.keeps hk6)
        have hB06 := hB05.keep hk6
        have hs6 := hk6.size
        clear hk5 hk6 hx5 hB05
        have r0 := hB06.cell (i := 0) rfl
        have r1 := hB06.cell (i := 1) rfl
        have rf := hB06.free
        have rl := hB06.lt
        have hkz : Stab.Keeps w ((w6.setCell ⟨w.heap.size, 0, none⟩ (.int .i64 3)).setCell ⟨w.heap.size, 1, none⟩ (.iface 191 (.pointer (some ⟨b6, 0, none⟩)))) := by with_reducible (repeat (first | exact Kx.r _ | assumption | refine Kx.a ?_ _ | refine Kx.d ?_ | refine Kx.e ?_ _ | (refine Kx.s ?_ ?_ _; focus (first | (simp; done) | (simp; omega))) | refine Kx.t ?_ (by assumption)))
        have hxz := pyS.kf (w' := ((w6.setCell ⟨w.heap.size, 0, none⟩ (.int .i64 3)).setCell ⟨w.heap.size, 1, none⟩ (.iface 191 (.pointer (some ⟨b6, 0, none⟩))))) hx6 (((KF.refl _ _).set (fun h => by first | (simp at h; done) | (simp at h; omega))).set (fun h => by first | (simp at h; done) | (simp at h; omega)))
        have hBz : Blk ((w6.setCell ⟨w.heap.size, 0, none⟩ (.int .i64 3)).setCell ⟨w.heap.size, 1, none⟩ (.iface 191 (.pointer (some ⟨b6, 0, none⟩)))) b6 121 [.slice az nz cz, .int .u8 dz] := by with_reducible (repeat (first | assumption | ((refine Bx.n ⟨?_, ?_⟩) <;> focus (first | rfl | (simp; done) | omega)) | refine Bx.a ?_ _ | refine Bx.d ?_ | refine Bx.e ?_ _ | (refine Bx.p ?_ ?_; focus (first | (simp; done) | (simp; omega) | omega))))
        have hB0z := (hB06.set 0 (.int .i64 3)).set 1 (.iface 191 (.pointer (some ⟨b6, 0, none⟩)))
        simp only [List.set] at hB0z
        go_wp2_with fail
        generalize ((w6.setCell ⟨w.heap.size, 0, none⟩ (.int .i64 3)).setCell ⟨w.heap.size, 1, none⟩ (.iface 191 (.pointer (some ⟨b6, 0, none⟩)))) = Wz at *
        clear hB06 r0 r1 rf rl
        have y0 := hB0z.cell (i := 0) rfl
        have y1 := hB0z.cell (i := 1) rfl
        have yf := hB0z.free
        have yl := hB0z.lt
        refine bodyPost_ret (v := .tuple #[.agg #[.int .i64 3, .iface 191 (.pointer (some ⟨b6, 0, none⟩))], .bool true]) (by simp [results, Tryz.results52, go_sem, *]) rfl ⟨[.int .i64 3, .iface 191 (.pointer (some ⟨b6, 0, none⟩))], rfl, hkz, ?_⟩
        rw [if_neg (by omega)]
        exact .py b6 _ _ (.inr (by omega)) hBz (pyS.mono hxz (fun b _ hb => .inr (by omega)))
      · skip
        have hNw := newMpA_ alp mp cp cssp _ wr HZP.out (by omega) hRp
        clear hRp hRl hRa
        go_wp2_with fail
        refine hNw.mono ?_
        clear hNw
        rintro e w5 ⟨cs5, rfl, hk5', hx5⟩
        have hk5 := Stab.Keeps.trans hkw hk5'
        have hB05 := hB0.keep hk5'
        have hs5 := hk5'.size
        obtain ⟨az, nz, cz, dz, rfl⟩ := hx5.two
        replace hx5 := mpS.mono (G := fun b => w.heap.size + 1 ≤ b) hx5 (fun b _ hb => hb.elim (fun h => by have := HBW.out; omega) (fun h => by omega))
        clear hkw hk5' hB0
        go_wp2_with fail
        refine (geoMp_ az nz cz dz _).mono ?_
        rintro e w6 ⟨b6, rfl, hk6, hb6, hB6⟩
        have hk56 := Stab.Keeps.trans hk5 hk6
        have hx6 := mpS.kf hx5 (KF.keeps hk6)
        have hB06 := hB05.keep hk6
        have hs6 := hk6.size
        clear hk5 hk6 hx5 hB05
        have r0 := hB06.cell (i := 0) rfl
        have r1 := hB06.cell (i := 1) rfl
        have rf := hB06.free
        have rl := hB06.lt
        have hkz : Stab.Keeps w ((w6.setCell ⟨w.heap.size, 0, none⟩ (.int .i64 4)).setCell ⟨w.heap.size, 1, none⟩ (.iface 192 (.pointer (some ⟨b6, 0, none⟩)))) := by with_reducible (repeat (first | exact Kx.r _ | assumption | refine Kx.a ?_ _ | refine Kx.d ?_ | refine Kx.e ?_ _ | (refine Kx.s ?_ ?_ _; focus (first | (simp; done) | (simp; omega))) | refine Kx.t ?_ (by assumption)))
        have hxz := mpS.kf (w' := ((w6.setCell ⟨w.heap.size, 0, none⟩ (.int .i64 4)).setCell ⟨w.heap.size, 1, none⟩ (.iface 192 (.pointer (some ⟨b6, 0, none⟩))))) hx6 (((KF.refl _ _).set (fun h => by first | (simp at h; done) | (simp at h; omega))).set (fun h => by first | (simp at h; done) | (simp at h; omega)))
        have hBz : Blk ((w6.setCell ⟨w.heap.size, 0, none⟩ (.int .i64 4)).setCell ⟨w.heap.size, 1, none⟩ (.iface 192 (.pointer (some ⟨b6, 0, none⟩)))) b6 126 [.slice az nz cz, .int .u8 dz] := by with_reducible (repeat (first | assumption | ((refine Bx.n ⟨?_, ?_⟩) <;> focus (first | rfl | (simp; done) | omega)) | refine Bx.a ?_ _ | refine Bx.d ?_ | refine Bx.e ?_ _ | (refine Bx.p ?_ ?_; focus (first | (simp; done) | (simp; omega) | omega))))
        have hB0z := (hB06.set 0 (.int .i64 4)).set 1 (.iface 192 (.pointer (some ⟨b6, 0, none⟩)))
        simp only [List.set] at hB0z
        go_wp2_with fail
        generalize ((w6.setCell ⟨w.heap.size, 0, none⟩ (.int .i64 4)).setCell ⟨w.heap.size, 1, none⟩ (.iface 192 (.pointer (some ⟨b6, 0, none⟩)))) = Wz at *
        clear hB06 r0 r1 rf rl
        have y0 := hB0z.cell (i := 0) rfl
        have y1 := hB0z.cell (i := 1) rfl
        have yf := hB0z.free
        have yl := hB0z.lt
        refine bodyPost_ret (v := .tuple #[.agg #[.int .i64 4, .iface 192 (.pointer (some ⟨b6, 0, none⟩))], .bool true]) (by simp [results, Tryz.results52, go_sem, *]) rfl ⟨[.int .i64 4, .iface 192 (.pointer (some ⟨b6, 0, none⟩))], rfl, hkz, ?_⟩
        rw [if_neg (by omega)]
        exact .mp b6 _ _ (.inr (by omega)) hBz (mpS.mono hxz (fun b _ hb => .inr (by omega)))
      · skip
        have hNw := newMlA_ all ml cl cssl _ wr HZL.out (by omega) hRl
        clear hRp hRl hRa
        go_wp2_with fail
        refine hNw.mono ?_
        clear hNw
        rintro e w5 ⟨cs5, rfl, hk5', hx5⟩
        have hk5 := Stab.Keeps.trans hkw hk5'
        have hB05 := hB0.keep hk5'
        have hs5 := hk5'.size
        obtain ⟨az, nz, cz, dz, rfl⟩ := hx5.two
        replace hx5 := mlS.mono (G := fun b => w.heap.size + 1 ≤ b) hx5 (fun b _ hb => hb.elim (fun h => by have := HBW.out; omega) (fun h => by omega))
        clear hkw hk5' hB0
        go_wp2_with fail
        refine (geoMl_ az nz cz dz _).mono ?_
        rintro e w6 ⟨b6, rfl, hk6, hb6, hB6⟩
        have hk56 := Stab.Keeps.trans hk5 hk6
        have hx6 := mlS.kf hx5 (KF.keeps hk6)
        have hB06 := hB05.keep hk6
        have hs6 := hk6.size
        clear hk5 hk6 hx5 hB05
        have r0 := hB06.cell (i := 0) rfl
        have r1 := hB06.cell (i := 1) rfl
        have rf := hB06.free
        have rl := hB06.lt
        have hkz : Stab.Keeps w ((w6.setCell ⟨w.heap.size, 0, none⟩ (.int .i64 5)).setCell ⟨w.heap.size, 1, none⟩ (.iface 197 (.pointer (some ⟨b6, 0, none⟩)))) := by with_reducible (repeat (first | exact Kx.r _ | assumption | refine Kx.a ?_ _ | refine Kx.d ?_ | refine Kx.e ?_ _ | (refine Kx.s ?_ ?_ _; focus (first | (simp; done) | (simp; omega))) | refine Kx.t ?_ (by assumption)))
        have hxz := mlS.kf (w' := ((w6.setCell ⟨w.heap.size, 0, none⟩ (.int .i64 5)).setCell ⟨w.heap.size, 1, none⟩ (.iface 197 (.pointer (some ⟨b6, 0, none⟩))))) hx6 (((KF.refl _ _).set (fun h => by first | (simp at h; done) | (simp at h; omega))).set (fun h => by first | (simp at h; done) | (simp at h; omega)))
        have hBz : Blk ((w6.setCell ⟨w.heap.size, 0, none⟩ (.int .i64 5)).setCell ⟨w.heap.size, 1, none⟩ (.iface 197 (.pointer (some ⟨b6, 0, none⟩)))) b6 129 [.slice az nz cz, .int .u8 dz] := by with_reducible (repeat (first | assumption | ((refine Bx.n ⟨?_, ?_⟩) <;> focus (first | rfl | (simp; done) | omega)) | refine Bx.a ?_ _ | refine Bx.d ?_ | refine Bx.e ?_ _ | (refine Bx.p ?_ ?_; focus (first | (simp; done) | (simp; omega) | omega))))
        have hB0z := (hB06.set 0 (.int .i64 5)).set 1 (.iface 197 (.pointer (some ⟨b6, 0, none⟩)))
        simp only [List.set] at hB0z
        go_wp2_with fail
        generalize ((w6.setCell ⟨w.heap.size, 0, none⟩ (.int .i64 5)).setCell ⟨w.heap.size, 1, none⟩ (.iface 197 (.pointer (some ⟨b6, 0, none⟩)))) = Wz at *
        clear hB06 r0 r1 rf rl
        have y0 := hB0z.cell (i := 0) rfl
        have y1 := hB0z.cell (i := 1) rfl
        have yf := hB0z.free
        have yl := hB0z.lt
        refine bodyPost_ret (v := .tuple #[.agg #[.int .i64 5, .iface 197 (.pointer (some ⟨b6, 0, none⟩))], .bool true]) (by simp [results, Tryz.results52, go_sem, *]) rfl ⟨[.int .i64 5, .iface 197 (.pointer (some ⟨b6, 0, none⟩))], rfl, hkz, ?_⟩
        rw [if_neg (by omega)]
        exact .ml b6 _ _ (.inr (by omega)) hBz (mlS.mono hxz (fun b _ hb => .inr (by omega)))
      · skip
        have hNw := newMyA_ ala ma ca cssa _ wr HZA.out (by omega) hRa
        clear hRp hRl hRa
        go_wp2_with fail
        refine hNw.mono ?_
        clear hNw
        rintro e w5 ⟨cs5, rfl, hk5', hx5⟩
        have hk5 := Stab.Keeps.trans hkw hk5'
        have hB05 := hB0.keep hk5'
        have hs5 := hk5'.size
        obtain ⟨az, nz, cz, dz, rfl⟩ := hx5.two
        replace hx5 := myS.mono (G := fun b => w.heap.size + 1 ≤ b) hx5 (fun b _ hb => hb.elim (fun h => by have := HBW.out; omega) (fun h => by omega))
        clear hkw hk5' hB0
        go_wp2_with fail
        refine (geoMy_ az nz cz dz _).mono ?_
        rintro e w6 ⟨b6, rfl, hk6, hb6, hB6⟩
        have hk56 := Stab.Keeps.trans hk5 hk6
        have hx6 := myS.kf hx5 (KF.keeps hk6)
        have hB06 := hB05.keep hk6
        have hs6 := hk6.size
        clear hk5 hk6 hx5 hB05
        have r0 := hB06.cell (i := 0) rfl
        have r1 := hB06.cell (i := 1) rfl
        have rf := hB06.free
        have rl := hB06.lt
        have hkz : Stab.Keeps w ((w6.setCell ⟨w.heap.size, 0, none⟩ (.int .i64 6)).setCell ⟨w.heap.size, 1, none⟩ (.iface 199 (.pointer (some ⟨b6, 0, none⟩)))) := by with_reducible (repeat (first | exact Kx.r _ | assumption | refine Kx.a ?_ _ | refine Kx.d ?_ | refine Kx.e ?_ _ | (refine Kx.s ?_ ?_ _; focus (first | (simp; done) | (simp; omega))) | refine Kx.t ?_ (by assumption)))
        have hxz := myS.kf (w' := ((w6.setCell ⟨w.heap.size, 0, none⟩ (.int .i64 6)).setCell ⟨w.heap.size, 1, none⟩ (.iface 199 (.pointer (some ⟨b6, 0, none⟩))))) hx6 (((KF.refl _ _).set (fun h => by first | (simp at h; done) | (simp at h; omega))).set (fun h => by first | (simp at h; done) | (simp at h; omega)))
        have hBz : Blk ((w6.setCell ⟨w.heap.size, 0, none⟩ (.int .i64 6)).setCell ⟨w.heap.size, 1, none⟩ (.iface 199 (.pointer (some ⟨b6, 0, none⟩)))) b6 134 [.slice az nz cz, .int .u8 dz] := by with_reducible (repeat (first | assumption | ((refine Bx.n ⟨?_, ?_⟩) <;> focus (first | rfl | (simp; done) | omega)) | refine Bx.a ?_ _ | refine Bx.d ?_ | refine Bx.e ?_ _ | (refine Bx.p ?_ ?_; focus (first | (simp; done) | (simp; omega) | omega))))
        have hB0z := (hB06.set 0 (.int .i64 6)).set 1 (.iface 199 (.pointer (some ⟨b6, 0, none⟩)))
        simp only [List.set] at hB0z
        go_wp2_with fail
        generalize ((w6.setCell ⟨w.heap.size, 0, none⟩ (.int .i64 6)).setCell ⟨w.heap.size, 1, none⟩ (.iface 199 (.pointer (some ⟨b6, 0, none⟩)))) = Wz at *
        clear hB06 r0 r1 rf rl
        have y0 := hB0z.cell (i := 0) rfl
        have y1 := hB0z.cell (i := 1) rfl
        have yf := hB0z.free
        have yl := hB0z.lt
        refine bodyPost_ret (v := .tuple #[.agg #[.int .i64 6, .iface 199 (.pointer (some ⟨b6, 0, none⟩))], .bool true]) (by simp [results, Tryz.results52, go_sem, *]) rfl ⟨[.int .i64 6, .iface 199 (.pointer (some ⟨b6, 0, none⟩))], rfl, hkz, ?_⟩
        rw [if_neg (by omega)]
        exact .my b6 _ _ (.inr (by omega)) hBz (myS.mono hxz (fun b _ hb => .inr (by omega)))
end Go.Proofs.YtbakhldjfplbfaaGreat
