/-
  The laws of trees: the box around items, walked; boxes as whole numbers. No condition.
-/
import Derived.Test.YtokofimfinhnbaaDoorTr21
set_option linter.unusedVariables false
set_option linter.unusedSimpArgs false
namespace Go.Proofs.YtokofimfinhnbaaDoor
open Go.RowKit Go.Fl Go.Sl Go.Ch Go.Fr Go.Mb
structure Q4 where
  a : Int
  b : Int
  c : Int
  d : Int
/-- the box has the whole ends q -/
structure ZB (x : B4) (q : Q4) : Prop where
  a : Z x.a q.a
  b : Z x.b q.b
  c : Z x.c q.c
  d : Z x.d q.d
/-- in order, from -2^20 to 2^20 -/
structure Q4.ok (q : Q4) : Prop where
  ac : q.a ≤ q.c
  bd : q.b ≤ q.d
  a0 : -1048576 ≤ q.a
  b0 : -1048576 ≤ q.b
  c1 : q.c ≤ 1048576
  d1 : q.d ≤ 1048576
theorem le_Z {x y : Nat} {a b : Int} (hx : Z x a) (hy : Z y b) : (lt x y || eq x y) = decide (a ≤ b) := by
  rw [hx.lt hy, hx.eq hy]
  by_cases h : a ≤ b
  · by_cases h2 : a = b
    · simp [h2]
    · have : a < b := by omega
      simp [this, h]
  · have h1 : ¬ a < b := by omega
    have h2 : a ≠ b := by omega
    simp [h, h1, h2]
theorem ge_Z {x y : Nat} {a b : Int} (hx : Z x a) (hy : Z y b) : (gt x y || eq x y) = decide (b ≤ a) := by
  rw [hx.gt hy, hx.eq hy]
  by_cases h : b ≤ a
  · by_cases h2 : a = b
    · simp [h2]
    · have : b < a := by omega
      simp [this, h]
  · have h1 : ¬ b < a := by omega
    have h2 : a ≠ b := by omega
    simp [h, h1, h2]
theorem boxB_spec {x : B4} (h : boxB x = true) : ∃ q, ZB x q ∧ q.ok := by
  unfold boxB at h
  simp only [Bool.and_eq_true] at h
  obtain ⟨⟨⟨⟨⟨h1, h2⟩, h3⟩, h4⟩, h5⟩, h6⟩ := h
  obtain ⟨a, a0, a1, za⟩ := whole_spec h1
  obtain ⟨b, b0, b1, zb⟩ := whole_spec h2
  obtain ⟨c, c0, c1, zc⟩ := whole_spec h3
  obtain ⟨d, d0, d1, zd⟩ := whole_spec h4
  rw [le_Z za zc] at h5
  rw [le_Z zb zd] at h6
  simp only [decide_eq_true_eq] at h5 h6
  exact ⟨⟨a, b, c, d⟩, ⟨za, zb, zc, zd⟩, ⟨h5, h6, a0, b0, c1, d1⟩⟩
/-- p lies within q -/
structure Q4.within (p q : Q4) : Prop where
  a : q.a ≤ p.a
  b : q.b ≤ p.b
  c : p.c ≤ q.c
  d : p.d ≤ q.d
def meetB (p q : Q4) : Bool := decide (p.a ≤ q.c) && decide (q.a ≤ p.c) && decide (p.b ≤ q.d) && decide (q.b ≤ p.d)
theorem ovl_Z {x y : B4} {p q : Q4} (hx : ZB x p) (hy : ZB y q) : ovl x y = meetB p q := by
  unfold ovl meetB
  rw [le_Z hx.a hy.c, ge_Z hx.c hy.a, le_Z hx.b hy.d, ge_Z hx.d hy.b]
theorem meet_mono {p q p' q' : Q4} (h : meetB p q = true) (hp : p.within p') (hq : q.within q') : meetB p' q' = true := by
  simp only [meetB, Bool.and_eq_true, decide_eq_true_eq] at h ⊢
  have := hp.a; have := hp.b; have := hp.c; have := hp.d; have := hq.a; have := hq.b; have := hq.c; have := hq.d
  omega
def AroundPost (w : World) (L : List It) (e : Ending) (w' : World) : Prop := ∃ x q, e = .returned (B4.val x) ∧ ZB x q ∧ q.ok ∧ (∀ t ∈ L, ∃ p, ZB t.box p ∧ p.ok ∧ p.within q) ∧ Stab.Keeps w w'
set_option maxRecDepth 100000 in
set_option maxHeartbeats 1000000 in
theorem around_ (a : Option Addr) (n cap : Nat) (L : List It) (w : World) (hl : L.length = n) (hn : 1 ≤ n) (hn2 : n ≤ 1000000) (h : Sz w a n cap 5 (enc L)) (hg : ∀ t ∈ L, boxB t.box = true) :
    Calls Tryd.prog 12 #[.slice a n cap] w (AroundPost w L) := by
  have hle := h.le
  have hmx := h.max
  unfold maxLen at hmx
  obtain ⟨b, off, ha, hb, hc⟩ := h.elem (i := 0) (by omega)
  subst ha
  have h0L : 0 < L.length := by omega
  have eg := fun j hj => enc_get L 0 j h0L hj
  have c0 : w.cell? ⟨b, off, none⟩ = some (.float .f64 L[0].box.a) := by have := hc 0 _ (by omega) (by rw [eg 0 (by omega)]; rfl); simpa using this
  have c1 : w.cell? ⟨b, off + 1, none⟩ = some (.float .f64 L[0].box.b) := by have := hc 1 _ (by omega) (by rw [eg 1 (by omega)]; rfl); simpa using this
  have c2 : w.cell? ⟨b, off + 2, none⟩ = some (.float .f64 L[0].box.c) := by have := hc 2 _ (by omega) (by rw [eg 2 (by omega)]; rfl); simpa using this
  have c3 : w.cell? ⟨b, off + 3, none⟩ = some (.float .f64 L[0].box.d) := by have := hc 3 _ (by omega) (by rw [eg 3 (by omega)]; rfl); simpa using this
  obtain ⟨q0, hz0, hk0⟩ := boxB_spec (hg L[0] (List.getElem_mem _))
  have HL := Lib.hid hl
  clear hl eg hc
  generalize L[0] = t0 at *
  go_enter Tryd.func12, Tryd.ntmps12
  go_wp2
  have hX : Blk ((w.alloc (.cells #[.float .f64 0, .float .f64 0, .float .f64 0, .float .f64 0] 28)).alloc (.cells #[.float .f64 t0.box.a, .float .f64 t0.box.b, .float .f64 t0.box.c, .float .f64 t0.box.d] 28)) (w.heap.size + 1) 28 t0.box.cells := Blk.new _ [_, _, _, _] _ _ (by simp)
  have hR : Blk ((w.alloc (.cells #[.float .f64 0, .float .f64 0, .float .f64 0, .float .f64 0] 28)).alloc (.cells #[.float .f64 t0.box.a, .float .f64 t0.box.b, .float .f64 t0.box.c, .float .f64 t0.box.d] 28)) w.heap.size 28 (B4.cells ⟨0, 0, 0, 0⟩) := (Blk.new w [_, _, _, _] _ _ rfl).alloc _
  have hK : Stab.Keeps w ((w.alloc (.cells #[.float .f64 0, .float .f64 0, .float .f64 0, .float .f64 0] 28)).alloc (.cells #[.float .f64 t0.box.a, .float .f64 t0.box.b, .float .f64 t0.box.c, .float .f64 t0.box.d] 28)) := by repeat (first | (with_reducible exact Stab.Keeps.refl _) | (with_reducible assumption) | (with_reducible refine Stab.Keeps.alloc ?_ _) | (with_reducible refine Stab.Keeps.drew ?_) | (with_reducible refine Stab.Keeps.drewN ?_ _) | ((with_reducible refine Stab.Keeps.setCell ?_ ?_ _); focus (first | (simp; done) | (simp; omega))) | (with_reducible refine Stab.Keeps.trans ?_ (by with_reducible assumption)))
  generalize ((w.alloc (.cells #[.float .f64 0, .float .f64 0, .float .f64 0, .float .f64 0] 28)).alloc (.cells #[.float .f64 t0.box.a, .float .f64 t0.box.b, .float .f64 t0.box.c, .float .f64 t0.box.d] 28)) = W at hX hR hK ⊢
  clear c0 c1 c2 c3
  go_loopw [12] (fun iv wr => ∃ (k : Nat) (x : B4) (q : Q4), k ≤ n ∧ iv = .int .i64 k ∧ Stab.Keeps w wr ∧ Blk wr (w.heap.size + 1) 28 x.cells ∧ Blk wr w.heap.size 28 (B4.cells ⟨0, 0, 0, 0⟩) ∧ ZB x q ∧ q.ok ∧ ∀ t ∈ L.take k, ∃ p, ZB t.box p ∧ p.ok ∧ p.within q) (fun iv _ => n - (intOf iv).toNat)
  case atStart => exact ⟨0, t0.box, q0, by omega, rfl, hK, hX, hR, hz0, hk0, fun t ht => by simp at ht⟩
  case round =>
    clear hX hR hK hz0 hk0
    obtain ⟨k, x, q, k2, rfl, hK, hX, hR, hz, hq, hin⟩ := hrel
    by_cases hlt : k < n
    · obtain ⟨b', off', ha, hb, hc⟩ := (h.keep hK).elem hlt
      cases ha
      have hkL : k < L.length := by have := HL.out; omega
      have eg := fun j hj => enc_get L k j hkL hj
      have c0 : wr.cell? ⟨b, off + k * 5, none⟩ = some (.float .f64 L[k].box.a) := hc 0 _ (by omega) (by rw [eg 0 (by omega)]; rfl)
      have c1 : wr.cell? ⟨b, off + k * 5 + 1, none⟩ = some (.float .f64 L[k].box.b) := hc 1 _ (by omega) (by rw [eg 1 (by omega)]; rfl)
      have c2 : wr.cell? ⟨b, off + k * 5 + 2, none⟩ = some (.float .f64 L[k].box.c) := hc 2 _ (by omega) (by rw [eg 2 (by omega)]; rfl)
      have c3 : wr.cell? ⟨b, off + k * 5 + 3, none⟩ = some (.float .f64 L[k].box.d) := hc 3 _ (by omega) (by rw [eg 3 (by omega)]; rfl)
      have c4 : wr.cell? ⟨b, off + k * 5 + 4, none⟩ = some (.int .i64 L[k].id) := hc 4 _ (by omega) (by rw [eg 4 (by omega)]; rfl)
      have HC := Lib.hid (List.take_succ_eq_append_getElem hkL)
      obtain ⟨p, hzp, hpk⟩ := boxB_spec (hg L[k] (List.getElem_mem _))
      clear eg hc
      generalize L[k] = t at *
      have m1 := fun ts t w => run_min_2 (P := Tryd.prog) ts t hz.a.fin hzp.a.fin w
      have m2 := fun ts t w => run_min_2 (P := Tryd.prog) ts t hz.b.fin hzp.b.fin w
      have m3 := fun ts t w => run_max_2 (P := Tryd.prog) ts t hz.c.fin hzp.c.fin w
      have m4 := fun ts t w => run_max_2 (P := Tryd.prog) ts t hz.d.fin hzp.d.fin w
      have x0 := hX.cell (i := 0) rfl
      have x1 := hX.cell (i := 1) rfl
      have x2 := hX.cell (i := 2) rfl
      have x3 := hX.cell (i := 3) rfl
      have xf := hX.free
      have hxl := hX.lt
      have hXn : Blk (((((wr.setCell ⟨w.heap.size + 1, 0, none⟩ (.float .f64 (mn2 x.a t.box.a))).setCell ⟨w.heap.size + 1, 1, none⟩ (.float .f64 (mn2 x.b t.box.b))).setCell ⟨w.heap.size + 1, 2, none⟩ (.float .f64 (mx2 x.c t.box.c))).setCell ⟨w.heap.size + 1, 3, none⟩ (.float .f64 (mx2 x.d t.box.d))).alloc (.cells #[.float .f64 t.box.a, .float .f64 t.box.b, .float .f64 t.box.c, .float .f64 t.box.d, .int .i64 t.id] 32)) (w.heap.size + 1) 28 (B4.cells ⟨mn2 x.a t.box.a, mn2 x.b t.box.b, mx2 x.c t.box.c, mx2 x.d t.box.d⟩) := ((((hX.set 0 _).set 1 _).set 2 _).set 3 _).alloc _
      have hRn : Blk (((((wr.setCell ⟨w.heap.size + 1, 0, none⟩ (.float .f64 (mn2 x.a t.box.a))).setCell ⟨w.heap.size + 1, 1, none⟩ (.float .f64 (mn2 x.b t.box.b))).setCell ⟨w.heap.size + 1, 2, none⟩ (.float .f64 (mx2 x.c t.box.c))).setCell ⟨w.heap.size + 1, 3, none⟩ (.float .f64 (mx2 x.d t.box.d))).alloc (.cells #[.float .f64 t.box.a, .float .f64 t.box.b, .float .f64 t.box.c, .float .f64 t.box.d, .int .i64 t.id] 32)) w.heap.size 28 (B4.cells ⟨0, 0, 0, 0⟩) := ((((hR.past (by simp) _).past (by simp) _).past (by simp) _).past (by simp) _).alloc _
      have hzn : ZB ⟨mn2 x.a t.box.a, mn2 x.b t.box.b, mx2 x.c t.box.c, mx2 x.d t.box.d⟩ ⟨min q.a p.a, min q.b p.b, max q.c p.c, max q.d p.d⟩ := ⟨mn2_Z hz.a hzp.a, mn2_Z hz.b hzp.b, mx2_Z hz.c hzp.c, mx2_Z hz.d hzp.d⟩
      have hqn : Q4.ok ⟨min q.a p.a, min q.b p.b, max q.c p.c, max q.d p.d⟩ := by
        have := hq.ac; have := hq.bd; have := hq.a0; have := hq.b0; have := hq.c1; have := hq.d1; have := hpk.ac; have := hpk.bd; have := hpk.a0; have := hpk.b0; have := hpk.c1; have := hpk.d1
        constructor <;> simp only <;> omega
      have hinn : ∀ u ∈ L.take (k + 1), ∃ p', ZB u.box p' ∧ p'.ok ∧ p'.within ⟨min q.a p.a, min q.b p.b, max q.c p.c, max q.d p.d⟩ := by
        intro u hu
        rw [HC.out] at hu
        rcases List.mem_append.1 hu with hu | hu
        · obtain ⟨p', h1, h2, h3⟩ := hin u hu
          refine ⟨p', h1, h2, ?_⟩
          have := h3.a; have := h3.b; have := h3.c; have := h3.d
          constructor <;> simp only <;> omega
        · simp at hu; subst hu
          refine ⟨p, hzp, hpk, ?_⟩
          constructor <;> simp only <;> omega
      clear hX hR hz hzp hq hpk hin
      generalize (⟨min q.a p.a, min q.b p.b, max q.c p.c, max q.d p.d⟩ : Q4) = qn at *
      generalize mn2 x.a t.box.a = n0 at *
      generalize mn2 x.b t.box.b = n1 at *
      generalize mx2 x.c t.box.c = n2 at *
      generalize mx2 x.d t.box.d = n3 at *
      go_wp2_with fail
      go_roundw
      case rel =>
        refine ⟨k + 1, _, _, by omega, by go_num, ?_, hXn, hRn, hzn, hqn, hinn⟩
        clear hXn hRn
        repeat (first | (with_reducible exact Stab.Keeps.refl _) | (with_reducible assumption) | (with_reducible refine Stab.Keeps.alloc ?_ _) | (with_reducible refine Stab.Keeps.drew ?_) | (with_reducible refine Stab.Keeps.drewN ?_ _) | ((with_reducible refine Stab.Keeps.setCell ?_ ?_ _); focus (first | (simp; done) | (simp; omega))) | (with_reducible refine Stab.Keeps.trans ?_ (by with_reducible assumption)))
      case measure => simp [intOf]; omega
    · have hkn : k = n := by omega
      subst hkn
      rw [List.take_of_length_le (by rw [HL.out]; exact Nat.le_refl _)] at hin
      have x0 := hX.cell (i := 0) rfl
      have x1 := hX.cell (i := 1) rfl
      have x2 := hX.cell (i := 2) rfl
      have x3 := hX.cell (i := 3) rfl
      have hxl := hX.lt
      have r0 := hR.cell (i := 0) rfl
      have r1 := hR.cell (i := 1) rfl
      have r2 := hR.cell (i := 2) rfl
      have r3 := hR.cell (i := 3) rfl
      have rf := hR.free
      have hrl := hR.lt
      clear hX hR
      go_wp2
      refine bodyPost_ret (v := x.val) (by simp [results, Tryd.results12, go_sem, B4.val, *]) rfl ⟨x, q, rfl, hz, hq, hin, ?_⟩
      repeat (first | (with_reducible exact Stab.Keeps.refl _) | (with_reducible assumption) | (with_reducible refine Stab.Keeps.alloc ?_ _) | (with_reducible refine Stab.Keeps.drew ?_) | (with_reducible refine Stab.Keeps.drewN ?_ _) | ((with_reducible refine Stab.Keeps.setCell ?_ ?_ _); focus (first | (simp; done) | (simp; omega))) | (with_reducible refine Stab.Keeps.trans ?_ (by with_reducible assumption)))
end Go.Proofs.YtokofimfinhnbaaDoor
