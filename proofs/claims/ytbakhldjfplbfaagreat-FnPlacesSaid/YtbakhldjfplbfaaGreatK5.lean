/-
  The reference's lists of places. No condition.
-/
import Derived.Test.YtbakhldjfplbfaaGreatQ5
set_option linter.unusedVariables false
set_option linter.unusedSimpArgs false
namespace Go.Proofs.YtbakhldjfplbfaaGreat
open Go.RowKit Go.Fl Go.Sl Go.Pg Go.Ch Go.Kf
/-- the slice that operation idx of a region makes -/
def NumF (B idx : Nat) (xs : List Nat) (k : Nat) (v : Value) (w : World) : Prop := k = idx → ∃ a cap, v = .slice a xs.length cap ∧ SzF w (fun b => B ≤ b) a xs.length cap 1 (encN xs)
theorem numPre (B idx : Nat) (xs : List Nat) : Stab.Pre Stab.Keeps (NumF B idx xs) :=
  ⟨Stab.Keeps.refl, Stab.Keeps.trans, fun k v w w' hk hF e => by
    obtain ⟨a, cap, h1, h2⟩ := hF e
    exact ⟨a, cap, h1, h2.kf (KF.keeps hk)⟩⟩
set_option maxRecDepth 100000 in
set_option maxHeartbeats 2000000 in
theorem dumpC_ (t : GT) (w : World) (hA : t.At w) (hb : t.allN.length ≤ 1000000) : Calls Tryz.prog 43 #[t.hd.val] w (fun e w' => ∃ a cap, e = .returned (.agg #[.int .i64 2, .int .i64 t.hd.dim, .slice a t.allN.length cap, .slice none 0 0]) ∧ Stab.Keeps w w' ∧ SzF w' (fun b => w.heap.size ≤ b) a t.allN.length cap 1 (encN t.allN)) := by
  have hN := fun w' (hk : Stab.Keeps w w') => allNums_ w t hA w' hb hk
  generalize hxs : t.allN = xs at *
  obtain ⟨⟨kind, dim, na, nn, nc, ka, kn, kc⟩, nums, kids⟩ := t
  simp only [GT.hd, Gm.val] at hN ⊢
  clear hxs hA
  have hkA : Stab.Keeps w ((w.alloc (.cells #[.int .i64 kind, .int .i64 dim, .slice na nn nc, .slice ka kn kc] 25)).alloc (.cells #[.int .i64 0, .int .i64 0, .slice none 0 0, .slice none 0 0] 25)) := by repeat (first | (with_reducible exact Stab.Keeps.refl _) | (with_reducible assumption) | (with_reducible refine Stab.Keeps.alloc ?_ _) | (with_reducible refine Stab.Keeps.drew ?_) | (with_reducible refine Stab.Keeps.drewN ?_ _) | ((with_reducible refine Stab.Keeps.setCell ?_ ?_ _); focus (first | (simp; done) | (simp; omega))) | (with_reducible refine Stab.Keeps.trans ?_ (by with_reducible assumption)))
  have hB0 : Blk ((w.alloc (.cells #[.int .i64 kind, .int .i64 dim, .slice na nn nc, .slice ka kn kc] 25)).alloc (.cells #[.int .i64 0, .int .i64 0, .slice none 0 0, .slice none 0 0] 25)) w.heap.size 25 [.int .i64 kind, .int .i64 dim, .slice na nn nc, .slice ka kn kc] := by repeat (first | (with_reducible assumption) | ((with_reducible refine Blk.new1 ⟨?_, ?_⟩) <;> focus (first | (with_reducible rfl) | (simp; done) | omega)) | (with_reducible refine Blk.alloc ?_ _) | (with_reducible refine Blk.drew ?_) | (with_reducible refine Blk.drewN ?_ _) | ((with_reducible refine Blk.past2 ?_ ?_); focus (first | (simp; done) | (simp; omega) | omega)))
  have hB1 : Blk ((w.alloc (.cells #[.int .i64 kind, .int .i64 dim, .slice na nn nc, .slice ka kn kc] 25)).alloc (.cells #[.int .i64 0, .int .i64 0, .slice none 0 0, .slice none 0 0] 25)) (w.heap.size + 1) 25 [.int .i64 0, .int .i64 0, .slice none 0 0, .slice none 0 0] := by repeat (first | (with_reducible assumption) | ((with_reducible refine Blk.new1 ⟨?_, ?_⟩) <;> focus (first | (with_reducible rfl) | (simp; done) | omega)) | (with_reducible refine Blk.alloc ?_ _) | (with_reducible refine Blk.drew ?_) | (with_reducible refine Blk.drewN ?_ _) | ((with_reducible refine Blk.past2 ?_ ?_); focus (first | (simp; done) | (simp; omega) | omega)))
  go_enter Tryz.func43, Tryz.ntmps43
  go_upto_region 1 with (fail)
  generalize ((w.alloc (.cells #[.int .i64 kind, .int .i64 dim, .slice na nn nc, .slice ka kn kc] 25)).alloc (.cells #[.int .i64 0, .int .i64 0, .slice none 0 0, .slice none 0 0] 25)) = W0 at *
  have t0 := hB0.cell (i := 0) rfl
  have t1 := hB0.cell (i := 1) rfl
  have t2 := hB0.cell (i := 2) rfl
  have t3 := hB0.cell (i := 3) rfl
  have tf := hB0.free
  have tl := hB0.lt
  refine Stab.keep_tail 5 (NumF (w.heap.size + 2) 3 xs) (fun k => k == 3) (fun _ => false) (numPre _ _ _) (by kernel_rfl) (by kernel_rfl) fun hcx => ?_
  simp only [List.take_succ_cons, List.take_zero, List.drop_succ_cons, List.drop_zero]
  repeat (first
    | (refine Stab.quiet rfl rfl rfl (fun K hK => ?_); go_big_quiet_op; refine hK _ ?_; clear hK K)
    | (refine Stab.one rfl rfl rfl ?_
       apply Exists.intro
       refine ⟨fun w1 hw1 => ?_, fun K hK => ?_⟩
       · go_simp
         first | fail
       go_simp
       refine hK _ ?_
       clear hK K)
    | (refine Stab.skip rfl (fun K hK => ?_); go_simp; refine hK _ ?_; clear hK K))
  refine Stab.made rfl rfl (fun w1 hk1 => ?_) (fun v hv K hK => ?_)
  · go_simp
    have hk1' : Stab.Keeps W0 w1 := hk1.1
    have hsz : w.heap.size + 2 ≤ w1.heap.size := by have := hB1.lt; have := hk1'.size; omega
    refine (hN _ (Stab.Keeps.trans hkA hk1')).mono ?_
    rintro e w2 ⟨a, cap, rfl, hk2, hz2⟩
    exact ⟨_, rfl, hk2, fun _ => ⟨a, cap, rfl, hz2.mono fun b _ hb => by omega⟩⟩
  obtain ⟨wv, _, _, hv⟩ := hv
  obtain ⟨a0, c0, rfl, _⟩ := hv rfl
  go_simp
  refine hK _ ?_
  clear hK
  repeat (first
    | (refine Stab.quiet rfl rfl rfl (fun K hK => ?_); go_big_quiet_op; refine hK _ ?_; clear hK K)
    | (refine Stab.one rfl rfl rfl ?_
       apply Exists.intro
       refine ⟨fun w1 hw1 => ?_, fun K hK => ?_⟩
       · go_simp
         first | fail
       go_simp
       refine hK _ ?_
       clear hK K)
    | (refine Stab.skip rfl (fun K hK => ?_); go_simp; refine hK _ ?_; clear hK K))
  refine Stab.nil fun w5 hw5 hfs => ?_
  obtain ⟨a, cap, he, hz⟩ := Stab.setF_new (hfs 3) rfl
  cases he
  have hB15 := hB1.keep hw5
  have hkw5 := Stab.Keeps.trans hkA hw5
  clear hcx hfs hv hN hB0 hB1 hkA hw5 t0 t1 t2 t3 tf tl
  have g0 := hB15.cell (i := 0) rfl
  have g1 := hB15.cell (i := 1) rfl
  have g2 := hB15.cell (i := 2) rfl
  have g3 := hB15.cell (i := 3) rfl
  have gf := hB15.free
  have gl := hB15.lt
  have hB1n := (((hB15.set 0 (.int .i64 2)).set 1 (.int .i64 dim)).set 2 (.slice a0 xs.length c0)).set 3 (.slice none 0 0)
  simp only [List.set] at hB1n
  have hkz : Stab.Keeps w ((((w5.setCell ⟨w.heap.size + 1, 0, none⟩ (.int .i64 2)).setCell ⟨w.heap.size + 1, 1, none⟩ (.int .i64 dim)).setCell ⟨w.heap.size + 1, 2, none⟩ (.slice a0 xs.length c0)).setCell ⟨w.heap.size + 1, 3, none⟩ (.slice none 0 0)) := by repeat (first | (with_reducible exact Stab.Keeps.refl _) | (with_reducible assumption) | (with_reducible refine Stab.Keeps.alloc ?_ _) | (with_reducible refine Stab.Keeps.drew ?_) | (with_reducible refine Stab.Keeps.drewN ?_ _) | ((with_reducible refine Stab.Keeps.setCell ?_ ?_ _); focus (first | (simp; done) | (simp; omega))) | (with_reducible refine Stab.Keeps.trans ?_ (by with_reducible assumption)))
  have hzn := hz.kf (w' := ((((w5.setCell ⟨w.heap.size + 1, 0, none⟩ (.int .i64 2)).setCell ⟨w.heap.size + 1, 1, none⟩ (.int .i64 dim)).setCell ⟨w.heap.size + 1, 2, none⟩ (.slice a0 xs.length c0)).setCell ⟨w.heap.size + 1, 3, none⟩ (.slice none 0 0))) (((((KF.refl _ _).set (fun h => by simp at h)).set (fun h => by simp at h)).set (fun h => by simp at h)).set (fun h => by simp at h))
  go_wp2_with fail
  generalize ((((w5.setCell ⟨w.heap.size + 1, 0, none⟩ (.int .i64 2)).setCell ⟨w.heap.size + 1, 1, none⟩ (.int .i64 dim)).setCell ⟨w.heap.size + 1, 2, none⟩ (.slice a0 xs.length c0)).setCell ⟨w.heap.size + 1, 3, none⟩ (.slice none 0 0)) = Wz at *
  clear hB15 g0 g1 g2 g3 gf gl hz
  have y0 := hB1n.cell (i := 0) rfl
  have y1 := hB1n.cell (i := 1) rfl
  have y2 := hB1n.cell (i := 2) rfl
  have y3 := hB1n.cell (i := 3) rfl
  have yf := hB1n.free
  have yl := hB1n.lt
  refine bodyPost_ret (v := .agg #[.int .i64 2, .int .i64 dim, .slice a0 xs.length c0, .slice none 0 0]) (by simp [results, Tryz.results43, go_sem, *]) rfl ⟨a0, c0, rfl, hkz, hzn.mono (fun b _ (hb : w.heap.size + 2 ≤ b) => show w.heap.size ≤ b by omega)⟩
/-- a multi point as it is made *-/
def MpOk (p : Pg) : Prop := p.kind = 4 → p.ps = [] ∧ ∀ c ∈ p.kids, c.dim = p.dim ∧ c.kids = [] ∧ c.ps.length ≤ 1
theorem allNs_flat : ∀ (l : List GT) (ks : List Pg) (d : Nat), l.length = ks.length → (∀ i (a : i < l.length) (b : i < ks.length), GT.Is l[i] ks[i]) → (∀ c ∈ ks, c.dim = d ∧ c.kids = []) → GT.allNs l = numsOf d (ks.flatMap Pg.ps)
  | [], [], d, _, _, _ => by simp [GT.allNs, numsOf]
  | [], _ :: _, d, h, _, _ => by simp at h
  | _ :: _, [], d, h, _, _ => by simp at h
  | t :: l, p :: ks, d, h, hi, hc => by
    have h0 := hi 0 (by simp) (by simp)
    obtain ⟨hd, hk⟩ := hc p (by simp)
    have ih := allNs_flat l ks d (by simpa using h) (fun i a b => hi (i + 1) (by simpa using a) (by simpa using b)) (fun c hc' => hc c (by simp [hc']))
    simp only [GT.allNs, List.flatMap_cons, numsOf_append, ih]
    congr 1
    simp only [List.getElem_cons_zero] at h0
    cases h0 with
    | mk h nums kids k d' ps ks' h1 h2 h3 h4 h5 =>
      simp only [Pg.dim, Pg.kids, Pg.ps] at hd hk ⊢
      subst hd hk
      have : kids = [] := List.length_eq_zero_iff.1 (by simpa using h4)
      subst this
      simp [GT.allN, GT.allNs, h3]
theorem allN_mp {t : GT} {p : Pg} (h : t.Is p) (hk : p.kind = 4) (ho : MpOk p) : t.allN = numsOf p.dim (p.kids.flatMap Pg.ps) := by
  obtain ⟨h1, h2'⟩ := ho hk
  have h2 : ∀ c ∈ p.kids, c.dim = p.dim ∧ c.kids = [] := fun c hc => ⟨(h2' c hc).1, (h2' c hc).2.1⟩
  clear h2'
  cases h with
  | mk h nums kids k d ps ks i1 i2 i3 i4 i5 =>
    simp only [Pg.ps, Pg.kids, Pg.dim] at h1 h2 ⊢
    subst h1
    have := allNs_flat kids ks d i4 i5 h2
    simp only [GT.allN, i3, this]
    simp [numsOf]
theorem small_mp {p : Pg} (hok : PgOk p) (h1 : ∀ c ∈ p.kids, c.ps.length ≤ 1) : (numsOf p.dim (p.kids.flatMap Pg.ps)).length ≤ 4000 := by
  have hk : p.kids.length ≤ 1000 := by cases hok; assumption
  generalize p.kids = ks at *
  have : (ks.flatMap Pg.ps).length ≤ ks.length := by
    clear hk hok
    induction ks with
    | nil => simp
    | cons a l ih =>
      have h2 := h1 a (by simp)
      have h3 := ih (fun c hc => h1 c (by simp [hc]))
      rw [List.flatMap_cons, List.length_append, List.length_cons]
      omega
  rw [numsOf_len]
  have h4 := wid_le p.dim
  have h5 : (ks.flatMap Pg.ps).length * wid p.dim ≤ 1000 * 4 := Nat.mul_le_mul (by omega) h4
  omega
/-- the points of a geometry's multi point are points -/
theorem GeoR.mpOk {w : World} {F : Nat → Prop} {cs : List Value} {p : Pg} (h : GeoR w F cs p) : MpOk p := by
  intro hk
  cases h with
  | pt b cs p hF hB h => obtain ⟨_, _, _, rfl, _⟩ := h; cases hk
  | ls b cs p hF hB h => obtain ⟨_, _, _, _, _, _, rfl, _⟩ := h; cases hk
  | py b cs p hF hB h => obtain ⟨_, _, _, _, _, _, _, rfl, _⟩ := h; cases hk
  | ml b cs p hF hB h => obtain ⟨_, _, _, _, _, _, _, rfl, _⟩ := h; cases hk
  | my b cs p hF hB h => obtain ⟨_, _, _, _, _, _, _, rfl, _⟩ := h; cases hk
  | gc b d a n cap css kids hF hB hd hn lc lx each sz is hdim => cases hk
  | mp b cs p hF hB h =>
    obtain ⟨d, a, n, cap, css, kids, _, rfl, hd, hn, hR, hdim⟩ := h
    refine ⟨rfl, fun c hc => ⟨hdim c hc, ?_⟩⟩
    obtain ⟨j, hj, rfl⟩ := List.getElem_of_mem hc
    have hj2 : j < kids.length := hj
    have hx := hR.is j (by have := hR.lc; have := hR.lx; omega) hj2
    obtain ⟨d2, l, _, he, _, hl, _⟩ := hx
    show (kids[j]'hj2).kids = [] ∧ (kids[j]'hj2).ps.length ≤ 1
    rw [he]
    exact ⟨rfl, hl⟩
end Go.Proofs.YtbakhldjfplbfaaGreat
