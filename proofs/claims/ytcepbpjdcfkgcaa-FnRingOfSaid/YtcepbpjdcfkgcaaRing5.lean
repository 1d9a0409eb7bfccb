/-
  Lines that hang together as a ring: what the law asks ahead, and how it compares. No condition.
-/
import Derived.Test.YtcepbpjdcfkgcaaRing4
set_option linter.unusedVariables false
set_option linter.unusedSimpArgs false
namespace Go.Proofs.Ytcepbpjdcfkgcaa
open Go.RowKit Go.Fl Go.Sl
theorem eq_real {c : Nat} (h : isNaN c = false) : eq c c = true := by
  have := isNaN_neq c
  rw [h] at this
  unfold eq
  simpa using this
set_option maxRecDepth 100000 in
set_option maxHeartbeats 1000000 in
theorem equalNums_ (a a2 : Option Addr) (n cap cap2 : Nat) (l : List Nat) (w : World) (hn : l.length = n) (hs : n ≤ 1000000) (h : Sz w a n cap 1 (encN l)) (h2 : Sz w a2 n cap2 1 (encN l)) (hr : ∀ x ∈ l, isNaN x = false) :
    Calls Try.prog 7 #[.slice a n cap, .slice a2 n cap2] w (One w (.bool true)) := by
  have hle := h.le
  have hm := h.max
  unfold maxLen at hm
  go_enter Try.func7, Try.ntmps7
  go_wp2
  go_loopw [14] (fun i wr => ∃ k : Nat, k ≤ n ∧ i = .int .i64 k ∧ Stab.Keeps w wr) (fun i _ => n - (intOf i).toNat)
  case atStart => exact ⟨0, Nat.zero_le _, rfl, by repeat (first | (with_reducible exact Stab.Keeps.refl _) | (with_reducible assumption) | (with_reducible refine Stab.Keeps.alloc ?_ _) | (with_reducible refine Stab.Keeps.drew ?_) | (with_reducible refine Stab.Keeps.drewN ?_ _) | ((with_reducible refine Stab.Keeps.setCell ?_ ?_ _); focus (first | (simp; done) | (simp; omega))) | (with_reducible refine Stab.Keeps.trans ?_ (by with_reducible assumption)))⟩
  case round =>
    obtain ⟨k, hk, rfl, hK⟩ := hrel
    by_cases hlt : k < n
    · obtain ⟨b, off, ha, hb, hc⟩ := (h.keep hK).elem hlt
      obtain ⟨b2, off2, ha2, hb2, hc2⟩ := (h2.keep hK).elem hlt
      subst ha
      subst ha2
      have c0 : wr.cell? ⟨b, off + k, none⟩ = some (.float .f64 (l[k])) := by have := hc 0 _ (by omega) (encN_get l k (by omega)); simpa using this
      have d0 : wr.cell? ⟨b2, off2 + k, none⟩ = some (.float .f64 (l[k])) := by have := hc2 0 _ (by omega) (encN_get l k (by omega)); simpa using this
      have hq := eq_real (hr l[k] (List.getElem_mem _))
      have ho : FloatKind.f64.format.order l[k] l[k] = some .eq := by simpa [eq] using hq
      generalize l[k] = p at *
      clear hc hc2 h h2 hr hq
      go_wp2_with fail
      go_roundw
      case rel =>
        refine ⟨k + 1, by omega, by go_num, ?_⟩
        repeat (first | (with_reducible exact Stab.Keeps.refl _) | (with_reducible assumption) | (with_reducible refine Stab.Keeps.alloc ?_ _) | (with_reducible refine Stab.Keeps.drew ?_) | (with_reducible refine Stab.Keeps.drewN ?_ _) | ((with_reducible refine Stab.Keeps.setCell ?_ ?_ _); focus (first | (simp; done) | (simp; omega))) | (with_reducible refine Stab.Keeps.trans ?_ (by with_reducible assumption)))
      case measure => simp [intOf]; omega
    · have hkn : k = n := by omega
      subst hkn
      go_wp2
      go_ret
      exact ⟨rfl, hK⟩
def Lines (ts : List GT) : Prop := 0 < ts.length ∧ ts.length ≤ 20 ∧ ∀ t ∈ ts, Leaf t ∧ t.Real
set_option maxRecDepth 100000 in
set_option maxHeartbeats 2000000 in
theorem iLines_ (a : Option Addr) (m cap : Nat) (ts : List GT) (w : World) (hm : ts.length = m) (h : Sz w a m cap 4 (ts.flatMap GT.cells)) (hts : ∀ t ∈ ts, t.At w) :
    Calls Try.prog 5 #[.slice a m cap] w (Tells w (Lines ts)) := by
  have hle := h.le
  have hmx := h.max
  unfold maxLen at hmx
  by_cases c1 : m = 0
  · subst c1
    go_enter Try.func5, Try.ntmps5
    go_wp2_with fail
    go_ret
    refine ⟨⟨false, rfl, fun h => by cases h⟩, ?_⟩
    repeat (first | (with_reducible exact Stab.Keeps.refl _) | (with_reducible assumption) | (with_reducible refine Stab.Keeps.alloc ?_ _) | (with_reducible refine Stab.Keeps.drew ?_) | (with_reducible refine Stab.Keeps.drewN ?_ _) | ((with_reducible refine Stab.Keeps.setCell ?_ ?_ _); focus (first | (simp; done) | (simp; omega))) | (with_reducible refine Stab.Keeps.trans ?_ (by with_reducible assumption)))
  have c1' : ¬ (m : Int) = 0 := by omega
  by_cases c2 : (20 : Int) < m
  · go_enter Try.func5, Try.ntmps5
    go_wp2_with fail
    go_ret
    refine ⟨⟨false, rfl, fun h => by cases h⟩, ?_⟩
    repeat (first | (with_reducible exact Stab.Keeps.refl _) | (with_reducible assumption) | (with_reducible refine Stab.Keeps.alloc ?_ _) | (with_reducible refine Stab.Keeps.drew ?_) | (with_reducible refine Stab.Keeps.drewN ?_ _) | ((with_reducible refine Stab.Keeps.setCell ?_ ?_ _); focus (first | (simp; done) | (simp; omega))) | (with_reducible refine Stab.Keeps.trans ?_ (by with_reducible assumption)))
  have hcell : ∀ (j : Nat) (hj : j < ts.length) (wr : World), Stab.Keeps w wr → ∃ b off, a = some ⟨b, off, none⟩ ∧ b < wr.heap.size ∧ wr.cell? ⟨b, off + j * 4, none⟩ = some (.int .i64 ts[j].hd.kind) ∧ wr.cell? ⟨b, off + j * 4 + 1, none⟩ = some (.int .i64 ts[j].hd.dim)
      ∧ wr.cell? ⟨b, off + j * 4 + 2, none⟩ = some (.slice ts[j].hd.na ts[j].hd.nn ts[j].hd.nc) ∧ wr.cell? ⟨b, off + j * 4 + 3, none⟩ = some (.slice ts[j].hd.ka ts[j].hd.kn ts[j].hd.kc) := fun j hj wr hk => by
    obtain ⟨b, off, ha, hb, hc⟩ := (h.keep hk).elem (i := j) (by omega)
    exact ⟨b, off, ha, hb, hc 0 _ (by omega) (by rw [flat_get GT.cells 4 GT.cells_len ts j 0 hj (by omega)]; rfl), hc 1 _ (by omega) (by rw [flat_get GT.cells 4 GT.cells_len ts j 1 hj (by omega)]; rfl),
      hc 2 _ (by omega) (by rw [flat_get GT.cells 4 GT.cells_len ts j 2 hj (by omega)]; rfl), hc 3 _ (by omega) (by rw [flat_get GT.cells 4 GT.cells_len ts j 3 hj (by omega)]; rfl)⟩
  obtain ⟨b, off, ha, hb, _, _, l2, _⟩ := hcell (m - 1) (by omega) w (Stab.Keeps.refl w)
  subst ha
  have hNl := (at_nums (hts ts[m - 1] (List.getElem_mem _))).2
  generalize ts[m - 1] = tl at *
  have hm1 : ((m : Int) - 1).toNat = m - 1 := by omega
  go_enter Try.func5, Try.ntmps5
  go_wp2_with fail
  go_loopw [3, 24] (fun v i wr => ∃ (k : Nat) (tp : GT), k ≤ m ∧ i = .int .i64 k ∧ Stab.Keeps w wr ∧ v = .slice tp.hd.na tp.hd.nn tp.hd.nc ∧ Sz w tp.hd.na tp.hd.nn tp.hd.nc 1 (encN tp.nums) ∧ ∀ j (hj : j < ts.length), j < k → Leaf ts[j] ∧ ts[j].Real) (fun _ i _ => m - (intOf i).toNat)
  case atStart => exact ⟨0, tl, Nat.zero_le _, rfl, by repeat (first | (with_reducible exact Stab.Keeps.refl _) | (with_reducible assumption) | (with_reducible refine Stab.Keeps.alloc ?_ _) | (with_reducible refine Stab.Keeps.drew ?_) | (with_reducible refine Stab.Keeps.drewN ?_ _) | ((with_reducible refine Stab.Keeps.setCell ?_ ?_ _); focus (first | (simp; done) | (simp; omega))) | (with_reducible refine Stab.Keeps.trans ?_ (by with_reducible assumption))), rfl, hNl, fun j _ hj => by omega⟩
  case round =>
    obtain ⟨k, ⟨⟨pk, pd, pa, pn, pc, pka, pkn, pkc⟩, pnums, pkids⟩, hk, rfl, hK, rfl, hLp, hA⟩ := hrel
    simp only [GT.hd, GT.nums] at hLp ⊢
    by_cases hlt : k < m
    · have hki : k < ts.length := by omega
      obtain ⟨b', off', ha, hb', e0, e1, e2, e3⟩ := hcell k hki wr hK
      cases ha
      obtain ⟨hn, hN⟩ := at_nums (hts ts[k] (List.getElem_mem _))
      have hkN := fun w' (hk : Stab.Keeps w w') => kNumbers_ w ts[k] (hts ts[k] (List.getElem_mem _)) w' hk
      have hs : ∀ t, t = ts[k] → Leaf t ∧ t.Real → ∀ j (hj : j < ts.length), j < k + 1 → Leaf ts[j] ∧ ts[j].Real := fun t ht hp j hj hl => by
        rcases Nat.lt_or_ge j k with h1 | h1
        · exact hA j hj h1
        · have : j = k := by omega
          subst this; subst ht; exact hp
      replace hs := hs _ rfl
      clear hA hcell l2
      generalize ts[k] = t at *
      obtain ⟨⟨kind, dim, na, nn, nc, ka, kn, kc⟩, nums, kids⟩ := t
      simp only [GT.hd, GT.nums, Gm.val] at *
      have hSm := hN.max
      unfold maxLen at hSm
      have hSl := hN.le
      have hKm := hLp.max
      unfold maxLen at hKm
      have hKl := hLp.le
      by_cases d1 : kind = 2 ∧ dim = 0 ∧ 4 ≤ nn ∧ nn ≤ 100 ∧ nn % 2 = 0 ∧ kn = 0
      · obtain ⟨rfl, rfl, d3, d4, d5, rfl⟩ := d1
        have d5' : (nn : Int) % 2 = 0 := by omega
        go_wp2_with fail
        refine (hkN _ (by repeat (first | (with_reducible exact Stab.Keeps.refl _) | (with_reducible assumption) | (with_reducible refine Stab.Keeps.alloc ?_ _) | (with_reducible refine Stab.Keeps.drew ?_) | (with_reducible refine Stab.Keeps.drewN ?_ _) | ((with_reducible refine Stab.Keeps.setCell ?_ ?_ _); focus (first | (simp; done) | (simp; omega))) | (with_reducible refine Stab.Keeps.trans ?_ (by with_reducible assumption))))).mono ?_
        clear hkN
        rintro e w3 ⟨⟨r, rfl, hr⟩, hk3⟩
        have hw3 : Stab.Keeps w w3 := by repeat (first | (with_reducible exact Stab.Keeps.refl _) | (with_reducible assumption) | (with_reducible refine Stab.Keeps.alloc ?_ _) | (with_reducible refine Stab.Keeps.drew ?_) | (with_reducible refine Stab.Keeps.drewN ?_ _) | ((with_reducible refine Stab.Keeps.setCell ?_ ?_ _); focus (first | (simp; done) | (simp; omega))) | (with_reducible refine Stab.Keeps.trans ?_ (by with_reducible assumption)))
        cases r with
        | false =>
          go_wp2_with fail
          go_ret
          exact ⟨⟨false, rfl, fun h => by cases h⟩, hw3⟩
        | true =>
          have hLf : Leaf (.node ⟨2, 0, na, nn, nc, ka, 0, kc⟩ nums kids) := ⟨rfl, rfl, by show 4 ≤ nums.length; omega, by show nums.length ≤ 100; omega, by show nums.length % 2 = 0; omega⟩
          have hAll := hs ⟨hLf, hr (by simp)⟩
          obtain ⟨mc_, mf_⟩ := Stab.own_cell hk3 (wr.heap.size) (by first | (simp; done) | (simp; omega) | omega | (apply Stab.cell_lt (a := ⟨wr.heap.size, 0, none⟩); assumption))
          have m0 : w3.cell? ⟨wr.heap.size, 0, none⟩ = some (.int .i64 2) := by rw [mc_]; first | assumption | (go_simp; done)
          have m1 : w3.cell? ⟨wr.heap.size, 1, none⟩ = some (.int .i64 0) := by rw [mc_]; first | assumption | (go_simp; done)
          have m2 : w3.cell? ⟨wr.heap.size, 2, none⟩ = some (.slice na nn nc) := by rw [mc_]; first | assumption | (go_simp; done)
          have m3 : w3.cell? ⟨wr.heap.size, 3, none⟩ = some (.slice ka 0 kc) := by rw [mc_]; first | assumption | (go_simp; done)
          have mf : ∀ j, w3.frozen? ⟨wr.heap.size, j, none⟩ = false := fun j => by rw [mf_]; first | (go_simp; done) | (apply_assumption)
          clear mc_ mf_
          have hN3 := hN.keep hw3
          have hL3 := hLp.keep hw3
          obtain ⟨bn, on, ha, hbn, hcn⟩ := hN3.elem (i := 0) (by omega)
          subst ha
          obtain ⟨bn', on', ha', _, hcn'⟩ := hN3.elem (i := 1) (by omega)
          cases ha'
          have x0 : w3.cell? ⟨bn, on, none⟩ = some (.float .f64 (nums[0]'(by omega))) := by have := hcn 0 _ (by omega) (encN_get nums 0 (by omega)); simpa using this
          have x1 : w3.cell? ⟨bn, on + 1, none⟩ = some (.float .f64 (nums[1]'(by omega))) := by have := hcn' 0 _ (by omega) (encN_get nums 1 (by omega)); simpa using this
          generalize nums[0]'(by omega) = n0 at x0
          generalize nums[1]'(by omega) = n1 at x1
          clear hcn hcn' hs hr e0 e1 e2 e3
          by_cases d6 : (pn : Int) < 2
          · go_wp2_with fail
            go_quiet (fail)
            go_wp2_with fail
            all_goals
              go_ret
              refine ⟨⟨false, rfl, fun h => by cases h⟩, ?_⟩
              repeat (first | (with_reducible exact Stab.Keeps.refl _) | (with_reducible assumption) | (with_reducible refine Stab.Keeps.alloc ?_ _) | (with_reducible refine Stab.Keeps.drew ?_) | (with_reducible refine Stab.Keeps.drewN ?_ _) | ((with_reducible refine Stab.Keeps.setCell ?_ ?_ _); focus (first | (simp; done) | (simp; omega))) | (with_reducible refine Stab.Keeps.trans ?_ (by with_reducible assumption)))
          · obtain ⟨bp, op, hpa, hbp, hcp⟩ := hL3.elem (i := pn - 2) (by omega)
            subst hpa
            obtain ⟨bp', op', hpa', _, hcp'⟩ := hL3.elem (i := pn - 1) (by omega)
            cases hpa'
            have hpl : pnums.length = pn := by have := hL3.len; simpa [encN] using this
            have y0 : w3.cell? ⟨bp, op + (pn - 2), none⟩ = some (.float .f64 (pnums[pn - 2]'(by omega))) := by have := hcp 0 _ (by omega) (encN_get pnums (pn - 2) (by omega)); simpa using this
            have y1 : w3.cell? ⟨bp, op + (pn - 1), none⟩ = some (.float .f64 (pnums[pn - 1]'(by omega))) := by have := hcp' 0 _ (by omega) (encN_get pnums (pn - 1) (by omega)); simpa using this
            generalize pnums[pn - 2]'(by omega) = p0 at y0
            generalize pnums[pn - 1]'(by omega) = p1 at y1
            have f1 : (2 : Int) ≤ pn := by omega
            have f2 : ((pn : Int) - 2).toNat = pn - 2 := by omega
            have f3 : ((pn : Int) - 1).toNat = pn - 1 := by omega
            have f4 : IntKind.i64.wrap ((pn : Int) - 2) = (pn : Int) - 2 := IntWalk.i64_in _ (by omega)
            have f5 : IntKind.i64.wrap ((pn : Int) - 1) = (pn : Int) - 1 := IntWalk.i64_in _ (by omega)
            have f6 : (0 : Int) ≤ (pn : Int) - 2 := by omega
            have f7 : (0 : Int) ≤ (pn : Int) - 1 := by omega
            have f8 : (pn : Int) - 2 < pn := by omega
            have f9 : (pn : Int) - 1 < pn := by omega
            have f10 : (0 : Int) < nn := by omega
            have f11 : (1 : Int) < nn := by omega
            clear hcp hcp'
            go_wp2_with fail
            have f0 : decide ((pn : Int) < 2) = false := by simp; omega
            by_cases ho : FloatKind.f64.format.order n0 p0 = some .eq
            · by_cases ho1 : FloatKind.f64.format.order n1 p1 = some .eq
              · go_quiet (fail)
                go_wp2_with fail
                refine ⟨⟨k + 1, .node ⟨2, 0, some ⟨bn, on, none⟩, nn, nc, ka, 0, kc⟩ nums kids, by omega, by go_num, by repeat (first | (with_reducible exact Stab.Keeps.refl _) | (with_reducible assumption) | (with_reducible refine Stab.Keeps.alloc ?_ _) | (with_reducible refine Stab.Keeps.drew ?_) | (with_reducible refine Stab.Keeps.drewN ?_ _) | ((with_reducible refine Stab.Keeps.setCell ?_ ?_ _); focus (first | (simp; done) | (simp; omega))) | (with_reducible refine Stab.Keeps.trans ?_ (by with_reducible assumption))), rfl, hN, hAll⟩, by simp [intOf]; omega⟩
              · go_quiet (fail)
                go_wp2_with fail
                all_goals first
                  | (go_ret; exact ⟨⟨false, rfl, fun h => by cases h⟩, by repeat (first | (with_reducible exact Stab.Keeps.refl _) | (with_reducible assumption) | (with_reducible refine Stab.Keeps.alloc ?_ _) | (with_reducible refine Stab.Keeps.drew ?_) | (with_reducible refine Stab.Keeps.drewN ?_ _) | ((with_reducible refine Stab.Keeps.setCell ?_ ?_ _); focus (first | (simp; done) | (simp; omega))) | (with_reducible refine Stab.Keeps.trans ?_ (by with_reducible assumption)))⟩)
                  | (refine ⟨⟨k + 1, .node ⟨2, 0, some ⟨bn, on, none⟩, nn, nc, ka, 0, kc⟩ nums kids, by omega, by go_num, by repeat (first | (with_reducible exact Stab.Keeps.refl _) | (with_reducible assumption) | (with_reducible refine Stab.Keeps.alloc ?_ _) | (with_reducible refine Stab.Keeps.drew ?_) | (with_reducible refine Stab.Keeps.drewN ?_ _) | ((with_reducible refine Stab.Keeps.setCell ?_ ?_ _); focus (first | (simp; done) | (simp; omega))) | (with_reducible refine Stab.Keeps.trans ?_ (by with_reducible assumption))), rfl, hN, hAll⟩, by simp [intOf]; omega⟩)
            · have g1 : (FloatKind.f64.format.order n0 p0 == some Ordering.eq) = false := by simp [ho]
              have g2 : (FloatKind.f64.format.order n0 p0 != some Ordering.eq) = true := by simp [ho]
              by_cases ho1 : FloatKind.f64.format.order n1 p1 = some .eq
              all_goals
                go_quiet (fail)
                go_wp2_with fail
                all_goals first
                  | (go_ret; exact ⟨⟨false, rfl, fun h => by cases h⟩, by repeat (first | (with_reducible exact Stab.Keeps.refl _) | (with_reducible assumption) | (with_reducible refine Stab.Keeps.alloc ?_ _) | (with_reducible refine Stab.Keeps.drew ?_) | (with_reducible refine Stab.Keeps.drewN ?_ _) | ((with_reducible refine Stab.Keeps.setCell ?_ ?_ _); focus (first | (simp; done) | (simp; omega))) | (with_reducible refine Stab.Keeps.trans ?_ (by with_reducible assumption)))⟩)
                  | (refine ⟨⟨k + 1, .node ⟨2, 0, some ⟨bn, on, none⟩, nn, nc, ka, 0, kc⟩ nums kids, by omega, by go_num, by repeat (first | (with_reducible exact Stab.Keeps.refl _) | (with_reducible assumption) | (with_reducible refine Stab.Keeps.alloc ?_ _) | (with_reducible refine Stab.Keeps.drew ?_) | (with_reducible refine Stab.Keeps.drewN ?_ _) | ((with_reducible refine Stab.Keeps.setCell ?_ ?_ _); focus (first | (simp; done) | (simp; omega))) | (with_reducible refine Stab.Keeps.trans ?_ (by with_reducible assumption))), rfl, hN, hAll⟩, by simp [intOf]; omega⟩)
      · go_wp2_with fail
        all_goals
          go_ret
          refine ⟨⟨false, rfl, fun h => by cases h⟩, ?_⟩
          repeat (first | (with_reducible exact Stab.Keeps.refl _) | (with_reducible assumption) | (with_reducible refine Stab.Keeps.alloc ?_ _) | (with_reducible refine Stab.Keeps.drew ?_) | (with_reducible refine Stab.Keeps.drewN ?_ _) | ((with_reducible refine Stab.Keeps.setCell ?_ ?_ _); focus (first | (simp; done) | (simp; omega))) | (with_reducible refine Stab.Keeps.trans ?_ (by with_reducible assumption)))
    · have hkm : k = m := by omega
      subst hkm
      go_wp2_with fail
      go_ret
      refine ⟨⟨true, rfl, fun _ => ⟨by omega, by omega, fun t ht => ?_⟩⟩, hK⟩
      obtain ⟨j, hj, rfl⟩ := List.getElem_of_mem ht
      exact hA j hj (by omega)
end Go.Proofs.Ytcepbpjdcfkgcaa
