/-
  Polygons, multis made of parts. No condition.
-/
import Derived.Test.YtbakhldjfplbfaaGreatXH1
set_option linter.unusedVariables false
set_option linter.unusedSimpArgs false
namespace Go.Proofs.YtbakhldjfplbfaaGreat
open Go.RowKit Go.Fl Go.Sl Go.Pg Go.Ch Go.Kf
theorem LsR.ones {w : World} {F : Nat → Prop} {cs : List Value} {p : Pg} (h : LsR w F cs p) : ∀ u ∈ cs, u.oneCell' = true := by
  obtain ⟨d, a, n, c, rfl⟩ := h.two
  intro u hu; simp at hu; rcases hu with rfl | rfl <;> rfl
theorem WholeR.ones {k : Nat} {R : World → (Nat → Prop) → List Value → Pg → Prop} {kc : Nat} {w : World} {F : Nat → Prop} {cs : List Value} {p : Pg} (h : WholeR k R kc w F cs p) : ∀ u ∈ cs, u.oneCell' = true := by
  obtain ⟨a, n, c, d, rfl⟩ := h.two
  intro u hu; simp at hu; rcases hu with rfl | rfl <;> rfl
theorem GeoR.ones {w : World} {F : Nat → Prop} {cs : List Value} {p : Pg} (h : GeoR w F cs p) : ∀ u ∈ cs, u.oneCell' = true := by
  obtain ⟨k, t, b, rfl⟩ := h.two
  intro u hu; simp at hu; rcases hu with rfl | rfl <;> rfl
theorem rows_ones {w : World} {F : Nat → Prop} {R : World → (Nat → Prop) → List Value → Pg → Prop} {a : Option Addr} {n cap k : Nat} {css : List (List Value)} {xs : List Pg} (h : Go.Kf.Rows w F R a n cap k css xs) (ho : ∀ {c x}, R w F c x → ∀ u ∈ c, u.oneCell' = true) : ∀ u ∈ css.flatten, u.oneCell' = true := by
  intro u hu
  obtain ⟨c, hc, hu⟩ := List.mem_flatten.1 hu
  obtain ⟨i, hi, rfl⟩ := List.mem_iff_getElem.1 hc
  exact ho (h.is i hi (by rw [h.lx, ← h.lc]; exact hi)) u hu
theorem and_u8 (x y : Nat) (hx : x < 4) (hy : y < 4) : bits .and .u8 (x : Int) (y : Int) = ((x &&& y : Nat) : Int) := by
  have h1 : x = 0 ∨ x = 1 ∨ x = 2 ∨ x = 3 := by omega
  have h2 : y = 0 ∨ y = 1 ∨ y = 2 ∨ y = 3 := by omega
  rcases h1 with rfl | rfl | rfl | rfl <;> rcases h2 with rfl | rfl | rfl | rfl <;> decide
/-- what a part's type is -/
theorem LsR.dim {w : World} {F : Nat → Prop} {cs : List Value} {p : Pg} (h : LsR w F cs p) : p.dim < 4 := by obtain ⟨_, _, _, _, _, _, rfl, h⟩ := h; exact h.d4
theorem PtR.dim {w : World} {F : Nat → Prop} {cs : List Value} {p : Pg} (h : PtR w F cs p) : p.dim < 4 := by obtain ⟨_, _, _, rfl, h, _⟩ := h; exact h
theorem WholeR.dim {k : Nat} {R : World → (Nat → Prop) → List Value → Pg → Prop} {kc : Nat} {w : World} {F : Nat → Prop} {cs : List Value} {p : Pg} (h : WholeR k R kc w F cs p) : p.dim < 4 := by obtain ⟨_, _, _, _, _, _, _, rfl, h, _⟩ := h; exact h
set_option maxRecDepth 100000 in
set_option maxHeartbeats 2000000 in
theorem newPyN_ {F : Nat → Prop} (a : Option Addr) (n cap : Nat) (css : List (List Value)) (kids : List Pg) (w : World) (hn0 : 0 < n) (hn : n ≤ 250000) (hR : Go.Kf.Rows w F LsR a n cap 2 css kids) :
    Calls Tryz.prog 97 #[.slice a n cap] w (RetR w F PyR (wholeP 3 0 kids)) := by
  obtain ⟨i0, hi, hz0, hz1, hz2⟩ := info_parts infoLs
  have hle := hR.sz.sz.le
  have hmx := hR.sz.sz.max
  unfold maxLen at hmx
  have hR0 := hR.mono (G := Go.Kf.old F w.heap.size) (fun b h1 h2 => ⟨h2, h1⟩) (fun c x hx => lsS.mono hx fun b h1 h2 => ⟨h2, h1⟩)
  have hone := rows_ones hR0 (fun h => h.ones)
  have HLK := Lib.hid hR.lx
  have HLC := Lib.hid hR.lc
  have hdk : ∀ i (hi : i < kids.length), kids[i].dim < 4 := fun i hi => (hR.is i (by rw [hR.lc, ← hR.lx]; exact hi) hi).dim
  have HDK := Lib.hid hdk
  have hwh : wholeP 3 0 kids = .node 3 (andD kids) [] (kids.map (forceP (andD kids))) := by
    unfold wholeP
    have : kids ≠ [] := fun h => by have := hR.lx; rw [h] at this; simp at this; omega
    simp [this]
  rw [hwh]
  have g0 : decide (0 < n) = true := decide_eq_true hn0
  have g1 : decide ((n : Int) > 0) = true := decide_eq_true (by omega)
  have g2 : ((n : Int) == 0) = false := by simp; omega
  have g3 : (n == 0) = false := by simp; omega
  have HI := Lib.hid hi
  have HZ0 := Lib.hid hz0
  have HZ1 := Lib.hid hz1
  have HZ2 := Lib.hid hz2
  clear hR hdk hwh hi hz0 hz1 hz2
  go_enter Tryz.func97, Tryz.ntmps97
  go_wp2_with fail
  have hkw : Stab.Keeps w (w.alloc (.cells #[.slice none 0 0, .int .u8 0] 121)) := by with_reducible (repeat first | exact Kx.r _ | assumption | refine Kx.a ?_ _ | refine Kx.d ?_ | refine Kx.e ?_ _ | refine Kx.s (by simp <;> omega) ?_ _ | refine Kx.t ?_ (by assumption))
  have hB1 : Blk (w.alloc (.cells #[.slice none 0 0, .int .u8 0] 121)) w.heap.size 121 [.slice none 0 0, .int .u8 0] := by with_reducible (repeat first | assumption | (refine Bx.n ⟨?_, ?_⟩ <;> focus (first | rfl | (simp; done) | omega)) | refine Bx.a ?_ _ | refine Bx.d ?_ | refine Bx.e ?_ _ | refine Bx.p (by first | omega | simp <;> omega) ?_)
  have hs1 : (w.alloc (.cells #[.slice none 0 0, .int .u8 0] 121)).heap.size = w.heap.size + 1 := by simp
  generalize hw1 : (w.alloc (.cells #[.slice none 0 0, .int .u8 0] 121)) = w1 at *
  clear hw1
  have HS1 := Lib.hid hs1
  clear hs1 g0 g1 g2 g3
  go_loopw [3, 12] (fun cv iv wr => ∃ k : Nat, k ≤ n ∧ iv = .int .i64 k ∧ cv = .int .u8 (andD (kids.take k)) ∧ Stab.Keeps w1 wr) (fun _ iv _ => n - (intOf iv).toNat)
  case atStart => exact ⟨0, by omega, rfl, rfl, Stab.Keeps.refl _⟩
  case round =>
    obtain ⟨k, k2, rfl, rfl, hk⟩ := hrel
    by_cases hlt : k < n
    · have hkW := Stab.Keeps.trans hkw hk
      obtain ⟨b, off, c, ha, hb, _, _, hc2, hcc, hx⟩ := (hR0.kf (KF.keeps hkW) (fun c x hx => lsS.kf hx (KF.keeps hkW))).elem hlt
      obtain ⟨dq, aq, nq, cq, rfl⟩ := hx.two
      subst ha
      have e0 : wr.cell? ⟨b, off + k * 2, none⟩ = some (.int .u8 dq) := by have := hcc 0 _ rfl; simpa using this
      have e1 : wr.cell? ⟨b, off + k * 2 + 1, none⟩ = some (.slice aq nq cq) := hcc 1 _ rfl
      have hkk : k < kids.length := by have := HLK.out; omega
      have hT := fun w' => typeLs_ [.int .u8 dq, .slice aq nq cq] _ w' wr hx
      have hand := and_u8 (andD (kids.take k)) kids[k].dim (andD_lt _) (HDK.out k hkk)
      have hsn : andD (kids.take k) &&& kids[k].dim = andD (kids.take (k + 1)) := by rw [List.take_succ_eq_append_getElem hkk, andD_snoc]
      rw [hsn] at hand
      have hal := andD_lt (kids.take (k + 1))
      generalize kids[k] = kid at *
      generalize hD1 : andD (kids.take (k + 1)) = D1 at *
      have HD1 := Lib.hid hD1
      clear hD1
      generalize andD (kids.take k) = D0 at *
      have hm256 : ((D1 : Nat) : Int) % 256 = D1 := by omega
      clear hcc hx hsn
      go_wp2_with fail
      refine (hT _).mono ?_
      clear hT
      rintro e w4 ⟨rfl, hk4⟩
      have hk5 : Stab.Keeps w1 w4 := by with_reducible (repeat first | exact Kx.r _ | assumption | refine Kx.a ?_ _ | refine Kx.d ?_ | refine Kx.e ?_ _ | refine Kx.s (by simp <;> omega) ?_ _ | refine Kx.t ?_ (by assumption))
      clear e0 e1 hk4
      go_wp2_with fail
      go_roundw
      case rel => exact ⟨k + 1, by omega, by go_num, by rw [HD1.out], hk5⟩
      case measure => simp [intOf]; omega
    · obtain rfl : n = k := by omega
      rw [List.take_of_length_le (by rw [HLK.out]; exact Nat.le_refl _)]
      have hD4 := andD_lt kids
      generalize hDe : andD kids = D at *
      have HDE := Lib.hid hDe
      clear hDe
      have hkW := Stab.Keeps.trans hkw hk
      have hSz := (hR0.kf (KF.keeps hkW) (fun c x hx => lsS.kf hx (KF.keeps hkW))).sz.sz
      go_wp2_with (at_builtin; (refine append_sz (w0 := w1) rfl _ _ 119 rfl w1.heap.size 99 i0 _ 2 32 Tryz.underlying119 HI.out HZ0.out HZ1.out HZ2.out rfl (by decide) _ 0 [] rfl (World.ownsRow_nil _ _ _ _) a n cap _ rfl hSz hone (by unfold maxLen; omega) (by omega) hk.size hk ?_))
      intro al c5 w5 hown hk5 hsz5 hgr
      try simp only [Nat.zero_add, List.nil_append] at hown
      have hs1 := HS1.out
      obtain ⟨fb, rfl, hfb, hU, hnc, hcm⟩ := Upd.start (w := w1) (orNew (Go.Kf.old F w.heap.size) w5.heap.size) LsR (kids.map (forceP D)) hk5 hown hn0 (Nat.le_refl _) HLC.out hR0.each (fun b h1 h2 => by simp [orNew, Go.Kf.old]; omega)
      have hfb5 := hU.lt
      clear hown hgr hSz hk hkW hsz5 hs1
      try simp only [Nat.zero_add]
      unfold maxLen at hcm
      go_wp2_with fail
      go_loopw [25] (fun iv wr => ∃ (k : Nat) (cs' : List (List Value)), k ≤ n ∧ iv = .int .i64 k ∧ w5.heap.size ≤ wr.heap.size ∧ Upd w1 wr (orNew (Go.Kf.old F w.heap.size) w5.heap.size) LsR fb n k 2 cs' css (kids.map (forceP D))) (fun iv _ => n - (intOf iv).toNat)
      case atStart => exact ⟨0, [], by omega, rfl, Nat.le_refl _, hU⟩
      case round =>
        clear hU
        obtain ⟨k, cs', k2, rfl, hsz5, hU⟩ := hrel
        have hk := hU.keeps
        have hkW := Stab.Keeps.trans hkw hk
        by_cases hlt : k < n
        · have hkc : k < css.length := by have := HLC.out; omega
          have hkk : k < kids.length := by have := HLK.out; omega
          have hx := lsS.kf (hR0.is k hkc hkk) (KF.keeps hkW)
          have hcc := fun j v hv => hU.cell hlt (j := j) (v := v) hv
          generalize hce : css[k] = c at *
          obtain ⟨dq, aq, nq, cq, rfl⟩ := hx.two
          have HCE := Lib.hid hce
          clear hce
          have e0 : wr.cell? ⟨fb, k * 2, none⟩ = some (.int .u8 dq) := by have := hcc 0 _ rfl; simpa using this
          have e1 : wr.cell? ⟨fb, k * 2 + 1, none⟩ = some (.slice aq nq cq) := hcc 1 _ rfl
          have hF1 := fun w' (hk : Stab.Keeps wr w') => forceLs_ D hD4 [.int .u8 dq, .slice aq nq cq] _ w' (lsS.kf hx (KF.keeps hk))
          generalize hke : kids[k] = kid at *
          have HKE := Lib.hid hke
          have hfl := hU.lt
          clear hcc hx hke
          go_wp2_with fail
          refine (hF1 _ (Stab.Keeps.refl _)).mono ?_
          clear hF1
          rintro e w6 ⟨cs4, rfl, hk4, hx4⟩
          obtain ⟨dz, az, nz, cz, rfl⟩ := hx4.two
          have hU4 := hU.keep lsS hk4
          have hx5 := lsS.mono (G := orNew (Go.Kf.old F w.heap.size) w5.heap.size) hx4 (fun b _ hb => on_old hsz5 hb)
          have hkm : k < (kids.map (forceP D)).length := by simpa using hkk
          have hxe : (kids.map (forceP D))[k] = forceP D kid := by rw [List.getElem_map, HKE.out]
          rw [← hxe] at hx5
          have hU5 := hU4.put2 lsS hlt hkm hx5
          have hsz6 : w5.heap.size ≤ w6.heap.size := Nat.le_trans hsz5 hk4.size
          obtain ⟨x0, r0⟩ := hU4.room.cell (k * 2) (by omega)
          obtain ⟨x1, r1⟩ := hU4.room.cell (k * 2 + 1) (by omega)
          have rf := hU4.room.free
          have hl4 := hU4.lt
          clear hU hU4 hx4 hx5 hxe hkm e0 e1 hk4 hfl
          go_wp2_with fail
          go_roundw
          case rel => exact ⟨k + 1, _, by omega, by go_num, by simpa using hsz6, hU5⟩
          case measure => simp [intOf]; omega
        · obtain rfl : n = k := by omega
          have hB2 := hB1.keep hk
          have r0 := hB2.cell (i := 0) rfl
          have r1 := hB2.cell (i := 1) rfl
          have rf := hB2.free
          have rl := hB2.lt
          have hs1 := HS1.out
          go_wp2_with fail
          refine bodyPost_ret (v := .agg #[.slice (some ⟨fb, 0, none⟩) n c5, .int .u8 D]) (by simp [results, Tryz.results97, go_sem, *]) rfl ⟨[.slice (some ⟨fb, 0, none⟩) n c5, .int .u8 D], rfl, ?_, D, _, n, c5, cs', kids.map (forceP D), rfl, rfl, hD4, hn, ?_, fun c hc => ?_⟩
          · with_reducible (repeat first | exact Kx.r _ | assumption | refine Kx.a ?_ _ | refine Kx.d ?_ | refine Kx.e ?_ _ | refine Kx.s (by simp <;> omega) ?_ _ | refine Kx.t ?_ (by assumption))
          · have hnf : ¬ orNew (Go.Kf.old F w.heap.size) w5.heap.size w.heap.size := by simp [orNew, Go.Kf.old]; omega
            have hk2 : Stab.Keeps w wr := Stab.Keeps.trans hkw hk
            have hU2 : Upd w wr (orNew (Go.Kf.old F w.heap.size) w5.heap.size) LsR fb n n 2 cs' css (kids.map (forceP D)) := ⟨hk2, hU.room, hU.filled, hU.lc, hU.each, hU.lo, hU.eacho, hU.is, hU.lt, by omega, hU.nin⟩
            exact ((hU2.past lsS (by omega) hnf (by omega) _).past lsS (by omega) hnf (by omega) _).rows lsS (by rw [List.length_map]; exact HLK.out) hnc (by unfold maxLen; omega) (fun b _ hb => on_mono (by omega) hb) (.inr (by omega))
          · obtain ⟨q, _, rfl⟩ := List.mem_map.1 hc
            exact forceP_dim D q
set_option maxRecDepth 100000 in
theorem newPy0_ {F : Nat → Prop} (w : World) : Calls Tryz.prog 97 #[.slice none 0 0] w (RetR w F PyR (wholeP 3 0 [])) := by
  go_enter Tryz.func97, Tryz.ntmps97
  go_wp2_with fail
  go_loopw [25] (fun iv wr => iv = .int .i64 0 ∧ wr = w.alloc (.cells #[.slice none 0 0, .int .u8 0] 121)) (fun _ _ => 0)
  case atStart => exact ⟨rfl, rfl⟩
  case round =>
    obtain ⟨rfl, rfl⟩ := hrel
    go_wp2_with fail
    refine bodyPost_ret (v := .agg #[.slice none 0 0, .int .u8 0]) (by simp [results, Tryz.results97, go_sem]) rfl ⟨[.slice none 0 0, .int .u8 0], rfl, ?_, 0, none, 0, 0, [], [], rfl, rfl, by omega, by omega, Go.Kf.Rows.nil _ _ _ _, fun c hc => by simp at hc⟩
    with_reducible (repeat first | exact Kx.r _ | assumption | refine Kx.a ?_ _ | refine Kx.d ?_ | refine Kx.e ?_ _ | refine Kx.s (by simp <;> omega) ?_ _ | refine Kx.t ?_ (by assumption))
set_option maxRecDepth 100000 in
set_option maxHeartbeats 2000000 in
theorem newMlN_ {F : Nat → Prop} (a : Option Addr) (n cap : Nat) (css : List (List Value)) (kids : List Pg) (w : World) (hn0 : 0 < n) (hn : n ≤ 250000) (hR : Go.Kf.Rows w F LsR a n cap 2 css kids) :
    Calls Tryz.prog 99 #[.slice a n cap] w (RetR w F MlR (wholeP 5 0 kids)) := by
  obtain ⟨i0, hi, hz0, hz1, hz2⟩ := info_parts infoLs
  have hle := hR.sz.sz.le
  have hmx := hR.sz.sz.max
  unfold maxLen at hmx
  have hR0 := hR.mono (G := Go.Kf.old F w.heap.size) (fun b h1 h2 => ⟨h2, h1⟩) (fun c x hx => lsS.mono hx fun b h1 h2 => ⟨h2, h1⟩)
  have hone := rows_ones hR0 (fun h => h.ones)
  have HLK := Lib.hid hR.lx
  have HLC := Lib.hid hR.lc
  have hdk : ∀ i (hi : i < kids.length), kids[i].dim < 4 := fun i hi => (hR.is i (by rw [hR.lc, ← hR.lx]; exact hi) hi).dim
  have HDK := Lib.hid hdk
  have hwh : wholeP 5 0 kids = .node 5 (andD kids) [] (kids.map (forceP (andD kids))) := by
    unfold wholeP
    have : kids ≠ [] := fun h => by have := hR.lx; rw [h] at this; simp at this; omega
    simp [this]
  rw [hwh]
  have g0 : decide (0 < n) = true := decide_eq_true hn0
  have g1 : decide ((n : Int) > 0) = true := decide_eq_true (by omega)
  have g2 : ((n : Int) == 0) = false := by simp; omega
  have g3 : (n == 0) = false := by simp; omega
  have HI := Lib.hid hi
  have HZ0 := Lib.hid hz0
  have HZ1 := Lib.hid hz1
  have HZ2 := Lib.hid hz2
  clear hR hdk hwh hi hz0 hz1 hz2
  go_enter Tryz.func99, Tryz.ntmps99
  go_wp2_with fail
  have hkw : Stab.Keeps w (w.alloc (.cells #[.slice none 0 0, .int .u8 0] 129)) := by with_reducible (repeat first | exact Kx.r _ | assumption | refine Kx.a ?_ _ | refine Kx.d ?_ | refine Kx.e ?_ _ | refine Kx.s (by simp <;> omega) ?_ _ | refine Kx.t ?_ (by assumption))
  have hB1 : Blk (w.alloc (.cells #[.slice none 0 0, .int .u8 0] 129)) w.heap.size 129 [.slice none 0 0, .int .u8 0] := by with_reducible (repeat first | assumption | (refine Bx.n ⟨?_, ?_⟩ <;> focus (first | rfl | (simp; done) | omega)) | refine Bx.a ?_ _ | refine Bx.d ?_ | refine Bx.e ?_ _ | refine Bx.p (by first | omega | simp <;> omega) ?_)
  have hs1 : (w.alloc (.cells #[.slice none 0 0, .int .u8 0] 129)).heap.size = w.heap.size + 1 := by simp
  generalize hw1 : (w.alloc (.cells #[.slice none 0 0, .int .u8 0] 129)) = w1 at *
  clear hw1
  have HS1 := Lib.hid hs1
  clear hs1 g0 g1 g2 g3
  go_loopw [3, 13] (fun cv iv wr => ∃ k : Nat, k ≤ n ∧ iv = .int .i64 k ∧ cv = .int .u8 (andD (kids.take k)) ∧ Stab.Keeps w1 wr) (fun _ iv _ => n - (intOf iv).toNat)
  case atStart => exact ⟨0, by omega, rfl, rfl, Stab.Keeps.refl _⟩
  case round =>
    obtain ⟨k, k2, rfl, rfl, hk⟩ := hrel
    by_cases hlt : k < n
    · have hkW := Stab.Keeps.trans hkw hk
      obtain ⟨b, off, c, ha, hb, _, _, hc2, hcc, hx⟩ := (hR0.kf (KF.keeps hkW) (fun c x hx => lsS.kf hx (KF.keeps hkW))).elem hlt
      obtain ⟨dq, aq, nq, cq, rfl⟩ := hx.two
      subst ha
      have e0 : wr.cell? ⟨b, off + k * 2, none⟩ = some (.int .u8 dq) := by have := hcc 0 _ rfl; simpa using this
      have e1 : wr.cell? ⟨b, off + k * 2 + 1, none⟩ = some (.slice aq nq cq) := hcc 1 _ rfl
      have hkk : k < kids.length := by have := HLK.out; omega
      have hT := fun w' => typeLs_ [.int .u8 dq, .slice aq nq cq] _ w' wr hx
      have hand := and_u8 (andD (kids.take k)) kids[k].dim (andD_lt _) (HDK.out k hkk)
      have hsn : andD (kids.take k) &&& kids[k].dim = andD (kids.take (k + 1)) := by rw [List.take_succ_eq_append_getElem hkk, andD_snoc]
      rw [hsn] at hand
      have hal := andD_lt (kids.take (k + 1))
      generalize kids[k] = kid at *
      generalize hD1 : andD (kids.take (k + 1)) = D1 at *
      have HD1 := Lib.hid hD1
      clear hD1
      generalize andD (kids.take k) = D0 at *
      have hm256 : ((D1 : Nat) : Int) % 256 = D1 := by omega
      clear hcc hx hsn
      go_wp2_with fail
      refine (hT _).mono ?_
      clear hT
      rintro e w4 ⟨rfl, hk4⟩
      have hk5 : Stab.Keeps w1 w4 := by with_reducible (repeat first | exact Kx.r _ | assumption | refine Kx.a ?_ _ | refine Kx.d ?_ | refine Kx.e ?_ _ | refine Kx.s (by simp <;> omega) ?_ _ | refine Kx.t ?_ (by assumption))
      clear e0 e1 hk4
      go_wp2_with fail
      go_roundw
      case rel => exact ⟨k + 1, by omega, by go_num, by rw [HD1.out], hk5⟩
      case measure => simp [intOf]; omega
    · obtain rfl : n = k := by omega
      rw [List.take_of_length_le (by rw [HLK.out]; exact Nat.le_refl _)]
      have hD4 := andD_lt kids
      generalize hDe : andD kids = D at *
      have HDE := Lib.hid hDe
      clear hDe
      have hkW := Stab.Keeps.trans hkw hk
      have hSz := (hR0.kf (KF.keeps hkW) (fun c x hx => lsS.kf hx (KF.keeps hkW))).sz.sz
      go_wp2_with (at_builtin; (refine append_sz (w0 := w1) rfl _ _ 119 rfl w1.heap.size 99 i0 _ 2 32 Tryz.underlying119 HI.out HZ0.out HZ1.out HZ2.out rfl (by decide) _ 0 [] rfl (World.ownsRow_nil _ _ _ _) a n cap _ rfl hSz hone (by unfold maxLen; omega) (by omega) hk.size hk ?_))
      intro al c5 w5 hown hk5 hsz5 hgr
      try simp only [Nat.zero_add, List.nil_append] at hown
      have hs1 := HS1.out
      obtain ⟨fb, rfl, hfb, hU, hnc, hcm⟩ := Upd.start (w := w1) (orNew (Go.Kf.old F w.heap.size) w5.heap.size) LsR (kids.map (forceP D)) hk5 hown hn0 (Nat.le_refl _) HLC.out hR0.each (fun b h1 h2 => by simp [orNew, Go.Kf.old]; omega)
      have hfb5 := hU.lt
      clear hown hgr hSz hk hkW hsz5 hs1
      try simp only [Nat.zero_add]
      unfold maxLen at hcm
      go_wp2_with fail
      go_loopw [26] (fun iv wr => ∃ (k : Nat) (cs' : List (List Value)), k ≤ n ∧ iv = .int .i64 k ∧ w5.heap.size ≤ wr.heap.size ∧ Upd w1 wr (orNew (Go.Kf.old F w.heap.size) w5.heap.size) LsR fb n k 2 cs' css (kids.map (forceP D))) (fun iv _ => n - (intOf iv).toNat)
      case atStart => exact ⟨0, [], by omega, rfl, Nat.le_refl _, hU⟩
      case round =>
        clear hU
        obtain ⟨k, cs', k2, rfl, hsz5, hU⟩ := hrel
        have hk := hU.keeps
        have hkW := Stab.Keeps.trans hkw hk
        by_cases hlt : k < n
        · have hkc : k < css.length := by have := HLC.out; omega
          have hkk : k < kids.length := by have := HLK.out; omega
          have hx := lsS.kf (hR0.is k hkc hkk) (KF.keeps hkW)
          have hcc := fun j v hv => hU.cell hlt (j := j) (v := v) hv
          generalize hce : css[k] = c at *
          obtain ⟨dq, aq, nq, cq, rfl⟩ := hx.two
          have HCE := Lib.hid hce
          clear hce
          have e0 : wr.cell? ⟨fb, k * 2, none⟩ = some (.int .u8 dq) := by have := hcc 0 _ rfl; simpa using this
          have e1 : wr.cell? ⟨fb, k * 2 + 1, none⟩ = some (.slice aq nq cq) := hcc 1 _ rfl
          have hF1 := fun w' (hk : Stab.Keeps wr w') => forceLs_ D hD4 [.int .u8 dq, .slice aq nq cq] _ w' (lsS.kf hx (KF.keeps hk))
          generalize hke : kids[k] = kid at *
          have HKE := Lib.hid hke
          have hfl := hU.lt
          clear hcc hx hke
          go_wp2_with fail
          refine (hF1 _ (Stab.Keeps.refl _)).mono ?_
          clear hF1
          rintro e w6 ⟨cs4, rfl, hk4, hx4⟩
          obtain ⟨dz, az, nz, cz, rfl⟩ := hx4.two
          have hU4 := hU.keep lsS hk4
          have hx5 := lsS.mono (G := orNew (Go.Kf.old F w.heap.size) w5.heap.size) hx4 (fun b _ hb => on_old hsz5 hb)
          have hkm : k < (kids.map (forceP D)).length := by simpa using hkk
          have hxe : (kids.map (forceP D))[k] = forceP D kid := by rw [List.getElem_map, HKE.out]
          rw [← hxe] at hx5
          have hU5 := hU4.put2 lsS hlt hkm hx5
          have hsz6 : w5.heap.size ≤ w6.heap.size := Nat.le_trans hsz5 hk4.size
          obtain ⟨x0, r0⟩ := hU4.room.cell (k * 2) (by omega)
          obtain ⟨x1, r1⟩ := hU4.room.cell (k * 2 + 1) (by omega)
          have rf := hU4.room.free
          have hl4 := hU4.lt
          clear hU hU4 hx4 hx5 hxe hkm e0 e1 hk4 hfl
          go_wp2_with fail
          go_roundw
          case rel => exact ⟨k + 1, _, by omega, by go_num, by simpa using hsz6, hU5⟩
          case measure => simp [intOf]; omega
        · obtain rfl : n = k := by omega
          have hB2 := hB1.keep hk
          have r0 := hB2.cell (i := 0) rfl
          have r1 := hB2.cell (i := 1) rfl
          have rf := hB2.free
          have rl := hB2.lt
          have hs1 := HS1.out
          go_wp2_with fail
          refine bodyPost_ret (v := .agg #[.slice (some ⟨fb, 0, none⟩) n c5, .int .u8 D]) (by simp [results, Tryz.results99, go_sem, *]) rfl ⟨[.slice (some ⟨fb, 0, none⟩) n c5, .int .u8 D], rfl, ?_, D, _, n, c5, cs', kids.map (forceP D), rfl, rfl, hD4, hn, ?_, fun c hc => ?_⟩
          · with_reducible (repeat first | exact Kx.r _ | assumption | refine Kx.a ?_ _ | refine Kx.d ?_ | refine Kx.e ?_ _ | refine Kx.s (by simp <;> omega) ?_ _ | refine Kx.t ?_ (by assumption))
          · have hnf : ¬ orNew (Go.Kf.old F w.heap.size) w5.heap.size w.heap.size := by simp [orNew, Go.Kf.old]; omega
            have hk2 : Stab.Keeps w wr := Stab.Keeps.trans hkw hk
            have hU2 : Upd w wr (orNew (Go.Kf.old F w.heap.size) w5.heap.size) LsR fb n n 2 cs' css (kids.map (forceP D)) := ⟨hk2, hU.room, hU.filled, hU.lc, hU.each, hU.lo, hU.eacho, hU.is, hU.lt, by omega, hU.nin⟩
            exact ((hU2.past lsS (by omega) hnf (by omega) _).past lsS (by omega) hnf (by omega) _).rows lsS (by rw [List.length_map]; exact HLK.out) hnc (by unfold maxLen; omega) (fun b _ hb => on_mono (by omega) hb) (.inr (by omega))
          · obtain ⟨q, _, rfl⟩ := List.mem_map.1 hc
            exact forceP_dim D q
set_option maxRecDepth 100000 in
theorem newMl0_ {F : Nat → Prop} (a : Option Addr) (cap : Nat) (w : World) : Calls Tryz.prog 99 #[.slice a 0 cap] w (RetR w F MlR (wholeP 5 0 [])) := by
  go_enter Tryz.func99, Tryz.ntmps99
  go_wp2_with fail
  refine bodyPost_ret (v := .agg #[.slice none 0 0, .int .u8 0]) (by simp [results, Tryz.results99, go_sem]) rfl ⟨[.slice none 0 0, .int .u8 0], rfl, ?_, 0, none, 0, 0, [], [], rfl, rfl, by omega, by omega, Go.Kf.Rows.nil _ _ _ _, fun c hc => by simp at hc⟩
  with_reducible (repeat first | exact Kx.r _ | assumption | refine Kx.a ?_ _ | refine Kx.d ?_ | refine Kx.e ?_ _ | refine Kx.s (by simp <;> omega) ?_ _ | refine Kx.t ?_ (by assumption))
set_option maxRecDepth 100000 in
theorem typePy_ {F : Nat → Prop} (cs : List Value) (p : Pg) (w w0 : World) (h : PyR w0 F cs p) : Calls Tryz.prog 174 #[.agg cs.toArray] w (One w (.int .u8 p.dim)) := by
  obtain ⟨d, a, n, cap, css, kids, rfl, rfl, h⟩ := h
  show Calls _ _ _ _ (One w (.int .u8 d))
  go_enter Tryz.func174, Tryz.ntmps174
  go_wp2
  go_ret
  refine ⟨rfl, ?_⟩
  with_reducible (repeat first | exact Kx.r _ | assumption | refine Kx.a ?_ _ | refine Kx.d ?_ | refine Kx.e ?_ _ | refine Kx.s (by simp <;> omega) ?_ _ | refine Kx.t ?_ (by assumption))
set_option maxRecDepth 100000 in
set_option maxHeartbeats 2000000 in
theorem newMyN_ {F : Nat → Prop} (a : Option Addr) (n cap : Nat) (css : List (List Value)) (kids : List Pg) (w : World) (hn0 : 0 < n) (hn : n ≤ 250000) (hR : Go.Kf.Rows w F PyR a n cap 2 css kids) :
    Calls Tryz.prog 100 #[.slice a n cap] w (RetR w F MyR (wholeP 6 0 kids)) := by
  obtain ⟨i0, hi, hz0, hz1, hz2⟩ := info_parts infoPy
  have hle := hR.sz.sz.le
  have hmx := hR.sz.sz.max
  unfold maxLen at hmx
  have hR0 := hR.mono (G := Go.Kf.old F w.heap.size) (fun b h1 h2 => ⟨h2, h1⟩) (fun c x hx => pyS.mono hx fun b h1 h2 => ⟨h2, h1⟩)
  have hone := rows_ones hR0 (fun h => h.ones)
  have HLK := Lib.hid hR.lx
  have HLC := Lib.hid hR.lc
  have hdk : ∀ i (hi : i < kids.length), kids[i].dim < 4 := fun i hi => (hR.is i (by rw [hR.lc, ← hR.lx]; exact hi) hi).dim
  have HDK := Lib.hid hdk
  have hwh : wholeP 6 0 kids = .node 6 (andD kids) [] (kids.map (forceP (andD kids))) := by
    unfold wholeP
    have : kids ≠ [] := fun h => by have := hR.lx; rw [h] at this; simp at this; omega
    simp [this]
  rw [hwh]
  have g0 : decide (0 < n) = true := decide_eq_true hn0
  have g1 : decide ((n : Int) > 0) = true := decide_eq_true (by omega)
  have g2 : ((n : Int) == 0) = false := by simp; omega
  have g3 : (n == 0) = false := by simp; omega
  have HI := Lib.hid hi
  have HZ0 := Lib.hid hz0
  have HZ1 := Lib.hid hz1
  have HZ2 := Lib.hid hz2
  clear hR hdk hwh hi hz0 hz1 hz2
  go_enter Tryz.func100, Tryz.ntmps100
  go_wp2_with fail
  have hkw : Stab.Keeps w (w.alloc (.cells #[.slice none 0 0, .int .u8 0] 134)) := by with_reducible (repeat first | exact Kx.r _ | assumption | refine Kx.a ?_ _ | refine Kx.d ?_ | refine Kx.e ?_ _ | refine Kx.s (by simp <;> omega) ?_ _ | refine Kx.t ?_ (by assumption))
  have hB1 : Blk (w.alloc (.cells #[.slice none 0 0, .int .u8 0] 134)) w.heap.size 134 [.slice none 0 0, .int .u8 0] := by with_reducible (repeat first | assumption | (refine Bx.n ⟨?_, ?_⟩ <;> focus (first | rfl | (simp; done) | omega)) | refine Bx.a ?_ _ | refine Bx.d ?_ | refine Bx.e ?_ _ | refine Bx.p (by first | omega | simp <;> omega) ?_)
  have hs1 : (w.alloc (.cells #[.slice none 0 0, .int .u8 0] 134)).heap.size = w.heap.size + 1 := by simp
  generalize hw1 : (w.alloc (.cells #[.slice none 0 0, .int .u8 0] 134)) = w1 at *
  clear hw1
  have HS1 := Lib.hid hs1
  clear hs1 g0 g1 g2 g3
  go_loopw [3, 12] (fun cv iv wr => ∃ k : Nat, k ≤ n ∧ iv = .int .i64 k ∧ cv = .int .u8 (andD (kids.take k)) ∧ Stab.Keeps w1 wr) (fun _ iv _ => n - (intOf iv).toNat)
  case atStart => exact ⟨0, by omega, rfl, rfl, Stab.Keeps.refl _⟩
  case round =>
    obtain ⟨k, k2, rfl, rfl, hk⟩ := hrel
    by_cases hlt : k < n
    · have hkW := Stab.Keeps.trans hkw hk
      obtain ⟨b, off, c, ha, hb, _, _, hc2, hcc, hx⟩ := (hR0.kf (KF.keeps hkW) (fun c x hx => pyS.kf hx (KF.keeps hkW))).elem hlt
      obtain ⟨aq, nq, cq, dq, rfl⟩ := hx.two
      subst ha
      have e0 : wr.cell? ⟨b, off + k * 2, none⟩ = some (.slice aq nq cq) := by have := hcc 0 _ rfl; simpa using this
      have e1 : wr.cell? ⟨b, off + k * 2 + 1, none⟩ = some (.int .u8 dq) := hcc 1 _ rfl
      have hkk : k < kids.length := by have := HLK.out; omega
      have hT := fun w' => typePy_ [.slice aq nq cq, .int .u8 dq] _ w' wr hx
      have hand := and_u8 (andD (kids.take k)) kids[k].dim (andD_lt _) (HDK.out k hkk)
      have hsn : andD (kids.take k) &&& kids[k].dim = andD (kids.take (k + 1)) := by rw [List.take_succ_eq_append_getElem hkk, andD_snoc]
      rw [hsn] at hand
      have hal := andD_lt (kids.take (k + 1))
      generalize kids[k] = kid at *
      generalize hD1 : andD (kids.take (k + 1)) = D1 at *
      have HD1 := Lib.hid hD1
      clear hD1
      generalize andD (kids.take k) = D0 at *
      have hm256 : ((D1 : Nat) : Int) % 256 = D1 := by omega
      clear hcc hx hsn
      go_wp2_with fail
      refine (hT _).mono ?_
      clear hT
      rintro e w4 ⟨rfl, hk4⟩
      have hk5 : Stab.Keeps w1 w4 := by with_reducible (repeat first | exact Kx.r _ | assumption | refine Kx.a ?_ _ | refine Kx.d ?_ | refine Kx.e ?_ _ | refine Kx.s (by simp <;> omega) ?_ _ | refine Kx.t ?_ (by assumption))
      clear e0 e1 hk4
      go_wp2_with fail
      go_roundw
      case rel => exact ⟨k + 1, by omega, by go_num, by rw [HD1.out], hk5⟩
      case measure => simp [intOf]; omega
    · obtain rfl : n = k := by omega
      rw [List.take_of_length_le (by rw [HLK.out]; exact Nat.le_refl _)]
      have hD4 := andD_lt kids
      generalize hDe : andD kids = D at *
      have HDE := Lib.hid hDe
      clear hDe
      have hkW := Stab.Keeps.trans hkw hk
      have hSz := (hR0.kf (KF.keeps hkW) (fun c x hx => pyS.kf hx (KF.keeps hkW))).sz.sz
      go_wp2_with (at_builtin; (refine append_sz (w0 := w1) rfl _ _ 132 rfl w1.heap.size 121 i0 _ 2 32 Tryz.underlying132 HI.out HZ0.out HZ1.out HZ2.out rfl (by decide) _ 0 [] rfl (World.ownsRow_nil _ _ _ _) a n cap _ rfl hSz hone (by unfold maxLen; omega) (by omega) hk.size hk ?_))
      intro al c5 w5 hown hk5 hsz5 hgr
      try simp only [Nat.zero_add, List.nil_append] at hown
      have hs1 := HS1.out
      obtain ⟨fb, rfl, hfb, hU, hnc, hcm⟩ := Upd.start (w := w1) (orNew (Go.Kf.old F w.heap.size) w5.heap.size) PyR (kids.map (forceP D)) hk5 hown hn0 (Nat.le_refl _) HLC.out hR0.each (fun b h1 h2 => by simp [orNew, Go.Kf.old]; omega)
      have hfb5 := hU.lt
      clear hown hgr hSz hk hkW hsz5 hs1
      try simp only [Nat.zero_add]
      unfold maxLen at hcm
      go_wp2_with fail
      go_loopw [25] (fun iv wr => ∃ (k : Nat) (cs' : List (List Value)), k ≤ n ∧ iv = .int .i64 k ∧ w5.heap.size ≤ wr.heap.size ∧ Upd w1 wr (orNew (Go.Kf.old F w.heap.size) w5.heap.size) PyR fb n k 2 cs' css (kids.map (forceP D))) (fun iv _ => n - (intOf iv).toNat)
      case atStart => exact ⟨0, [], by omega, rfl, Nat.le_refl _, hU⟩
      case round =>
        clear hU
        obtain ⟨k, cs', k2, rfl, hsz5, hU⟩ := hrel
        have hk := hU.keeps
        have hkW := Stab.Keeps.trans hkw hk
        by_cases hlt : k < n
        · have hkc : k < css.length := by have := HLC.out; omega
          have hkk : k < kids.length := by have := HLK.out; omega
          have hx := pyS.kf (hR0.is k hkc hkk) (KF.keeps hkW)
          have hcc := fun j v hv => hU.cell hlt (j := j) (v := v) hv
          generalize hce : css[k] = c at *
          obtain ⟨aq, nq, cq, dq, rfl⟩ := hx.two
          have HCE := Lib.hid hce
          clear hce
          have e0 : wr.cell? ⟨fb, k * 2, none⟩ = some (.slice aq nq cq) := by have := hcc 0 _ rfl; simpa using this
          have e1 : wr.cell? ⟨fb, k * 2 + 1, none⟩ = some (.int .u8 dq) := hcc 1 _ rfl
          have hF1 := fun w' (hk : Stab.Keeps wr w') => forcePy_ D hD4 [.slice aq nq cq, .int .u8 dq] _ w' (pyS.kf hx (KF.keeps hk))
          generalize hke : kids[k] = kid at *
          have HKE := Lib.hid hke
          have hfl := hU.lt
          clear hcc hx hke
          go_wp2_with fail
          refine (hF1 _ (Stab.Keeps.refl _)).mono ?_
          clear hF1
          rintro e w6 ⟨cs4, rfl, hk4, hx4⟩
          obtain ⟨az, nz, cz, dz, rfl⟩ := hx4.two
          have hU4 := hU.keep pyS hk4
          have hx5 := pyS.mono (G := orNew (Go.Kf.old F w.heap.size) w5.heap.size) hx4 (fun b _ hb => on_old hsz5 hb)
          have hkm : k < (kids.map (forceP D)).length := by simpa using hkk
          have hxe : (kids.map (forceP D))[k] = forceP D kid := by rw [List.getElem_map, HKE.out]
          rw [← hxe] at hx5
          have hU5 := hU4.put2 pyS hlt hkm hx5
          have hsz6 : w5.heap.size ≤ w6.heap.size := Nat.le_trans hsz5 hk4.size
          obtain ⟨x0, r0⟩ := hU4.room.cell (k * 2) (by omega)
          obtain ⟨x1, r1⟩ := hU4.room.cell (k * 2 + 1) (by omega)
          have rf := hU4.room.free
          have hl4 := hU4.lt
          clear hU hU4 hx4 hx5 hxe hkm e0 e1 hk4 hfl
          go_wp2_with fail
          go_roundw
          case rel => exact ⟨k + 1, _, by omega, by go_num, by simpa using hsz6, hU5⟩
          case measure => simp [intOf]; omega
        · obtain rfl : n = k := by omega
          have hB2 := hB1.keep hk
          have r0 := hB2.cell (i := 0) rfl
          have r1 := hB2.cell (i := 1) rfl
          have rf := hB2.free
          have rl := hB2.lt
          have hs1 := HS1.out
          go_wp2_with fail
          refine bodyPost_ret (v := .agg #[.slice (some ⟨fb, 0, none⟩) n c5, .int .u8 D]) (by simp [results, Tryz.results100, go_sem, *]) rfl ⟨[.slice (some ⟨fb, 0, none⟩) n c5, .int .u8 D], rfl, ?_, D, _, n, c5, cs', kids.map (forceP D), rfl, rfl, hD4, hn, ?_, fun c hc => ?_⟩
          · with_reducible (repeat first | exact Kx.r _ | assumption | refine Kx.a ?_ _ | refine Kx.d ?_ | refine Kx.e ?_ _ | refine Kx.s (by simp <;> omega) ?_ _ | refine Kx.t ?_ (by assumption))
          · have hnf : ¬ orNew (Go.Kf.old F w.heap.size) w5.heap.size w.heap.size := by simp [orNew, Go.Kf.old]; omega
            have hk2 : Stab.Keeps w wr := Stab.Keeps.trans hkw hk
            have hU2 : Upd w wr (orNew (Go.Kf.old F w.heap.size) w5.heap.size) PyR fb n n 2 cs' css (kids.map (forceP D)) := ⟨hk2, hU.room, hU.filled, hU.lc, hU.each, hU.lo, hU.eacho, hU.is, hU.lt, by omega, hU.nin⟩
            exact ((hU2.past pyS (by omega) hnf (by omega) _).past pyS (by omega) hnf (by omega) _).rows pyS (by rw [List.length_map]; exact HLK.out) hnc (by unfold maxLen; omega) (fun b _ hb => on_mono (by omega) hb) (.inr (by omega))
          · obtain ⟨q, _, rfl⟩ := List.mem_map.1 hc
            exact forceP_dim D q
set_option maxRecDepth 100000 in
theorem newMy0_ {F : Nat → Prop} (w : World) : Calls Tryz.prog 100 #[.slice none 0 0] w (RetR w F MyR (wholeP 6 0 [])) := by
  go_enter Tryz.func100, Tryz.ntmps100
  go_wp2_with fail
  go_loopw [25] (fun iv wr => iv = .int .i64 0 ∧ wr = w.alloc (.cells #[.slice none 0 0, .int .u8 0] 134)) (fun _ _ => 0)
  case atStart => exact ⟨rfl, rfl⟩
  case round =>
    obtain ⟨rfl, rfl⟩ := hrel
    go_wp2_with fail
    refine bodyPost_ret (v := .agg #[.slice none 0 0, .int .u8 0]) (by simp [results, Tryz.results100, go_sem]) rfl ⟨[.slice none 0 0, .int .u8 0], rfl, ?_, 0, none, 0, 0, [], [], rfl, rfl, by omega, by omega, Go.Kf.Rows.nil _ _ _ _, fun c hc => by simp at hc⟩
    with_reducible (repeat first | exact Kx.r _ | assumption | refine Kx.a ?_ _ | refine Kx.d ?_ | refine Kx.e ?_ _ | refine Kx.s (by simp <;> omega) ?_ _ | refine Kx.t ?_ (by assumption))
end Go.Proofs.YtbakhldjfplbfaaGreat
