/-
  A shape as plain data. No condition.
  What a hull is made of: small contracts; points, line strings. No condition.
  What a hull is made of: polygons, several points. No condition.
  What a hull is made of: wholes of several parts. No condition.
  impl.HullPlaces. No condition.
-/
import Derived.Test.YtinbkonmlgediaaGreatXVa
set_option linter.unusedVariables false
set_option linter.unusedSimpArgs false
namespace Go.Proofs.YtinbkonmlgediaaGreat
open Go.RowKit Go.Fl Go.Sl Go.Pg Go.Ch Go.Kf
/-- an own row over what leaves its blocks -/
theorem owns_kf {w w' : World} {B k n : Nat} {T : TypeId} {v : Value} {xs : List Value} (h : w.ownsRow B T k v n xs) (hk : KF (fun b => B ≤ b) w w') : w'.ownsRow B T k v n xs := by
  refine ⟨h.1, ?_⟩
  rcases h.2 with hn | ⟨g, cap, cur, hv, hb, hg, rest⟩
  · exact .inl hn
  · have hlt : g < w.heap.size := by
      rcases Nat.lt_or_ge g w.heap.size with h | h
      · exact h
      · rw [Array.getElem?_eq_none h] at hg; cases hg
    exact .inr ⟨g, cap, cur, hv, hb, by rw [hk.block g hlt hb]; exact hg, rest⟩
theorem ST.Formed.kind {h : Sm} {pts : List (Int × Int)} {kids : List ST} (hf : ST.Formed (.node h pts kids)) : 0 ≤ h.kind ∧ h.kind ≤ 6 ∧ ∀ k ∈ kids, ST.Formed k := by
  cases hf with
  | leaf _ _ hk hp => exact ⟨by omega, by omega, by simp⟩
  | many _ _ hk hg hf => exact ⟨by omega, by omega, hf⟩
def ptP (p : Int × Int) : Pl := ⟨floatOfInt .f64 p.1, floatOfInt .f64 p.2, 0, 0⟩
theorem ptP_norm (p : Int × Int) : (ptP p).norm 0 := ⟨fun _ => rfl, fun _ => rfl⟩
mutual
def geomP : ST → Pg
  | .node h pts kids => .node h.kind.toNat 0 (pts.map ptP) (geomPs kids)
def geomPs : List ST → List Pg
  | [] => []
  | t :: r => geomP t :: geomPs r
end
theorem geomPs_eq (l : List ST) : geomPs l = l.map geomP := by
  induction l with
  | nil => simp [geomPs]
  | cons t l ih => simp [geomPs, ih]
def placeN (l : List (Int × Int)) : List Value := encN (numsOf 0 (l.map ptP))
theorem placeN_snoc (l : List (Int × Int)) (x y : Int) : placeN (l ++ [(x, y)]) = placeN l ++ [.float .f64 (floatOfInt .f64 x), .float .f64 (floatOfInt .f64 y)] := by
  unfold placeN
  rw [List.map_append, numsOf_append, encN_app2]
  rfl
theorem placeN_nil : placeN [] = [] := rfl
set_option maxRecDepth 100000 in
set_option maxHeartbeats 4000000 in
theorem geomOf_ (w0 : World) (t : ST) (h : ST.At w0 t) : ∀ (w : World), t.total ≤ 1000 → t.Formed → Stab.Keeps w0 w → Calls Tryz.prog 15 #[t.hd.val] w (RetR w no GmR (geomP t)) := by
  obtain ⟨i0, hi, hz0, hz1, hz2⟩ := info_parts infoFloat
  have HI := Lib.hid hi
  have HZ0 := Lib.hid hz0
  have HZ1 := Lib.hid hz1
  have HZ2 := Lib.hid hz2
  clear hi hz0 hz1 hz2
  obtain ⟨i1, hi, hz0, hz1, hz2⟩ := info_parts infoGm4
  have HJ := Lib.hid hi
  have HY0 := Lib.hid hz0
  have HY1 := Lib.hid hz1
  have HY2 := Lib.hid hz2
  clear hi hz0 hz1 hz2
  induction h with
  | mk hd pts kids hn hkn h1 h2 h3 ih =>
  intro w hb hF hK0
  have s1 := h1.keep hK0
  have s2 := h2.keep hK0
  clear h1 h2 h3
  obtain ⟨kind, pa, pn, pc, ka, kn, kc⟩ := hd
  simp only at hn hkn s1 s2
  obtain ⟨hk0, _, hF2⟩ := hF.kind
  have HF := Lib.hid hF2
  clear hF hF2
  simp only at hk0
  have hle1 := s1.le
  have hm1 := s1.max
  have hle2 := s2.le
  have hm2 := s2.max
  unfold maxLen at hm2 hm1
  simp only [ST.total] at hb
  have hnb : pn ≤ 1000 := by omega
  have hkb : kn ≤ 1000 := by have := stotals_len kids; omega
  simp only [ST.hd, Sm.val, geomP, geomPs_eq]
  have HB := Lib.hid hb
  have HN := Lib.hid hn
  have HKN := Lib.hid hkn
  clear hb hn hkn
  have hkA : Stab.Keeps w (((w.alloc (.cells #[.int .i64 kind, .slice pa pn pc, .slice ka kn kc] 25)).alloc (.cells #[.int .i64 0, .int .i64 0, .slice none 0 0, .slice none 0 0] 35)).alloc (.cells #[.int .i64 kind, .int .i64 0, .slice none 0 0, .slice none 0 0] 35)) := by with_reducible (repeat first | exact Kx.r _ | assumption | refine Kx.a ?_ _ | refine Kx.d ?_ | refine Kx.e ?_ _ | refine Kx.s (by simp <;> omega) ?_ _ | refine Kx.t ?_ (by assumption))
  have hB1 : Blk (((w.alloc (.cells #[.int .i64 kind, .slice pa pn pc, .slice ka kn kc] 25)).alloc (.cells #[.int .i64 0, .int .i64 0, .slice none 0 0, .slice none 0 0] 35)).alloc (.cells #[.int .i64 kind, .int .i64 0, .slice none 0 0, .slice none 0 0] 35)) w.heap.size 25 [.int .i64 kind, .slice pa pn pc, .slice ka kn kc] := by with_reducible (repeat first | assumption | (refine Bx.n ⟨?_, ?_⟩ <;> focus (first | rfl | (simp; done) | omega)) | refine Bx.a ?_ _ | refine Bx.d ?_ | refine Bx.e ?_ _ | refine Bx.p (by first | omega | simp <;> omega) ?_)
  have hB2 : Blk (((w.alloc (.cells #[.int .i64 kind, .slice pa pn pc, .slice ka kn kc] 25)).alloc (.cells #[.int .i64 0, .int .i64 0, .slice none 0 0, .slice none 0 0] 35)).alloc (.cells #[.int .i64 kind, .int .i64 0, .slice none 0 0, .slice none 0 0] 35)) (w.heap.size + 1) 35 [.int .i64 0, .int .i64 0, .slice none 0 0, .slice none 0 0] := by with_reducible (repeat first | assumption | (refine Bx.n ⟨?_, ?_⟩ <;> focus (first | rfl | (simp; done) | omega)) | refine Bx.a ?_ _ | refine Bx.d ?_ | refine Bx.e ?_ _ | refine Bx.p (by first | omega | simp <;> omega) ?_)
  have hB3 : Blk (((w.alloc (.cells #[.int .i64 kind, .slice pa pn pc, .slice ka kn kc] 25)).alloc (.cells #[.int .i64 0, .int .i64 0, .slice none 0 0, .slice none 0 0] 35)).alloc (.cells #[.int .i64 kind, .int .i64 0, .slice none 0 0, .slice none 0 0] 35)) (w.heap.size + 1 + 1) 35 [.int .i64 kind, .int .i64 0, .slice none 0 0, .slice none 0 0] := by with_reducible (repeat first | assumption | (refine Bx.n ⟨?_, ?_⟩ <;> focus (first | rfl | (simp; done) | omega)) | refine Bx.a ?_ _ | refine Bx.d ?_ | refine Bx.e ?_ _ | refine Bx.p (by first | omega | simp <;> omega) ?_)
  have hs0 : (((w.alloc (.cells #[.int .i64 kind, .slice pa pn pc, .slice ka kn kc] 25)).alloc (.cells #[.int .i64 0, .int .i64 0, .slice none 0 0, .slice none 0 0] 35)).alloc (.cells #[.int .i64 kind, .int .i64 0, .slice none 0 0, .slice none 0 0] 35)).heap.size = w.heap.size + 3 := by simp
  go_enter Tryz.func15, Tryz.ntmps15
  go_upto_region 2 with (fail)
  generalize hW : (((w.alloc (.cells #[.int .i64 kind, .slice pa pn pc, .slice ka kn kc] 25)).alloc (.cells #[.int .i64 0, .int .i64 0, .slice none 0 0, .slice none 0 0] 35)).alloc (.cells #[.int .i64 kind, .int .i64 0, .slice none 0 0, .slice none 0 0] 35)) = W at *
  clear hW
  obtain ⟨B, hBe⟩ : ∃ B, w.heap.size + 3 = B := ⟨_, rfl⟩
  obtain ⟨b2, hb2e⟩ : ∃ b2, w.heap.size + 1 = b2 := ⟨_, rfl⟩
  obtain ⟨b3, hb3e⟩ : ∃ b3, b2 + 1 = b3 := ⟨_, rfl⟩
  rw [hb2e] at hB2 hB3 ⊢
  rw [hb3e] at hB3 ⊢
  have hBs : B ≤ W.heap.size := by omega
  have hbb : b2 < b3 ∧ b3 < B ∧ w.heap.size < b2 := by omega
  have HBB := Lib.hid hbb
  have h3B : b3 < B := hbb.2.1
  have h2B : b2 < B := by omega
  have h1B : w.heap.size < B := by omega
  have h13 : w.heap.size < b3 := by omega
  have h12 : w.heap.size < b2 := by omega
  have hw2 : ¬ w.heap.size = b2 := by omega
  have hw3 : ¬ w.heap.size = b3 := by omega
  have h23 : ¬ b2 = b3 := by omega
  clear hBe hb2e hb3e hbb hs0
  have g0 := hB1.cell (i := 0) rfl
  have g1 := hB1.cell (i := 1) rfl
  have g2 := hB1.cell (i := 2) rfl
  have gf := hB1.free
  have gl := hB1.lt
  go_wp2_with fail
  clear g0 g1 g2 gf gl
  go_loopw [14] (fun iv wr => ∃ (k : Nat) (al : Option Addr) (c : Nat), k ≤ pn ∧ iv = .int .i64 k ∧ Stab.Keeps w wr ∧ B ≤ wr.heap.size ∧ Blk wr w.heap.size 25 [.int .i64 kind, .slice pa pn pc, .slice ka kn kc] ∧ Blk wr b2 35 [.int .i64 0, .int .i64 0, .slice none 0 0, .slice none 0 0] ∧ Blk wr b3 35 [.int .i64 kind, .int .i64 0, .slice al (k * 2) c, .slice none 0 0] ∧ wr.ownsRow B 27 1 (.slice al (k * 2) c) (k * 2) (placeN (pts.take k))) (fun iv _ => pn - (intOf iv).toNat)
  case atStart => exact ⟨0, none, 0, by omega, rfl, hkA, hBs, hB1, hB2, by simpa using hB3, by simpa [placeN_nil] using World.ownsRow_nil W B 27 1⟩
  case round =>
    clear hkA hB1 hB2 hB3 hBs
    obtain ⟨k, al, c, hk, rfl, hK, hBs, hB1, hB2, hB3, hown⟩ := hrel
    by_cases hlt : k < pn
    · obtain ⟨b, off, ha, hb, hc⟩ := (s1.keep hK).elem hlt
      subst ha
      have hki : k < pts.length := by have := HN.out; omega
      obtain ⟨c0, c1⟩ := pt_cells hki hc
      have htk : pts.take (k + 1) = pts.take k ++ [pts[k]] := List.take_succ_eq_append_getElem hki
      have HT := Lib.hid htk
      clear hc htk
      generalize pts[k] = x at *
      obtain ⟨px, py⟩ := x
      simp only at c0 c1
      generalize hXX : placeN (pts.take k) = xs at *
      have HXX := Lib.hid hXX
      clear hXX
      have hkB : Stab.Keeps wr ((wr.alloc (.cells #[.int .i64 px, .int .i64 py] 55)).alloc (.cells #[.float .f64 (floatOfInt .f64 px), .float .f64 (floatOfInt .f64 py)] 27)) := by with_reducible (repeat first | exact Kx.r _ | assumption | refine Kx.a ?_ _ | refine Kx.d ?_ | refine Kx.e ?_ _ | refine Kx.s (by simp <;> omega) ?_ _ | refine Kx.t ?_ (by assumption))
      have hown2 := owns_keep hown hkB
      have hB12 := hB1.keep hkB
      have hB22 := hB2.keep hkB
      have hB32 := hB3.keep hkB
      have hBn : Blk ((wr.alloc (.cells #[.int .i64 px, .int .i64 py] 55)).alloc (.cells #[.float .f64 (floatOfInt .f64 px), .float .f64 (floatOfInt .f64 py)] 27)) (wr.heap.size + 1) 27 [.float .f64 (floatOfInt .f64 px), .float .f64 (floatOfInt .f64 py)] := by with_reducible (repeat first | assumption | (refine Bx.n ⟨?_, ?_⟩ <;> focus (first | rfl | (simp; done) | omega)) | refine Bx.a ?_ _ | refine Bx.d ?_ | refine Bx.e ?_ _ | refine Bx.p (by first | omega | simp <;> omega) ?_)
      have hkw2 := Stab.Keeps.trans hK hkB
      have g0 := hB3.cell (i := 0) rfl
      have g1 := hB3.cell (i := 1) rfl
      have g2 := hB3.cell (i := 2) rfl
      have g3 := hB3.cell (i := 3) rfl
      have gf := hB3.free
      have gl := hB3.lt
      generalize hfx : floatOfInt .f64 px = fx at *
      generalize hfy : floatOfInt .f64 py = fy at *
      go_wp2_with (at_builtin; (refine append_own (w0 := (wr.alloc (.cells #[.int .i64 px, .int .i64 py] 55)).alloc (.cells #[.float .f64 fx, .float .f64 fy] 27)) rfl _ _ 32 rfl B 27 i0 _ 1 8 Tryz.underlying32 HI.out HZ0.out HZ1.out HZ2.out rfl (by decide) _ (k * 2) xs rfl hown2 ⟨wr.heap.size + 1, 0, none⟩ 2 2 [.float .f64 fx, .float .f64 fy] rfl rfl ?c1 ?c2 ?c3 ?c4 ?c5 (Below.refl _ _) ?_))
      case c1 => exact fun j u hj => by rw [add_none]; simpa using hBn.cell (i := j) hj
      case c2 => intro u hu; simp at hu; rcases hu with rfl | rfl <;> rfl
      case c3 => unfold maxLen; omega
      case c4 => omega
      case c5 => simp; omega
      intro al' c' w7 hown7 hB7 hsz7 hgr
      have hB17 := hB12.below hB7 (by omega)
      have hB27 := hB22.below hB7 (by omega)
      have hB37 := hB32.below hB7 (by omega)
      have hk7 : Stab.Keeps w w7 := Below.trans hkw2 (Below.mono hB7 (by omega))
      have hs7 : B ≤ w7.heap.size := by have := hkB.size; omega
      clear hgr hB7 hkw2 hkB hB12 hB22 hB32 hBn hown hown2 hB1 hB2 hB3 g0 g1 g2 g3 gf gl
      have y0 := hB37.cell (i := 0) rfl
      have y1 := hB37.cell (i := 1) rfl
      have y2 := hB37.cell (i := 2) rfl
      have y3 := hB37.cell (i := 3) rfl
      have yf := hB37.free
      have yl := hB37.lt
      have hB38 := hB37.set 2 (.slice al' (k * 2 + 2) c')
      simp only [List.set] at hB38
      have hB18 : Blk (w7.setCell ⟨b3, 2, none⟩ (.slice al' (k * 2 + 2) c')) w.heap.size 25 [.int .i64 kind, .slice (some ⟨b, off, none⟩) pn pc, .slice ka kn kc] := by with_reducible (repeat first | assumption | (refine Bx.n ⟨?_, ?_⟩ <;> focus (first | rfl | (simp; done) | omega)) | refine Bx.a ?_ _ | refine Bx.d ?_ | refine Bx.e ?_ _ | refine Bx.p (by first | omega | simp <;> omega) ?_)
      have hB28 : Blk (w7.setCell ⟨b3, 2, none⟩ (.slice al' (k * 2 + 2) c')) b2 35 [.int .i64 0, .int .i64 0, .slice none 0 0, .slice none 0 0] := by with_reducible (repeat first | assumption | (refine Bx.n ⟨?_, ?_⟩ <;> focus (first | rfl | (simp; done) | omega)) | refine Bx.a ?_ _ | refine Bx.d ?_ | refine Bx.e ?_ _ | refine Bx.p (by first | omega | simp <;> omega) ?_)
      have hk8 : Stab.Keeps w (w7.setCell ⟨b3, 2, none⟩ (.slice al' (k * 2 + 2) c')) := Stab.Keeps.setCell (by simp; omega) hk7 _
      have hown8 := owns_kf hown7 (w' := w7.setCell ⟨b3, 2, none⟩ (.slice al' (k * 2 + 2) c')) ((KF.refl _ _).set (fun h => by simp at h; omega))
      have hs8 : B ≤ (w7.setCell ⟨b3, 2, none⟩ (.slice al' (k * 2 + 2) c')).heap.size := by simpa using hs7
      clear hB17 hB27 hB37 hk7 hown7
      go_wp2_with fail
      refine ⟨⟨k + 1, al', c', by omega, by go_num, hk8, hs8, hB18, hB28, ?_, ?_⟩, by simp [intOf]; omega⟩
      · rw [show (k + 1) * 2 = k * 2 + 2 by omega]; exact hB38
      · rw [show (k + 1) * 2 = k * 2 + 2 by omega, HT.out, placeN_snoc, hfx, hfy, HXX.out]; exact hown8
    · have hkp : pn = k := by omega
      subst hkp
      clear hlt
      have hnp := HN.out
      rw [List.take_of_length_le (by omega)] at hown
      have hnum := SzF.of_owns (F := fun b => B ≤ b) hown (fun b hb => hb)
      have hnum2 := hnum.mono (G := fun b => B ≤ b ∧ b < wr.heap.size) (fun b hl hb => ⟨hb, hl⟩)
      clear hown hnum s1 HI HZ0 HZ1 HZ2
      obtain ⟨nl, hnl⟩ : ∃ nl, al = nl := ⟨_, rfl⟩
      obtain ⟨nn, hnn⟩ : ∃ nn, pn * 2 = nn := ⟨_, rfl⟩
      obtain ⟨nc, hnc⟩ : ∃ nc, c = nc := ⟨_, rfl⟩
      rw [hnl, hnn, hnc] at hB3 hnum2
      have HNN := Lib.hid hnn
      clear hnn hnp
      have g0 := hB1.cell (i := 0) rfl
      have g1 := hB1.cell (i := 1) rfl
      have g2 := hB1.cell (i := 2) rfl
      have gf := hB1.free
      have gl := hB1.lt
      go_wp2_with fail
      clear g0 g1 g2 gf gl
      obtain ⟨B2, hB2e⟩ : ∃ B2, wr.heap.size = B2 := ⟨_, rfl⟩
      rw [hB2e] at hnum2
      have hBB2 : B ≤ B2 := by omega
      have hG0 : GrowB B2 wr GmR 35 4 0 (.slice none 0 0) ((kids.take 0).map geomP) := by simpa using GrowB.nil B2 wr GmR 35 4 (by omega)
      have hs0 : B2 ≤ wr.heap.size := by omega
      clear hB2e hnl hnc hBs
      obtain ⟨wo, hwo⟩ : ∃ wo, wo = wr := ⟨_, rfl⟩
      rw [← hwo] at hK hB1 hB2 hB3 hnum2 hG0 hs0 ⊢
      clear hwo wr
      go_loopw [33] (fun iv wr => ∃ (k : Nat) (al : Option Addr) (c : Nat), k ≤ kn ∧ iv = .int .i64 k ∧ Stab.Keeps w wr ∧ Blk wr w.heap.size 25 [.int .i64 kind, .slice pa pn pc, .slice ka kn kc] ∧ Blk wr b2 35 [.int .i64 0, .int .i64 0, .slice none 0 0, .slice none 0 0] ∧ Blk wr b3 35 [.int .i64 kind, .int .i64 0, .slice nl nn nc, .slice al k c] ∧ SzF wr (fun b => B ≤ b ∧ b < B2) nl nn nc 1 (placeN pts) ∧ GrowB B2 wr GmR 35 4 k (.slice al k c) ((kids.take k).map geomP)) (fun iv _ => kn - (intOf iv).toNat)
      case atStart => exact ⟨0, none, 0, by omega, rfl, hK, hB1, hB2, hB3, hnum2, hG0⟩
      case round =>
        clear hK hB1 hB2 hB3 hnum2 hG0 hs0
        obtain ⟨k, al, c, hk, rfl, hkw, hB1, hB2, hB3, hnum, hG⟩ := hrel
        by_cases hlt : k < kn
        · obtain ⟨b, off, ha, hb, hc⟩ := (s2.keep hkw).elem hlt
          subst ha
          have hki : k < kids.length := by have := HKN.out; omega
          obtain ⟨c0, c1, c2⟩ := skid_cells (kn := kn) hki hc
          have htk : (kids.take (k + 1)).map geomP = (kids.take k).map geomP ++ [geomP kids[k]] := by rw [List.take_succ_eq_append_getElem hki, List.map_append]; rfl
          have hmem := List.getElem_mem hki
          have htot := stotals_mem hmem
          have hI := fun w' => ih kids[k] hmem w' (by have := HB.out; omega) (HF.out _ hmem)
          clear hc htot hmem
          generalize kids[k] = x at *
          obtain ⟨⟨xk, xpa, xpn, xpc, xka, xkn, xkc⟩, xpts, xkids⟩ := x
          simp only [ST.hd, Sm.val] at c0 c1 c2 hI
          generalize geomP (ST.node ⟨xk, xpa, xpn, xpc, xka, xkn, xkc⟩ xpts xkids) = kid at *
          generalize hyse : (kids.take k).map geomP = ys at *
          have HTK := Lib.hid htk
          clear htk hyse
          have hown : ∀ g, (Value.slice al k c).ownBlock = some g → B2 ≤ g ∧ g < wr.heap.size := fun g hg => hG.own hg
          have hgl : B2 ≤ wr.heap.size := hG.size
          have hk6 : Stab.Keeps wr (wr.alloc (.cells #[.int .i64 xk, .slice xpa xpn xpc, .slice xka xkn xkc] 25)) := by with_reducible (repeat first | exact Kx.r _ | assumption | refine Kx.a ?_ _ | refine Kx.d ?_ | refine Kx.e ?_ _ | refine Kx.s (by simp <;> omega) ?_ _ | refine Kx.t ?_ (by assumption))
          have hBx : Blk (wr.alloc (.cells #[.int .i64 xk, .slice xpa xpn xpc, .slice xka xkn xkc] 25)) wr.heap.size 25 [.int .i64 xk, .slice xpa xpn xpc, .slice xka xkn xkc] := by with_reducible (repeat first | assumption | (refine Bx.n ⟨?_, ?_⟩ <;> focus (first | rfl | (simp; done) | omega)) | refine Bx.a ?_ _ | refine Bx.d ?_ | refine Bx.e ?_ _ | refine Bx.p (by first | omega | simp <;> omega) ?_)
          replace hB1 := hB1.keep hk6
          replace hB2 := hB2.keep hk6
          replace hB3 := hB3.keep hk6
          replace hnum := hnum.kf (KF.keeps hk6)
          replace hG := hG.keep gmS hk6
          replace hkw := Stab.Keeps.trans hkw hk6
          have hs6 := hk6.size
          go_upto_region 10 with (fail)
          generalize hw6 : (wr.alloc (.cells #[.int .i64 xk, .slice xpa xpn xpc, .slice xka xkn xkc] 25)) = w6 at *
          have hown' : ∀ g, (Value.slice al k c).ownBlock = some g → B2 ≤ g ∧ g < w6.heap.size := fun g hg => ⟨(hown g hg).1, by have := (hown g hg).2; omega⟩
          have hgl' : B2 ≤ w6.heap.size := by omega
          clear hown hgl hw6 hk6 hb hs6 c0 c1 c2
          have t0 := hBx.cell (i := 0) rfl
          have t1 := hBx.cell (i := 1) rfl
          have t2 := hBx.cell (i := 2) rfl
          have tf := hBx.free
          have tl := hBx.lt
          have y0 := hB3.cell (i := 0) rfl
          have y1 := hB3.cell (i := 1) rfl
          have y2 := hB3.cell (i := 2) rfl
          have y3 := hB3.cell (i := 3) rfl
          have yf := hB3.free
          have yl := hB3.lt
          refine Stab.keep_tail 5 (GmF w6.heap.size 3 kid) (fun k => k == 3 || k == 4) (fun _ => false) (gmPre _ _ _) (by kernel_rfl) (by kernel_rfl) fun hcx => ?_
          simp only [List.take_succ_cons, List.take_zero, List.drop_succ_cons, List.drop_zero]
          iterate 3 ((with_reducible refine Stab.quiet ?_ ?_ ?_ ?_); rfl; rfl; rfl; intro K hK; go_big_quiet_op; refine hK _ ?_; clear hK K)
          refine Stab.made rfl rfl (fun w1 hk1 => ?_) (fun v hv K hK => ?_)
          · go_simp
            have hk1' : Stab.Keeps w6 w1 := hk1.1
            refine (hI _ (Stab.Keeps.trans hK0 (Stab.Keeps.trans hkw hk1'))).mono ?_
            rintro e w2 ⟨cs2, rfl, hk2, hx2⟩
            obtain ⟨zk, zd, zna, znn, znc, zka, zkn, zkc, rfl⟩ := hx2.four
            have hsz := hk1'.size
            exact ⟨_, rfl, hk2, fun _ => ⟨zk, zd, zna, znn, znc, zka, zkn, zkc, rfl, gmS.mono hx2 (fun b _ hb => hb.elim (fun h => h.elim) (fun h => by omega))⟩, fun e => by omega⟩
          obtain ⟨wv, _, _, hv⟩ := hv
          obtain ⟨zk, zd, zna, znn, znc, zka, zkn, zkc, rfl, _⟩ := hv.f5 rfl
          go_simp
          refine hK _ ?_
          clear hK hv
          refine Stab.made rfl rfl (fun w1 hk1 => ?_) (fun v hv K hK => ?_)
          · go_simp
            have hk1' : Stab.Keeps w6 w1 := hk1.1
            have hf := Stab.setF_new (hk1.2 3 (by rfl))
            obtain ⟨yk, yd, yna, ynn, ync, yka, ykn, ykc, he, hx5⟩ := hf.f5 rfl
            injection he with he
            injection he with he
            simp only [List.cons.injEq, Value.int.injEq, Value.slice.injEq, true_and, and_true] at he
            obtain ⟨e0, e1, ⟨e2, e3, e4⟩, e5, e6, e7⟩ := he
            have f0 : yk = zk := by omega
            have f1 : yd = zd := by omega
            subst f0 f1 e2 e3 e4 e5 e6 e7
            refine ⟨by with_reducible (repeat first | exact Kx.r _ | assumption | refine Kx.a ?_ _ | refine Kx.d ?_ | refine Kx.e ?_ _ | refine Kx.s (by simp <;> omega) ?_ _ | refine Kx.t ?_ (by assumption)), fun e => by omega, fun _ => ⟨w1.heap.size, yk, yd, zna, znn, znc, zka, zkn, zkc, rfl, hk1'.size, by with_reducible (repeat first | assumption | (refine Bx.n ⟨?_, ?_⟩ <;> focus (first | rfl | (simp; done) | omega)) | refine Bx.a ?_ _ | refine Bx.d ?_ | refine Bx.e ?_ _ | refine Bx.p (by first | omega | simp <;> omega) ?_), ?_⟩⟩
            exact gmS.mono (gmS.kf (gmS.mono (G := fun b => w6.heap.size ≤ b ∧ b < w1.heap.size) hx5 (fun b hbl hb => ⟨hb, hbl⟩)) ((KF.refl _ _).alloc _)) (fun b _ hb => ⟨hb.1, by simp; omega⟩)
          obtain ⟨wv, _, _, hv⟩ := hv
          obtain ⟨g, _, _, _, _, _, _, _, _, rfl, _⟩ := hv.f6 rfl
          go_simp
          refine hK _ ?_
          clear hK hv
          refine Stab.nil fun w5 hw5 hfs => ?_
          obtain ⟨g', yk, yd, yna, ynn, ync, yka, ykn, ykc, he, hge, hBg, hx5⟩ := (Stab.setF_new (hfs 4)).f6 rfl
          cases he
          have hG5 := hG.keep gmS hw5
          have hB15 := hB1.keep hw5
          have hB25 := hB2.keep hw5
          have hB35 := hB3.keep hw5
          have hnum5 := hnum.kf (KF.keeps hw5)
          have hkw5 := Stab.Keeps.trans hkw hw5
          have hone : ∀ u ∈ ([.int .i64 (yk : Nat), .int .i64 (yd : Nat), .slice yna ynn ync, .slice yka ykn ykc] : List Value), u.oneCell' = true := hx5.ones
          have hnc : ∀ (j : Nat) (u : Value), ([.int .i64 (yk : Nat), .int .i64 (yd : Nat), .slice yna ynn ync, .slice yka ykn ykc] : List Value)[j]? = some u → w5.cell? ((⟨g, 0, none⟩ : Addr).add j) = some u := fun j u hj => by rw [add_none]; simpa using hBg.cell (i := j) hj
          have hs5 := hw5.size
          have hx6 := gmS.mono (G := fun b => w6.heap.size ≤ b ∧ b < w5.heap.size) hx5 (fun b _ hb => hb)
          have HG5 := Lib.hid hG5
          have hB3l := hB35.lt
          clear hcx hfs hG hG5 hB1 hB2 hB3 hBx hnum hkw hw5 hx5 hI t0 t1 t2 tf tl y0 y1 y2 y3 yf yl
          refine append_growB (B := B2) gmS rfl _ _ 33 rfl 35 i1 _ 4 64 Tryz.underlying33 HJ.out HY0.out HY1.out HY2.out rfl (by decide) _ k ys rfl HG5.out ⟨g, 0, none⟩ 1 [.int .i64 (yk : Nat), .int .i64 (yd : Nat), .slice yna ynn ync, .slice yka ykn ykc] rfl rfl hnc hone ?c2 ?c3 _ _ hx6 ?c4 ?c5 ?_
          case c2 => unfold maxLen; omega
          case c3 => omega
          case c4 => exact fun b hb => ⟨by omega, hb.2⟩
          case c5 => exact fun q hq hb => by have := hown' q hq; omega
          intro al' c' w7 hG7 hB7 hgr
          have hB17 := hB15.below hB7 (by omega)
          have hB27 := hB25.below hB7 (by omega)
          have hB37 := hB35.below hB7 (by omega)
          have hnum7 := hnum5.kf (KF.below hB7 (fun b hb _ => hb.2))
          have hk7 : Stab.Keeps w w7 := Below.trans hkw5 (Below.mono hB7 (by omega))
          clear HG5 hown' hgr hB7 hkw5 hx6 hB15 hB25 hB35 hnum5 hnc hone hBg
          rw [← HTK.out] at hG7
          have y0 := hB37.cell (i := 0) rfl
          have y1 := hB37.cell (i := 1) rfl
          have y2 := hB37.cell (i := 2) rfl
          have y3 := hB37.cell (i := 3) rfl
          have yf := hB37.free
          have yl := hB37.lt
          have hB38 := hB37.set 3 (.slice al' (k + 1) c')
          simp only [List.set] at hB38
          have hB18 : Blk (w7.setCell ⟨b3, 3, none⟩ (.slice al' (k + 1) c')) w.heap.size 25 [.int .i64 kind, .slice pa pn pc, .slice (some ⟨b, off, none⟩) kn kc] := by with_reducible (repeat first | assumption | (refine Bx.n ⟨?_, ?_⟩ <;> focus (first | rfl | (simp; done) | omega)) | refine Bx.a ?_ _ | refine Bx.d ?_ | refine Bx.e ?_ _ | refine Bx.p (by first | omega | simp <;> omega) ?_)
          have hB28 : Blk (w7.setCell ⟨b3, 3, none⟩ (.slice al' (k + 1) c')) b2 35 [.int .i64 0, .int .i64 0, .slice none 0 0, .slice none 0 0] := by with_reducible (repeat first | assumption | (refine Bx.n ⟨?_, ?_⟩ <;> focus (first | rfl | (simp; done) | omega)) | refine Bx.a ?_ _ | refine Bx.d ?_ | refine Bx.e ?_ _ | refine Bx.p (by first | omega | simp <;> omega) ?_)
          have hk8 : Stab.Keeps w (w7.setCell ⟨b3, 3, none⟩ (.slice al' (k + 1) c')) := Stab.Keeps.setCell (by simp; omega) hk7 _
          have hG8 := hG7.kf gmS (w4 := (w7.setCell ⟨b3, 3, none⟩ (.slice al' (k + 1) c'))) ((KF.refl _ _).set (fun h => by simp at h; omega))
          have hnum8 := hnum7.kf (w' := (w7.setCell ⟨b3, 3, none⟩ (.slice al' (k + 1) c'))) ((KF.refl _ _).set (fun h => by simp at h; omega))
          clear hB17 hB27 hB37 hG7 hk7 hnum7
          go_wp2_with fail
          exact ⟨⟨k + 1, al', c', by omega, by simp, hk8, hB18, hB28, hB38, hnum8, hG8⟩, by simp [intOf]; omega⟩
        · have hkk : kn = k := by omega
          subst hkk
          clear hlt ih hB1
          rw [List.take_of_length_le (by rw [HKN.out]; exact Nat.le_refl _)] at hG
          obtain ⟨css', hRw⟩ := hG.toRows gmS
          obtain ⟨K, rfl⟩ : ∃ K : Nat, kind = (K : Int) := ⟨kind.toNat, by omega⟩
          have t0 := hB3.cell (i := 0) rfl
          have t1 := hB3.cell (i := 1) rfl
          have t2 := hB3.cell (i := 2) rfl
          have t3 := hB3.cell (i := 3) rfl
          have tf := hB3.free
          have tl := hB3.lt
          have g0 := hB2.cell (i := 0) rfl
          have g1 := hB2.cell (i := 1) rfl
          have g2 := hB2.cell (i := 2) rfl
          have g3 := hB2.cell (i := 3) rfl
          have gf := hB2.free
          have gl := hB2.lt
          have hBn := (((hB2.set 0 (.int .i64 K)).set 1 (.int .i64 0)).set 2 (.slice nl nn nc)).set 3 (.slice al kn c)
          simp only [List.set] at hBn
          have hkz : Stab.Keeps w ((((wr.setCell ⟨b2, 0, none⟩ (.int .i64 K)).setCell ⟨b2, 1, none⟩ (.int .i64 0)).setCell ⟨b2, 2, none⟩ (.slice nl nn nc)).setCell ⟨b2, 3, none⟩ (.slice al kn c)) := by with_reducible (repeat first | exact Kx.r _ | assumption | refine Kx.a ?_ _ | refine Kx.d ?_ | refine Kx.e ?_ _ | refine Kx.s (by simp <;> omega) ?_ _ | refine Kx.t ?_ (by assumption))
          have hkf : KF (fun b => B ≤ b) wr ((((wr.setCell ⟨b2, 0, none⟩ (.int .i64 K)).setCell ⟨b2, 1, none⟩ (.int .i64 0)).setCell ⟨b2, 2, none⟩ (.slice nl nn nc)).setCell ⟨b2, 3, none⟩ (.slice al kn c)) := ((((KF.refl _ _).set (fun h => by simp at h; omega)).set (fun h => by simp at h; omega)).set (fun h => by simp at h; omega)).set (fun h => by simp at h; omega)
          have hRz := (hRw.mono (G := fun b => B ≤ b) (fun b _ hb => by omega) (fun _ _ h => gmS.mono h (fun b _ hb => by omega))).kf hkf (fun _ _ h => gmS.kf h hkf)
          have hnz := (hnum.mono (G := fun b => B ≤ b) (fun b _ hb => hb.1)).kf hkf
          clear hRw hG hkf hnum hB2 hB3
          go_wp2_with fail
          refine bodyPost_ret (v := .agg #[.int .i64 K, .int .i64 0, .slice nl nn nc, .slice al kn c]) (by simp [results, Tryz.results15, go_sem, *]) rfl ⟨[.int .i64 K, .int .i64 ((0 : Nat) : Int), .slice nl nn nc, .slice al kn c], rfl, hkz, ?_⟩
          rw [Int.toNat_natCast]
          exact .mk K 0 _ _ nl al _ _ _ _ css' (by rw [← HNN.out, ← HN.out, numsOf_len, List.length_map]; rfl) (hnz.mono (fun b _ hb => .inr (by omega))) hRz.lc hRz.lx hRz.each (hRz.sz.mono (fun b _ hb => .inr (by omega))) (fun i h1 h2 => gmS.mono (hRz.is i h1 h2) (fun b _ hb => .inr (by omega)))
end Go.Proofs.YtinbkonmlgediaaGreat
set_option linter.unusedVariables false
set_option linter.unusedSimpArgs false
set_option linter.unusedVariables false
set_option linter.unusedSimpArgs false
set_option linter.unusedVariables false
set_option linter.unusedSimpArgs false
set_option linter.unusedVariables false
set_option linter.unusedSimpArgs false
namespace Go.Proofs.YtinbkonmlgediaaGreat
open Go.RowKit Go.Fl Go.Sl Go.Pg Go.Ch Go.Kf
theorem plainXY_ (x y : Nat) (w : World) : Calls Tryz.prog 14 #[.agg #[.float .f64 x, .float .f64 y]] w (One w (.agg #[.float .f64 x, .float .f64 y])) := by
  go_enter Tryz.func14, Tryz.ntmps14
  go_wp2_with fail
  refine bodyPost_ret (v := .agg #[.float .f64 x, .float .f64 y]) (by simp [results, Tryz.results14, go_sem, *]) rfl ⟨rfl, ?_⟩
  with_reducible (repeat first | exact Kx.r _ | assumption | refine Kx.a ?_ _ | refine Kx.d ?_ | refine Kx.e ?_ _ | refine Kx.s (by simp <;> omega) ?_ _ | refine Kx.t ?_ (by assumption))
end Go.Proofs.YtinbkonmlgediaaGreat
