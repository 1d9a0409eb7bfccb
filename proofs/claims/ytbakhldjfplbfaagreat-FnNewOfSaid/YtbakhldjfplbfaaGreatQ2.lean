/-
  The lists of sequences of polygons, lines, polygons of a multi. No condition.
-/
import Derived.Test.YtbakhldjfplbfaaGreatQ1
set_option linter.unusedVariables false
set_option linter.unusedSimpArgs false
namespace Go.Kf
open Go.RowKit Go.Sl Go.Ch
variable {α : Type} {R : World → (Nat → Prop) → List Value → α → Prop} {w wr w4 : World} {F : Nat → Prop} {fb n k kc : Nat} {css : List (List Value)} {ys : List α}
theorem Fill.put1 (S : Stable R) (h : Fill w wr F R fb n k 1 css ys) {u : Value} (hk : k < n) (hk2 : k < ys.length) (hx : R wr F [u] ys[k]) :
    Fill w (wr.setCell ⟨fb, k * 1, none⟩ u) F R fb n (k + 1) 1 (css ++ [[u]]) ys := by
  have hl : css.flatten.length = k * 1 := by rw [flatten_len css h.each, h.lc]
  have hge := h.ge
  have hf := h.filled
  rw [← hl] at hf
  have hf1 := Go.Kf.Filled.ext hf [u]
  rw [hl] at hf1
  have g0 : (css.flatten ++ [u])[k * 1]? = some u := by rw [List.getElem?_append_right (by omega), hl]; simp
  have hf2 := hf1.set h.room (by omega) g0
  have hK : ∀ {c x}, R wr F c x → R (wr.setCell ⟨fb, k * 1, none⟩ u) F c x := fun hr => S.kf hr ((KF.refl _ _).set h.nin)
  refine ⟨h.keeps.setCell hge u, h.room.set _ _ _, ?_, by simp [h.lc], fun c hc => ?_, fun i h1 h2 => ?_, by simp; exact h.lt, hge, h.nin⟩
  · rw [List.flatten_append, Nat.add_mul]
    simpa using hf2
  · rcases List.mem_append.1 hc with hc | hc
    · exact h.each c hc
    · simp at hc; rw [hc]; rfl
  · rcases Nat.lt_or_ge i css.length with hi | hi
    · rw [List.getElem_append_left hi]
      exact hK (h.is i hi h2)
    · have h3 := h.lc
      have : i = k := by simp at h1; omega
      subst this
      have e1 : (css ++ [[u]])[i] = [u] := by rw [List.getElem_append_right hi]; simp
      rw [e1]
      exact hK hx
/-- a slice of things as a thing: its one cell -/
def LiR (R : World → (Nat → Prop) → List Value → α → Prop) (kc : Nat) (w : World) (F : Nat → Prop) (cs : List Value) (l : List α) : Prop := ∃ a n cap css, cs = [.slice a n cap] ∧ n ≤ 250000 ∧ Rows w F R a n cap kc css l
theorem liS (S : Stable R) (kc : Nat) : Stable (LiR R kc) := ⟨fun ⟨a, n, cap, css, h1, h2, h3⟩ hk => ⟨a, n, cap, css, h1, h2, h3.kf hk fun _ _ h => S.kf h hk⟩, fun ⟨a, n, cap, css, h1, h2, h3⟩ hG => ⟨a, n, cap, css, h1, h2, h3.mono hG fun _ _ h => S.mono h hG⟩⟩
theorem LiR.one {cs : List Value} {l : List α} (h : LiR R kc w F cs l) : ∃ (a : Option Addr) (n cap : Nat), cs = [.slice a n cap] := by obtain ⟨a, n, cap, _, rfl, _⟩ := h; exact ⟨a, n, cap, rfl⟩
end Go.Kf
namespace Go.Proofs.YtbakhldjfplbfaaGreat
open Go.RowKit Go.Fl Go.Sl Go.Pg Go.Ch Go.Kf
theorem infoSeq : (Tryz.prog.info? 97).map (fun i => (i.zero, i.size, i.bytes)) = some (some (.agg #[.int .u8 0, .slice none 0 0]), 2, 32) := by kernel_rfl
theorem infoSeqs : (Tryz.prog.info? 118).map (fun i => (i.zero, i.size, i.bytes)) = some (some (.slice none 0 0), 1, 24) := by kernel_rfl
set_option maxRecDepth 100000 in
theorem numMl_ (a : Option Addr) (n cap d : Nat) (w : World) : Calls Tryz.prog 149 #[.agg #[.slice a n cap, .int .u8 d]] w (One w (.int .i64 n)) := by
  go_enter Tryz.func149, Tryz.ntmps149
  go_wp2
  go_ret
  exact ⟨rfl, by with_reducible (repeat (first | exact Kx.r _ | assumption | refine Kx.a ?_ _ | refine Kx.d ?_ | refine Kx.e ?_ _ | (refine Kx.s ?_ ?_ _; focus (first | (simp; done) | (simp; omega))) | refine Kx.t ?_ (by assumption)))⟩
set_option maxRecDepth 100000 in
theorem numMy_ (a : Option Addr) (n cap d : Nat) (w : World) : Calls Tryz.prog 151 #[.agg #[.slice a n cap, .int .u8 d]] w (One w (.int .i64 n)) := by
  go_enter Tryz.func151, Tryz.ntmps151
  go_wp2
  go_ret
  exact ⟨rfl, by with_reducible (repeat (first | exact Kx.r _ | assumption | refine Kx.a ?_ _ | refine Kx.d ?_ | refine Kx.e ?_ _ | (refine Kx.s ?_ ?_ _; focus (first | (simp; done) | (simp; omega))) | refine Kx.t ?_ (by assumption)))⟩
set_option maxRecDepth 100000 in
theorem lineN_ (b off n cap d i : Nat) (aq : Option Addr) (nq cq dq : Nat) (w : World) (hi : i < n) (hc : n ≤ cap) (hm : cap ≤ 9223372036854775807) (hb : b < w.heap.size) (h0 : w.cell? ⟨b, off + i * 2, none⟩ = some (.int .u8 dq)) (h1 : w.cell? ⟨b, off + i * 2 + 1, none⟩ = some (.slice aq nq cq)) : Calls Tryz.prog 150 #[.agg #[.slice (some ⟨b, off, none⟩) n cap, .int .u8 d], .int .i64 i] w (One w (.agg #[.int .u8 dq, .slice aq nq cq])) := by
  go_enter Tryz.func150, Tryz.ntmps150
  go_wp2
  refine bodyPost_ret (v := .agg #[.int .u8 dq, .slice aq nq cq]) (by simp [results, Tryz.results150, go_sem, *]) rfl ⟨rfl, ?_⟩
  with_reducible (repeat (first | exact Kx.r _ | assumption | refine Kx.a ?_ _ | refine Kx.d ?_ | refine Kx.e ?_ _ | (refine Kx.s ?_ ?_ _; focus (first | (simp; done) | (simp; omega))) | refine Kx.t ?_ (by assumption)))
set_option maxRecDepth 100000 in
theorem polygonN_ (b off n cap d i : Nat) (aq : Option Addr) (nq cq dq : Nat) (w : World) (hi : i < n) (hc : n ≤ cap) (hm : cap ≤ 9223372036854775807) (hb : b < w.heap.size) (h0 : w.cell? ⟨b, off + i * 2, none⟩ = some (.slice aq nq cq)) (h1 : w.cell? ⟨b, off + i * 2 + 1, none⟩ = some (.int .u8 dq)) : Calls Tryz.prog 152 #[.agg #[.slice (some ⟨b, off, none⟩) n cap, .int .u8 d], .int .i64 i] w (One w (.agg #[.slice aq nq cq, .int .u8 dq])) := by
  go_enter Tryz.func152, Tryz.ntmps152
  go_wp2
  refine bodyPost_ret (v := .agg #[.slice aq nq cq, .int .u8 dq]) (by simp [results, Tryz.results152, go_sem, *]) rfl ⟨rfl, ?_⟩
  with_reducible (repeat (first | exact Kx.r _ | assumption | refine Kx.a ?_ _ | refine Kx.d ?_ | refine Kx.e ?_ _ | (refine Kx.s ?_ ?_ _; focus (first | (simp; done) | (simp; omega))) | refine Kx.t ?_ (by assumption)))
set_option maxRecDepth 100000 in
set_option maxHeartbeats 2000000 in
theorem pyCoords_ {F : Nat → Prop} (cs : List Value) (p : Pg) (w : World) (h : PyR w F cs p) : Calls Tryz.prog 71 #[.agg cs.toArray] w (RetS w F (LsR) 2 p.kids.length (p.kids)) := by
  obtain ⟨d, a, n, cap, css, kids, rfl, rfl, hd, hn, hR, hdim⟩ := h
  have hmk := fun w => run_makeN (P := Tryz.prog) 118 97 _ 2 32 n Tryz.underlying118 infoSeq (by omega) (by omega) w
  have hle := hR.sz.sz.le
  have hmx := hR.sz.sz.max
  unfold maxLen at hmx
  have hlk := hR.lx
  have hR0 := hR.mono (G := Go.Kf.old F w.heap.size) (fun b h1 h2 => ⟨h2, h1⟩) (fun c x hx => lsS.mono hx fun b h1 h2 => ⟨h2, h1⟩)
  show Calls _ _ _ _ (RetS w F (LsR) 2 kids.length (kids))
  have HLK := Lib.hid hlk
  rw [hlk]
  clear hR hlk hdim hd
  go_enter Tryz.func71, Tryz.ntmps71
  go_wp2_with fail
  have hkw : Stab.Keeps w (w.alloc (.cells #[.slice a n cap, .int .u8 d] 121)) := by with_reducible (repeat (first | exact Kx.r _ | assumption | refine Kx.a ?_ _ | refine Kx.d ?_ | refine Kx.e ?_ _ | (refine Kx.s ?_ ?_ _; focus (first | (simp; done) | (simp; omega))) | refine Kx.t ?_ (by assumption)))
  have hB0 : Blk (w.alloc (.cells #[.slice a n cap, .int .u8 d] 121)) w.heap.size 121 [.slice a n cap, .int .u8 d] := by with_reducible (repeat (first | assumption | ((refine Bx.n ⟨?_, ?_⟩) <;> focus (first | rfl | (simp; done) | omega)) | refine Bx.a ?_ _ | refine Bx.d ?_ | refine Bx.e ?_ _ | (refine Bx.p ?_ ?_; focus (first | (simp; done) | (simp; omega) | omega))))
  have hszA : (w.alloc (.cells #[.slice a n cap, .int .u8 d] 121)).heap.size = w.heap.size + 1 := by simp
  generalize (w.alloc (.cells #[.slice a n cap, .int .u8 d] 121)) = WA at *
  rw [← hszA]
  clear hszA
  have hFl := Fill.start w WA (orNew (Go.Kf.old F w.heap.size) (WA.heap.size + 1)) (LsR) n 2 (madeCells (#[.int .u8 0, .slice none 0 0]) (n * 2)) 97 (kids) hkw (size_madeCells _ _) (by simp [orNew, Go.Kf.old]; have := hkw.size; omega)
  have hB0' := hB0.alloc (.cells (madeCells (#[.int .u8 0, .slice none 0 0]) (n * 2)) 97)
  have hfb : w.heap.size < WA.heap.size := hB0.lt
  generalize WA.alloc (.cells (madeCells (#[.int .u8 0, .slice none 0 0]) (n * 2)) 97) = W at hFl hB0' ⊢
  generalize WA.heap.size = fb at *
  clear hB0 hkw hmk
  have m0 := hB0'.cell (i := 0) rfl
  have m1 := hB0'.cell (i := 1) rfl
  have ml := hB0'.lt
  go_wp2_with fail
  clear m0 m1 ml
  go_loopw [13] (fun iv wr => ∃ (k : Nat) (cs' : List (List Value)), k ≤ n ∧ iv = .int .i64 k ∧ Blk wr w.heap.size 121 [.slice a n cap, .int .u8 d] ∧ Fill w wr (orNew (Go.Kf.old F w.heap.size) (fb + 1)) (LsR) fb n k 2 cs' (kids)) (fun iv _ => n - (intOf iv).toNat)
  case atStart => exact ⟨0, [], by omega, rfl, hB0', hFl⟩
  case round =>
    clear hFl hB0'
    obtain ⟨k, cs', k2, rfl, hB0, hFl⟩ := hrel
    by_cases hlt : k < n
    · obtain ⟨b, off, c, ha, hb, _, _, hc2, hcc, hx⟩ := (hR0.kf (KF.keeps hFl.keeps) (fun c x hx => lsS.kf hx (KF.keeps hFl.keeps))).elem hlt
      obtain ⟨dq, aq, nq, cq, rfl⟩ := hx.two
      subst ha
      have e0 : wr.cell? ⟨b, off + k * 2, none⟩ = some (.int .u8 dq) := by have := hcc 0 _ rfl; simpa using this
      have e1 : wr.cell? ⟨b, off + k * 2 + 1, none⟩ = some (.slice aq nq cq) := hcc 1 _ rfl
      have hkk : k < kids.length := by have := HLK.out; omega
      generalize hke : kids[k]'hkk = kid at *
      have HKE := Lib.hid hke
      have hxk : (kids)[k]'(by first | omega | (simp; omega)) = kid := by first | exact HKE.out | (rw [List.getElem_map, HKE.out])
      have HXK := Lib.hid hxk
      have hkm : k < (kids).length := by first | omega | (simp; omega)
      clear hcc hxk hke
      have m0 := hB0.cell (i := 0) rfl
      have m1 := hB0.cell (i := 1) rfl
      have mf := hB0.free
      have ml := hB0.lt
      go_wp2_with fail
      refine (lineCoords_ dq aq nq cq _).mono ?_
      rintro e w4 ⟨rfl, hk4⟩
      have hk5 : Stab.Keeps wr w4 := Stab.Keeps.trans (Stab.Keeps.alloc (Stab.Keeps.refl _) _) hk4
      have hFl4 := hFl.keep lsS hk5
      replace hB0 := hB0.keep hk5
      have hx5 := lsS.mono (G := orNew (Go.Kf.old F w.heap.size) (fb + 1)) (lsS.kf hx (KF.keeps hk5)) (fun b _ hb => .inl hb)
      clear hx hk4
      have hFl5 := hFl4.put2 lsS hlt hkm (by first | exact hx5 | (rw [HXK.out]; exact hx5))
      obtain ⟨x0, r0⟩ := hFl4.room.cell (k * 2) (by omega)
      obtain ⟨x1, r1⟩ := hFl4.room.cell (k * 2 + 1) (by omega)
      have rf := hFl4.room.free
      have hl4 := hFl4.lt
      clear hFl hFl4 e0 e1 m0 m1 mf ml
      go_wp2_with fail
      exact ⟨⟨k + 1, _, by omega, by go_num, by with_reducible (repeat (first | assumption | ((refine Bx.n ⟨?_, ?_⟩) <;> focus (first | rfl | (simp; done) | omega)) | refine Bx.a ?_ _ | refine Bx.d ?_ | refine Bx.e ?_ _ | (refine Bx.p ?_ ?_; focus (first | (simp; done) | (simp; omega) | omega)))), hFl5⟩, by simp [intOf]; omega⟩
    · obtain rfl : n = k := by omega
      go_wp2_with fail
      go_ret
      refine ⟨some ⟨fb, 0, none⟩, n, cs', rfl, hFl.keeps, hFl.rows lsS (by first | exact HLK.out | (simp; exact HLK.out)) (by unfold maxLen; omega) (fun b _ hb => on_mono (by omega) hb) (.inr (by omega))⟩
set_option maxRecDepth 100000 in
set_option maxHeartbeats 2000000 in
theorem mlCoords_ {F : Nat → Prop} (cs : List Value) (p : Pg) (w : World) (h : MlR w F cs p) : Calls Tryz.prog 75 #[.agg cs.toArray] w (RetS w F (LsR) 2 p.kids.length (p.kids)) := by
  obtain ⟨d, a, n, cap, css, kids, rfl, rfl, hd, hn, hR, hdim⟩ := h
  have hmk := fun w => run_makeN (P := Tryz.prog) 118 97 _ 2 32 n Tryz.underlying118 infoSeq (by omega) (by omega) w
  have hle := hR.sz.sz.le
  have hmx := hR.sz.sz.max
  unfold maxLen at hmx
  have hlk := hR.lx
  have hR0 := hR.mono (G := Go.Kf.old F w.heap.size) (fun b h1 h2 => ⟨h2, h1⟩) (fun c x hx => lsS.mono hx fun b h1 h2 => ⟨h2, h1⟩)
  show Calls _ _ _ _ (RetS w F (LsR) 2 kids.length (kids))
  have HLK := Lib.hid hlk
  rw [hlk]
  clear hR hlk hdim hd
  go_enter Tryz.func75, Tryz.ntmps75
  go_wp2_with fail
  have hkwA : Stab.Keeps w (w.alloc (.cells #[.slice a n cap, .int .u8 d] 129)) := by with_reducible (repeat (first | exact Kx.r _ | assumption | refine Kx.a ?_ _ | refine Kx.d ?_ | refine Kx.e ?_ _ | (refine Kx.s ?_ ?_ _; focus (first | (simp; done) | (simp; omega))) | refine Kx.t ?_ (by assumption)))
  have hB0A : Blk (w.alloc (.cells #[.slice a n cap, .int .u8 d] 129)) w.heap.size 129 [.slice a n cap, .int .u8 d] := by with_reducible (repeat (first | assumption | ((refine Bx.n ⟨?_, ?_⟩) <;> focus (first | rfl | (simp; done) | omega)) | refine Bx.a ?_ _ | refine Bx.d ?_ | refine Bx.e ?_ _ | (refine Bx.p ?_ ?_; focus (first | (simp; done) | (simp; omega) | omega))))
  refine (numMl_ a n cap d _).mono ?_
  rintro e WA ⟨rfl, hkA⟩
  have hkw := Stab.Keeps.trans hkwA hkA
  have hB0 := hB0A.keep hkA
  clear hkwA hB0A hkA
  go_wp2_with fail
  have hFl := Fill.start w WA (orNew (Go.Kf.old F w.heap.size) (WA.heap.size + 1)) (LsR) n 2 (madeCells (#[.int .u8 0, .slice none 0 0]) (n * 2)) 97 (kids) hkw (size_madeCells _ _) (by simp [orNew, Go.Kf.old]; have := hkw.size; omega)
  have hB0' := hB0.alloc (.cells (madeCells (#[.int .u8 0, .slice none 0 0]) (n * 2)) 97)
  have hfb : w.heap.size < WA.heap.size := hB0.lt
  generalize WA.alloc (.cells (madeCells (#[.int .u8 0, .slice none 0 0]) (n * 2)) 97) = W at hFl hB0' ⊢
  generalize WA.heap.size = fb at *
  clear hB0 hkw hmk
  have m0 := hB0'.cell (i := 0) rfl
  have m1 := hB0'.cell (i := 1) rfl
  have ml := hB0'.lt
  go_wp2_with fail
  clear m0 m1 ml
  go_loopw [5] (fun iv wr => ∃ (k : Nat) (cs' : List (List Value)), k ≤ n ∧ iv = .int .i64 k ∧ Blk wr w.heap.size 129 [.slice a n cap, .int .u8 d] ∧ Fill w wr (orNew (Go.Kf.old F w.heap.size) (fb + 1)) (LsR) fb n k 2 cs' (kids)) (fun iv _ => n - (intOf iv).toNat)
  case atStart => exact ⟨0, [], by omega, rfl, hB0', hFl⟩
  case round =>
    clear hFl hB0'
    obtain ⟨k, cs', k2, rfl, hB0, hFl⟩ := hrel
    by_cases hlt : k < n
    · obtain ⟨b, off, c, ha, hb, _, _, hc2, hcc, hx⟩ := (hR0.kf (KF.keeps hFl.keeps) (fun c x hx => lsS.kf hx (KF.keeps hFl.keeps))).elem hlt
      obtain ⟨dq, aq, nq, cq, rfl⟩ := hx.two
      subst ha
      have e0 : wr.cell? ⟨b, off + k * 2, none⟩ = some (.int .u8 dq) := by have := hcc 0 _ rfl; simpa using this
      have e1 : wr.cell? ⟨b, off + k * 2 + 1, none⟩ = some (.slice aq nq cq) := hcc 1 _ rfl
      have hkk : k < kids.length := by have := HLK.out; omega
      generalize hke : kids[k]'hkk = kid at *
      have HKE := Lib.hid hke
      have hxk : (kids)[k]'(by first | omega | (simp; omega)) = kid := by first | exact HKE.out | (rw [List.getElem_map, HKE.out])
      have HXK := Lib.hid hxk
      have hkm : k < (kids).length := by first | omega | (simp; omega)
      clear hcc hxk hke
      have m0 := hB0.cell (i := 0) rfl
      have m1 := hB0.cell (i := 1) rfl
      have mf := hB0.free
      have ml := hB0.lt
      go_wp2_with fail
      refine (lineN_ b off n cap d k aq nq cq dq _ hlt hle (by omega) (by omega) e0 e1).mono ?_
      rintro e w3 ⟨rfl, hk3⟩
      go_wp2_with fail
      refine (lineCoords_ dq aq nq cq _).mono ?_
      rintro e w4 ⟨rfl, hk4⟩
      have hk5 : Stab.Keeps wr w4 := Stab.Keeps.trans hk3 hk4
      have hFl4 := hFl.keep lsS hk5
      replace hB0 := hB0.keep hk5
      have hx5 := lsS.mono (G := orNew (Go.Kf.old F w.heap.size) (fb + 1)) (lsS.kf hx (KF.keeps hk5)) (fun b _ hb => .inl hb)
      clear hx hk4 hk3
      have hFl5 := hFl4.put2 lsS hlt hkm (by first | exact hx5 | (rw [HXK.out]; exact hx5))
      obtain ⟨x0, r0⟩ := hFl4.room.cell (k * 2) (by omega)
      obtain ⟨x1, r1⟩ := hFl4.room.cell (k * 2 + 1) (by omega)
      have rf := hFl4.room.free
      have hl4 := hFl4.lt
      clear hFl hFl4 e0 e1 m0 m1 mf ml
      go_wp2_with fail
      exact ⟨⟨k + 1, _, by omega, by go_num, by with_reducible (repeat (first | assumption | ((refine Bx.n ⟨?_, ?_⟩) <;> focus (first | rfl | (simp; done) | omega)) | refine Bx.a ?_ _ | refine Bx.d ?_ | refine Bx.e ?_ _ | (refine Bx.p ?_ ?_; focus (first | (simp; done) | (simp; omega) | omega)))), hFl5⟩, by simp [intOf]; omega⟩
    · obtain rfl : n = k := by omega
      go_wp2_with fail
      go_ret
      refine ⟨some ⟨fb, 0, none⟩, n, cs', rfl, hFl.keeps, hFl.rows lsS (by first | exact HLK.out | (simp; exact HLK.out)) (by unfold maxLen; omega) (fun b _ hb => on_mono (by omega) hb) (.inr (by omega))⟩
set_option maxRecDepth 100000 in
set_option maxHeartbeats 2000000 in
theorem myCoords_ {F : Nat → Prop} (cs : List Value) (p : Pg) (w : World) (h : MyR w F cs p) : Calls Tryz.prog 77 #[.agg cs.toArray] w (RetS w F (LiR LsR 2) 1 p.kids.length (p.kids.map Pg.kids)) := by
  obtain ⟨d, a, n, cap, css, kids, rfl, rfl, hd, hn, hR, hdim⟩ := h
  have hmk := fun w => run_makeN (P := Tryz.prog) 131 118 _ 1 24 n Tryz.underlying131 infoSeqs (by omega) (by omega) w
  have hle := hR.sz.sz.le
  have hmx := hR.sz.sz.max
  unfold maxLen at hmx
  have hlk := hR.lx
  have hR0 := hR.mono (G := Go.Kf.old F w.heap.size) (fun b h1 h2 => ⟨h2, h1⟩) (fun c x hx => pyS.mono hx fun b h1 h2 => ⟨h2, h1⟩)
  show Calls _ _ _ _ (RetS w F (LiR LsR 2) 1 kids.length (kids.map Pg.kids))
  have HLK := Lib.hid hlk
  rw [hlk]
  clear hR hlk hdim hd
  go_enter Tryz.func77, Tryz.ntmps77
  go_wp2_with fail
  have hkwA : Stab.Keeps w (w.alloc (.cells #[.slice a n cap, .int .u8 d] 134)) := by with_reducible (repeat (first | exact Kx.r _ | assumption | refine Kx.a ?_ _ | refine Kx.d ?_ | refine Kx.e ?_ _ | (refine Kx.s ?_ ?_ _; focus (first | (simp; done) | (simp; omega))) | refine Kx.t ?_ (by assumption)))
  have hB0A : Blk (w.alloc (.cells #[.slice a n cap, .int .u8 d] 134)) w.heap.size 134 [.slice a n cap, .int .u8 d] := by with_reducible (repeat (first | assumption | ((refine Bx.n ⟨?_, ?_⟩) <;> focus (first | rfl | (simp; done) | omega)) | refine Bx.a ?_ _ | refine Bx.d ?_ | refine Bx.e ?_ _ | (refine Bx.p ?_ ?_; focus (first | (simp; done) | (simp; omega) | omega))))
  refine (numMy_ a n cap d _).mono ?_
  rintro e WA ⟨rfl, hkA⟩
  have hkw := Stab.Keeps.trans hkwA hkA
  have hB0 := hB0A.keep hkA
  clear hkwA hB0A hkA
  go_wp2_with fail
  have hFl := Fill.start w WA (orNew (Go.Kf.old F w.heap.size) (WA.heap.size + 1)) (LiR LsR 2) n 1 (madeCells (#[.slice none 0 0]) (n)) 118 (kids.map Pg.kids) hkw (by simp [size_madeCells]) (by simp [orNew, Go.Kf.old]; have := hkw.size; omega)
  have hB0' := hB0.alloc (.cells (madeCells (#[.slice none 0 0]) (n)) 118)
  have hfb : w.heap.size < WA.heap.size := hB0.lt
  generalize WA.alloc (.cells (madeCells (#[.slice none 0 0]) (n)) 118) = W at hFl hB0' ⊢
  generalize WA.heap.size = fb at *
  clear hB0 hkw hmk
  have m0 := hB0'.cell (i := 0) rfl
  have m1 := hB0'.cell (i := 1) rfl
  have ml := hB0'.lt
  go_wp2_with fail
  clear m0 m1 ml
  go_loopw [5] (fun iv wr => ∃ (k : Nat) (cs' : List (List Value)), k ≤ n ∧ iv = .int .i64 k ∧ Blk wr w.heap.size 134 [.slice a n cap, .int .u8 d] ∧ Fill w wr (orNew (Go.Kf.old F w.heap.size) (fb + 1)) (LiR LsR 2) fb n k 1 cs' (kids.map Pg.kids)) (fun iv _ => n - (intOf iv).toNat)
  case atStart => exact ⟨0, [], by omega, rfl, hB0', hFl⟩
  case round =>
    clear hFl hB0'
    obtain ⟨k, cs', k2, rfl, hB0, hFl⟩ := hrel
    by_cases hlt : k < n
    · obtain ⟨b, off, c, ha, hb, _, _, hc2, hcc, hx⟩ := (hR0.kf (KF.keeps hFl.keeps) (fun c x hx => pyS.kf hx (KF.keeps hFl.keeps))).elem hlt
      obtain ⟨aq, nq, cq, dq, rfl⟩ := hx.two
      subst ha
      have e0 : wr.cell? ⟨b, off + k * 2, none⟩ = some (.slice aq nq cq) := by have := hcc 0 _ rfl; simpa using this
      have e1 : wr.cell? ⟨b, off + k * 2 + 1, none⟩ = some (.int .u8 dq) := hcc 1 _ rfl
      have hkk : k < kids.length := by have := HLK.out; omega
      generalize hke : kids[k]'hkk = kid at *
      have HKE := Lib.hid hke
      have hxk : (kids.map Pg.kids)[k]'(by first | omega | (simp; omega)) = kid.kids := by first | exact HKE.out | (rw [List.getElem_map, HKE.out])
      have HXK := Lib.hid hxk
      have hkm : k < (kids.map Pg.kids).length := by first | omega | (simp; omega)
      clear hcc hxk hke
      have m0 := hB0.cell (i := 0) rfl
      have m1 := hB0.cell (i := 1) rfl
      have mf := hB0.free
      have ml := hB0.lt
      go_wp2_with fail
      refine (polygonN_ b off n cap d k aq nq cq dq _ hlt hle (by omega) (by omega) e0 e1).mono ?_
      rintro e w3 ⟨rfl, hk3⟩
      go_wp2_with fail
      have hx3 := pyS.kf hx (KF.keeps hk3)
      have hkl : kid.kids.length ≤ 250000 := by obtain ⟨_, _, _, _, _, _, _, rfl, _, h4, h5, _⟩ := hx3; have := h5.lx; simp only [Pg.kids]; omega
      refine (pyCoords_ _ _ w3 hx3).mono ?_
      rintro e w4 ⟨ap, cp, cssp, rfl, hk4, hRp⟩
      have hk5 : Stab.Keeps wr w4 := Stab.Keeps.trans hk3 hk4
      have hs3 := hk3.size
      have hlw : fb < wr.heap.size := hFl.lt
      have hFl4 := hFl.keep (liS lsS 2) hk5
      replace hB0 := hB0.keep hk5
      have hx5 : LiR LsR 2 w4 (orNew (Go.Kf.old F w.heap.size) (fb + 1)) [.slice ap kid.kids.length cp] kid.kids := ⟨ap, _, cp, cssp, rfl, hkl, hRp.mono (fun b _ hb => hb.elim (fun h => .inl h) (fun h => .inr (by omega))) (fun c x hx => lsS.mono hx (fun b _ hb => hb.elim (fun h => .inl h) (fun h => .inr (by omega))))⟩
      clear hx hx3 hk4 hk3 hRp hs3 hlw
      have hFl5 := hFl4.put1 (liS lsS 2) hlt hkm (by first | exact hx5 | (rw [HXK.out]; exact hx5))
      obtain ⟨x0, r0⟩ := hFl4.room.cell k (by omega)
      simp only [Nat.mul_one] at hFl5
      have rf := hFl4.room.free
      have hl4 := hFl4.lt
      clear hFl hFl4 e0 e1 m0 m1 mf ml
      go_wp2_with fail
      exact ⟨⟨k + 1, _, by omega, by go_num, by with_reducible (repeat (first | assumption | ((refine Bx.n ⟨?_, ?_⟩) <;> focus (first | rfl | (simp; done) | omega)) | refine Bx.a ?_ _ | refine Bx.d ?_ | refine Bx.e ?_ _ | (refine Bx.p ?_ ?_; focus (first | (simp; done) | (simp; omega) | omega)))), hFl5⟩, by simp [intOf]; omega⟩
    · obtain rfl : n = k := by omega
      go_wp2_with fail
      go_ret
      refine ⟨some ⟨fb, 0, none⟩, n, cs', rfl, hFl.keeps, hFl.rows (liS lsS 2) (by first | exact HLK.out | (simp; exact HLK.out)) (by unfold maxLen; omega) (fun b _ hb => on_mono (by omega) hb) (.inr (by omega))⟩
theorem numMp_ (a : Option Addr) (n cap d : Nat) (w : World) : Calls Tryz.prog 144 #[.agg #[.slice a n cap, .int .u8 d]] w (One w (.int .u8 d)) := by
  go_enter Tryz.func144, Tryz.ntmps144
  go_wp2
  go_ret
  exact ⟨rfl, by with_reducible (repeat (first | exact Kx.r _ | assumption | refine Kx.a ?_ _ | refine Kx.d ?_ | refine Kx.e ?_ _ | (refine Kx.s ?_ ?_ _; focus (first | (simp; done) | (simp; omega))) | refine Kx.t ?_ (by assumption)))⟩
set_option maxRecDepth 100000 in
theorem geoType_ (k : Int) (T : TypeId) (b : Nat) (w : World) : Calls Tryz.prog 66 #[.agg #[.int .i64 k, .iface T (.pointer (some ⟨b, 0, none⟩))]] w (One w (.int .i64 k)) := by
  go_enter Tryz.func66, Tryz.ntmps66
  go_wp2
  go_ret
  exact ⟨rfl, by with_reducible (repeat (first | exact Kx.r _ | assumption | refine Kx.a ?_ _ | refine Kx.d ?_ | refine Kx.e ?_ _ | (refine Kx.s ?_ ?_ _; focus (first | (simp; done) | (simp; omega))) | refine Kx.t ?_ (by assumption)))⟩
def LawPost (w : World) (e : Ending) (w' : World) : Prop := e = .returned (.bool true) ∧ Stab.Keeps w w'
theorem kindN_le (k : Int) : kindN k ≤ 6 := by unfold kindN; split <;> omega
end Go.Proofs.YtbakhldjfplbfaaGreat
