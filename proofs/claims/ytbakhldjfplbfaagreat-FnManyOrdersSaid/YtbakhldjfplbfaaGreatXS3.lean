/-
  Geometries brought to another type by the reference. No condition.
-/
import Derived.Test.YtbakhldjfplbfaaGreatXS2
import Derived.Test.YtbakhldjfplbfaaGreatXGrow2
import Derived.Deep.RegionHeld3
import Derived.Deep.AppendLies
set_option linter.unusedVariables false
set_option linter.unusedSimpArgs false
namespace Go.Proofs.YtbakhldjfplbfaaGreat
open Go.RowKit Go.Fl Go.Sl Go.Pg Go.Ch Go.Kf
theorem infoGm : (Tryz.prog.info? 25).map (fun i => (i.zero, i.size, i.bytes)) = some (some (.agg #[.int .i64 0, .int .i64 0, .slice none 0 0, .slice none 0 0]), 4, 64) := by kernel_rfl
/-- at every node few places, few parts; numbers that a type has not are 0 -/
inductive PgOk : Pg → Prop where
  | mk (k d : Nat) (ps : List Pl) (kids : List Pg) (hd : d < 4) (h1 : ∀ p ∈ ps, p.norm d) (h2 : ps.length ≤ 1000) (h3 : kids.length ≤ 1000) (h4 : ∀ c ∈ kids, PgOk c) : PgOk (.node k d ps kids)
theorem nums_force (d : Nat) (p : Pl) : (p.force d).nums d = p.nums d := by
  unfold Pl.nums Pl.force
  by_cases h : has3 d = true <;> by_cases h' : hasM d = true <;> simp [h, h']
theorem numsOf_force (d : Nat) (ps : List Pl) : numsOf d (ps.map (Pl.force d)) = numsOf d ps := by
  unfold numsOf
  rw [List.flatMap_map]
  congr 1
  funext p
  exact nums_force d p
/-- what is asked of the parts -/
def SForce (d' : Nat) (c : Pg) : Prop := PgOk c → ∀ (G : Nat → Prop) (cs : List Value) (w : World), GmR w G cs c → Calls Tryz.prog 45 #[.agg cs.toArray, .int .i64 d'] w (RetR w no GmR (forceP d' c))
set_option maxRecDepth 100000 in
set_option maxHeartbeats 4000000 in
theorem sforceH_ (d' : Nat) (hd' : d' < 4) (p : Pg) (hok : PgOk p) (ih : ∀ c ∈ p.kids, SForce d' c) (F : Nat → Prop) (cs : List Value) (w : World) (h : GmR w F cs p) : Calls Tryz.prog 45 #[.agg cs.toArray, .int .i64 d'] w (RetR w no GmR (forceP d' p)) := by
  obtain ⟨i0, hi, hz0, hz1, hz2⟩ := info_parts infoGm
  cases h with
  | mk k d ps kids na ka nn nc kn kc css hn h1 lc lx each sz is =>
  cases hok with
  | mk _ _ _ _ hd hnr hp1 hk1 hoks =>
  have hP := fun w' (hk : Stab.Keeps w w') => places_ d hd ps hnr (by omega) na nn nc w' (by rw [hn, numsOf_len]) (h1.sz.keep hk)
  have hN := fun a cap css w' h => nums_ (F := orNew no (w.heap.size + 1 + 1 + 1)) d' hd' ps (by omega) a ps.length cap css w' h
  have hkn : kn ≤ 1000 := by omega
  have hR : Go.Kf.Rows w F GmR ka kn kc 4 css kids := ⟨lc, lx, each, sz, is⟩
  have hle := sz.sz.le
  have hmx := sz.sz.max
  unfold maxLen at hmx
  replace ih : ∀ c ∈ kids, SForce d' c := ih
  have IH := Lib.hid ih
  have HOKS := Lib.hid hoks
  have HLX := Lib.hid lx
  have HI := Lib.hid hi
  have HZ0 := Lib.hid hz0
  have HZ1 := Lib.hid hz1
  have HZ2 := Lib.hid hz2
  clear hn h1 lc lx each sz is ih hoks hnr hi hz0 hz1 hz2
  go_enter Tryz.func45, Tryz.ntmps45
  go_wp2_with fail
  have hs1 : (((w.alloc (.cells #[.int .i64 k, .int .i64 d, .slice na nn nc, .slice ka kn kc] 25)).alloc (.cells #[.int .i64 0, .int .i64 0, .slice none 0 0, .slice none 0 0] 25)).alloc (.cells #[.int .i64 k, .int .i64 d', .slice none 0 0, .slice none 0 0] 25)).heap.size = w.heap.size + 1 + 1 + 1 := by simp
  have hB0 : Blk (((w.alloc (.cells #[.int .i64 k, .int .i64 d, .slice na nn nc, .slice ka kn kc] 25)).alloc (.cells #[.int .i64 0, .int .i64 0, .slice none 0 0, .slice none 0 0] 25)).alloc (.cells #[.int .i64 k, .int .i64 d', .slice none 0 0, .slice none 0 0] 25)) w.heap.size 25 [.int .i64 k, .int .i64 d, .slice na nn nc, .slice ka kn kc] := by with_reducible (repeat first | assumption | (refine Bx.n ⟨?_, ?_⟩ <;> focus (first | rfl | (simp; done) | omega)) | refine Bx.a ?_ _ | refine Bx.d ?_ | refine Bx.e ?_ _ | refine Bx.p (by first | omega | simp <;> omega) ?_)
  have hB1 : Blk (((w.alloc (.cells #[.int .i64 k, .int .i64 d, .slice na nn nc, .slice ka kn kc] 25)).alloc (.cells #[.int .i64 0, .int .i64 0, .slice none 0 0, .slice none 0 0] 25)).alloc (.cells #[.int .i64 k, .int .i64 d', .slice none 0 0, .slice none 0 0] 25)) (w.heap.size + 1) 25 [.int .i64 0, .int .i64 0, .slice none 0 0, .slice none 0 0] := by with_reducible (repeat first | assumption | (refine Bx.n ⟨?_, ?_⟩ <;> focus (first | rfl | (simp; done) | omega)) | refine Bx.a ?_ _ | refine Bx.d ?_ | refine Bx.e ?_ _ | refine Bx.p (by first | omega | simp <;> omega) ?_)
  have hB2 : Blk (((w.alloc (.cells #[.int .i64 k, .int .i64 d, .slice na nn nc, .slice ka kn kc] 25)).alloc (.cells #[.int .i64 0, .int .i64 0, .slice none 0 0, .slice none 0 0] 25)).alloc (.cells #[.int .i64 k, .int .i64 d', .slice none 0 0, .slice none 0 0] 25)) (w.heap.size + 1 + 1) 25 [.int .i64 k, .int .i64 d', .slice none 0 0, .slice none 0 0] := by with_reducible (repeat first | assumption | (refine Bx.n ⟨?_, ?_⟩ <;> focus (first | rfl | (simp; done) | omega)) | refine Bx.a ?_ _ | refine Bx.d ?_ | refine Bx.e ?_ _ | refine Bx.p (by first | omega | simp <;> omega) ?_)
  have hkw : Stab.Keeps w (((w.alloc (.cells #[.int .i64 k, .int .i64 d, .slice na nn nc, .slice ka kn kc] 25)).alloc (.cells #[.int .i64 0, .int .i64 0, .slice none 0 0, .slice none 0 0] 25)).alloc (.cells #[.int .i64 k, .int .i64 d', .slice none 0 0, .slice none 0 0] 25)) := by with_reducible (repeat first | exact Kx.r _ | assumption | refine Kx.a ?_ _ | refine Kx.d ?_ | refine Kx.e ?_ _ | refine Kx.s (by simp <;> omega) ?_ _ | refine Kx.t ?_ (by assumption))
  refine (hP _ hkw).mono ?_
  clear hP
  rintro e w4 ⟨a4, c4, css4, rfl, hk4, hR4⟩
  rw [hs1] at hR4
  have hN2 := hN a4 c4 css4 w4 hR4
  go_wp2_with fail
  refine hN2.mono ?_
  clear hN2 hN
  rintro e w5 ⟨a5, c5, rfl, hk5, hS5, hg5⟩
  have hkk : Stab.Keeps w w5 := by with_reducible (repeat first | exact Kx.r _ | assumption | refine Kx.a ?_ _ | refine Kx.d ?_ | refine Kx.e ?_ _ | refine Kx.s (by simp <;> omega) ?_ _ | refine Kx.t ?_ (by assumption))
  have hB05 := (hB0.keep hk4).keep hk5
  have hB15 := (hB1.keep hk4).keep hk5
  have hB25 := (hB2.keep hk4).keep hk5
  have hsz5 : w.heap.size + 1 + 1 + 1 ≤ w4.heap.size := by have := hk4.size; omega
  have hSzF : SzF w5 (fun b => w.heap.size + 1 + 1 + 1 ≤ b ∧ b < w5.heap.size) a5 (ps.length * wid d') c5 1 (encN (numsOf d' ps)) := SzF.mono (F := fun b => w.heap.size + 1 + 1 + 1 ≤ b) ⟨hS5.toSz, fun _ x hx => by have := hg5 x hx; omega⟩ (fun b h1 h2 => ⟨h2, h1⟩)
  have hsw5 : w.heap.size + 1 + 1 + 1 ≤ w5.heap.size := by have := hk5.size; omega
  clear hB0 hB1 hB2 hkw hk4 hk5 hR4 hs1 hS5 hg5 hsz5
  have t0 := hB25.cell (i := 0) rfl
  have t1 := hB25.cell (i := 1) rfl
  have t2 := hB25.cell (i := 2) rfl
  have t3 := hB25.cell (i := 3) rfl
  have tf := hB25.free
  have tl := hB25.lt
  have g0 := hB05.cell (i := 0) rfl
  have g1 := hB05.cell (i := 1) rfl
  have g2 := hB05.cell (i := 2) rfl
  have g3 := hB05.cell (i := 3) rfl
  have gf := hB05.free
  have gl := hB05.lt
  go_upto_region 3 with (fail)
  have hB2n := hB25.set 2 (.slice a5 (ps.length * wid d') c5)
  simp only [List.set] at hB2n
  have hB0n : Blk (w5.setCell ⟨w.heap.size + 1 + 1, 2, none⟩ (.slice a5 (ps.length * wid d') c5)) w.heap.size 25 [.int .i64 k, .int .i64 d, .slice na nn nc, .slice ka kn kc] := by with_reducible (repeat first | assumption | (refine Bx.n ⟨?_, ?_⟩ <;> focus (first | rfl | (simp; done) | omega)) | refine Bx.a ?_ _ | refine Bx.d ?_ | refine Bx.e ?_ _ | refine Bx.p (by first | omega | simp <;> omega) ?_)
  have hB1n : Blk (w5.setCell ⟨w.heap.size + 1 + 1, 2, none⟩ (.slice a5 (ps.length * wid d') c5)) (w.heap.size + 1) 25 [.int .i64 0, .int .i64 0, .slice none 0 0, .slice none 0 0] := by with_reducible (repeat first | assumption | (refine Bx.n ⟨?_, ?_⟩ <;> focus (first | rfl | (simp; done) | omega)) | refine Bx.a ?_ _ | refine Bx.d ?_ | refine Bx.e ?_ _ | refine Bx.p (by first | omega | simp <;> omega) ?_)
  have hkn' : Stab.Keeps w (w5.setCell ⟨w.heap.size + 1 + 1, 2, none⟩ (.slice a5 (ps.length * wid d') c5)) := by with_reducible (repeat first | exact Kx.r _ | assumption | refine Kx.a ?_ _ | refine Kx.d ?_ | refine Kx.e ?_ _ | refine Kx.s (by simp <;> omega) ?_ _ | refine Kx.t ?_ (by assumption))
  have hSn := hSzF.kf (w' := w5.setCell ⟨w.heap.size + 1 + 1, 2, none⟩ (.slice a5 (ps.length * wid d') c5)) ((KF.refl _ _).set (fun h => by have := h.1; simp at this; omega))
  have hszn : w5.heap.size = (w5.setCell ⟨w.heap.size + 1 + 1, 2, none⟩ (.slice a5 (ps.length * wid d') c5)).heap.size := by simp
  rw [hszn] at hSn hsw5
  generalize (w5.setCell ⟨w.heap.size + 1 + 1, 2, none⟩ (.slice a5 (ps.length * wid d') c5)) = W0 at *
  clear t0 t1 t2 t3 tf tl g0 g1 g2 g3 gf gl hB05 hB15 hB25 hkk hSzF hszn
  have g0 := hB0n.cell (i := 0) rfl
  have g1 := hB0n.cell (i := 1) rfl
  have g2 := hB0n.cell (i := 2) rfl
  have g3 := hB0n.cell (i := 3) rfl
  have gf := hB0n.free
  have gl := hB0n.lt
  go_wp2_with fail
  generalize hB2e : W0.heap.size = B2 at *
  have HB2 := Lib.hid hB2e
  clear hB2e
  have hG0 : GrowB B2 W0 GmR 25 4 0 (.slice none 0 0) (((kids.take 0).map (forceP d'))) := by simpa using GrowB.nil B2 W0 GmR 25 4 (by have := HB2.out; omega)
  go_loopw [23] (fun iv wr => ∃ (j : Nat) (al : Option Addr) (c : Nat), j ≤ kn ∧ iv = .int .i64 j ∧ Stab.Keeps w wr ∧ Blk wr w.heap.size 25 [.int .i64 k, .int .i64 d, .slice na nn nc, .slice ka kn kc] ∧ Blk wr (w.heap.size + 1) 25 [.int .i64 0, .int .i64 0, .slice none 0 0, .slice none 0 0] ∧ Blk wr (w.heap.size + 1 + 1) 25 [.int .i64 k, .int .i64 d', .slice a5 (ps.length * wid d') c5, .slice al j c] ∧ SzF wr (fun b => w.heap.size + 1 + 1 + 1 ≤ b ∧ b < B2) a5 (ps.length * wid d') c5 1 (encN (numsOf d' ps)) ∧ GrowB B2 wr GmR 25 4 j (.slice al j c) ((kids.take j).map (forceP d'))) (fun iv _ => kn - (intOf iv).toNat)
  case atStart => exact ⟨0, none, 0, by omega, rfl, hkn', hB0n, hB1n, hB2n, hSn, hG0⟩
  case round =>
    clear hkn' hB0n hB1n hB2n hSn hG0 g0 g1 g2 g3 gf gl
    obtain ⟨j, al, c, hj, rfl, hk, hB0, hB1, hB2, hSz, hG⟩ := hrel
    by_cases hlt : j < kn
    · obtain ⟨b, off, cc, ha, hb, _, _, hc4, hc, hx⟩ := (hR.kf (KF.keeps hk) (fun _ _ h => gmS.kf h (KF.keeps hk))).elem hlt
      obtain ⟨ek, ed, ena, enn, enc, eka, ekn, ekc, rfl⟩ := hx.four
      subst ha
      have e0 : wr.cell? ⟨b, off + j * 4, none⟩ = some (.int .i64 ek) := by have := hc 0 _ rfl; simpa using this
      have e1 : wr.cell? ⟨b, off + j * 4 + 1, none⟩ = some (.int .i64 ed) := hc 1 _ rfl
      have e2 : wr.cell? ⟨b, off + j * 4 + 2, none⟩ = some (.slice ena enn enc) := hc 2 _ rfl
      have e3 : wr.cell? ⟨b, off + j * 4 + 3, none⟩ = some (.slice eka ekn ekc) := hc 3 _ rfl
      have hjk : j < kids.length := by have := HLX.out; omega
      have hF1 := fun w' (hk' : Stab.Keeps wr w') => IH.out kids[j] (List.getElem_mem hjk) (HOKS.out _ (List.getElem_mem hjk)) F _ w' (gmS.kf hx (KF.keeps hk'))
      have hsn : (kids.take (j + 1)).map (forceP d') = (kids.take j).map (forceP d') ++ [forceP d' kids[j]] := by rw [List.take_succ_eq_append_getElem hjk, List.map_append]; rfl
      have HSN := Lib.hid hsn
      generalize kids[j] = kid at *
      clear hc hx hsn
      go_upto_region 6 with (fail)
      have hkA : Stab.Keeps wr (wr.alloc (.cells #[.int .i64 ek, .int .i64 ed, .slice ena enn enc, .slice eka ekn ekc] 25)) := by with_reducible (repeat first | exact Kx.r _ | assumption | refine Kx.a ?_ _ | refine Kx.d ?_ | refine Kx.e ?_ _ | refine Kx.s (by simp <;> omega) ?_ _ | refine Kx.t ?_ (by assumption))
      have hBA : Blk (wr.alloc (.cells #[.int .i64 ek, .int .i64 ed, .slice ena enn enc, .slice eka ekn ekc] 25)) wr.heap.size 25 [.int .i64 ek, .int .i64 ed, .slice ena enn enc, .slice eka ekn ekc] := by with_reducible (repeat first | assumption | (refine Bx.n ⟨?_, ?_⟩ <;> focus (first | rfl | (simp; done) | omega)) | refine Bx.a ?_ _ | refine Bx.d ?_ | refine Bx.e ?_ _ | refine Bx.p (by first | omega | simp <;> omega) ?_)
      have hsA : (wr.alloc (.cells #[.int .i64 ek, .int .i64 ed, .slice ena enn enc, .slice eka ekn ekc] 25)).heap.size = wr.heap.size + 1 := by simp
      generalize (wr.alloc (.cells #[.int .i64 ek, .int .i64 ed, .slice ena enn enc, .slice eka ekn ekc] 25)) = W1 at hkA hBA hsA ⊢
      have hF2 := fun w' (hk' : Stab.Keeps W1 w') => hF1 w' (Stab.Keeps.trans hkA hk')
      have hB0A := hB0.keep hkA
      have hB1A := hB1.keep hkA
      have hB2A := hB2.keep hkA
      have hSzA := hSz.kf (KF.keeps hkA)
      have hGA := hG.keep gmS hkA
      have hkwA := Stab.Keeps.trans hk hkA
      have hgl : B2 ≤ wr.heap.size := hG.size
      have hown : ∀ g, (Value.slice al j c).ownBlock = some g → g < wr.heap.size := fun g hg => (hG.own hg).2
      clear hF1 e0 e1 e2 e3 hB0 hB1 hB2 hSz hG hk hkA
      have t0 := hBA.cell (i := 0) rfl
      have t1 := hBA.cell (i := 1) rfl
      have t2 := hBA.cell (i := 2) rfl
      have t3 := hBA.cell (i := 3) rfl
      have tf := hBA.free
      have tl := hBA.lt
      have o0 := hB2A.cell (i := 0) rfl
      have o1 := hB2A.cell (i := 1) rfl
      have o2 := hB2A.cell (i := 2) rfl
      have o3 := hB2A.cell (i := 3) rfl
      have of := hB2A.free
      have ol := hB2A.lt
      have HSA := Lib.hid hsA
      clear hsA
      have HF2 := Lib.hid hF2
      have HGA := Lib.hid hGA
      clear hF2 hGA
      go_region_law (first
        | (go_simp; go_at_call 45; (refine (HF2.out _ (by with_reducible (repeat first | exact Kx.r _ | assumption | refine Kx.a ?_ _ | refine Kx.d ?_ | refine Kx.e ?_ _ | refine Kx.s (by simp <;> omega) ?_ _ | refine Kx.t ?_ (by assumption)))).mono ?_); rintro e w4 ⟨cs4, rfl, hk4, hx4⟩; obtain ⟨zk, zd, zna, znn, znc, zka, zkn, zkc, rfl⟩ := hx4.four; have hbc := fun b o h => (Stab.own_cell hk4 b h).1 o; have hbf := fun b o h => (Stab.own_cell hk4 b h).2 o; have hB4 := Blk.keep (hB2A.drew) hk4; have h43 := hB4.cell (i := 3) rfl; have h4l := hB4.lt)
        | (refine step_append_growB (B := B2) gmS (by rfl) _ _ 23 (by rfl) 25 i0 _ 4 64 Tryz.underlying23 HI.out HZ0.out HZ1.out HZ2.out (by rfl) (by decide) _ j _ (by rfl) (HGA.out.keep gmS (by with_reducible (repeat first | exact Kx.r _ | assumption | refine Kx.a ?_ _ | refine Kx.d ?_ | refine Kx.e ?_ _ | refine Kx.s (by simp <;> omega) ?_ _ | refine Kx.t ?_ (by assumption)))) ⟨w4.heap.size, 0, none⟩ 1 [.int .i64 zk, .int .i64 zd, .slice zna znn znc, .slice zka zkn zkc] (by rfl) (by rfl) (new_cells _ _ _ _ (by simp)) (by intro u hu; simp at hu; rcases hu with rfl | rfl | rfl | rfl <;> rfl) (by unfold maxLen; omega) (by omega) (forceP d' kid) (fun b => W1.heap.size ≤ b ∧ b < w4.heap.size) (gmS.kf (gmS.mono hx4 (fun b hb hf => hf.elim (fun h => h.elim) (fun h => ⟨by simpa using h, hb⟩))) (KF.keeps (by with_reducible (repeat first | exact Kx.r _ | assumption | refine Kx.a ?_ _ | refine Kx.d ?_ | refine Kx.e ?_ _ | refine Kx.s (by simp <;> omega) ?_ _ | refine Kx.t ?_ (by assumption))))) (fun b hb => ⟨by have := HSA.out; omega, by simp; omega⟩) (fun g hg hb => by have := hown g hg; have := HSA.out; omega) ?_; intro al' c' w5' hG6 hB6; have hBo : Blk w5' (w.heap.size + 1 + 1) 25 [.int .i64 k, .int .i64 d', .slice a5 (ps.length * wid d') c5, .slice al j c] := Blk.below (B := B2) (by with_reducible (repeat first | assumption | (refine Bx.n ⟨?_, ?_⟩ <;> focus (first | rfl | (simp; done) | omega)) | refine Bx.a ?_ _ | refine Bx.d ?_ | refine Bx.e ?_ _ | refine Bx.p (by first | omega | simp <;> omega) ?_)) hB6 (by omega); have ho3 := hBo.cell (i := 3) rfl; have hof := hBo.free; have hol := hBo.lt))
      all_goals (
        have hkA1 : Stab.Keeps W1 w4 := Stab.Keeps.trans (Stab.Keeps.drew (Stab.Keeps.refl _)) hk4
        have hk9 : Stab.Keeps w w5' := Below.trans (Stab.Keeps.alloc (Stab.Keeps.trans hkwA hkA1) _) (Below.mono hB6 (by omega))
        have hBW : Below B2 W1 w5' := Below.trans (Below.alloc (Below.mono hkA1 (by have := HSA.out; omega)) (by have := HSA.out; have := hkA1.size; omega) _) hB6
        have hk7 : Stab.Keeps w (w5'.setCell ⟨w.heap.size + 1 + 1, 3, none⟩ (.slice al' (j + 1) c')) := Stab.Keeps.setCell (by simp; omega) hk9 _
        have hB05 := hB0A.below hBW (by omega)
        have hB15 := hB1A.below hBW (by omega)
        have hB07 : Blk (w5'.setCell ⟨w.heap.size + 1 + 1, 3, none⟩ (.slice al' (j + 1) c')) w.heap.size 25 [.int .i64 k, .int .i64 d, .slice na nn nc, .slice (some ⟨b, off, none⟩) kn kc] := by with_reducible (repeat first | assumption | (refine Bx.n ⟨?_, ?_⟩ <;> focus (first | rfl | (simp; done) | omega)) | refine Bx.a ?_ _ | refine Bx.d ?_ | refine Bx.e ?_ _ | refine Bx.p (by first | omega | simp <;> omega) ?_)
        have hB17 : Blk (w5'.setCell ⟨w.heap.size + 1 + 1, 3, none⟩ (.slice al' (j + 1) c')) (w.heap.size + 1) 25 [.int .i64 0, .int .i64 0, .slice none 0 0, .slice none 0 0] := by with_reducible (repeat first | assumption | (refine Bx.n ⟨?_, ?_⟩ <;> focus (first | rfl | (simp; done) | omega)) | refine Bx.a ?_ _ | refine Bx.d ?_ | refine Bx.e ?_ _ | refine Bx.p (by first | omega | simp <;> omega) ?_)
        have hB27 := hBo.set 3 (.slice al' (j + 1) c')
        simp only [List.set] at hB27
        have hSz7 := (hSzA.kf (KF.below hBW (fun b h _ => h.2))).kf (w' := w5'.setCell ⟨w.heap.size + 1 + 1, 3, none⟩ (.slice al' (j + 1) c')) ((KF.refl _ _).set (fun h => by have := h.1; simp at this; omega))
        have hG7 := hG6.kf gmS (w4 := w5'.setCell ⟨w.heap.size + 1 + 1, 3, none⟩ (.slice al' (j + 1) c')) ((KF.refl _ _).set (fun h => by simp at h; omega))
        rw [← HSN.out] at hG7
        clear hG6 hB6 hBo ho3 hof hol hbc hbf hB4 h43 h4l hk4 hx4 hkA1 hk9 hBW hB05 hB15 hSzA hB0A hB1A hB2A hBA t0 t1 t2 t3 tf tl o0 o1 o2 o3 of ol
        generalize (w5'.setCell ⟨w.heap.size + 1 + 1, 3, none⟩ (.slice al' (j + 1) c')) = W7 at *
        go_wp2_with fail
        exact ⟨⟨j + 1, al', c', by omega, by simp, hk7, hB07, hB17, hB27, hSz7, hG7⟩, by simp [intOf]; omega⟩)
    · have hjk : j = kn := by omega
      subst hjk
      have hlx : kids.length = j := HLX.out
      rw [List.take_of_length_le (by omega)] at hG
      have t0 := hB2.cell (i := 0) rfl
      have t1 := hB2.cell (i := 1) rfl
      have t2 := hB2.cell (i := 2) rfl
      have t3 := hB2.cell (i := 3) rfl
      have tf := hB2.free
      have tl := hB2.lt
      have g0 := hB1.cell (i := 0) rfl
      have g1 := hB1.cell (i := 1) rfl
      have g2 := hB1.cell (i := 2) rfl
      have g3 := hB1.cell (i := 3) rfl
      have gf := hB1.free
      have gl := hB1.lt
      have hB1n := (((hB1.set 0 (.int .i64 k)).set 1 (.int .i64 d')).set 2 (.slice a5 (ps.length * wid d') c5)).set 3 (.slice al j c)
      simp only [List.set] at hB1n
      have hkf : ∀ (G : Nat → Prop), ¬ G (w.heap.size + 1) → KF G wr ((((wr.setCell ⟨w.heap.size + 1, 0, none⟩ (.int .i64 k)).setCell ⟨w.heap.size + 1, 1, none⟩ (.int .i64 d')).setCell ⟨w.heap.size + 1, 2, none⟩ (.slice a5 (ps.length * wid d') c5)).setCell ⟨w.heap.size + 1, 3, none⟩ (.slice al j c)) := fun G hG' => ((((KF.refl _ _).set hG').set hG').set hG').set hG'
      have hkz : Stab.Keeps w ((((wr.setCell ⟨w.heap.size + 1, 0, none⟩ (.int .i64 k)).setCell ⟨w.heap.size + 1, 1, none⟩ (.int .i64 d')).setCell ⟨w.heap.size + 1, 2, none⟩ (.slice a5 (ps.length * wid d') c5)).setCell ⟨w.heap.size + 1, 3, none⟩ (.slice al j c)) := by with_reducible (repeat first | exact Kx.r _ | assumption | refine Kx.a ?_ _ | refine Kx.d ?_ | refine Kx.e ?_ _ | refine Kx.s (by simp <;> omega) ?_ _ | refine Kx.t ?_ (by assumption))
      have hSzn := hSz.kf (hkf _ (fun h => by have := h.1; omega))
      obtain ⟨css', hRw⟩ := hG.toRows gmS
      have hRw2 := hRw.kf (hkf _ (fun h => by omega)) (fun _ _ h => gmS.kf h (hkf _ (fun h => by omega)))
      go_wp2_with fail
      generalize ((((wr.setCell ⟨w.heap.size + 1, 0, none⟩ (.int .i64 k)).setCell ⟨w.heap.size + 1, 1, none⟩ (.int .i64 d')).setCell ⟨w.heap.size + 1, 2, none⟩ (.slice a5 (ps.length * wid d') c5)).setCell ⟨w.heap.size + 1, 3, none⟩ (.slice al j c)) = Wz at *
      clear hSz hG hRw hB0 hB1 hB2 t0 t1 t2 t3 tf tl g0 g1 g2 g3 gf gl hkf
      have y0 := hB1n.cell (i := 0) rfl
      have y1 := hB1n.cell (i := 1) rfl
      have y2 := hB1n.cell (i := 2) rfl
      have y3 := hB1n.cell (i := 3) rfl
      have yf := hB1n.free
      have yl := hB1n.lt
      refine bodyPost_ret (v := .agg #[.int .i64 k, .int .i64 d', .slice a5 (ps.length * wid d') c5, .slice al j c]) (by simp [results, Tryz.results45, go_sem, *]) rfl ⟨[.int .i64 k, .int .i64 d', .slice a5 (ps.length * wid d') c5, .slice al j c], rfl, hkz, ?_⟩
      rw [forceP_eq]
      refine .mk k d' _ _ a5 al _ _ _ _ css' (by rw [numsOf_force, numsOf_len]) ?_ hRw2.lc hRw2.lx hRw2.each (hRw2.sz.mono fun b _ hb => .inr (by omega)) (fun i h1 h2 => gmS.mono (hRw2.is i h1 h2) fun b _ hb => .inr (by omega))
      rw [numsOf_force]
      exact hSzn.mono fun b _ hb => .inr (by omega)
theorem sforce_ (d' : Nat) (hd' : d' < 4) : ∀ p, SForce d' p := Pg.ind fun k d ps kids ih hok G cs w h => sforceH_ d' hd' _ hok ih G cs w h
end Go.Proofs.YtbakhldjfplbfaaGreat
