/-
  The hull's places of what a formed shape makes; small functions of the law. No condition.
-/
import Derived.Test.YtinbkonmlgediaaGreatXVb
import Derived.Test.YtinbkonmlgediaaGreatXFwl
import Derived.Test.YtinbkonmlgediaaGreatXR5
set_option linter.unusedVariables false
set_option linter.unusedSimpArgs false
namespace Go.Proofs.YtinbkonmlgediaaGreat
open Go.RowKit Go.Fl Go.Sl Go.Pg Go.Ch Go.Kf
theorem geomP_eq (h : Sm) (pts : List (Int × Int)) (kids : List ST) : geomP (.node h pts kids) = .node h.kind.toNat 0 (pts.map ptP) (kids.map geomP) := by rw [geomP, geomPs_eq]
set_option maxRecDepth 100000 in
theorem figure_ (t : ST) (w : World) (hA : t.At w) (hT : t.total ≤ 1000) (hF : t.Formed) : Calls Tryz.prog 6 #[t.hd.val] w (RetR w no GmR (geomP t)) := by
  have hS := fun w' hk => geomOf_ w t hA w' hT hF hk
  generalize geomP t = P at *
  obtain ⟨⟨kind, pa, pn, pc, ka, kn, kc⟩, pts, kids⟩ := t
  simp only [ST.hd, Sm.val] at hS ⊢
  clear hA hT hF
  go_enter Tryz.func6, Tryz.ntmps6
  go_wp2_with fail
  refine (hS _ (by with_reducible (repeat first | exact Kx.r _ | assumption | refine Kx.a ?_ _ | refine Kx.d ?_ | refine Kx.e ?_ _ | refine Kx.s (by simp <;> omega) ?_ _ | refine Kx.t ?_ (by assumption)))).mono ?_
  clear hS
  rintro e w3 ⟨cs, rfl, hk3, hx⟩
  obtain ⟨zk, zd, zna, znn, znc, zka, zkn, zkc, rfl⟩ := hx.four
  have hB := (show Blk _ (w.heap.size + 1) 35 [.int .i64 0, .int .i64 0, .slice none 0 0, .slice none 0 0] from by with_reducible (repeat first | assumption | (refine Bx.n ⟨?_, ?_⟩ <;> focus (first | rfl | (simp; done) | omega)) | refine Bx.a ?_ _ | refine Bx.d ?_ | refine Bx.e ?_ _ | refine Bx.p (by first | omega | simp <;> omega) ?_)).keep hk3
  have hkw : Stab.Keeps w w3 := by with_reducible (repeat first | exact Kx.r _ | assumption | refine Kx.a ?_ _ | refine Kx.d ?_ | refine Kx.e ?_ _ | refine Kx.s (by simp <;> omega) ?_ _ | refine Kx.t ?_ (by assumption))
  clear hk3
  have g0 := hB.cell (i := 0) rfl
  have g1 := hB.cell (i := 1) rfl
  have g2 := hB.cell (i := 2) rfl
  have g3 := hB.cell (i := 3) rfl
  have gf := hB.free
  have gl := hB.lt
  have hkz : Stab.Keeps w ((((w3.setCell ⟨w.heap.size + 1, 0, none⟩ (.int .i64 zk)).setCell ⟨w.heap.size + 1, 1, none⟩ (.int .i64 zd)).setCell ⟨w.heap.size + 1, 2, none⟩ (.slice zna znn znc)).setCell ⟨w.heap.size + 1, 3, none⟩ (.slice zka zkn zkc)) := by with_reducible (repeat first | exact Kx.r _ | assumption | refine Kx.a ?_ _ | refine Kx.d ?_ | refine Kx.e ?_ _ | refine Kx.s (by simp <;> omega) ?_ _ | refine Kx.t ?_ (by assumption))
  have hxz := gmS.kf (w' := (((w3.setCell ⟨w.heap.size + 1, 0, none⟩ (.int .i64 zk)).setCell ⟨w.heap.size + 1, 1, none⟩ (.int .i64 zd)).setCell ⟨w.heap.size + 1, 2, none⟩ (.slice zna znn znc)).setCell ⟨w.heap.size + 1, 3, none⟩ (.slice zka zkn zkc)) hx (((((KF.refl _ _).set (fun h => by simp [orNew, no] at h; omega)).set (fun h => by simp [orNew, no] at h; omega)).set (fun h => by simp [orNew, no] at h; omega)).set (fun h => by simp [orNew, no] at h; omega))
  clear hx hB
  go_wp2_with fail
  refine bodyPost_ret (v := .agg #[.int .i64 zk, .int .i64 zd, .slice zna znn znc, .slice zka zkn zkc]) (by simp [results, Tryz.results6, go_sem, *]) rfl ⟨[.int .i64 zk, .int .i64 zd, .slice zna znn znc, .slice zka zkn zkc], rfl, hkz, ?_⟩
  exact gmS.mono hxz (fun b _ hb => by simp [orNew, no] at hb; exact .inr (by omega))
end Go.Proofs.YtinbkonmlgediaaGreat
