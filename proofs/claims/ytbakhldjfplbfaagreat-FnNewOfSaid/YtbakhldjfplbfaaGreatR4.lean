/-
  impl.NewOf. No condition.
-/
import Derived.Test.YtbakhldjfplbfaaGreatR3
set_option linter.unusedVariables false
set_option linter.unusedSimpArgs false
namespace Go.Proofs.YtbakhldjfplbfaaGreat
open Go.RowKit Go.Fl Go.Sl Go.Pg Go.Ch Go.Kf
set_option maxRecDepth 100000 in
theorem typeZ_ (w : World) : Calls Tryz.prog 66 #[.agg #[.int .i64 0, .nilIface]] w (One w (.int .i64 0)) := by
  go_enter Tryz.func66, Tryz.ntmps66
  go_wp2
  go_ret
  exact ⟨rfl, by with_reducible (repeat (first | exact Kx.r _ | assumption | refine Kx.a ?_ _ | refine Kx.d ?_ | refine Kx.e ?_ _ | (refine Kx.s ?_ ?_ _; focus (first | (simp; done) | (simp; omega))) | refine Kx.t ?_ (by assumption)))⟩
theorem eqZ_ (w : World) : (binOp .eql 20 .nilIface .nilIface).run Tryz.prog w = .ok (.bool true) w := by kernel_rfl
theorem checkZ_ (w : World) : Calls Tryz.prog 143 #[.agg #[.int .i64 0, .nilIface], .int .i64 0] w (One w (.tuple #[])) := by
  go_enter Tryz.func143, Tryz.ntmps143
  go_wp2
  refine bodyPost_ret (v := .tuple #[]) (by simp [results, Tryz.results143, go_sem]) rfl ⟨rfl, ?_⟩
  with_reducible (repeat (first | exact Kx.r _ | assumption | refine Kx.a ?_ _ | refine Kx.d ?_ | refine Kx.e ?_ _ | (refine Kx.s ?_ ?_ _; focus (first | (simp; done) | (simp; omega))) | refine Kx.t ?_ (by assumption)))
set_option maxRecDepth 100000 in
theorem mustZ_ (w : World) : Calls Tryz.prog 109 #[.agg #[.int .i64 0, .nilIface]] w (One w (.agg #[.slice none 0 0, .int .u8 0])) := by
  have hC := fun w' => checkZ_ w'
  have hE := fun w' => eqZ_ w'
  go_enter Tryz.func109, Tryz.ntmps109
  go_wp2_with fail
  refine (hC _).mono ?_
  clear hC
  rintro e w2 ⟨rfl, hk2⟩
  have hG : Blk w2 w.heap.size 78 [.int .i64 0, .nilIface] := Blk.keep (by with_reducible (repeat (first | assumption | ((refine Bx.n ⟨?_, ?_⟩) <;> focus (first | rfl | (simp; done) | omega)) | refine Bx.a ?_ _ | refine Bx.d ?_ | refine Bx.e ?_ _ | (refine Bx.p ?_ ?_; focus (first | (simp; done) | (simp; omega) | omega))))) hk2
  have hR : Blk w2 (w.heap.size + 1) 150 [.slice none 0 0, .int .u8 0] := Blk.keep (by with_reducible (repeat (first | assumption | ((refine Bx.n ⟨?_, ?_⟩) <;> focus (first | rfl | (simp; done) | omega)) | refine Bx.a ?_ _ | refine Bx.d ?_ | refine Bx.e ?_ _ | (refine Bx.p ?_ ?_; focus (first | (simp; done) | (simp; omega) | omega))))) hk2
  have hkk : Stab.Keeps w w2 := by with_reducible (repeat (first | exact Kx.r _ | assumption | refine Kx.a ?_ _ | refine Kx.d ?_ | refine Kx.e ?_ _ | (refine Kx.s ?_ ?_ _; focus (first | (simp; done) | (simp; omega))) | refine Kx.t ?_ (by assumption)))
  clear hk2
  have g0 := hG.cell (i := 0) rfl
  have g1 := hG.cell (i := 1) rfl
  have gf := hG.free
  have gl := hG.lt
  have r0 := hR.cell (i := 0) rfl
  have r1 := hR.cell (i := 1) rfl
  have rf := hR.free
  have rl := hR.lt
  go_wp2_with fail
  refine bodyPost_ret (v := .agg #[.slice none 0 0, .int .u8 0]) (by simp [results, Tryz.results109, go_sem, *]) rfl ⟨rfl, ?_⟩
  with_reducible (repeat (first | exact Kx.r _ | assumption | refine Kx.a ?_ _ | refine Kx.d ?_ | refine Kx.e ?_ _ | (refine Kx.s ?_ ?_ _; focus (first | (simp; done) | (simp; omega))) | refine Kx.t ?_ (by assumption)))
set_option maxRecDepth 100000 in
set_option maxHeartbeats 4000000 in
theorem plainZero_ (w : World) : Calls Tryz.prog 53 #[.agg #[.int .i64 0, .nilIface]] w (RetR w no GmR (.node 0 0 [] [])) := by
  have hPl := fun w' => plainGc_ (F := no) [.slice none 0 0, .int .u8 (0 : Nat)] (.node 0 0 [] []) w' ⟨0, none, 0, 0, [], [], rfl, rfl, by omega, by omega, Go.Kf.Rows.nil _ _ _ _, fun c hc => by simp at hc⟩ (fun c hc => by simp [Pg.kids] at hc)
  have hMu := fun w' => mustZ_ w'
  have hkA : Stab.Keeps w ((w.alloc (.cells #[.int .i64 0, .nilIface] 78)).alloc (.cells #[.int .i64 0, .int .i64 0, .slice none 0 0, .slice none 0 0] 25)) := by with_reducible (repeat (first | exact Kx.r _ | assumption | refine Kx.a ?_ _ | refine Kx.d ?_ | refine Kx.e ?_ _ | (refine Kx.s ?_ ?_ _; focus (first | (simp; done) | (simp; omega))) | refine Kx.t ?_ (by assumption)))
  have hBA : Blk ((w.alloc (.cells #[.int .i64 0, .nilIface] 78)).alloc (.cells #[.int .i64 0, .int .i64 0, .slice none 0 0, .slice none 0 0] 25)) w.heap.size 78 [.int .i64 0, .nilIface] := by with_reducible (repeat (first | assumption | ((refine Bx.n ⟨?_, ?_⟩) <;> focus (first | rfl | (simp; done) | omega)) | refine Bx.a ?_ _ | refine Bx.d ?_ | refine Bx.e ?_ _ | (refine Bx.p ?_ ?_; focus (first | (simp; done) | (simp; omega) | omega))))
  have hCA : Blk ((w.alloc (.cells #[.int .i64 0, .nilIface] 78)).alloc (.cells #[.int .i64 0, .int .i64 0, .slice none 0 0, .slice none 0 0] 25)) (w.heap.size + 1) 25 [.int .i64 0, .int .i64 0, .slice none 0 0, .slice none 0 0] := by with_reducible (repeat (first | assumption | ((refine Bx.n ⟨?_, ?_⟩) <;> focus (first | rfl | (simp; done) | omega)) | refine Bx.a ?_ _ | refine Bx.d ?_ | refine Bx.e ?_ _ | (refine Bx.p ?_ ?_; focus (first | (simp; done) | (simp; omega) | omega))))
  go_enter Tryz.func53, Tryz.ntmps53
  go_upto_region 1 with (fail)
  generalize ((w.alloc (.cells #[.int .i64 0, .nilIface] 78)).alloc (.cells #[.int .i64 0, .int .i64 0, .slice none 0 0, .slice none 0 0] 25)) = W1 at *
  have t0 := hBA.cell (i := 0) rfl
  have t1 := hBA.cell (i := 1) rfl
  have tf := hBA.free
  have tl := hBA.lt
  go_wp2_with fail
  refine (typeZ_ _).mono ?_
  rintro e W2 ⟨rfl, hk2⟩
  have hk12 := Stab.Keeps.trans hkA hk2
  have hBG := hBA.keep hk2
  have hCG := hCA.keep hk2
  clear t0 t1 tf tl hBA hkA hk2 hCA
  have t0 := hBG.cell (i := 0) rfl
  have t1 := hBG.cell (i := 1) rfl
  have tf := hBG.free
  have tl := hBG.lt
  go_wp2_with fail
  refine (hMu _).mono ?_
  rintro e W3 ⟨rfl, hk3⟩
  have hk13 := Stab.Keeps.trans hk12 hk3
  have hCH := hCG.keep hk3
  have hs3 : w.heap.size + 2 ≤ W3.heap.size := by have := hCH.lt; omega
  clear t0 t1 tf tl hBG hk12 hk3 hCG hMu
  go_wp2_with fail
  refine (hPl _).mono ?_
  rintro e W4 ⟨cs4, rfl, hk4, hx⟩
  obtain ⟨zk, zd, zna, znn, znc, zka, zkn, zkc, rfl⟩ := hx.four
  have hk14 := Stab.Keeps.trans hk13 hk4
  have hCI := hCH.keep hk4
  clear hk13 hk4 hCH hPl
  have g0 := hCI.cell (i := 0) rfl
  have g1 := hCI.cell (i := 1) rfl
  have g2 := hCI.cell (i := 2) rfl
  have g3 := hCI.cell (i := 3) rfl
  have gf := hCI.free
  have gl := hCI.lt
  have hBn := (((hCI.set 0 (.int .i64 zk)).set 1 (.int .i64 zd)).set 2 (.slice zna znn znc)).set 3 (.slice zka zkn zkc)
  simp only [List.set] at hBn
  have hkz : Stab.Keeps w ((((W4.setCell ⟨w.heap.size + 1, 0, none⟩ (.int .i64 zk)).setCell ⟨w.heap.size + 1, 1, none⟩ (.int .i64 zd)).setCell ⟨w.heap.size + 1, 2, none⟩ (.slice zna znn znc)).setCell ⟨w.heap.size + 1, 3, none⟩ (.slice zka zkn zkc)) := by with_reducible (repeat (first | exact Kx.r _ | assumption | refine Kx.a ?_ _ | refine Kx.d ?_ | refine Kx.e ?_ _ | (refine Kx.s ?_ ?_ _; focus (first | (simp; done) | (simp; omega))) | refine Kx.t ?_ (by assumption)))
  have hxn := gmS.kf (gmS.mono (G := fun b => w.heap.size + 2 ≤ b) hx (fun b hbl hb => by exact hb.elim (fun h => h.elim) (fun h => by omega))) (w' := ((((W4.setCell ⟨w.heap.size + 1, 0, none⟩ (.int .i64 zk)).setCell ⟨w.heap.size + 1, 1, none⟩ (.int .i64 zd)).setCell ⟨w.heap.size + 1, 2, none⟩ (.slice zna znn znc)).setCell ⟨w.heap.size + 1, 3, none⟩ (.slice zka zkn zkc))) (((((KF.refl _ _).set (fun h => by first | (simp at h; done) | (simp at h; omega))).set (fun h => by first | (simp at h; done) | (simp at h; omega))).set (fun h => by first | (simp at h; done) | (simp at h; omega))).set (fun h => by first | (simp at h; done) | (simp at h; omega)))
  clear hx
  go_wp2_with fail
  generalize ((((W4.setCell ⟨w.heap.size + 1, 0, none⟩ (.int .i64 zk)).setCell ⟨w.heap.size + 1, 1, none⟩ (.int .i64 zd)).setCell ⟨w.heap.size + 1, 2, none⟩ (.slice zna znn znc)).setCell ⟨w.heap.size + 1, 3, none⟩ (.slice zka zkn zkc)) = Wz at *
  clear hCI g0 g1 g2 g3 gf gl
  have y0 := hBn.cell (i := 0) rfl
  have y1 := hBn.cell (i := 1) rfl
  have y2 := hBn.cell (i := 2) rfl
  have y3 := hBn.cell (i := 3) rfl
  have yf := hBn.free
  have yl := hBn.lt
  refine bodyPost_ret (v := .agg #[.int .i64 zk, .int .i64 zd, .slice zna znn znc, .slice zka zkn zkc]) (by simp [results, Tryz.results53, go_sem, *]) rfl ⟨[.int .i64 zk, .int .i64 zd, .slice zna znn znc, .slice zka zkn zkc], rfl, hkz, ?_⟩
  exact gmS.mono hxn (fun b _ hb => .inr (by omega))

/-- what impl.NewOf gives -/
def madeP (kind : Nat) (ts : List GT) : Pg := if kind = 1 ∨ kind = 2 then .node 0 0 [] [] else wholeP kind 0 ((ts.map newP).filter (takes kind))
def ImplNewPost (w : World) (kind : Nat) (ts : List GT) (e : Ending) (w' : World) : Prop := ∃ (zk zd : Nat) (na : Option Addr) (nn nc : Nat) (ka : Option Addr) (kn kc : Nat), e = .returned (.tuple #[.agg #[.int .i64 zk, .int .i64 zd, .slice na nn nc, .slice ka kn kc], .bool (!(kind == 1 || kind == 2))]) ∧ Stab.Keeps w w' ∧ GmR w' (orNew no w.heap.size) [.int .i64 zk, .int .i64 zd, .slice na nn nc, .slice ka kn kc] (madeP kind ts)
set_option maxRecDepth 100000 in
set_option maxHeartbeats 4000000 in
theorem implNewOf_ (kind : Nat) (hk6 : kind ≤ 6) (a : Option Addr) (n cap : Nat) (kids : List GT) (w : World) (hn : kids.length = n) (hb : n ≤ 1000) (hS : Sz w a n cap 4 (kids.flatMap GT.cells)) (hA : ∀ t ∈ kids, t.At w) (hs : ∀ t ∈ kids, t.Small) : Calls Tryz.prog 23 #[.int .i64 kind, .slice a n cap] w (ImplNewPost w kind kids) := by
  have hN := fun w' (hk : Stab.Keeps w w') => newOf_ kind hk6 a n cap kids w' hn hb (hS.keep hk) (fun t ht => (hA t ht).keep hk) hs
  clear hS hA hs hn
  go_enter Tryz.func23, Tryz.ntmps23
  go_wp2_with fail
  have hkA : Stab.Keeps w (w.alloc (.cells #[.int .i64 0, .int .i64 0, .slice none 0 0, .slice none 0 0] 25)) := by with_reducible (repeat (first | exact Kx.r _ | assumption | refine Kx.a ?_ _ | refine Kx.d ?_ | refine Kx.e ?_ _ | (refine Kx.s ?_ ?_ _; focus (first | (simp; done) | (simp; omega))) | refine Kx.t ?_ (by assumption)))
  have hBA : Blk (w.alloc (.cells #[.int .i64 0, .int .i64 0, .slice none 0 0, .slice none 0 0] 25)) w.heap.size 25 [.int .i64 0, .int .i64 0, .slice none 0 0, .slice none 0 0] := by with_reducible (repeat (first | assumption | ((refine Bx.n ⟨?_, ?_⟩) <;> focus (first | rfl | (simp; done) | omega)) | refine Bx.a ?_ _ | refine Bx.d ?_ | refine Bx.e ?_ _ | (refine Bx.p ?_ ?_; focus (first | (simp; done) | (simp; omega) | omega))))
  refine (hN _ hkA).mono ?_
  clear hN
  generalize (w.alloc (.cells #[.int .i64 0, .int .i64 0, .slice none 0 0, .slice none 0 0] 25)) = WA at *
  rintro e w4 ⟨cs4, rfl, hk4, hx4⟩
  have hkB := Stab.Keeps.trans hkA hk4
  have hBB := hBA.keep hk4
  have hsA : w.heap.size < WA.heap.size := hBA.lt
  have hs4 := hk4.size
  obtain ⟨bq, hbq⟩ : ∃ bq, (!(kind == 1 || kind == 2)) = bq := ⟨_, rfl⟩
  have hPl : ∃ kg tv, cs4 = [.int .i64 kg, tv] ∧ (tv = .nilIface ∨ ∃ T b, tv = .iface T (.pointer (some ⟨b, 0, none⟩))) ∧ ∀ w', Stab.Keeps w4 w' → Calls Tryz.prog 53 #[.agg #[.int .i64 kg, tv]] w' (RetR w' no GmR (madeP kind kids)) := by
    unfold madeP
    by_cases hk : kind = 1 ∨ kind = 2
    · rw [if_pos hk] at hx4 ⊢
      subst hx4
      exact ⟨0, .nilIface, rfl, .inl rfl, fun w' _ => plainZero_ w'⟩
    · rw [if_neg hk] at hx4 ⊢
      obtain ⟨kg, T, b, rfl⟩ := hx4.two
      exact ⟨kg, _, rfl, .inr ⟨T, b, rfl⟩, fun w' hk' => plainGeo_ _ _ _ w' (geoS.kf hx4 (KF.keeps hk'))⟩
  obtain ⟨kg, tv, rfl, htv, hPl⟩ := hPl
  generalize hmp : madeP kind kids = P at *
  have HMP := Lib.hid hmp
  have HBQ := Lib.hid hbq
  rw [hbq]
  clear hx4 hkA hk4 hBA hbq hmp
  rcases htv with rfl | ⟨T, b, rfl⟩
  · go_wp2_with fail
    refine (hPl _ (by with_reducible (repeat (first | exact Kx.r _ | assumption | refine Kx.a ?_ _ | refine Kx.d ?_ | refine Kx.e ?_ _ | (refine Kx.s ?_ ?_ _; focus (first | (simp; done) | (simp; omega))) | refine Kx.t ?_ (by assumption))))).mono ?_
    clear hPl
    rintro e w5 ⟨cs5, rfl, hk5, hx⟩
    obtain ⟨zk, zd, zna, znn, znc, zka, zkn, zkc, rfl⟩ := hx.four
    have hkC : Stab.Keeps w w5 := by with_reducible (repeat (first | exact Kx.r _ | assumption | refine Kx.a ?_ _ | refine Kx.d ?_ | refine Kx.e ?_ _ | (refine Kx.s ?_ ?_ _; focus (first | (simp; done) | (simp; omega))) | refine Kx.t ?_ (by assumption)))
    have hBC : Blk w5 w.heap.size 25 [.int .i64 0, .int .i64 0, .slice none 0 0, .slice none 0 0] := Blk.keep (by with_reducible (repeat (first | assumption | ((refine Bx.n ⟨?_, ?_⟩) <;> focus (first | rfl | (simp; done) | omega)) | refine Bx.a ?_ _ | refine Bx.d ?_ | refine Bx.e ?_ _ | (refine Bx.p ?_ ?_; focus (first | (simp; done) | (simp; omega) | omega))))) hk5
    clear hkB hk5 hBB
    have g0 := hBC.cell (i := 0) rfl
    have g1 := hBC.cell (i := 1) rfl
    have g2 := hBC.cell (i := 2) rfl
    have g3 := hBC.cell (i := 3) rfl
    have gf := hBC.free
    have gl := hBC.lt
    have hBn := (((hBC.set 0 (.int .i64 zk)).set 1 (.int .i64 zd)).set 2 (.slice zna znn znc)).set 3 (.slice zka zkn zkc)
    simp only [List.set] at hBn
    have hkz : Stab.Keeps w ((((w5.setCell ⟨w.heap.size, 0, none⟩ (.int .i64 zk)).setCell ⟨w.heap.size, 1, none⟩ (.int .i64 zd)).setCell ⟨w.heap.size, 2, none⟩ (.slice zna znn znc)).setCell ⟨w.heap.size, 3, none⟩ (.slice zka zkn zkc)) := by with_reducible (repeat (first | exact Kx.r _ | assumption | refine Kx.a ?_ _ | refine Kx.d ?_ | refine Kx.e ?_ _ | (refine Kx.s ?_ ?_ _; focus (first | (simp; done) | (simp; omega))) | refine Kx.t ?_ (by assumption)))
    have hxn := gmS.kf (gmS.mono (G := fun b => w.heap.size + 1 ≤ b) hx (fun b hbl hb => hb.elim (fun h => h.elim) (fun h => by simp at h; omega))) (w' := ((((w5.setCell ⟨w.heap.size, 0, none⟩ (.int .i64 zk)).setCell ⟨w.heap.size, 1, none⟩ (.int .i64 zd)).setCell ⟨w.heap.size, 2, none⟩ (.slice zna znn znc)).setCell ⟨w.heap.size, 3, none⟩ (.slice zka zkn zkc))) (((((KF.refl _ _).set (fun h => by first | (simp at h; done) | (simp at h; omega))).set (fun h => by first | (simp at h; done) | (simp at h; omega))).set (fun h => by first | (simp at h; done) | (simp at h; omega))).set (fun h => by first | (simp at h; done) | (simp at h; omega)))
    clear hx
    go_wp2_with fail
    generalize ((((w5.setCell ⟨w.heap.size, 0, none⟩ (.int .i64 zk)).setCell ⟨w.heap.size, 1, none⟩ (.int .i64 zd)).setCell ⟨w.heap.size, 2, none⟩ (.slice zna znn znc)).setCell ⟨w.heap.size, 3, none⟩ (.slice zka zkn zkc)) = Wz at *
    clear hBC g0 g1 g2 g3 gf gl
    have y0 := hBn.cell (i := 0) rfl
    have y1 := hBn.cell (i := 1) rfl
    have y2 := hBn.cell (i := 2) rfl
    have y3 := hBn.cell (i := 3) rfl
    have yf := hBn.free
    have yl := hBn.lt
    refine bodyPost_ret (v := .tuple #[.agg #[.int .i64 zk, .int .i64 zd, .slice zna znn znc, .slice zka zkn zkc], .bool bq]) (by simp [results, Tryz.results23, go_sem, *]) rfl ?_
    unfold ImplNewPost
    rw [HBQ.out, HMP.out]
    exact ⟨zk, zd, zna, znn, znc, zka, zkn, zkc, rfl, hkz, gmS.mono hxn (fun b _ hb => .inr (by omega))⟩
  · go_wp2_with fail
    refine (hPl _ (by with_reducible (repeat (first | exact Kx.r _ | assumption | refine Kx.a ?_ _ | refine Kx.d ?_ | refine Kx.e ?_ _ | (refine Kx.s ?_ ?_ _; focus (first | (simp; done) | (simp; omega))) | refine Kx.t ?_ (by assumption))))).mono ?_
    clear hPl
    rintro e w5 ⟨cs5, rfl, hk5, hx⟩
    obtain ⟨zk, zd, zna, znn, znc, zka, zkn, zkc, rfl⟩ := hx.four
    have hkC : Stab.Keeps w w5 := by with_reducible (repeat (first | exact Kx.r _ | assumption | refine Kx.a ?_ _ | refine Kx.d ?_ | refine Kx.e ?_ _ | (refine Kx.s ?_ ?_ _; focus (first | (simp; done) | (simp; omega))) | refine Kx.t ?_ (by assumption)))
    have hBC : Blk w5 w.heap.size 25 [.int .i64 0, .int .i64 0, .slice none 0 0, .slice none 0 0] := Blk.keep (by with_reducible (repeat (first | assumption | ((refine Bx.n ⟨?_, ?_⟩) <;> focus (first | rfl | (simp; done) | omega)) | refine Bx.a ?_ _ | refine Bx.d ?_ | refine Bx.e ?_ _ | (refine Bx.p ?_ ?_; focus (first | (simp; done) | (simp; omega) | omega))))) hk5
    clear hkB hk5 hBB
    have g0 := hBC.cell (i := 0) rfl
    have g1 := hBC.cell (i := 1) rfl
    have g2 := hBC.cell (i := 2) rfl
    have g3 := hBC.cell (i := 3) rfl
    have gf := hBC.free
    have gl := hBC.lt
    have hBn := (((hBC.set 0 (.int .i64 zk)).set 1 (.int .i64 zd)).set 2 (.slice zna znn znc)).set 3 (.slice zka zkn zkc)
    simp only [List.set] at hBn
    have hkz : Stab.Keeps w ((((w5.setCell ⟨w.heap.size, 0, none⟩ (.int .i64 zk)).setCell ⟨w.heap.size, 1, none⟩ (.int .i64 zd)).setCell ⟨w.heap.size, 2, none⟩ (.slice zna znn znc)).setCell ⟨w.heap.size, 3, none⟩ (.slice zka zkn zkc)) := by with_reducible (repeat (first | exact Kx.r _ | assumption | refine Kx.a ?_ _ | refine Kx.d ?_ | refine Kx.e ?_ _ | (refine Kx.s ?_ ?_ _; focus (first | (simp; done) | (simp; omega))) | refine Kx.t ?_ (by assumption)))
    have hxn := gmS.kf (gmS.mono (G := fun b => w.heap.size + 1 ≤ b) hx (fun b hbl hb => hb.elim (fun h => h.elim) (fun h => by simp at h; omega))) (w' := ((((w5.setCell ⟨w.heap.size, 0, none⟩ (.int .i64 zk)).setCell ⟨w.heap.size, 1, none⟩ (.int .i64 zd)).setCell ⟨w.heap.size, 2, none⟩ (.slice zna znn znc)).setCell ⟨w.heap.size, 3, none⟩ (.slice zka zkn zkc))) (((((KF.refl _ _).set (fun h => by first | (simp at h; done) | (simp at h; omega))).set (fun h => by first | (simp at h; done) | (simp at h; omega))).set (fun h => by first | (simp at h; done) | (simp at h; omega))).set (fun h => by first | (simp at h; done) | (simp at h; omega)))
    clear hx
    go_wp2_with fail
    generalize ((((w5.setCell ⟨w.heap.size, 0, none⟩ (.int .i64 zk)).setCell ⟨w.heap.size, 1, none⟩ (.int .i64 zd)).setCell ⟨w.heap.size, 2, none⟩ (.slice zna znn znc)).setCell ⟨w.heap.size, 3, none⟩ (.slice zka zkn zkc)) = Wz at *
    clear hBC g0 g1 g2 g3 gf gl
    have y0 := hBn.cell (i := 0) rfl
    have y1 := hBn.cell (i := 1) rfl
    have y2 := hBn.cell (i := 2) rfl
    have y3 := hBn.cell (i := 3) rfl
    have yf := hBn.free
    have yl := hBn.lt
    refine bodyPost_ret (v := .tuple #[.agg #[.int .i64 zk, .int .i64 zd, .slice zna znn znc, .slice zka zkn zkc], .bool bq]) (by simp [results, Tryz.results23, go_sem, *]) rfl ?_
    unfold ImplNewPost
    rw [HBQ.out, HMP.out]
    exact ⟨zk, zd, zna, znn, znc, zka, zkn, zkc, rfl, hkz, gmS.mono hxn (fun b _ hb => .inr (by omega))⟩
end Go.Proofs.YtbakhldjfplbfaaGreat
