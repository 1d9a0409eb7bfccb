/-
  FnLineSumsCentroid: impl.Centroid of a line, laws.xyOf, close20. No condition.
  FnLineSumsCentroid: laws.xyOf of a point. No condition.
-/
import Derived.Test.YtinbkonmlgediaaGreatXEa
import Derived.Test.YtinbkonmlgediaaGreatXHc
import Derived.Test.YtinbkonmlgediaaGreatXR1
import Derived.Test.YtinbkonmlgediaaGreatXW9
set_option linter.unusedVariables false
set_option linter.unusedSimpArgs false
namespace Go.Proofs.YtinbkonmlgediaaGreat
open Go.RowKit Go.Fl Go.Sl Go.Pg Go.Ch Go.Kf Go.Fr
theorem geo_ls {w : World} {F : Nat → Prop} {cs : List Value} {ps : List Pl} (h : GeoR w F cs (.node 2 0 ps [])) : ∃ b a n cap, cs = [.int .i64 2, .iface 125 (.pointer (some ⟨b, 0, none⟩))] ∧ Blk w b 51 [.int .u8 0, .slice a n cap] ∧ SeqAt w F 0 ps a n cap := by
  generalize hp : (Pg.node 2 0 ps []) = p at h
  cases h with
  | ls b cs p hF hB h => obtain ⟨d, ps', a, n, cap, rfl, he, hs⟩ := h; rw [← hp] at he; cases he; exact ⟨b, a, n, cap, rfl, hB, hs⟩
  | pt b cs p hF hB h => obtain ⟨d, l, _, he, _⟩ := h; rw [← hp] at he; cases he
  | py b cs p hF hB h => obtain ⟨d, a, n, cap, css, kids, _, he, _⟩ := h; rw [← hp] at he; cases he
  | mp b cs p hF hB h => obtain ⟨d, a, n, cap, css, kids, _, he, _⟩ := h; rw [← hp] at he; cases he
  | ml b cs p hF hB h => obtain ⟨d, a, n, cap, css, kids, _, he, _⟩ := h; rw [← hp] at he; cases he
  | my b cs p hF hB h => obtain ⟨d, a, n, cap, css, kids, _, he, _⟩ := h; rw [← hp] at he; cases he
  | gc => cases hp
set_option maxRecDepth 100000 in
set_option maxHeartbeats 1000000 in
theorem implCen_ {F : Nat → Prop} (cs : List Value) (pts : List (Int × Int)) (m : Nat) (st : Nat → Nat × Nat × Nat) (X Y T u x y : Nat) (w : World) (h : GmR w F cs (.node 2 0 (pts.map ptP) [])) (hn : PgNum 1000 (.node 2 0 (pts.map ptP) [])) (hq : ∀ q ∈ pts.map ptP, q.norm 0) (hm : pts.length = m + 1) (hp : ∀ p ∈ pts, In64 p) (hR : RunC pts st) (hst : st m = (X, Y, T))
    (h0 : (FloatKind.f64.format.order T 0 == some .eq) = false) (hu : floatBits .quo .f64 4607182418800017408 T = some u) (hx : floatBits .mul .f64 X u = some x) (hy : floatBits .mul .f64 Y u = some y) :
    Calls Tryz.prog 9 #[.agg cs.toArray] w (RetR w no GmR (.node 1 0 [⟨x, y, 0, 0⟩] [])) := by
  obtain ⟨q, rfl, hA, hI⟩ := h.gt
  have e := newP_is (.ls 0 (pts.map ptP) (by omega) hq) q hI
  have hM := fun w' (hk : Stab.Keeps w w') => makeGeo_ q w' (hA.keep hk) (small_is hn q hI)
  rw [e] at hM
  clear hA hI e hn hq h
  obtain ⟨⟨kind, dim, na, nn, nc, ka, kn, kc⟩, nums, kids⟩ := q
  simp only [GT.hd, Gm.val] at hM
  show Calls _ _ #[.agg #[.int .i64 kind, .int .i64 dim, .slice na nn nc, .slice ka kn kc]] _ _
  go_enter Tryz.func9, Tryz.ntmps9
  go_wp2_with fail
  refine (hM _ (by with_reducible (repeat first | exact Kx.r _ | assumption | refine Kx.a ?_ _ | refine Kx.d ?_ | refine Kx.e ?_ _ | refine Kx.s (by simp <;> omega) ?_ _ | refine Kx.t ?_ (by assumption)))).mono ?_
  clear hM
  rintro e w2 ⟨cs, rfl, hk2, hg⟩
  obtain ⟨b, a, n, cap, rfl, hB, hs⟩ := geo_ls hg
  have hkw2 : Stab.Keeps w w2 := by with_reducible (repeat first | exact Kx.r _ | assumption | refine Kx.a ?_ _ | refine Kx.d ?_ | refine Kx.e ?_ _ | refine Kx.s (by simp <;> omega) ?_ _ | refine Kx.t ?_ (by assumption))
  have hB1 := (show Blk _ (w.heap.size + 1) 35 [.int .i64 0, .int .i64 0, .slice none 0 0, .slice none 0 0] by with_reducible (repeat first | assumption | (refine Bx.n ⟨?_, ?_⟩ <;> focus (first | rfl | (simp; done) | omega)) | refine Bx.a ?_ _ | refine Bx.d ?_ | refine Bx.e ?_ _ | refine Bx.p (by first | omega | simp <;> omega) ?_)).keep hk2
  clear hk2 hg
  go_wp2_with fail
  refine (geoCen_ b pts a n cap m st X Y T u x y _ hB hs hm hp hR hst h0 hu hx hy).mono ?_
  clear hB hs hm hp hR hst h0 hu hx hy
  rintro e w3 ⟨rfl, hk3⟩
  replace hB1 := hB1.keep hk3
  have hkw3 := Stab.Keeps.trans hkw2 hk3
  clear hk3 hkw2
  go_wp2_with fail
  refine (plainPoint_ (ptC 0 [⟨x, y, 0, 0⟩]) (.node 1 0 [⟨x, y, 0, 0⟩] []) w3 (F := no) ⟨0, _, rfl, rfl, by omega, by simp, fun q hq => by simp at hq; subst hq; exact ⟨fun _ => rfl, fun _ => rfl⟩⟩).mono ?_
  rintro e w4 ⟨zcs, rfl, hk4, hx⟩
  obtain ⟨zk, zd, zna, znn, znc, zka, zkn, zkc, rfl⟩ := hx.four
  have hB := hB1.keep hk4
  have hkw : Stab.Keeps w w4 := Stab.Keeps.trans hkw3 hk4
  have hb3 := hB1.lt
  clear hk4 hkw3 hB1
  have g0 := hB.cell (i := 0) rfl
  have g1 := hB.cell (i := 1) rfl
  have g2 := hB.cell (i := 2) rfl
  have g3 := hB.cell (i := 3) rfl
  have gf := hB.free
  have gl := hB.lt
  have hkz : Stab.Keeps w ((((w4.setCell ⟨w.heap.size + 1, 0, none⟩ (.int .i64 zk)).setCell ⟨w.heap.size + 1, 1, none⟩ (.int .i64 zd)).setCell ⟨w.heap.size + 1, 2, none⟩ (.slice zna znn znc)).setCell ⟨w.heap.size + 1, 3, none⟩ (.slice zka zkn zkc)) := by with_reducible (repeat first | exact Kx.r _ | assumption | refine Kx.a ?_ _ | refine Kx.d ?_ | refine Kx.e ?_ _ | refine Kx.s (by simp <;> omega) ?_ _ | refine Kx.t ?_ (by assumption))
  have hxz := gmS.kf (w' := (((w4.setCell ⟨w.heap.size + 1, 0, none⟩ (.int .i64 zk)).setCell ⟨w.heap.size + 1, 1, none⟩ (.int .i64 zd)).setCell ⟨w.heap.size + 1, 2, none⟩ (.slice zna znn znc)).setCell ⟨w.heap.size + 1, 3, none⟩ (.slice zka zkn zkc)) hx (((((KF.refl _ _).set (fun h => by simp [orNew, no] at h; omega)).set (fun h => by simp [orNew, no] at h; omega)).set (fun h => by simp [orNew, no] at h; omega)).set (fun h => by simp [orNew, no] at h; omega))
  clear hx hB
  go_wp2_with fail
  refine bodyPost_ret (v := .agg #[.int .i64 zk, .int .i64 zd, .slice zna znn znc, .slice zka zkn zkc]) (by simp [results, Tryz.results9, go_sem, *]) rfl ⟨[.int .i64 zk, .int .i64 zd, .slice zna znn znc, .slice zka zkn zkc], rfl, hkz, ?_⟩
  exact gmS.mono hxz (fun b _ hb => by simp [orNew, no] at hb; exact .inr (by omega))
/-- near by 2^-20 -/
theorem close20_ (a b d : Nat) (hd : floatBits .sub .f64 a b = some d) (hl : d < 18446744073709551616) (hc : FloatKind.f64.format.order (d % 9223372036854775808) 4517110426252607488 = some .lt) (w : World) : Calls Tryz.prog 10 #[.float .f64 a, .float .f64 b] w (One w (.bool true)) := by
  have hq := fun w => opV_some hd w
  have HA := Lib.hid (fun w' => mabs_ d hl w')
  clear hd
  go_enter Tryz.func10, Tryz.ntmps10
  go_wp2_with fail
  refine (HA.out _).mono ?_
  rintro e w2 ⟨rfl, hk2⟩
  go_wp2_with fail
  go_ret
  exact ⟨rfl, by with_reducible (repeat first | exact Kx.r _ | assumption | refine Kx.a ?_ _ | refine Kx.d ?_ | refine Kx.e ?_ _ | refine Kx.s (by simp <;> omega) ?_ _ | refine Kx.t ?_ (by assumption))⟩
end Go.Proofs.YtinbkonmlgediaaGreat
set_option linter.unusedVariables false
set_option linter.unusedSimpArgs false
namespace Go.Proofs.YtinbkonmlgediaaGreat
open Go.RowKit Go.Fl Go.Sl Go.Pg Go.Ch Go.Kf Go.Fr
set_option maxRecDepth 100000 in
set_option maxHeartbeats 1000000 in
theorem xyOf_ {F : Nat → Prop} (cs : List Value) (x y : Nat) (w : World) (h : GmR w F cs (.node 1 0 [⟨x, y, 0, 0⟩] [])) : Calls Tryz.prog 8 #[.agg cs.toArray] w (One w (.tuple #[.float .f64 x, .float .f64 y, .bool true])) := by
  have hN : encN (numsOf 0 [⟨x, y, 0, 0⟩]) = [.float .f64 x, .float .f64 y] := rfl
  have hl : (numsOf 0 [⟨x, y, 0, 0⟩]).length = 2 := rfl
  cases h with
  | mk _ _ _ _ na ka nn nc kn kc css hn h1 lc lx each sz is =>
    rw [hl] at hn
    subst hn
    rw [hN] at h1
    have hz := h1.sz
    have hz1 := hz.le
    have hz2 := hz.max
    unfold maxLen at hz2
    obtain ⟨b, off, rfl, hb, hc0⟩ := hz.elem (i := 0) (by omega)
    obtain ⟨b', off', ha, _, hc1⟩ := hz.elem (i := 1) (by omega)
    cases ha
    have c0 := hc0 0 (.float .f64 x) (by omega) rfl
    have c1 := hc1 0 (.float .f64 y) (by omega) rfl
    simp only [Nat.zero_mul, Nat.add_zero, Nat.one_mul] at c0 c1
    clear hc0 hc1 h1 hz is sz each lc lx hN hl
    show Calls _ _ #[.agg #[.int .i64 (1 : Nat), .int .i64 (0 : Nat), .slice (some ⟨b, off, none⟩) 2 nc, .slice ka kn kc]] _ _
    go_enter Tryz.func8, Tryz.ntmps8
    go_upto_region 3 with (fail)
    go_quiet (fail)
    go_wp2_with fail
    exact bodyPost_ret (v := .tuple #[.float .f64 x, .float .f64 y, .bool true]) (by simp [results, Tryz.results8, go_sem]) rfl ⟨rfl, by with_reducible (repeat first | exact Kx.r _ | assumption | refine Kx.a ?_ _ | refine Kx.d ?_ | refine Kx.e ?_ _ | refine Kx.s (by simp <;> omega) ?_ _ | refine Kx.t ?_ (by assumption))⟩
end Go.Proofs.YtinbkonmlgediaaGreat
