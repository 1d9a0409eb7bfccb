/-
  What the hull's law and the other laws both want: small contracts, data that say a geometry. No condition.
-/
import Derived.Test.YtbakhldjfplbfaaGreatXS1
import Derived.Test.YtbakhldjfplbfaaGreatXGrow2
import Derived.Test.YtbakhldjfplbfaaGreatXOpGeo
set_option linter.unusedVariables false
set_option linter.unusedSimpArgs false
namespace Go.Proofs.YtbakhldjfplbfaaGreat
open Go.RowKit Go.Fl Go.Sl Go.Pg Go.Ch Go.Kf
set_option maxRecDepth 100000 in
theorem numMl_ (a : Option Addr) (n cap d : Nat) (w : World) : Calls Tryz.prog 149 #[.agg #[.slice a n cap, .int .u8 d]] w (One w (.int .i64 n)) := by
  go_enter Tryz.func149, Tryz.ntmps149
  go_wp2
  go_ret
  exact ⟨rfl, by with_reducible (repeat first | exact Kx.r _ | assumption | refine Kx.a ?_ _ | refine Kx.d ?_ | refine Kx.e ?_ _ | refine Kx.s (by simp <;> omega) ?_ _ | refine Kx.t ?_ (by assumption))⟩
set_option maxRecDepth 100000 in
theorem numMy_ (a : Option Addr) (n cap d : Nat) (w : World) : Calls Tryz.prog 151 #[.agg #[.slice a n cap, .int .u8 d]] w (One w (.int .i64 n)) := by
  go_enter Tryz.func151, Tryz.ntmps151
  go_wp2
  go_ret
  exact ⟨rfl, by with_reducible (repeat first | exact Kx.r _ | assumption | refine Kx.a ?_ _ | refine Kx.d ?_ | refine Kx.e ?_ _ | refine Kx.s (by simp <;> omega) ?_ _ | refine Kx.t ?_ (by assumption))⟩
set_option maxRecDepth 100000 in
theorem lineN_ (b off n cap d i : Nat) (aq : Option Addr) (nq cq dq : Nat) (w : World) (hi : i < n) (hc : n ≤ cap) (hm : cap ≤ 9223372036854775807) (hb : b < w.heap.size) (h0 : w.cell? ⟨b, off + i * 2, none⟩ = some (.int .u8 dq)) (h1 : w.cell? ⟨b, off + i * 2 + 1, none⟩ = some (.slice aq nq cq)) : Calls Tryz.prog 150 #[.agg #[.slice (some ⟨b, off, none⟩) n cap, .int .u8 d], .int .i64 i] w (One w (.agg #[.int .u8 dq, .slice aq nq cq])) := by
  go_enter Tryz.func150, Tryz.ntmps150
  go_wp2
  refine bodyPost_ret (v := .agg #[.int .u8 dq, .slice aq nq cq]) (by simp [results, Tryz.results150, go_sem, *]) rfl ⟨rfl, ?_⟩
  with_reducible (repeat first | exact Kx.r _ | assumption | refine Kx.a ?_ _ | refine Kx.d ?_ | refine Kx.e ?_ _ | refine Kx.s (by simp <;> omega) ?_ _ | refine Kx.t ?_ (by assumption))
set_option maxRecDepth 100000 in
theorem polygonN_ (b off n cap d i : Nat) (aq : Option Addr) (nq cq dq : Nat) (w : World) (hi : i < n) (hc : n ≤ cap) (hm : cap ≤ 9223372036854775807) (hb : b < w.heap.size) (h0 : w.cell? ⟨b, off + i * 2, none⟩ = some (.slice aq nq cq)) (h1 : w.cell? ⟨b, off + i * 2 + 1, none⟩ = some (.int .u8 dq)) : Calls Tryz.prog 152 #[.agg #[.slice (some ⟨b, off, none⟩) n cap, .int .u8 d], .int .i64 i] w (One w (.agg #[.slice aq nq cq, .int .u8 dq])) := by
  go_enter Tryz.func152, Tryz.ntmps152
  go_wp2
  refine bodyPost_ret (v := .agg #[.slice aq nq cq, .int .u8 dq]) (by simp [results, Tryz.results152, go_sem, *]) rfl ⟨rfl, ?_⟩
  with_reducible (repeat first | exact Kx.r _ | assumption | refine Kx.a ?_ _ | refine Kx.d ?_ | refine Kx.e ?_ _ | refine Kx.s (by simp <;> omega) ?_ _ | refine Kx.t ?_ (by assumption))
def LawPost (w : World) (e : Ending) (w' : World) : Prop := e = .returned (.bool true) ∧ Stab.Keeps w w'
theorem kindN_le (k : Int) : kindN k ≤ 6 := by unfold kindN; split <;> omega
theorem numPts_ (a : Option Addr) (n cap d : Nat) (w : World) : Calls Tryz.prog 166 #[.agg #[.slice a n cap, .int .u8 d]] w (One w (.int .i64 n)) := by
  go_enter Tryz.func166, Tryz.ntmps166
  go_wp2
  go_ret
  exact ⟨rfl, by with_reducible (repeat first | exact Kx.r _ | assumption | refine Kx.a ?_ _ | refine Kx.d ?_ | refine Kx.e ?_ _ | refine Kx.s (by simp <;> omega) ?_ _ | refine Kx.t ?_ (by assumption))⟩
theorem numGc_ (a : Option Addr) (n cap d : Nat) (w : World) : Calls Tryz.prog 161 #[.agg #[.slice a n cap, .int .u8 d]] w (One w (.int .i64 n)) := by
  go_enter Tryz.func161, Tryz.ntmps161
  go_wp2
  go_ret
  exact ⟨rfl, by with_reducible (repeat first | exact Kx.r _ | assumption | refine Kx.a ?_ _ | refine Kx.d ?_ | refine Kx.e ?_ _ | refine Kx.s (by simp <;> omega) ?_ _ | refine Kx.t ?_ (by assumption))⟩
set_option maxRecDepth 100000 in
theorem geometryN_ (b off n cap d i : Nat) (kq : Int) (tq : TypeId) (bq : Nat) (w : World) (hi : i < n) (hc : n ≤ cap) (hm : cap ≤ 9223372036854775807) (hb : b < w.heap.size) (h0 : w.cell? ⟨b, off + i * 2, none⟩ = some (.int .i64 kq)) (h1 : w.cell? ⟨b, off + i * 2 + 1, none⟩ = some (.iface tq (.pointer (some ⟨bq, 0, none⟩)))) : Calls Tryz.prog 162 #[.agg #[.slice (some ⟨b, off, none⟩) n cap, .int .u8 d], .int .i64 i] w (One w (.agg #[.int .i64 kq, .iface tq (.pointer (some ⟨bq, 0, none⟩))])) := by
  go_enter Tryz.func162, Tryz.ntmps162
  go_wp2
  refine bodyPost_ret (v := .agg #[.int .i64 kq, .iface tq (.pointer (some ⟨bq, 0, none⟩))]) (by simp [results, Tryz.results162, go_sem, *]) rfl ⟨rfl, ?_⟩
  with_reducible (repeat first | exact Kx.r _ | assumption | refine Kx.a ?_ _ | refine Kx.d ?_ | refine Kx.e ?_ _ | refine Kx.s (by simp <;> omega) ?_ _ | refine Kx.t ?_ (by assumption))
set_option maxRecDepth 100000 in
theorem pointN_ (b off n cap d i : Nat) (x y z m e : Nat) (f : Bool) (w : World) (hi : i < n) (hc : n ≤ cap) (hm : cap ≤ 9223372036854775807) (hb : b < w.heap.size) (h0 : w.cell? ⟨b, off + i * 6, none⟩ = some (.float .f64 x)) (h1 : w.cell? ⟨b, off + i * 6 + 1, none⟩ = some (.float .f64 y)) (h2 : w.cell? ⟨b, off + i * 6 + 2, none⟩ = some (.float .f64 z)) (h3 : w.cell? ⟨b, off + i * 6 + 3, none⟩ = some (.float .f64 m)) (h4 : w.cell? ⟨b, off + i * 6 + 4, none⟩ = some (.int .u8 e)) (h5 : w.cell? ⟨b, off + i * 6 + 5, none⟩ = some (.bool f)) : Calls Tryz.prog 167 #[.agg #[.slice (some ⟨b, off, none⟩) n cap, .int .u8 d], .int .i64 i] w (One w (.agg #[.float .f64 x, .float .f64 y, .float .f64 z, .float .f64 m, .int .u8 e, .bool f])) := by
  go_enter Tryz.func167, Tryz.ntmps167
  go_wp2
  refine bodyPost_ret (v := .agg #[.float .f64 x, .float .f64 y, .float .f64 z, .float .f64 m, .int .u8 e, .bool f]) (by simp [results, Tryz.results167, go_sem, *]) rfl ⟨rfl, ?_⟩
  with_reducible (repeat first | exact Kx.r _ | assumption | refine Kx.a ?_ _ | refine Kx.d ?_ | refine Kx.e ?_ _ | refine Kx.s (by simp <;> omega) ?_ _ | refine Kx.t ?_ (by assumption))
/-- plain data that operation idx of a region makes, and the slice of it that the next operation makes -/
structure GmF (B idx : Nat) (p : Pg) (k : Nat) (v : Value) (w : World) : Prop where
  f5 : k = idx → ∃ (zk zd : Nat) (na : Option Addr) (nn nc : Nat) (ka : Option Addr) (kn kc : Nat), v = .agg #[.int .i64 zk, .int .i64 zd, .slice na nn nc, .slice ka kn kc] ∧ GmR w (fun b => B ≤ b) [.int .i64 zk, .int .i64 zd, .slice na nn nc, .slice ka kn kc] p
  f6 : k = idx + 1 → ∃ (g : Nat) (zk zd : Nat) (na : Option Addr) (nn nc : Nat) (ka : Option Addr) (kn kc : Nat), v = .slice (some ⟨g, 0, none⟩) 1 1 ∧ B ≤ g ∧ Blk w g 25 [.int .i64 zk, .int .i64 zd, .slice na nn nc, .slice ka kn kc] ∧ GmR w (fun b => B ≤ b ∧ b < w.heap.size) [.int .i64 zk, .int .i64 zd, .slice na nn nc, .slice ka kn kc] p
theorem gmPre (B idx : Nat) (p : Pg) : Stab.Pre Stab.Keeps (GmF B idx p) :=
  ⟨Stab.Keeps.refl, Stab.Keeps.trans, fun k v w w' hk hF => ⟨fun e => by
    obtain ⟨a1, a2, a3, a4, a5, a6, a7, a8, h1, h2⟩ := hF.f5 e
    exact ⟨a1, a2, a3, a4, a5, a6, a7, a8, h1, gmS.kf h2 (KF.keeps hk)⟩, fun e => by
    obtain ⟨g, a1, a2, a3, a4, a5, a6, a7, a8, h1, h2, h3, h4⟩ := hF.f6 e
    exact ⟨g, a1, a2, a3, a4, a5, a6, a7, a8, h1, h2, h3.keep hk, gmS.mono (gmS.kf h4 (KF.keeps hk)) (fun b _ hb => ⟨hb.1, Nat.lt_of_lt_of_le hb.2 hk.size⟩)⟩⟩⟩
/-- plain data that say a geometry -/
inductive GT.Is : GT → Pg → Prop where
  | mk (h : Gm) (nums : List Nat) (kids : List GT) (k d : Nat) (ps : List Pl) (ks : List Pg) (h1 : h.kind = k) (h2 : h.dim = d) (h3 : nums = numsOf d ps) (h4 : kids.length = ks.length) (h5 : ∀ i (a : i < kids.length) (b : i < ks.length), GT.Is kids[i] ks[i]) : GT.Is (.node h nums kids) (.node k d ps ks)
theorem GmR.gt {w : World} {F : Nat → Prop} {cs : List Value} {p : Pg} (h : GmR w F cs p) : ∃ t : GT, cs = t.cells ∧ t.At w ∧ t.Is p := by
  induction h with
  | mk k d ps kids na ka nn nc kn kc css hn h1 lc lx each sz is ih =>
    obtain ⟨q, hq1, hq2⟩ := choose_list (p := fun (i : Nat) (t : GT) => ∀ (h1 : i < css.length) (h2 : i < kids.length), css[i] = t.cells ∧ t.At w ∧ t.Is kids[i]) (List.range kn) (fun i hi => by
      have hi' : i < kn := by simpa using hi
      obtain ⟨t, ht⟩ := ih i (by omega) (by omega)
      exact ⟨t, fun _ _ => ht⟩)
    simp at hq1
    have hcs : css = q.map GT.cells := by
      refine List.ext_getElem (by simp; omega) fun i a b => ?_
      rw [List.getElem_map]
      have h2 := hq2 i (by simp; omega) (by simp at b; omega)
      simp only [List.getElem_range] at h2
      exact (h2 a (by omega)).1
    refine ⟨.node ⟨k, d, na, nn, nc, ka, kn, kc⟩ (numsOf d ps) q, rfl, .mk _ _ _ hn.symm hq1 h1.sz (by rw [List.flatMap_def, ← hcs]; exact sz.sz) (fun t ht => ?_), .mk _ _ _ _ _ _ _ rfl rfl rfl (by omega) (fun i a b => ?_)⟩
    · obtain ⟨j, hj, rfl⟩ := List.getElem_of_mem ht
      have h2 := hq2 j (by simp; omega) hj
      simp only [List.getElem_range] at h2
      exact (h2 (by omega) (by omega)).2.1
    · have h2 := hq2 i (by simp; omega) a
      simp only [List.getElem_range] at h2
      exact (h2 (by omega) (by omega)).2.2
end Go.Proofs.YtbakhldjfplbfaaGreat
