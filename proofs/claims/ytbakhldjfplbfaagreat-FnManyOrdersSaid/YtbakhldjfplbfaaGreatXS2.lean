/-
  The reference's numbers of places; geometries brought to another type by the reference. No condition.
-/
import Derived.Test.YtbakhldjfplbfaaGreatXS1
set_option linter.unusedVariables false
set_option linter.unusedSimpArgs false
namespace Go.Proofs.YtbakhldjfplbfaaGreat
open Go.RowKit Go.Fl Go.Sl Go.Pg Go.Ch Go.Kf
theorem blk_grown_own {w w' : World} {t : Nat} {T e : TypeId} {vs : List Value} {base k n : Nat} {v : Value} {xs : List Value} (hB : Blk w t T vs) (ho : w.ownsRow base e k v n xs) (hne : T ≠ e) (hg : w.grownBy w' v.ownBlock) : Blk w' t T vs := by
  refine hB.grown hg fun h => ?_
  rcases ho.2 with ⟨rfl, _⟩ | ⟨g, cap, cur, rfl, _, hg2, _⟩
  · cases h
  · simp only [Value.ownBlock, Option.some.injEq] at h
    subst h
    unfold Blk at hB
    rw [hB] at hg2
    injection hg2 with hg2
    injection hg2 with _ h2
    exact hne h2
theorem encN_append (a b : List Nat) : encN (a ++ b) = encN a ++ encN b := by simp [encN]
set_option maxRecDepth 100000 in
set_option maxHeartbeats 4000000 in
theorem nums0_ {F : Nat → Prop} (ps : List Pl) (hsm : ps.length ≤ 250000) (a : Option Addr) (n cap : Nat) (css : List (List Value)) (w : World) (h : Go.Kf.Rows w F PlR a n cap 4 css ps) :
    Calls Tryz.prog 91 #[.slice a n cap, .int .i64 0] w (New w (ps.length * 2) 1 (encN (numsOf 0 ps))) := by
  obtain ⟨i0, hi, hz0, hz1, hz2⟩ := info_parts infoFloat
  have hle := h.sz.sz.le
  have hmx := h.sz.sz.max
  unfold maxLen at hmx
  have HNN := Lib.hid h.lx
  have q1 := band01
  have q2 := band02
  have hnn : n ≤ 250000 := by have := h.lx; omega
  go_enter Tryz.func91, Tryz.ntmps91
  go_wp2_with fail
  go_loopw [5, 10] (fun v iv wr => ∃ (k m : Nat) (al : Option Addr) (c : Nat), k ≤ n ∧ m = k * 2 ∧ iv = .int .i64 k ∧ v = .slice al m c ∧ Stab.Keeps w wr ∧ wr.ownsRow w.heap.size 45 1 (.slice al m c) m (encN (numsOf 0 (ps.take k)))) (fun _ iv _ => n - (intOf iv).toNat)
  case atStart => exact ⟨0, 0, none, 0, by omega, rfl, rfl, rfl, Stab.Keeps.refl _, by simpa [numsOf, encN] using World.ownsRow_nil _ _ _ _⟩
  case round =>
    obtain ⟨k, m, al, c, k2, hm, rfl, rfl, hk, hown⟩ := hrel
    have HM := Lib.hid hm
    have hm6 : m ≤ 1000000 := by omega
    by_cases hlt : k < n
    · obtain ⟨b, off, cc, ha, hb, _, _, _, hc, hx⟩ := (h.kf (KF.keeps hk) (fun _ _ h => h)).elem hlt
      have hkp : k < ps.length := by have := HNN.out; omega
      have htk : ps.take (k + 1) = ps.take k ++ [ps[k]] := List.take_succ_eq_append_getElem hkp
      have HTK := Lib.hid htk
      generalize ps[k] = pl at *
      obtain ⟨px, py, pz, pm⟩ := pl
      unfold PlR at hx
      simp only at hx
      subst hx ha
      have e0 : wr.cell? ⟨b, off + k * 4, none⟩ = some (.float .f64 px) := by have := hc 0 _ rfl; simpa using this
      have e1 : wr.cell? ⟨b, off + k * 4 + 1, none⟩ = some (.float .f64 py) := hc 1 _ rfl
      have e2 : wr.cell? ⟨b, off + k * 4 + 2, none⟩ = some (.float .f64 pz) := hc 2 _ rfl
      have e3 : wr.cell? ⟨b, off + k * 4 + 3, none⟩ = some (.float .f64 pm) := hc 3 _ rfl
      clear hm hc htk
      go_upto_region 5 with (fail)
      have hBt : Blk (wr.alloc (.cells #[.float .f64 px, .float .f64 py, .float .f64 pz, .float .f64 pm] 212)) wr.heap.size 212 [.float .f64 px, .float .f64 py, .float .f64 pz, .float .f64 pm] := by with_reducible (repeat first | assumption | (refine Bx.n ⟨?_, ?_⟩ <;> focus (first | rfl | (simp; done) | omega)) | refine Bx.a ?_ _ | refine Bx.d ?_ | refine Bx.e ?_ _ | refine Bx.p (by first | omega | simp <;> omega) ?_)
      have hown0 := hown.alloc (.cells #[.float .f64 px, .float .f64 py, .float .f64 pz, .float .f64 pm] 212)
      have hk0 : Stab.Keeps w (wr.alloc (.cells #[.float .f64 px, .float .f64 py, .float .f64 pz, .float .f64 pm] 212)) := by with_reducible (repeat first | exact Kx.r _ | assumption | refine Kx.a ?_ _ | refine Kx.d ?_ | refine Kx.e ?_ _ | refine Kx.s (by simp <;> omega) ?_ _ | refine Kx.t ?_ (by assumption))
      generalize (wr.alloc (.cells #[.float .f64 px, .float .f64 py, .float .f64 pz, .float .f64 pm] 212)) = W0 at hBt hown0 hk0 ⊢
      clear e0 e1 e2 e3 hown hk
      have t0 := hBt.cell (i := 0) rfl
      have t1 := hBt.cell (i := 1) rfl
      have t2 := hBt.cell (i := 2) rfl
      have t3 := hBt.cell (i := 3) rfl
      have tf := hBt.free
      have tl := hBt.lt
      have hown1 := hown0.alloc (.cells #[.float .f64 px, .float .f64 py] 45)
      go_wp2_with (at_builtin; (refine Sl.append_own (w0 := w) rfl _ _ 22 rfl w.heap.size 45 i0 _ 1 8 Tryz.underlying22 hi hz0 hz1 hz2 rfl (by decide) _ m _ rfl hown1 ⟨W0.heap.size, 0, none⟩ 2 2 [.float .f64 px, .float .f64 py] rfl rfl ?a1 ?a2 ?a3 ?a4 ?a5 ?a6 ?_))
      case a1 => exact new_cells _ _ _ _ (by simp)
      case a2 => intro u hu; simp at hu; rcases hu with rfl | rfl <;> rfl
      case a3 => unfold maxLen; omega
      case a4 => omega
      case a5 => simp; have := hk0.size; omega
      case a6 => exact Below.alloc hk0 hk0.size _
      intro al1 c1 W1 hownA hkA hszA hgrA
      have hBtA := blk_grown_own (hBt.alloc _) hown1 (by decide) hgrA
      clear t0 t1 t2 t3 tf tl hBt hown0 hown1 hgrA hk0 hszA
      have hxs0 : encN (numsOf 0 (ps.take k)) ++ [.float .f64 px, .float .f64 py] = encN (numsOf 0 (ps.take k) ++ [px, py]) := by rw [encN_append]; rfl
      rw [hxs0] at hownA
      clear hxs0
      have hxs : numsOf 0 (ps.take k) ++ [px, py] = numsOf 0 (ps.take (k + 1)) := by
        rw [HTK.out, numsOf_append, numsOf_one]
        rfl
      rw [hxs] at hownA
      go_wp2_with fail
      go_roundw
      case rel => exact ⟨k + 1, m + 2, al1, c1, by omega, by have := HM.out; omega, by go_num, rfl, hkA, hownA⟩
      case measure => simp [intOf]; omega
    · obtain rfl : n = k := by omega
      clear hm
      rw [List.take_of_length_le (by rw [HNN.out]; exact Nat.le_refl _)] at hown
      have hmw : m = ps.length * 2 := by rw [HM.out, HNN.out]
      obtain ⟨al2, c2, he, hs, hn0, hge⟩ := of_owns hown
      cases he
      have HMW := Lib.hid hmw
      clear hmw
      go_wp2_with fail
      go_ret
      refine ⟨al, c, by rw [← HMW.out]; rfl, hk, by rw [← HMW.out]; exact hs, hge⟩
set_option maxRecDepth 100000 in
set_option maxHeartbeats 4000000 in
theorem nums1_ {F : Nat → Prop} (ps : List Pl) (hsm : ps.length ≤ 250000) (a : Option Addr) (n cap : Nat) (css : List (List Value)) (w : World) (h : Go.Kf.Rows w F PlR a n cap 4 css ps) :
    Calls Tryz.prog 91 #[.slice a n cap, .int .i64 1] w (New w (ps.length * 3) 1 (encN (numsOf 1 ps))) := by
  obtain ⟨i0, hi, hz0, hz1, hz2⟩ := info_parts infoFloat
  have hle := h.sz.sz.le
  have hmx := h.sz.sz.max
  unfold maxLen at hmx
  have HNN := Lib.hid h.lx
  have q1 := band11
  have q2 := band12
  have hnn : n ≤ 250000 := by have := h.lx; omega
  go_enter Tryz.func91, Tryz.ntmps91
  go_wp2_with fail
  go_loopw [5, 10] (fun v iv wr => ∃ (k m : Nat) (al : Option Addr) (c : Nat), k ≤ n ∧ m = k * 3 ∧ iv = .int .i64 k ∧ v = .slice al m c ∧ Stab.Keeps w wr ∧ wr.ownsRow w.heap.size 45 1 (.slice al m c) m (encN (numsOf 1 (ps.take k)))) (fun _ iv _ => n - (intOf iv).toNat)
  case atStart => exact ⟨0, 0, none, 0, by omega, rfl, rfl, rfl, Stab.Keeps.refl _, by simpa [numsOf, encN] using World.ownsRow_nil _ _ _ _⟩
  case round =>
    obtain ⟨k, m, al, c, k2, hm, rfl, rfl, hk, hown⟩ := hrel
    have HM := Lib.hid hm
    have hm6 : m ≤ 1000000 := by omega
    by_cases hlt : k < n
    · obtain ⟨b, off, cc, ha, hb, _, _, _, hc, hx⟩ := (h.kf (KF.keeps hk) (fun _ _ h => h)).elem hlt
      have hkp : k < ps.length := by have := HNN.out; omega
      have htk : ps.take (k + 1) = ps.take k ++ [ps[k]] := List.take_succ_eq_append_getElem hkp
      have HTK := Lib.hid htk
      generalize ps[k] = pl at *
      obtain ⟨px, py, pz, pm⟩ := pl
      unfold PlR at hx
      simp only at hx
      subst hx ha
      have e0 : wr.cell? ⟨b, off + k * 4, none⟩ = some (.float .f64 px) := by have := hc 0 _ rfl; simpa using this
      have e1 : wr.cell? ⟨b, off + k * 4 + 1, none⟩ = some (.float .f64 py) := hc 1 _ rfl
      have e2 : wr.cell? ⟨b, off + k * 4 + 2, none⟩ = some (.float .f64 pz) := hc 2 _ rfl
      have e3 : wr.cell? ⟨b, off + k * 4 + 3, none⟩ = some (.float .f64 pm) := hc 3 _ rfl
      clear hm hc htk
      go_upto_region 5 with (fail)
      have hBt : Blk (wr.alloc (.cells #[.float .f64 px, .float .f64 py, .float .f64 pz, .float .f64 pm] 212)) wr.heap.size 212 [.float .f64 px, .float .f64 py, .float .f64 pz, .float .f64 pm] := by with_reducible (repeat first | assumption | (refine Bx.n ⟨?_, ?_⟩ <;> focus (first | rfl | (simp; done) | omega)) | refine Bx.a ?_ _ | refine Bx.d ?_ | refine Bx.e ?_ _ | refine Bx.p (by first | omega | simp <;> omega) ?_)
      have hown0 := hown.alloc (.cells #[.float .f64 px, .float .f64 py, .float .f64 pz, .float .f64 pm] 212)
      have hk0 : Stab.Keeps w (wr.alloc (.cells #[.float .f64 px, .float .f64 py, .float .f64 pz, .float .f64 pm] 212)) := by with_reducible (repeat first | exact Kx.r _ | assumption | refine Kx.a ?_ _ | refine Kx.d ?_ | refine Kx.e ?_ _ | refine Kx.s (by simp <;> omega) ?_ _ | refine Kx.t ?_ (by assumption))
      generalize (wr.alloc (.cells #[.float .f64 px, .float .f64 py, .float .f64 pz, .float .f64 pm] 212)) = W0 at hBt hown0 hk0 ⊢
      clear e0 e1 e2 e3 hown hk
      have t0 := hBt.cell (i := 0) rfl
      have t1 := hBt.cell (i := 1) rfl
      have t2 := hBt.cell (i := 2) rfl
      have t3 := hBt.cell (i := 3) rfl
      have tf := hBt.free
      have tl := hBt.lt
      have hown1 := hown0.alloc (.cells #[.float .f64 px, .float .f64 py] 45)
      go_wp2_with (at_builtin; (refine Sl.append_own (w0 := w) rfl _ _ 22 rfl w.heap.size 45 i0 _ 1 8 Tryz.underlying22 hi hz0 hz1 hz2 rfl (by decide) _ m _ rfl hown1 ⟨W0.heap.size, 0, none⟩ 2 2 [.float .f64 px, .float .f64 py] rfl rfl ?a1 ?a2 ?a3 ?a4 ?a5 ?a6 ?_))
      case a1 => exact new_cells _ _ _ _ (by simp)
      case a2 => intro u hu; simp at hu; rcases hu with rfl | rfl <;> rfl
      case a3 => unfold maxLen; omega
      case a4 => omega
      case a5 => simp; have := hk0.size; omega
      case a6 => exact Below.alloc hk0 hk0.size _
      intro al1 c1 W1 hownA hkA hszA hgrA
      have hBtA := blk_grown_own (hBt.alloc _) hown1 (by decide) hgrA
      clear t0 t1 t2 t3 tf tl hBt hown0 hown1 hgrA hk0 hszA
      have hxs0 : encN (numsOf 1 (ps.take k)) ++ [.float .f64 px, .float .f64 py] = encN (numsOf 1 (ps.take k) ++ [px, py]) := by rw [encN_append]; rfl
      rw [hxs0] at hownA
      clear hxs0
      have t0 := hBtA.cell (i := 0) rfl
      have t1 := hBtA.cell (i := 1) rfl
      have t2 := hBtA.cell (i := 2) rfl
      have t3 := hBtA.cell (i := 3) rfl
      have tf := hBtA.free
      have tl := hBtA.lt
      have hownB := hownA.alloc (.cells #[.float .f64 pz] 45)
      have hszw := hkA.size
      go_wp2_with (at_builtin; (refine Sl.append_own (w0 := w) rfl _ _ 22 rfl w.heap.size 45 i0 _ 1 8 Tryz.underlying22 hi hz0 hz1 hz2 rfl (by decide) _ (m + 2) _ rfl hownB ⟨W1.heap.size, 0, none⟩ 1 1 [.float .f64 pz] rfl rfl ?b1 ?b2 ?b3 ?b4 ?b5 ?b6 ?_))
      case b1 => exact new_cells _ _ _ _ (by simp)
      case b2 => intro u hu; simp at hu; subst hu; rfl
      case b3 => unfold maxLen; omega
      case b4 => omega
      case b5 => simp; omega
      case b6 => exact Below.alloc hkA hkA.size _
      intro al2 c2 W2 hownC hkC hszC hgrC
      have hBtC := blk_grown_own (hBtA.alloc _) hownB (by decide) hgrC
      clear t0 t1 t2 t3 tf tl hBtA hownA hownB hgrC hkA hszC hszw
      obtain ⟨W1, rfl⟩ : ∃ W1 : World, W1 = W2 := ⟨W2, rfl⟩
      obtain ⟨al1, rfl⟩ : ∃ al1 : Option Addr, al1 = al2 := ⟨al2, rfl⟩
      obtain ⟨c1, rfl⟩ : ∃ c1 : Nat, c1 = c2 := ⟨c2, rfl⟩
      have hxs1 : encN (numsOf 1 (ps.take k) ++ [px, py]) ++ [.float .f64 pz] = encN (numsOf 1 (ps.take k) ++ [px, py, pz]) := by simp [encN]
      rw [hxs1] at hownC
      have hownA := hownC
      have hBtA := hBtC
      have hkA := hkC
      clear hownC hBtC hkC hxs1
      have hxs : numsOf 1 (ps.take k) ++ [px, py, pz] = numsOf 1 (ps.take (k + 1)) := by
        rw [HTK.out, numsOf_append, numsOf_one]
        rfl
      rw [hxs] at hownA
      go_wp2_with fail
      go_roundw
      case rel => exact ⟨k + 1, m + 3, al1, c1, by omega, by have := HM.out; omega, by go_num, rfl, hkA, hownA⟩
      case measure => simp [intOf]; omega
    · obtain rfl : n = k := by omega
      clear hm
      rw [List.take_of_length_le (by rw [HNN.out]; exact Nat.le_refl _)] at hown
      have hmw : m = ps.length * 3 := by rw [HM.out, HNN.out]
      obtain ⟨al2, c2, he, hs, hn0, hge⟩ := of_owns hown
      cases he
      have HMW := Lib.hid hmw
      clear hmw
      go_wp2_with fail
      go_ret
      refine ⟨al, c, by rw [← HMW.out]; rfl, hk, by rw [← HMW.out]; exact hs, hge⟩
set_option maxRecDepth 100000 in
set_option maxHeartbeats 4000000 in
theorem nums2_ {F : Nat → Prop} (ps : List Pl) (hsm : ps.length ≤ 250000) (a : Option Addr) (n cap : Nat) (css : List (List Value)) (w : World) (h : Go.Kf.Rows w F PlR a n cap 4 css ps) :
    Calls Tryz.prog 91 #[.slice a n cap, .int .i64 2] w (New w (ps.length * 3) 1 (encN (numsOf 2 ps))) := by
  obtain ⟨i0, hi, hz0, hz1, hz2⟩ := info_parts infoFloat
  have hle := h.sz.sz.le
  have hmx := h.sz.sz.max
  unfold maxLen at hmx
  have HNN := Lib.hid h.lx
  have q1 := band21
  have q2 := band22
  have hnn : n ≤ 250000 := by have := h.lx; omega
  go_enter Tryz.func91, Tryz.ntmps91
  go_wp2_with fail
  go_loopw [5, 10] (fun v iv wr => ∃ (k m : Nat) (al : Option Addr) (c : Nat), k ≤ n ∧ m = k * 3 ∧ iv = .int .i64 k ∧ v = .slice al m c ∧ Stab.Keeps w wr ∧ wr.ownsRow w.heap.size 45 1 (.slice al m c) m (encN (numsOf 2 (ps.take k)))) (fun _ iv _ => n - (intOf iv).toNat)
  case atStart => exact ⟨0, 0, none, 0, by omega, rfl, rfl, rfl, Stab.Keeps.refl _, by simpa [numsOf, encN] using World.ownsRow_nil _ _ _ _⟩
  case round =>
    obtain ⟨k, m, al, c, k2, hm, rfl, rfl, hk, hown⟩ := hrel
    have HM := Lib.hid hm
    have hm6 : m ≤ 1000000 := by omega
    by_cases hlt : k < n
    · obtain ⟨b, off, cc, ha, hb, _, _, _, hc, hx⟩ := (h.kf (KF.keeps hk) (fun _ _ h => h)).elem hlt
      have hkp : k < ps.length := by have := HNN.out; omega
      have htk : ps.take (k + 1) = ps.take k ++ [ps[k]] := List.take_succ_eq_append_getElem hkp
      have HTK := Lib.hid htk
      generalize ps[k] = pl at *
      obtain ⟨px, py, pz, pm⟩ := pl
      unfold PlR at hx
      simp only at hx
      subst hx ha
      have e0 : wr.cell? ⟨b, off + k * 4, none⟩ = some (.float .f64 px) := by have := hc 0 _ rfl; simpa using this
      have e1 : wr.cell? ⟨b, off + k * 4 + 1, none⟩ = some (.float .f64 py) := hc 1 _ rfl
      have e2 : wr.cell? ⟨b, off + k * 4 + 2, none⟩ = some (.float .f64 pz) := hc 2 _ rfl
      have e3 : wr.cell? ⟨b, off + k * 4 + 3, none⟩ = some (.float .f64 pm) := hc 3 _ rfl
      clear hm hc htk
      go_upto_region 5 with (fail)
      have hBt : Blk (wr.alloc (.cells #[.float .f64 px, .float .f64 py, .float .f64 pz, .float .f64 pm] 212)) wr.heap.size 212 [.float .f64 px, .float .f64 py, .float .f64 pz, .float .f64 pm] := by with_reducible (repeat first | assumption | (refine Bx.n ⟨?_, ?_⟩ <;> focus (first | rfl | (simp; done) | omega)) | refine Bx.a ?_ _ | refine Bx.d ?_ | refine Bx.e ?_ _ | refine Bx.p (by first | omega | simp <;> omega) ?_)
      have hown0 := hown.alloc (.cells #[.float .f64 px, .float .f64 py, .float .f64 pz, .float .f64 pm] 212)
      have hk0 : Stab.Keeps w (wr.alloc (.cells #[.float .f64 px, .float .f64 py, .float .f64 pz, .float .f64 pm] 212)) := by with_reducible (repeat first | exact Kx.r _ | assumption | refine Kx.a ?_ _ | refine Kx.d ?_ | refine Kx.e ?_ _ | refine Kx.s (by simp <;> omega) ?_ _ | refine Kx.t ?_ (by assumption))
      generalize (wr.alloc (.cells #[.float .f64 px, .float .f64 py, .float .f64 pz, .float .f64 pm] 212)) = W0 at hBt hown0 hk0 ⊢
      clear e0 e1 e2 e3 hown hk
      have t0 := hBt.cell (i := 0) rfl
      have t1 := hBt.cell (i := 1) rfl
      have t2 := hBt.cell (i := 2) rfl
      have t3 := hBt.cell (i := 3) rfl
      have tf := hBt.free
      have tl := hBt.lt
      have hown1 := hown0.alloc (.cells #[.float .f64 px, .float .f64 py] 45)
      go_wp2_with (at_builtin; (refine Sl.append_own (w0 := w) rfl _ _ 22 rfl w.heap.size 45 i0 _ 1 8 Tryz.underlying22 hi hz0 hz1 hz2 rfl (by decide) _ m _ rfl hown1 ⟨W0.heap.size, 0, none⟩ 2 2 [.float .f64 px, .float .f64 py] rfl rfl ?a1 ?a2 ?a3 ?a4 ?a5 ?a6 ?_))
      case a1 => exact new_cells _ _ _ _ (by simp)
      case a2 => intro u hu; simp at hu; rcases hu with rfl | rfl <;> rfl
      case a3 => unfold maxLen; omega
      case a4 => omega
      case a5 => simp; have := hk0.size; omega
      case a6 => exact Below.alloc hk0 hk0.size _
      intro al1 c1 W1 hownA hkA hszA hgrA
      have hBtA := blk_grown_own (hBt.alloc _) hown1 (by decide) hgrA
      clear t0 t1 t2 t3 tf tl hBt hown0 hown1 hgrA hk0 hszA
      have hxs0 : encN (numsOf 2 (ps.take k)) ++ [.float .f64 px, .float .f64 py] = encN (numsOf 2 (ps.take k) ++ [px, py]) := by rw [encN_append]; rfl
      rw [hxs0] at hownA
      clear hxs0
      have t0 := hBtA.cell (i := 0) rfl
      have t1 := hBtA.cell (i := 1) rfl
      have t2 := hBtA.cell (i := 2) rfl
      have t3 := hBtA.cell (i := 3) rfl
      have tf := hBtA.free
      have tl := hBtA.lt
      have hownB := hownA.alloc (.cells #[.float .f64 pm] 45)
      have hszw := hkA.size
      go_wp2_with (at_builtin; (refine Sl.append_own (w0 := w) rfl _ _ 22 rfl w.heap.size 45 i0 _ 1 8 Tryz.underlying22 hi hz0 hz1 hz2 rfl (by decide) _ (m + 2) _ rfl hownB ⟨W1.heap.size, 0, none⟩ 1 1 [.float .f64 pm] rfl rfl ?g1 ?g2 ?g3 ?g4 ?g5 ?g6 ?_))
      case g1 => exact new_cells _ _ _ _ (by simp)
      case g2 => intro u hu; simp at hu; subst hu; rfl
      case g3 => unfold maxLen; omega
      case g4 => omega
      case g5 => simp; omega
      case g6 => exact Below.alloc hkA hkA.size _
      intro al2 c2 W2 hownC hkC hszC hgrC
      have hBtC := blk_grown_own (hBtA.alloc _) hownB (by decide) hgrC
      clear t0 t1 t2 t3 tf tl hBtA hownA hownB hgrC hkA hszC hszw
      obtain ⟨W1, rfl⟩ : ∃ W1 : World, W1 = W2 := ⟨W2, rfl⟩
      obtain ⟨al1, rfl⟩ : ∃ al1 : Option Addr, al1 = al2 := ⟨al2, rfl⟩
      obtain ⟨c1, rfl⟩ : ∃ c1 : Nat, c1 = c2 := ⟨c2, rfl⟩
      have hxs1 : encN (numsOf 2 (ps.take k) ++ [px, py]) ++ [.float .f64 pm] = encN (numsOf 2 (ps.take k) ++ [px, py, pm]) := by simp [encN]
      rw [hxs1] at hownC
      have hownA := hownC
      have hBtA := hBtC
      have hkA := hkC
      clear hownC hBtC hkC hxs1
      have hxs : numsOf 2 (ps.take k) ++ [px, py, pm] = numsOf 2 (ps.take (k + 1)) := by
        rw [HTK.out, numsOf_append, numsOf_one]
        rfl
      rw [hxs] at hownA
      go_wp2_with fail
      go_roundw
      case rel => exact ⟨k + 1, m + 3, al1, c1, by omega, by have := HM.out; omega, by go_num, rfl, hkA, hownA⟩
      case measure => simp [intOf]; omega
    · obtain rfl : n = k := by omega
      clear hm
      rw [List.take_of_length_le (by rw [HNN.out]; exact Nat.le_refl _)] at hown
      have hmw : m = ps.length * 3 := by rw [HM.out, HNN.out]
      obtain ⟨al2, c2, he, hs, hn0, hge⟩ := of_owns hown
      cases he
      have HMW := Lib.hid hmw
      clear hmw
      go_wp2_with fail
      go_ret
      refine ⟨al, c, by rw [← HMW.out]; rfl, hk, by rw [← HMW.out]; exact hs, hge⟩
set_option maxRecDepth 100000 in
set_option maxHeartbeats 4000000 in
theorem nums3_ {F : Nat → Prop} (ps : List Pl) (hsm : ps.length ≤ 250000) (a : Option Addr) (n cap : Nat) (css : List (List Value)) (w : World) (h : Go.Kf.Rows w F PlR a n cap 4 css ps) :
    Calls Tryz.prog 91 #[.slice a n cap, .int .i64 3] w (New w (ps.length * 4) 1 (encN (numsOf 3 ps))) := by
  obtain ⟨i0, hi, hz0, hz1, hz2⟩ := info_parts infoFloat
  have hle := h.sz.sz.le
  have hmx := h.sz.sz.max
  unfold maxLen at hmx
  have HNN := Lib.hid h.lx
  have q1 := band31
  have q2 := band32
  have hnn : n ≤ 250000 := by have := h.lx; omega
  go_enter Tryz.func91, Tryz.ntmps91
  go_wp2_with fail
  go_loopw [5, 10] (fun v iv wr => ∃ (k m : Nat) (al : Option Addr) (c : Nat), k ≤ n ∧ m = k * 4 ∧ iv = .int .i64 k ∧ v = .slice al m c ∧ Stab.Keeps w wr ∧ wr.ownsRow w.heap.size 45 1 (.slice al m c) m (encN (numsOf 3 (ps.take k)))) (fun _ iv _ => n - (intOf iv).toNat)
  case atStart => exact ⟨0, 0, none, 0, by omega, rfl, rfl, rfl, Stab.Keeps.refl _, by simpa [numsOf, encN] using World.ownsRow_nil _ _ _ _⟩
  case round =>
    obtain ⟨k, m, al, c, k2, hm, rfl, rfl, hk, hown⟩ := hrel
    have HM := Lib.hid hm
    have hm6 : m ≤ 1000000 := by omega
    by_cases hlt : k < n
    · obtain ⟨b, off, cc, ha, hb, _, _, _, hc, hx⟩ := (h.kf (KF.keeps hk) (fun _ _ h => h)).elem hlt
      have hkp : k < ps.length := by have := HNN.out; omega
      have htk : ps.take (k + 1) = ps.take k ++ [ps[k]] := List.take_succ_eq_append_getElem hkp
      have HTK := Lib.hid htk
      generalize ps[k] = pl at *
      obtain ⟨px, py, pz, pm⟩ := pl
      unfold PlR at hx
      simp only at hx
      subst hx ha
      have e0 : wr.cell? ⟨b, off + k * 4, none⟩ = some (.float .f64 px) := by have := hc 0 _ rfl; simpa using this
      have e1 : wr.cell? ⟨b, off + k * 4 + 1, none⟩ = some (.float .f64 py) := hc 1 _ rfl
      have e2 : wr.cell? ⟨b, off + k * 4 + 2, none⟩ = some (.float .f64 pz) := hc 2 _ rfl
      have e3 : wr.cell? ⟨b, off + k * 4 + 3, none⟩ = some (.float .f64 pm) := hc 3 _ rfl
      clear hm hc htk
      go_upto_region 5 with (fail)
      have hBt : Blk (wr.alloc (.cells #[.float .f64 px, .float .f64 py, .float .f64 pz, .float .f64 pm] 212)) wr.heap.size 212 [.float .f64 px, .float .f64 py, .float .f64 pz, .float .f64 pm] := by with_reducible (repeat first | assumption | (refine Bx.n ⟨?_, ?_⟩ <;> focus (first | rfl | (simp; done) | omega)) | refine Bx.a ?_ _ | refine Bx.d ?_ | refine Bx.e ?_ _ | refine Bx.p (by first | omega | simp <;> omega) ?_)
      have hown0 := hown.alloc (.cells #[.float .f64 px, .float .f64 py, .float .f64 pz, .float .f64 pm] 212)
      have hk0 : Stab.Keeps w (wr.alloc (.cells #[.float .f64 px, .float .f64 py, .float .f64 pz, .float .f64 pm] 212)) := by with_reducible (repeat first | exact Kx.r _ | assumption | refine Kx.a ?_ _ | refine Kx.d ?_ | refine Kx.e ?_ _ | refine Kx.s (by simp <;> omega) ?_ _ | refine Kx.t ?_ (by assumption))
      generalize (wr.alloc (.cells #[.float .f64 px, .float .f64 py, .float .f64 pz, .float .f64 pm] 212)) = W0 at hBt hown0 hk0 ⊢
      clear e0 e1 e2 e3 hown hk
      have t0 := hBt.cell (i := 0) rfl
      have t1 := hBt.cell (i := 1) rfl
      have t2 := hBt.cell (i := 2) rfl
      have t3 := hBt.cell (i := 3) rfl
      have tf := hBt.free
      have tl := hBt.lt
      have hown1 := hown0.alloc (.cells #[.float .f64 px, .float .f64 py] 45)
      go_wp2_with (at_builtin; (refine Sl.append_own (w0 := w) rfl _ _ 22 rfl w.heap.size 45 i0 _ 1 8 Tryz.underlying22 hi hz0 hz1 hz2 rfl (by decide) _ m _ rfl hown1 ⟨W0.heap.size, 0, none⟩ 2 2 [.float .f64 px, .float .f64 py] rfl rfl ?a1 ?a2 ?a3 ?a4 ?a5 ?a6 ?_))
      case a1 => exact new_cells _ _ _ _ (by simp)
      case a2 => intro u hu; simp at hu; rcases hu with rfl | rfl <;> rfl
      case a3 => unfold maxLen; omega
      case a4 => omega
      case a5 => simp; have := hk0.size; omega
      case a6 => exact Below.alloc hk0 hk0.size _
      intro al1 c1 W1 hownA hkA hszA hgrA
      have hBtA := blk_grown_own (hBt.alloc _) hown1 (by decide) hgrA
      clear t0 t1 t2 t3 tf tl hBt hown0 hown1 hgrA hk0 hszA
      have hxs0 : encN (numsOf 3 (ps.take k)) ++ [.float .f64 px, .float .f64 py] = encN (numsOf 3 (ps.take k) ++ [px, py]) := by rw [encN_append]; rfl
      rw [hxs0] at hownA
      clear hxs0
      have t0 := hBtA.cell (i := 0) rfl
      have t1 := hBtA.cell (i := 1) rfl
      have t2 := hBtA.cell (i := 2) rfl
      have t3 := hBtA.cell (i := 3) rfl
      have tf := hBtA.free
      have tl := hBtA.lt
      have hownB := hownA.alloc (.cells #[.float .f64 pz] 45)
      have hszw := hkA.size
      go_wp2_with (at_builtin; (refine Sl.append_own (w0 := w) rfl _ _ 22 rfl w.heap.size 45 i0 _ 1 8 Tryz.underlying22 hi hz0 hz1 hz2 rfl (by decide) _ (m + 2) _ rfl hownB ⟨W1.heap.size, 0, none⟩ 1 1 [.float .f64 pz] rfl rfl ?b1 ?b2 ?b3 ?b4 ?b5 ?b6 ?_))
      case b1 => exact new_cells _ _ _ _ (by simp)
      case b2 => intro u hu; simp at hu; subst hu; rfl
      case b3 => unfold maxLen; omega
      case b4 => omega
      case b5 => simp; omega
      case b6 => exact Below.alloc hkA hkA.size _
      intro al2 c2 W2 hownC hkC hszC hgrC
      have hBtC := blk_grown_own (hBtA.alloc _) hownB (by decide) hgrC
      clear t0 t1 t2 t3 tf tl hBtA hownA hownB hgrC hkA hszC hszw
      obtain ⟨W1, rfl⟩ : ∃ W1 : World, W1 = W2 := ⟨W2, rfl⟩
      obtain ⟨al1, rfl⟩ : ∃ al1 : Option Addr, al1 = al2 := ⟨al2, rfl⟩
      obtain ⟨c1, rfl⟩ : ∃ c1 : Nat, c1 = c2 := ⟨c2, rfl⟩
      have hxs1 : encN (numsOf 3 (ps.take k) ++ [px, py]) ++ [.float .f64 pz] = encN (numsOf 3 (ps.take k) ++ [px, py, pz]) := by simp [encN]
      rw [hxs1] at hownC
      have hownA := hownC
      have hBtA := hBtC
      have hkA := hkC
      clear hownC hBtC hkC hxs1
      have t0 := hBtA.cell (i := 0) rfl
      have t1 := hBtA.cell (i := 1) rfl
      have t2 := hBtA.cell (i := 2) rfl
      have t3 := hBtA.cell (i := 3) rfl
      have tf := hBtA.free
      have tl := hBtA.lt
      have hownB := hownA.alloc (.cells #[.float .f64 pm] 45)
      have hszw := hkA.size
      go_wp2_with (at_builtin; (refine Sl.append_own (w0 := w) rfl _ _ 22 rfl w.heap.size 45 i0 _ 1 8 Tryz.underlying22 hi hz0 hz1 hz2 rfl (by decide) _ (m + 3) _ rfl hownB ⟨W1.heap.size, 0, none⟩ 1 1 [.float .f64 pm] rfl rfl ?g1 ?g2 ?g3 ?g4 ?g5 ?g6 ?_))
      case g1 => exact new_cells _ _ _ _ (by simp)
      case g2 => intro u hu; simp at hu; subst hu; rfl
      case g3 => unfold maxLen; omega
      case g4 => omega
      case g5 => simp; omega
      case g6 => exact Below.alloc hkA hkA.size _
      intro al2 c2 W2 hownC hkC hszC hgrC
      have hBtC := blk_grown_own (hBtA.alloc _) hownB (by decide) hgrC
      clear t0 t1 t2 t3 tf tl hBtA hownA hownB hgrC hkA hszC hszw
      obtain ⟨W1, rfl⟩ : ∃ W1 : World, W1 = W2 := ⟨W2, rfl⟩
      obtain ⟨al1, rfl⟩ : ∃ al1 : Option Addr, al1 = al2 := ⟨al2, rfl⟩
      obtain ⟨c1, rfl⟩ : ∃ c1 : Nat, c1 = c2 := ⟨c2, rfl⟩
      have hxs1 : encN (numsOf 3 (ps.take k) ++ [px, py, pz]) ++ [.float .f64 pm] = encN (numsOf 3 (ps.take k) ++ [px, py, pz, pm]) := by simp [encN]
      rw [hxs1] at hownC
      have hownA := hownC
      have hBtA := hBtC
      have hkA := hkC
      clear hownC hBtC hkC hxs1
      have hxs : numsOf 3 (ps.take k) ++ [px, py, pz, pm] = numsOf 3 (ps.take (k + 1)) := by
        rw [HTK.out, numsOf_append, numsOf_one]
        rfl
      rw [hxs] at hownA
      go_wp2_with fail
      go_roundw
      case rel => exact ⟨k + 1, m + 4, al1, c1, by omega, by have := HM.out; omega, by go_num, rfl, hkA, hownA⟩
      case measure => simp [intOf]; omega
    · obtain rfl : n = k := by omega
      clear hm
      rw [List.take_of_length_le (by rw [HNN.out]; exact Nat.le_refl _)] at hown
      have hmw : m = ps.length * 4 := by rw [HM.out, HNN.out]
      obtain ⟨al2, c2, he, hs, hn0, hge⟩ := of_owns hown
      cases he
      have HMW := Lib.hid hmw
      clear hmw
      go_wp2_with fail
      go_ret
      refine ⟨al, c, by rw [← HMW.out]; rfl, hk, by rw [← HMW.out]; exact hs, hge⟩
theorem nums_ {F : Nat → Prop} (d : Nat) (hd : d < 4) (ps : List Pl) (hsm : ps.length ≤ 250000) (a : Option Addr) (n cap : Nat) (css : List (List Value)) (w : World) (h : Go.Kf.Rows w F PlR a n cap 4 css ps) :
    Calls Tryz.prog 91 #[.slice a n cap, .int .i64 d] w (New w (ps.length * wid d) 1 (encN (numsOf d ps))) := by
  have : d = 0 ∨ d = 1 ∨ d = 2 ∨ d = 3 := by omega
  rcases this with rfl | rfl | rfl | rfl
  · exact nums0_ ps hsm a n cap css w h
  · exact nums1_ ps hsm a n cap css w h
  · exact nums2_ ps hsm a n cap css w h
  · exact nums3_ ps hsm a n cap css w h
end Go.Proofs.YtbakhldjfplbfaaGreat
