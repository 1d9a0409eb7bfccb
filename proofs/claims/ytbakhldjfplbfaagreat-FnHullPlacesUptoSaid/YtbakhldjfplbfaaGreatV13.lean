/-
  FnHullPlaces: the walk. No condition.
-/
import Derived.Test.YtbakhldjfplbfaaGreatV12
set_option linter.unusedVariables false
set_option linter.unusedSimpArgs false
namespace Go.Proofs.YtbakhldjfplbfaaGreat
open Go.RowKit Go.Fl Go.Sl Go.Pg Go.Ch Go.Kf
/-- what a made geometry's hull is made of: of plain data of whichever kind -/
theorem hullOf_ {F : Nat → Prop} (cs : List Value) (p : Pg) (w : World) (h : GmR w F cs p) (hm : PgMade p) (hn : PgNum 1000 p) (hN : (hullL p).length ≤ 1000000) : ∀ w', Stab.Keeps w w' → Calls Tryz.prog 19 #[.agg cs.toArray] w' (XyPost w' (hullL p)) := by
  intro w' hk
  obtain ⟨q, rfl, hA, hI⟩ := h.gt
  have e := newP_is hm q hI
  have := implHull_ q w' (hA.keep hk) (small_is hn q hI) (by rw [e]; exact hN)
  rw [e] at this
  exact this
set_option maxRecDepth 100000 in
set_option maxHeartbeats 4000000 in
theorem hullLaw_ (t : ST) (w : World) (hA : t.At w) (hT : t.total ≤ 1048576) : Calls Tryz.prog 4 #[t.hd.val] w (LawPost w) := by
  have hF1 := fun w' => fits1_ t w'
  have hFo := fun w' (hk : Stab.Keeps w w') => formed_ t w' (hA.keep hk)
  have hSz := fun w' (hk : Stab.Keeps w w') => size_ t w' (hA.keep hk) hT
  have hHp := fun w' (hk : Stab.Keeps w w') => hullPlaces_ w t hA w' hT hk
  have hFi := fun hF (hs : t.total ≤ 200) w' (hk : Stab.Keeps w w') => figure_ t w' (hA.keep hk) (by omega) hF
  have hMade := fun hF => @made_geomP t hF
  have hHull := fun hF => @hull_geomP t hF
  have hOk := fun hF => @hp_ok t hF
  have hNum := fun (hs : t.total ≤ 200) => num_geomP t (by omega)
  have hLen := hp_len t
  unfold Sizes at hSz
  generalize geomP t = P at *
  generalize t.hp = L at *
  generalize t.Formed = FM at *
  generalize t.total = tt at *
  clear hA
  obtain ⟨⟨kind, pa, pn, pc, ka, kn, kc⟩, pts, kids⟩ := t
  simp only [ST.hd, Sm.val] at hF1 hFo hSz hHp hFi ⊢
  have hB : Blk (w.alloc (.cells #[.int .i64 kind, .slice pa pn pc, .slice ka kn kc] 34)) w.heap.size 34 [.int .i64 kind, .slice pa pn pc, .slice ka kn kc] := by with_reducible (repeat (first | assumption | ((refine Bx.n ⟨?_, ?_⟩) <;> focus (first | rfl | (simp; done) | omega)) | refine Bx.a ?_ _ | refine Bx.d ?_ | refine Bx.e ?_ _ | (refine Bx.p ?_ ?_; focus (first | (simp; done) | (simp; omega) | omega))))
  have hk0 : Stab.Keeps w (w.alloc (.cells #[.int .i64 kind, .slice pa pn pc, .slice ka kn kc] 34)) := by with_reducible (repeat (first | exact Kx.r _ | assumption | refine Kx.a ?_ _ | refine Kx.d ?_ | refine Kx.e ?_ _ | (refine Kx.s ?_ ?_ _; focus (first | (simp; done) | (simp; omega))) | refine Kx.t ?_ (by assumption)))
  go_enter Tryz.func4, Tryz.ntmps4
  go_wp2_with fail
  generalize (w.alloc (.cells #[.int .i64 kind, .slice pa pn pc, .slice ka kn kc] 34)) = w1 at *
  refine (hF1 _).mono ?_
  clear hF1
  rintro e w2 ⟨⟨v, rfl, _⟩, hk2⟩
  replace hB := hB.keep hk2
  replace hk0 := Stab.Keeps.trans hk0 hk2
  clear hk2
  have g0 := hB.cell (i := 0) rfl
  have g1 := hB.cell (i := 1) rfl
  have g2 := hB.cell (i := 2) rfl
  have gf := hB.free
  have gl := hB.lt
  cases v with
  | false =>
    go_wp2_with fail
    go_ret
    exact ⟨rfl, hk0⟩
  | true =>
    go_wp2_with fail
    refine (hFo _ hk0).mono ?_
    clear hFo
    rintro e w3 ⟨⟨v, rfl, hF⟩, hk3⟩
    replace hB := hB.keep hk3
    replace hk0 := Stab.Keeps.trans hk0 hk3
    clear hk3 g0 g1 g2 gf gl
    have g0 := hB.cell (i := 0) rfl
    have g1 := hB.cell (i := 1) rfl
    have g2 := hB.cell (i := 2) rfl
    have gf := hB.free
    have gl := hB.lt
    cases v with
    | false =>
      go_wp2_with fail
      go_ret
      exact ⟨rfl, hk0⟩
    | true =>
      have hF := hF rfl
      have hMade := hMade hF
      have hHull := hHull hF
      have hOk := hOk hF
      replace hFi := hFi hF
      clear hF
      go_wp2_with fail
      refine (hSz _ hk0).mono ?_
      clear hSz
      rintro e w4 ⟨⟨v, rfl, hv1, hv2⟩, hk4⟩
      replace hB := hB.keep hk4
      replace hk0 := Stab.Keeps.trans hk0 hk4
      clear hk4 g0 g1 g2 gf gl
      have g0 := hB.cell (i := 0) rfl
      have g1 := hB.cell (i := 1) rfl
      have g2 := hB.cell (i := 2) rfl
      have gf := hB.free
      have gl := hB.lt
      by_cases hbig : 200 < v
      · have hd1 : decide ((200 : Int) < (v : Int)) = true := by simp; omega
        clear hv1 hv2
        go_wp2_with fail
        go_ret
        exact ⟨rfl, hk0⟩
      · have hd1 : decide ((200 : Int) < (v : Int)) = false := by simp; omega
        have hs : tt ≤ 200 := by have := hv2 (by omega); omega
        replace hFi := hFi hs
        replace hNum := hNum hs
        clear hv1 hv2 hT
        go_wp2_with fail
        refine (hHp _ hk0).mono ?_
        clear hHp
        rintro e w5 ⟨la, lc, rfl, hk5, hz5⟩
        replace hB := hB.keep hk5
        replace hk0 := Stab.Keeps.trans hk0 hk5
        clear hk5 g0 g1 g2 gf gl hd1
        have g0 := hB.cell (i := 0) rfl
        have g1 := hB.cell (i := 1) rfl
        have g2 := hB.cell (i := 2) rfl
        have gf := hB.free
        have gl := hB.lt
        go_wp2_with fail
        refine (hFi _ hk0).mono ?_
        clear hFi
        rintro e w6 ⟨cs, rfl, hk6, hx⟩
        have hH := hullOf_ cs P w6 hx hMade hNum (by rw [hHull, List.length_map]; omega) w6 (Stab.Keeps.refl _)
        rw [hHull] at hH
        obtain ⟨zk, zd, zna, znn, znc, zka, zkn, zkc, rfl⟩ := hx.four
        replace hz5 := hz5.keep hk6
        replace hk0 := Stab.Keeps.trans hk0 hk6
        clear hk6 g0 g1 g2 gf gl hB hx hMade hNum hHull
        go_wp2_with fail
        refine hH.mono ?_
        clear hH
        rintro e w7 ⟨ha, hc, rfl, hk7, hz7⟩
        rw [List.length_map] at hz7 ⊢
        replace hz5 := hz5.keep hk7
        replace hk0 := Stab.Keeps.trans hk0 hk7
        clear hk7
        have hBg : Blk (w7.alloc (.cells #[.int .i64 1, .int .i64 2] 3)) w7.heap.size 3 [.int .i64 1, .int .i64 2] := by with_reducible (repeat (first | assumption | ((refine Bx.n ⟨?_, ?_⟩) <;> focus (first | rfl | (simp; done) | omega)) | refine Bx.a ?_ _ | refine Bx.d ?_ | refine Bx.e ?_ _ | (refine Bx.p ?_ ?_; focus (first | (simp; done) | (simp; omega) | omega))))
        have hR := ringAt_ w7.heap.size _ hBg
        have hk8 : Stab.Keeps w7 (w7.alloc (.cells #[.int .i64 1, .int .i64 2] 3)) := by with_reducible (repeat (first | exact Kx.r _ | assumption | refine Kx.a ?_ _ | refine Kx.d ?_ | refine Kx.e ?_ _ | (refine Kx.s ?_ ?_ _; focus (first | (simp; done) | (simp; omega))) | refine Kx.t ?_ (by assumption)))
        replace hz5 := hz5.keep hk8
        replace hz7 := hz7.keep hk8
        replace hk0 := Stab.Keeps.trans hk0 hk8
        clear hk8 hBg
        have hrm : PgMade (.node 2 0 [ptP (1, 2)] []) := .ls 0 _ (by omega) (fun q hq => by obtain rfl := List.mem_singleton.1 hq; exact ptP_norm _)
        have hrn : PgNum 1000 (.node 2 0 [ptP (1, 2)] []) := .mk _ _ _ _ (by simp [show wid 0 = 2 from rfl]) (by simp) (by simp)
        have hrh : hullL (.node 2 0 [ptP (1, 2)] []) = [ptP (1, 2)] := hull_ls _ _
        go_wp2_with fail
        generalize (w7.alloc (.cells #[.int .i64 1, .int .i64 2] 3)) = w8 at *
        refine hR.mono ?_
        clear hR
        rintro e w9 ⟨cs, rfl, hk9, hx⟩
        have hH := hullOf_ cs _ w9 hx hrm hrn (by rw [hrh]; simp) w9 (Stab.Keeps.refl _)
        rw [hrh] at hH
        obtain ⟨yk, yd, yna, ynn, ync, yka, ykn, ykc, rfl⟩ := hx.four
        replace hz5 := hz5.keep hk9
        replace hz7 := hz7.keep hk9
        replace hk0 := Stab.Keeps.trans hk0 hk9
        clear hk9 hx hrm hrn hrh
        go_wp2_with fail
        refine hH.mono ?_
        clear hH
        rintro e w10 ⟨oa, oc, rfl, hk10, _⟩
        replace hz5 := hz5.keep hk10
        replace hz7 := hz7.keep hk10
        replace hk0 := Stab.Keeps.trans hk0 hk10
        clear hk10
        rw [show [ptP (1, 2)].length = 1 from rfl]
        have hn : L.length ≤ 200 := by omega
        obtain ⟨n, hne⟩ : ∃ n, L.length = n := ⟨_, rfl⟩
        rw [hne] at hz5 hz7 hn ⊢
        have HNE := Lib.hid hne
        have HOK := Lib.hid hOk
        have hle5 := hz5.le
        have hmx5 := hz5.max
        have hle7 := hz7.le
        have hmx7 := hz7.max
        unfold maxLen at hmx5 hmx7
        clear hne hOk hLen
        go_wp2_with fail
        go_loopw [40] (fun iv wr => ∃ k : Nat, k ≤ n ∧ iv = .int .i64 k ∧ Stab.Keeps w10 wr) (fun iv _ => n - (intOf iv).toNat)
        case atStart => exact ⟨0, by omega, rfl, Stab.Keeps.refl _⟩
        case round =>
          obtain ⟨k, hk, rfl, hK⟩ := hrel
          by_cases hlt : k < n
          · have hki : k < L.length := by have := HNE.out; omega
            obtain ⟨b5, o5, ha5, hb5, hc5⟩ := (hz5.keep hK).elem hlt
            obtain ⟨b7, o7, ha7, hb7, hc7⟩ := (hz7.keep hK).elem hlt
            subst ha5 ha7
            obtain ⟨c0, c1⟩ := pt_cells hki hc5
            have hki7 : k < (L.map ptP).length := by simpa using hki
            obtain ⟨d0, d1⟩ := xy_cells hki7 hc7
            rw [List.getElem_map] at d0 d1
            have hin := HOK.out L[k] (List.getElem_mem hki)
            clear hc5 hc7
            generalize L[k] = x at *
            obtain ⟨px, py⟩ := x
            obtain ⟨i1, i2, i3, i4⟩ := hin
            simp only [ptP] at c0 c1 d0 d1 i1 i2 i3 i4
            have ho1 := real_int px ⟨i1, i2⟩
            have ho2 := real_int py ⟨i3, i4⟩
            clear i1 i2 i3 i4
            have hkA : Stab.Keeps wr (wr.alloc (.cells #[.int .i64 px, .int .i64 py] 44)) := by with_reducible (repeat (first | exact Kx.r _ | assumption | refine Kx.a ?_ _ | refine Kx.d ?_ | refine Kx.e ?_ _ | (refine Kx.s ?_ ?_ _; focus (first | (simp; done) | (simp; omega))) | refine Kx.t ?_ (by assumption)))
            have hBA : Blk (wr.alloc (.cells #[.int .i64 px, .int .i64 py] 44)) wr.heap.size 44 [.int .i64 px, .int .i64 py] := by with_reducible (repeat (first | assumption | ((refine Bx.n ⟨?_, ?_⟩) <;> focus (first | rfl | (simp; done) | omega)) | refine Bx.a ?_ _ | refine Bx.d ?_ | refine Bx.e ?_ _ | (refine Bx.p ?_ ?_; focus (first | (simp; done) | (simp; omega) | omega))))
            have d0' : (wr.alloc (.cells #[.int .i64 px, .int .i64 py] 44)).cell? ⟨b7, o7 + k * 2, none⟩ = some (.float .f64 (floatOfInt .f64 px)) := by rw [(Stab.own_cell hkA b7 hb7).1]; exact d0
            have d1' : (wr.alloc (.cells #[.int .i64 px, .int .i64 py] 44)).cell? ⟨b7, o7 + k * 2 + 1, none⟩ = some (.float .f64 (floatOfInt .f64 py)) := by rw [(Stab.own_cell hkA b7 hb7).1]; exact d1
            have hb7' : b7 < (wr.alloc (.cells #[.int .i64 px, .int .i64 py] 44)).heap.size := Nat.lt_of_lt_of_le hb7 hkA.size
            go_upto_region 13 with (fail)
            generalize (wr.alloc (.cells #[.int .i64 px, .int .i64 py] 44)) = wa at *
            replace hK := Stab.Keeps.trans hK hkA
            clear c0 c1 d0 d1 hb7 hkA
            have g0 := hBA.cell (i := 0) rfl
            have g1 := hBA.cell (i := 1) rfl
            have gf := hBA.free
            have gl := hBA.lt
            refine Stab.keep_region (fun _ _ _ => True) (fun _ => false) (fun _ => false) Stab.pre_none (by kernel_rfl) (by kernel_rfl) fun hcx => ?_
            (with_reducible refine Stab.quiet ?_ ?_ ?_ ?_); rfl; rfl; rfl; intro K hK; go_big_quiet_op; refine hK _ ?_; clear hK K
            (with_reducible refine Stab.quiet ?_ ?_ ?_ ?_); rfl; rfl; rfl; intro K hK; go_big_quiet_op; refine hK _ ?_; clear hK K
            (with_reducible refine Stab.quiet ?_ ?_ ?_ ?_); rfl; rfl; rfl; intro K hK; go_big_quiet_op; refine hK _ ?_; clear hK K
            (with_reducible refine Stab.quiet ?_ ?_ ?_ ?_); rfl; rfl; rfl; intro K hK; go_big_quiet_op; refine hK _ ?_; clear hK K
            (with_reducible refine Stab.quiet ?_ ?_ ?_ ?_); rfl; rfl; rfl; intro K hK; go_big_quiet_op; refine hK _ ?_; clear hK K
            (with_reducible refine Stab.quiet ?_ ?_ ?_ ?_); rfl; rfl; rfl; intro K hK; go_big_quiet_op; refine hK _ ?_; clear hK K
            (with_reducible refine Stab.quiet ?_ ?_ ?_ ?_); rfl; rfl; rfl; intro K hK; go_big_quiet_op; refine hK _ ?_; clear hK K
            (with_reducible refine Stab.quiet ?_ ?_ ?_ ?_); rfl; rfl; rfl; intro K hK; go_big_quiet_op; refine hK _ ?_; clear hK K
            (with_reducible refine Stab.quiet ?_ ?_ ?_ ?_); rfl; rfl; rfl; intro K hK; go_big_quiet_op; refine hK _ ?_; clear hK K
            (with_reducible refine Stab.quiet ?_ ?_ ?_ ?_); rfl; rfl; rfl; intro K hK; go_big_quiet_op; refine hK _ ?_; clear hK K
            (with_reducible refine Stab.quiet ?_ ?_ ?_ ?_); rfl; rfl; rfl; intro K hK; go_big_quiet_op; refine hK _ ?_; clear hK K
            (with_reducible refine Stab.quiet ?_ ?_ ?_ ?_); rfl; rfl; rfl; intro K hK; go_big_quiet_op; refine hK _ ?_; clear hK K
            (with_reducible refine Stab.quiet ?_ ?_ ?_ ?_); rfl; rfl; rfl; intro K hK; go_big_quiet_op; refine hK _ ?_; clear hK K
            (with_reducible refine Stab.quiet ?_ ?_ ?_ ?_); rfl; rfl; rfl; intro K hK; go_big_quiet_op; refine hK _ ?_; clear hK K
            (with_reducible refine Stab.quiet ?_ ?_ ?_ ?_); rfl; rfl; rfl; intro K hK; go_big_quiet_op; refine hK _ ?_; clear hK K
            (with_reducible refine Stab.quiet ?_ ?_ ?_ ?_); rfl; rfl; rfl; intro K hK; go_big_quiet_op; refine hK _ ?_; clear hK K
            (with_reducible refine Stab.quiet ?_ ?_ ?_ ?_); rfl; rfl; rfl; intro K hK; go_big_quiet_op; refine hK _ ?_; clear hK K
            (with_reducible refine Stab.quiet ?_ ?_ ?_ ?_); rfl; rfl; rfl; intro K hK; go_big_quiet_op; refine hK _ ?_; clear hK K
            (with_reducible refine Stab.quiet ?_ ?_ ?_ ?_); rfl; rfl; rfl; intro K hK; go_big_quiet_op; refine hK _ ?_; clear hK K
            (with_reducible refine Stab.quiet ?_ ?_ ?_ ?_); rfl; rfl; rfl; intro K hK; go_big_quiet_op; refine hK _ ?_; clear hK K
            refine Stab.nil fun w2 hk2 _ => ?_
            clear hcx g0 g1 gf gl d0' d1'
            replace hK := Stab.Keeps.trans hK hk2
            go_wp2_with fail
            exact ⟨⟨k + 1, by omega, by go_num, hK⟩, by simp [intOf]; omega⟩
          · have hkk : n = k := by omega
            subst hkk
            go_wp2_with fail
            go_ret
            exact ⟨rfl, Stab.Keeps.trans hk0 hK⟩
end Go.Proofs.YtbakhldjfplbfaaGreat
