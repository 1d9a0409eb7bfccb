/-
  FnPlaces returns true at every input: the walk of the law. No condition.
-/
import Derived.Test.YtbakhldjfplbfaaGreatK6
set_option linter.unusedVariables false
set_option linter.unusedSimpArgs false
namespace Go.Proofs.YtbakhldjfplbfaaGreat
open Go.RowKit Go.Fl Go.Sl Go.Pg Go.Ch Go.Kf
def LawPost (w : World) (e : Ending) (w' : World) : Prop := e = .returned (.bool true) ∧ Stab.Keeps w w'
theorem places_real {p : Pg} (h : PgReal p) : ∀ l ∈ placesP p, ∀ q ∈ l, PgReal q := by
  cases h with
  | mk k d ps kids h1 h2 =>
  intro l hl q hq
  replace hl : l ∈ (if k = 2 then [[Pg.node k d ps kids]] else if k = 3 ∨ k = 5 then [kids] else if k = 4 then [[.node 2 d (kids.flatMap Pg.ps) []]] else if k = 6 then kids.map Pg.kids else []) := hl
  by_cases e2 : k = 2
  · rw [if_pos e2] at hl
    simp at hl; subst hl; simp at hq; subst hq; exact .mk _ _ _ _ h1 h2
  rw [if_neg e2] at hl
  by_cases e3 : k = 3 ∨ k = 5
  · rw [if_pos e3] at hl
    simp at hl; subst hl; exact h2 q hq
  rw [if_neg e3] at hl
  by_cases e4 : k = 4
  · rw [if_pos e4] at hl
    simp at hl
    subst hl
    simp at hq
    subst hq
    refine .mk _ _ _ _ (fun x hx => ?_) (by simp)
    obtain ⟨c, hc, hx⟩ := List.mem_flatMap.1 hx
    have := h2 c hc
    cases this with
    | mk k' d' ps' kids' h1' h2' => exact h1' x hx
  rw [if_neg e4] at hl
  by_cases e6 : k = 6
  · rw [if_pos e6] at hl
    obtain ⟨c, hc, rfl⟩ := List.mem_map.1 hl
    have := h2 c hc
    cases this with
    | mk k' d' ps' kids' h1' h2' => exact h2' q hq
  · rw [if_neg e6] at hl
    simp at hl
/-- the three things that are made in one region -/
structure PlF (B : Nat) (p : Pg) (ls : List (List Pg)) (n : Nat) (k : Nat) (v : Value) (w : World) : Prop where
  f1 : k = 1 → ∃ a cap css, v = .slice a n cap ∧ Go.Kf.Rows w (fun b => B ≤ b) (LiR GmR 4) a n cap 1 css ls
  f3 : k = 3 → ∃ (zk zd : Nat) (na : Option Addr) (nn nc : Nat) (ka : Option Addr) (kn kc : Nat), v = .agg #[.int .i64 zk, .int .i64 zd, .slice na nn nc, .slice ka kn kc] ∧ GmR w (fun b => B ≤ b) [.int .i64 zk, .int .i64 zd, .slice na nn nc, .slice ka kn kc] p
  f4 : k = 4 → ∃ a cap css, v = .slice a n cap ∧ Go.Kf.Rows w (fun b => B ≤ b) (LiR GmR 4) a n cap 1 css ls
theorem plPre (B : Nat) (p : Pg) (ls : List (List Pg)) (n : Nat) : Stab.Pre Stab.Keeps (PlF B p ls n) :=
  ⟨Stab.Keeps.refl, Stab.Keeps.trans, fun k v w w' hk hF => ⟨fun e => by
    obtain ⟨a, cap, css, h1, h2⟩ := hF.f1 e
    exact ⟨a, cap, css, h1, h2.kf (KF.keeps hk) (fun _ _ h => (liS gmS 4).kf h (KF.keeps hk))⟩, fun e => by
    obtain ⟨a1, a2, a3, a4, a5, a6, a7, a8, h1, h2⟩ := hF.f3 e
    exact ⟨a1, a2, a3, a4, a5, a6, a7, a8, h1, gmS.kf h2 (KF.keeps hk)⟩, fun e => by
    obtain ⟨a, cap, css, h1, h2⟩ := hF.f4 e
    exact ⟨a, cap, css, h1, h2.kf (KF.keeps hk) (fun _ _ h => (liS gmS 4).kf h (KF.keeps hk))⟩⟩⟩
theorem GeoR.kind6 {w : World} {F : Nat → Prop} {cs : List Value} {p : Pg} (h : GeoR w F cs p) : p.kind ≤ 6 := by
  cases h with
  | pt b cs p hF hB h => obtain ⟨_, _, _, rfl, _⟩ := h; show 1 ≤ 6; omega
  | ls b cs p hF hB h => obtain ⟨_, _, _, _, _, _, rfl, _⟩ := h; show 2 ≤ 6; omega
  | py b cs p hF hB h => obtain ⟨_, _, _, _, _, _, _, rfl, _⟩ := h; show 3 ≤ 6; omega
  | ml b cs p hF hB h => obtain ⟨_, _, _, _, _, _, _, rfl, _⟩ := h; show 5 ≤ 6; omega
  | my b cs p hF hB h => obtain ⟨_, _, _, _, _, _, _, rfl, _⟩ := h; show 6 ≤ 6; omega
  | gc b d a n cap css kids hF hB hd hn lc lx each sz is hdim => show 0 ≤ 6; omega
  | mp b cs p hF hB h => obtain ⟨_, _, _, _, _, _, _, rfl, _⟩ := h; show 4 ≤ 6; omega
theorem kindN_le (k : Int) : kindN k ≤ 6 := by unfold kindN; split <;> omega
theorem newP_mp : ∀ t : GT, MpOk (newP t) := GT.ind fun h nums kids ih hk => by
  rw [newP_kind] at hk
  have hk4 : kindN h.kind = 4 := hk
  rw [newP_whole _ _ _ (by rw [hk4]; decide) (by rw [hk4]; decide), hk4]
  unfold wholeP
  split
  · exact ⟨rfl, fun c hc => by simp [Pg.kids] at hc⟩
  · refine ⟨rfl, fun c hc => ?_⟩
    simp only [Pg.kids] at hc
    obtain ⟨r, hr, rfl⟩ := List.mem_map.1 hc
    obtain ⟨hr1, hr2⟩ := List.mem_filter.1 hr
    obtain ⟨t, _, rfl⟩ := List.mem_map.1 hr1
    have hk1 : (newP t).kind = 1 := by simpa [takes] using hr2
    refine ⟨forceP_dim _ _, ?_⟩
    rw [newP_kind] at hk1
    cases t with
    | node h' nums' kids' =>
      have e : kindN h'.kind = 1 := hk1
      rw [newP, if_pos e, forceP_eq]
      exact ⟨rfl, by simp [Pg.ps]; omega⟩
set_option maxRecDepth 100000 in
set_option maxHeartbeats 4000000 in
theorem placesLaw_ (t : GT) (w : World) (hA : t.At w) (hR : t.Reach) : Calls Tryz.prog 3 #[t.hd.val] w (LawPost w) := by
  have hFi := fun w' => fits_ t w'
  have hKA := fun w' (hk : Stab.Keeps w w') => kAny_ t w w' hA hR hk
  have hPl := fun w' (hk : Stab.Keeps w w') (hs : t.Small) => implPlaces_ t w' (hA.keep hk) hs
  have hNw := fun w' (hk : Stab.Keeps w w') (hs : t.Small) => newSpec_ t w' (hA.keep hk) hs
  have hok := newP_ok t
  have hmp := newP_mp t
  have hrl := newP_real t
  have hk6 : (newP t).kind ≤ 6 := by rw [newP_kind]; exact kindN_le _
  have hT0 := fun w' => implPlaces_ (.node ⟨2, 0, none, 0, 0, none, 0, 0⟩ [] []) w' (.mk _ _ _ rfl rfl (Sz.nil _ _) (Sz.nil _ _) (by simp)) (.mk _ _ _ (by simp) (by simp) (by simp))
  have hT1 : placesP (newP (.node ⟨2, 0, none, 0, 0, none, 0, 0⟩ [] [])) = [[.node 2 (dim4 0) (placesOf (dim4 0) []) []]] := by rw [newP_line _ _ _ rfl]; rfl
  unfold PlacesPost at hT0
  rw [hT1] at hT0
  simp only [GT.hd, Gm.val] at hT0
  clear hT1
  have hAny := fun (h : t.Any) => And.intro h.small h.real
  generalize newP t = p at *
  generalize t.Any = TA at *
  generalize t.Small = TS at *
  generalize t.Real = TR at *
  obtain ⟨⟨kind, dim, na, nn, nc, ka, kn, kc⟩, nums, kids⟩ := t
  simp only [GT.hd, Gm.val] at hFi hKA hPl hNw ⊢
  clear hA hR
  have HPL := Lib.hid hPl
  have HNW := Lib.hid hNw
  have HOK := Lib.hid hok
  have HMP := Lib.hid hmp
  have HRL := Lib.hid hrl
  have HK6 := Lib.hid hk6
  have HT0 := Lib.hid hT0
  have HANY := Lib.hid hAny
  clear hPl hNw hok hmp hrl hk6 hT0 hAny
  have hkA : Stab.Keeps w (w.alloc (.cells #[.int .i64 kind, .int .i64 dim, .slice na nn nc, .slice ka kn kc] 25)) := by repeat (first | (with_reducible exact Stab.Keeps.refl _) | (with_reducible assumption) | (with_reducible refine Stab.Keeps.alloc ?_ _) | (with_reducible refine Stab.Keeps.drew ?_) | (with_reducible refine Stab.Keeps.drewN ?_ _) | ((with_reducible refine Stab.Keeps.setCell ?_ ?_ _); focus (first | (simp; done) | (simp; omega))) | (with_reducible refine Stab.Keeps.trans ?_ (by with_reducible assumption)))
  have hBA : Blk (w.alloc (.cells #[.int .i64 kind, .int .i64 dim, .slice na nn nc, .slice ka kn kc] 25)) w.heap.size 25 [.int .i64 kind, .int .i64 dim, .slice na nn nc, .slice ka kn kc] := by repeat (first | (with_reducible assumption) | ((with_reducible refine Blk.new1 ⟨?_, ?_⟩) <;> focus (first | (with_reducible rfl) | (simp; done) | omega)) | (with_reducible refine Blk.alloc ?_ _) | (with_reducible refine Blk.drew ?_) | (with_reducible refine Blk.drewN ?_ _) | ((with_reducible refine Blk.past2 ?_ ?_); focus (first | (simp; done) | (simp; omega) | omega)))
  go_enter Tryz.func3, Tryz.ntmps3
  go_upto_region 1 with (fail)
  generalize (w.alloc (.cells #[.int .i64 kind, .int .i64 dim, .slice na nn nc, .slice ka kn kc] 25)) = W1 at *
  have t0 := hBA.cell (i := 0) rfl
  have t1 := hBA.cell (i := 1) rfl
  have t2 := hBA.cell (i := 2) rfl
  have t3 := hBA.cell (i := 3) rfl
  have tf := hBA.free
  have tl := hBA.lt
  go_wp2_with fail
  refine (hFi _).mono ?_
  clear hFi t0 t1 t2 t3 tf tl
  rintro e W2 ⟨⟨b, rfl, -⟩, hk2⟩
  have hK2 := Stab.Keeps.trans hkA hk2
  have hB2 := hBA.keep hk2
  clear hkA hBA hk2
  cases b with
  | false =>
    clear hB2
    go_wp2_with fail
    go_ret
    exact ⟨rfl, hK2⟩
  | true =>
  have t0 := hB2.cell (i := 0) rfl
  have t1 := hB2.cell (i := 1) rfl
  have t2 := hB2.cell (i := 2) rfl
  have t3 := hB2.cell (i := 3) rfl
  have tf := hB2.free
  have tl := hB2.lt
  go_wp2_with fail
  refine (hKA _ hK2).mono ?_
  clear hKA t0 t1 t2 t3 tf tl
  rintro e W3 ⟨⟨b, rfl, hb⟩, hk3⟩
  have hK3 := Stab.Keeps.trans hK2 hk3
  have hB3 := hB2.keep hk3
  clear hK2 hB2 hk3
  cases b with
  | false =>
    clear hB3
    go_wp2_with fail
    go_ret
    exact ⟨rfl, hK3⟩
  | true =>
  have ⟨hS, hTR⟩ := HANY.out (hb rfl)
  have hok := HOK.out hS
  have hreal := HRL.out hTR
  clear hb
  obtain ⟨ls, hls⟩ : ∃ ls, placesP p = ls := ⟨_, rfl⟩
  obtain ⟨n, hn⟩ : ∃ n, ls.length = n := ⟨_, rfl⟩
  have hlr := places_real hreal
  rw [hls] at hlr
  have HLR := Lib.hid hlr
  have HLS := Lib.hid hls
  have HN := Lib.hid hn
  clear hlr hls hn
  have t0 := hB3.cell (i := 0) rfl
  have t1 := hB3.cell (i := 1) rfl
  have t2 := hB3.cell (i := 2) rfl
  have t3 := hB3.cell (i := 3) rfl
  have tf := hB3.free
  have tl := hB3.lt
  go_upto_region 5 with (fail)
  refine Stab.keep_region (PlF W3.heap.size p ls n) (fun k => k == 1 || k == 3 || k == 4) (fun _ => false) (plPre _ _ _ _) (by kernel_rfl) (by kernel_rfl) fun hcx => ?_
  repeat (first
    | (refine Stab.quiet rfl rfl rfl (fun K hK => ?_); go_big_quiet_op; refine hK _ ?_; clear hK K)
    | (refine Stab.one rfl rfl rfl ?_
       apply Exists.intro
       refine ⟨fun w1 hw1 => ?_, fun K hK => ?_⟩
       · go_simp
         first | fail
       go_simp
       refine hK _ ?_
       clear hK K)
    | (refine Stab.skip rfl (fun K hK => ?_); go_simp; refine hK _ ?_; clear hK K))
  refine Stab.made rfl rfl (fun w1 hk1 => ?_) (fun v hv K hK => ?_)
  · go_simp
    have hk1' : Stab.Keeps W3 w1 := hk1.1
    refine (HPL.out _ (Stab.Keeps.trans hK3 hk1') hS).mono ?_
    rintro e w2 hp
    unfold PlacesPost at hp
    rw [HLS.out, HN.out] at hp
    obtain ⟨a, cap, css, rfl, hk2, hR2⟩ := hp
    have hsz := hk1'.size
    exact ⟨_, rfl, hk2, fun _ => ⟨a, cap, css, rfl, hR2.mono (fun b _ hb => hb.elim (fun h => h.elim) (fun h => Nat.le_trans hsz h)) (fun _ _ h => (liS gmS 4).mono h (fun b _ hb => hb.elim (fun h => h.elim) (fun h => Nat.le_trans hsz h)))⟩, fun e => (by cases e), fun e => (by cases e)⟩
  obtain ⟨wv, _, _, hv⟩ := hv
  obtain ⟨a1, c1, css1, rfl, _⟩ := hv.f1 rfl
  go_simp
  refine hK _ ?_
  clear hK hv
  repeat (first
    | (refine Stab.quiet rfl rfl rfl (fun K hK => ?_); go_big_quiet_op; refine hK _ ?_; clear hK K)
    | (refine Stab.one rfl rfl rfl ?_
       apply Exists.intro
       refine ⟨fun w1 hw1 => ?_, fun K hK => ?_⟩
       · go_simp
         first | fail
       go_simp
       refine hK _ ?_
       clear hK K)
    | (refine Stab.skip rfl (fun K hK => ?_); go_simp; refine hK _ ?_; clear hK K))
  refine Stab.made rfl rfl (fun w1 hk1 => ?_) (fun v hv K hK => ?_)
  · go_simp
    have hk1' : Stab.Keeps W3 w1 := hk1.1
    refine (HNW.out _ (Stab.Keeps.trans hK3 hk1') hS).mono ?_
    rintro e w2 ⟨cs, rfl, hk2, hx⟩
    obtain ⟨zk, zd, zna, znn, znc, zka, zkn, zkc, rfl⟩ := hx.four
    have hsz := hk1'.size
    exact ⟨_, rfl, hk2, fun e => (by cases e), fun _ => ⟨zk, zd, zna, znn, znc, zka, zkn, zkc, rfl, gmS.mono hx (fun b _ hb => hb.elim (fun h => h.elim) (fun h => Nat.le_trans hsz h))⟩, fun e => (by cases e)⟩
  obtain ⟨wv, _, _, hv⟩ := hv
  obtain ⟨zk, zd, zna, znn, znc, zka, zkn, zkc, rfl, _⟩ := hv.f3 rfl
  go_simp
  refine hK _ ?_
  clear hK hv
  refine Stab.made rfl rfl (fun w1 hk1 => ?_) (fun v hv K hK => ?_)
  · go_simp
    have hk1' : Stab.Keeps W3 w1 := hk1.1
    have hf3 := Stab.setF_new (hk1.2 3 (by rfl))
    obtain ⟨yk, yd, yna, ynn, ync, yka, ykn, ykc, he, hx⟩ := hf3.f3 rfl
    injection he with he
    injection he with he
    simp only [List.cons.injEq, Value.int.injEq, Value.slice.injEq, true_and, and_true] at he
    obtain ⟨e0, e1, ⟨e2, e3, e4⟩, e5, e6, e7⟩ := he
    have f0 : yk = zk := by omega
    have f1 : yd = zd := by omega
    subst f0 f1 e2 e3 e4 e5 e6 e7
    refine (lists_ _ p w1 hx HK6.out hok HMP.out).mono ?_
    rintro e w2 hp
    unfold ListsPost at hp
    rw [HLS.out, HN.out] at hp
    obtain ⟨a, cap, css, rfl, hk2, hR2⟩ := hp
    have hsz := hk1'.size
    exact ⟨_, rfl, hk2, fun e => (by cases e), fun e => (by cases e), fun _ => ⟨a, cap, css, rfl, hR2.mono (fun b _ hb => hb.elim (fun h => h) (fun h => Nat.le_trans hsz h)) (fun _ _ h => (liS gmS 4).mono h (fun b _ hb => hb.elim (fun h => h) (fun h => Nat.le_trans hsz h)))⟩⟩
  obtain ⟨wv, _, _, hv⟩ := hv
  obtain ⟨a4, c4, css4, rfl, _⟩ := hv.f4 rfl
  go_simp
  refine hK _ ?_
  clear hK hv
  repeat (first
    | (refine Stab.quiet rfl rfl rfl (fun K hK => ?_); go_big_quiet_op; refine hK _ ?_; clear hK K)
    | (refine Stab.one rfl rfl rfl ?_
       apply Exists.intro
       refine ⟨fun w1 hw1 => ?_, fun K hK => ?_⟩
       · go_simp
         first | fail
       go_simp
       refine hK _ ?_
       clear hK K)
    | (refine Stab.skip rfl (fun K hK => ?_); go_simp; refine hK _ ?_; clear hK K))
  refine Stab.nil fun W5 hw5 hfs => ?_
  obtain ⟨a1', c1', cssA, he, hRA⟩ := (Stab.setF_new (Stab.setF_old (Stab.setF_old (hfs 1)))).f1 rfl
  obtain ⟨a4', c4', cssB, he', hRB⟩ := (Stab.setF_new (hfs 4)).f4 rfl
  cases he
  cases he'
  have hK5 := Stab.Keeps.trans hK3 hw5
  clear hcx hfs hK3 hw5 hB3 t0 t1 t2 t3 tf tl HPL HNW HOK HMP HRL HK6 HANY hok hreal hS hTR
  go_wp2_with fail
  refine (HT0.out _).mono ?_
  unfold RetS
  simp only [List.length_singleton]
  rintro e W6 ⟨a9, c9, css9, rfl, hk9, _⟩
  have hK6 := Stab.Keeps.trans hK5 hk9
  have hA6 := hRA.kf (KF.keeps hk9) (fun _ _ h => (liS gmS 4).kf h (KF.keeps hk9))
  have hB6 := hRB.kf (KF.keeps hk9) (fun _ _ h => (liS gmS 4).kf h (KF.keeps hk9))
  have hle := hA6.sz.sz.le
  have hmx := hA6.sz.sz.max
  unfold maxLen at hmx
  clear hK5 hRA hRB hk9 HT0
  go_wp2_with fail
  go_loopw [33] (fun iv wr => ∃ k : Nat, k ≤ n ∧ iv = .int .i64 k ∧ Stab.Keeps W6 wr) (fun iv _ => n - (intOf iv).toNat)
  case atStart => exact ⟨0, by omega, rfl, Stab.Keeps.refl _⟩
  case round =>
    obtain ⟨k, hk, rfl, hkw⟩ := hrel
    by_cases hlt : k < n
    · obtain ⟨ba, oa, ca, ha, hba, _, _, _, hca, hxa⟩ := (hA6.kf (KF.keeps hkw) (fun _ _ h => (liS gmS 4).kf h (KF.keeps hkw))).elem hlt
      obtain ⟨bb, ob, cb, hb, hbb, _, _, _, hcb, hxb⟩ := (hB6.kf (KF.keeps hkw) (fun _ _ h => (liS gmS 4).kf h (KF.keeps hkw))).elem hlt
      have hkl : k < ls.length := by have := HN.out; omega
      have hlr := HLR.out ls[k] (List.getElem_mem _)
      generalize hle : ls[k]'hkl = l at *
      obtain ⟨xa, na', xc, xss, rfl, hxn, hXR⟩ := hxa
      obtain ⟨ya, nb', yc, yss, rfl, hyn, hYR⟩ := hxb
      have hnn : nb' = na' := by have := hXR.lx; have := hYR.lx; omega
      subst hnn
      subst ha
      subst hb
      have e0 : wr.cell? ⟨ba, oa + k, none⟩ = some (.slice xa nb' xc) := by have := hca 0 _ rfl; simpa using this
      have e1 : wr.cell? ⟨bb, ob + k, none⟩ = some (.slice ya nb' yc) := by have := hcb 0 _ rfl; simpa using this
      have hle1 := hXR.sz.sz.le
      have hle2 := hYR.sz.sz.le
      have HLRR := Lib.hid hlr
      have HLEN := Lib.hid hXR.lx
      clear hca hcb hlr
      go_wp2_with fail
      have hle3 : k < ls.length := hkl
      clear hle
      obtain ⟨wo, rfl⟩ : ∃ wo : World, wo = wr := ⟨wr, rfl⟩
      go_loopw [48] (fun iv wq => ∃ j : Nat, j ≤ nb' ∧ iv = .int .i64 j ∧ Stab.Keeps wo wq) (fun iv _ => nb' - (intOf iv).toNat)
      case atStart => exact ⟨0, by omega, rfl, Stab.Keeps.refl _⟩
      case round =>
        obtain ⟨j, hj, rfl, hkq⟩ := hrel
        by_cases hltj : j < nb'
        · have hXq := hXR.kf (KF.keeps hkq) (fun _ _ h => gmS.kf h (KF.keeps hkq))
          have hYq := hYR.kf (KF.keeps hkq) (fun _ _ h => gmS.kf h (KF.keeps hkq))
          obtain ⟨bx, ox, cx, hx, hbx, _, _, _, hcx, hgx⟩ := hXq.elem hltj
          obtain ⟨by_, oy, cy, hy, hby, _, _, _, hcy, hgy⟩ := hYq.elem hltj
          have hjl : j < l.length := by have := HLEN.out; omega
          have hreal := HLRR.out l[j] (List.getElem_mem _)
          generalize l[j]'hjl = pg at *
          obtain ⟨tx, htx, hAx, hIx⟩ := hgx.gt
          obtain ⟨ty, hty, hAy, hIy⟩ := hgy.gt
          have hAl := fun w' (hk' : Stab.Keeps wr w') => alike_ pg tx ty w' (hAx.keep hk') (hAy.keep hk') hIx hIy hreal
          obtain ⟨⟨xk, xd, xna, xnn, xnc, xka, xkn, xkc⟩, xnums, xkids⟩ := tx
          obtain ⟨⟨yk, yd, yna, ynn, ync, yka, ykn, ykc⟩, ynums, ykids⟩ := ty
          simp only [GT.cells, GT.hd, Gm.cells, Gm.val] at htx hty hAl
          subst htx hty hx hy
          have c0 : wr.cell? ⟨bx, ox + j * 4, none⟩ = some (.int .i64 xk) := by have := hcx 0 _ rfl; simpa using this
          have c1 : wr.cell? ⟨bx, ox + j * 4 + 1, none⟩ = some (.int .i64 xd) := hcx 1 _ rfl
          have c2 : wr.cell? ⟨bx, ox + j * 4 + 2, none⟩ = some (.slice xna xnn xnc) := hcx 2 _ rfl
          have c3 : wr.cell? ⟨bx, ox + j * 4 + 3, none⟩ = some (.slice xka xkn xkc) := hcx 3 _ rfl
          have d0 : wr.cell? ⟨by_, oy + j * 4, none⟩ = some (.int .i64 yk) := by have := hcy 0 _ rfl; simpa using this
          have d1 : wr.cell? ⟨by_, oy + j * 4 + 1, none⟩ = some (.int .i64 yd) := hcy 1 _ rfl
          have d2 : wr.cell? ⟨by_, oy + j * 4 + 2, none⟩ = some (.slice yna ynn ync) := hcy 2 _ rfl
          have d3 : wr.cell? ⟨by_, oy + j * 4 + 3, none⟩ = some (.slice yka ykn ykc) := hcy 3 _ rfl
          have e1q : wr.cell? ⟨bb, ob + k, none⟩ = some (.slice (some ⟨by_, oy, none⟩) nb' yc) := by rw [(Stab.own_cell hkq bb hbb).1]; exact e1
          have hbbq : bb < wr.heap.size := Nat.lt_of_lt_of_le hbb hkq.size
          clear hcx hcy hgx hgy hAx hAy hIx hIy hXq hYq
          go_upto_region 16 with (fail)
          have hkX : Stab.Keeps wr (wr.alloc (.cells #[.int .i64 xk, .int .i64 xd, .slice xna xnn xnc, .slice xka xkn xkc] 25)) := by repeat (first | (with_reducible exact Stab.Keeps.refl _) | (with_reducible assumption) | (with_reducible refine Stab.Keeps.alloc ?_ _) | (with_reducible refine Stab.Keeps.drew ?_) | (with_reducible refine Stab.Keeps.drewN ?_ _) | ((with_reducible refine Stab.Keeps.setCell ?_ ?_ _); focus (first | (simp; done) | (simp; omega))) | (with_reducible refine Stab.Keeps.trans ?_ (by with_reducible assumption)))
          have hBX : Blk (wr.alloc (.cells #[.int .i64 xk, .int .i64 xd, .slice xna xnn xnc, .slice xka xkn xkc] 25)) wr.heap.size 25 [.int .i64 xk, .int .i64 xd, .slice xna xnn xnc, .slice xka xkn xkc] := by repeat (first | (with_reducible assumption) | ((with_reducible refine Blk.new1 ⟨?_, ?_⟩) <;> focus (first | (with_reducible rfl) | (simp; done) | omega)) | (with_reducible refine Blk.alloc ?_ _) | (with_reducible refine Blk.drew ?_) | (with_reducible refine Blk.drewN ?_ _) | ((with_reducible refine Blk.past2 ?_ ?_); focus (first | (simp; done) | (simp; omega) | omega)))
          have hyc := Stab.own_cell hkX by_ hby
          have hbc := Stab.own_cell hkX bb hbbq
          generalize (wr.alloc (.cells #[.int .i64 xk, .int .i64 xd, .slice xna xnn xnc, .slice xka xkn xkc] 25)) = WX at *
          have f0 : WX.cell? ⟨by_, oy + j * 4, none⟩ = some (.int .i64 yk) := by rw [hyc.1]; exact d0
          have f1 : WX.cell? ⟨by_, oy + j * 4 + 1, none⟩ = some (.int .i64 yd) := by rw [hyc.1]; exact d1
          have f2 : WX.cell? ⟨by_, oy + j * 4 + 2, none⟩ = some (.slice yna ynn ync) := by rw [hyc.1]; exact d2
          have f3 : WX.cell? ⟨by_, oy + j * 4 + 3, none⟩ = some (.slice yka ykn ykc) := by rw [hyc.1]; exact d3
          have f4 : WX.cell? ⟨bb, ob + k, none⟩ = some (.slice (some ⟨by_, oy, none⟩) nb' yc) := by rw [hbc.1]; exact e1q
          have hbyX : by_ < WX.heap.size := by have := hkX.size; omega
          have hbbX : bb < WX.heap.size := by have := hkX.size; omega
          have hkqX := Stab.Keeps.trans hkq hkX
          clear hyc hbc c0 c1 c2 c3 d0 d1 d2 d3 e1q hbbq hkq
          have t0 := hBX.cell (i := 0) rfl
          have t1 := hBX.cell (i := 1) rfl
          have t2 := hBX.cell (i := 2) rfl
          have t3 := hBX.cell (i := 3) rfl
          have tf := hBX.free
          have tl := hBX.lt
          refine Stab.keep_region (fun _ _ _ => True) (fun _ => false) (fun k => k == 8) Stab.pre_none (by kernel_rfl) (by kernel_rfl) fun hcx => ?_
          repeat (first
            | (refine Stab.quiet rfl rfl rfl (fun K hK => ?_); go_big_quiet_op; refine hK _ ?_; clear hK K)
            | (refine Stab.one rfl rfl rfl ?_
               apply Exists.intro
               refine ⟨fun w1 hw1 => ?_, fun K hK => ?_⟩
               · go_simp
                 first | (go_at_call 14; exact hAl _ (by repeat (first | (with_reducible exact Stab.Keeps.refl _) | (with_reducible assumption) | (with_reducible refine Stab.Keeps.alloc ?_ _) | (with_reducible refine Stab.Keeps.drew ?_) | (with_reducible refine Stab.Keeps.drewN ?_ _) | ((with_reducible refine Stab.Keeps.setCell ?_ ?_ _); focus (first | (simp; done) | (simp; omega))) | (with_reducible refine Stab.Keeps.trans ?_ (by with_reducible assumption)))))
               go_simp
               refine hK _ ?_
               clear hK K)
            | (refine Stab.skip rfl (fun K hK => ?_); go_simp; refine hK _ ?_; clear hK K))
          refine Stab.nil fun w6 hk6 _ => ?_
          have hkz := Stab.Keeps.trans hkqX hk6
          clear hcx hk6 hBX f0 f1 f2 f3 f4 t0 t1 t2 t3 tf tl hkqX hkX
          go_wp2_with fail
          exact ⟨⟨j + 1, by omega, by simp, hkz⟩, by simp [intOf]; omega⟩
        · obtain rfl : j = nb' := by omega
          have hkz := Stab.Keeps.trans hkw hkq
          go_wp2_with fail
          exact ⟨⟨k + 1, by omega, by simp, hkz⟩, by simp [intOf]; omega⟩
    · obtain rfl : k = n := by omega
      go_wp2
      go_ret
      exact ⟨rfl, Stab.Keeps.trans hK6 hkw⟩
end Go.Proofs.YtbakhldjfplbfaaGreat
