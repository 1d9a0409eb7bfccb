/-
  The lists of places of a geometry. No condition.
-/
import Derived.Test.YtbakhldjfplbfaaGreatQ4
set_option linter.unusedVariables false
set_option linter.unusedSimpArgs false
namespace Go.Kf
open Go.RowKit Go.Sl Go.Ch
/-- a slice of one thing, just made -/
theorem Rows.lit1 {α : Type} {R : World → (Nat → Prop) → List Value → α → Prop} (S : Stable R) {W : World} {F : Nat → Prop} (cs : List Value) (T : TypeId) (x : α) (k : Nat) (hk : cs.length = k) (h0 : 0 < k) (hx : R W F cs x) (hF : F W.heap.size) : Rows (W.alloc (.cells cs.toArray T)) F R (some ⟨W.heap.size, 0, none⟩) 1 1 k [cs] [x] := by
  refine ⟨rfl, rfl, fun c hc => by simp at hc; rw [hc]; exact hk, ?_, fun i h1 h2 => ?_⟩
  · have h1 : (W.alloc (.cells cs.toArray T)).ownsRow W.heap.size T k (.slice (some ⟨W.heap.size, 0, none⟩) 1 1) 1 cs := by
      have := World.ownsRow_lit (base := W.heap.size) (e := T) (size := k) W cs.toArray 1 (Nat.le_refl _) (by unfold maxLen; omega) (by simpa using hk)
      simpa using this
    refine ⟨⟨by simpa using hk, Nat.le_refl _, by unfold maxLen; omega, fun _ => ?_⟩, fun _ y hy => by cases hy; exact hF⟩
    have h2 := SzF.of_owns (F := fun _ => True) h1 (fun _ _ => trivial)
    simpa using h2.sz.some_ (by omega)
  · have : i = 0 := by simp at h1; omega
    subst this
    exact S.kf hx ((KF.refl _ _).alloc _)
end Go.Kf
namespace Go.Proofs.YtbakhldjfplbfaaGreat
open Go.RowKit Go.Fl Go.Sl Go.Pg Go.Ch Go.Kf
def placesP (p : Pg) : List (List Pg) := if p.kind = 2 then [[p]] else if p.kind = 3 ∨ p.kind = 5 then [p.kids] else if p.kind = 4 then [[.node 2 p.dim (p.kids.flatMap Pg.ps) []]] else if p.kind = 6 then p.kids.map Pg.kids else []
set_option maxRecDepth 100000 in
theorem geoType_ (k : Int) (T : TypeId) (b : Nat) (w : World) : Calls Tryz.prog 66 #[.agg #[.int .i64 k, .iface T (.pointer (some ⟨b, 0, none⟩))]] w (One w (.int .i64 k)) := by
  go_enter Tryz.func66, Tryz.ntmps66
  go_wp2
  go_ret
  exact ⟨rfl, by repeat (first | (with_reducible exact Stab.Keeps.refl _) | (with_reducible assumption) | (with_reducible refine Stab.Keeps.alloc ?_ _) | (with_reducible refine Stab.Keeps.drew ?_) | (with_reducible refine Stab.Keeps.drewN ?_ _) | ((with_reducible refine Stab.Keeps.setCell ?_ ?_ _); focus (first | (simp; done) | (simp; omega))) | (with_reducible refine Stab.Keeps.trans ?_ (by with_reducible assumption)))⟩
def PlacesPost (w : World) (p : Pg) (e : Ending) (w' : World) : Prop := RetS w no (LiR GmR 4) 1 (placesP p).length (placesP p) e w'
set_option maxRecDepth 100000 in
set_option maxHeartbeats 2000000 in
theorem placesLs_ {F : Nat → Prop} (b : Nat) (cs : List Value) (p : Pg) (w : World) (hB : Blk w b 99 cs) (h : LsR w F cs p) (hok : PgOk p) : Calls Tryz.prog 41 #[.agg #[.int .i64 2, .iface 190 (.pointer (some ⟨b, 0, none⟩))]] w (PlacesPost w p) := by
  obtain ⟨d, ps, a, n, c, rfl, rfl, hS⟩ := h
  show Calls _ _ _ _ (RetS w no (LiR GmR 4) 1 1 [[.node 2 d ps []]])
  have hkA : Stab.Keeps w (w.alloc (.cells #[.int .i64 2, .iface 190 (.pointer (some ⟨b, 0, none⟩))] 78)) := by repeat (first | (with_reducible exact Stab.Keeps.refl _) | (with_reducible assumption) | (with_reducible refine Stab.Keeps.alloc ?_ _) | (with_reducible refine Stab.Keeps.drew ?_) | (with_reducible refine Stab.Keeps.drewN ?_ _) | ((with_reducible refine Stab.Keeps.setCell ?_ ?_ _); focus (first | (simp; done) | (simp; omega))) | (with_reducible refine Stab.Keeps.trans ?_ (by with_reducible assumption)))
  have hBA : Blk (w.alloc (.cells #[.int .i64 2, .iface 190 (.pointer (some ⟨b, 0, none⟩))] 78)) w.heap.size 78 [.int .i64 2, .iface 190 (.pointer (some ⟨b, 0, none⟩))] := by repeat (first | (with_reducible assumption) | ((with_reducible refine Blk.new1 ⟨?_, ?_⟩) <;> focus (first | (with_reducible rfl) | (simp; done) | omega)) | (with_reducible refine Blk.alloc ?_ _) | (with_reducible refine Blk.drew ?_) | (with_reducible refine Blk.drewN ?_ _) | ((with_reducible refine Blk.past2 ?_ ?_); focus (first | (simp; done) | (simp; omega) | omega)))
  go_enter Tryz.func41, Tryz.ntmps41
  go_upto_region 1 with (fail)
  generalize (w.alloc (.cells #[.int .i64 2, .iface 190 (.pointer (some ⟨b, 0, none⟩))] 78)) = W1 at *
  have t0 := hBA.cell (i := 0) rfl
  have t1 := hBA.cell (i := 1) rfl
  have tf := hBA.free
  have tl := hBA.lt
  go_wp2_with fail
  refine (geoType_ 2 _ b _).mono ?_
  rintro e W2 ⟨rfl, hk2⟩
  have hk12 := Stab.Keeps.trans hkA hk2
  have hBG := hBA.keep hk2
  clear t0 t1 tf tl hBA hkA hk2
  have t0 := hBG.cell (i := 0) rfl
  have t1 := hBG.cell (i := 1) rfl
  have tf := hBG.free
  have tl := hBG.lt
  go_wp2_with fail
  refine (mustLs_ a n c d b _ (hB.keep hk12)).mono ?_
  rintro e W3 ⟨rfl, hk3⟩
  have hk13 := Stab.Keeps.trans hk12 hk3
  clear t0 t1 tf tl hBG hk12 hk3
  go_wp2_with fail
  refine (lineCoords_ d a n c _).mono ?_
  rintro e W4 ⟨rfl, hk4⟩
  have hk14 := Stab.Keeps.trans hk13 hk4
  clear hk13 hk4
  go_wp2_with fail
  refine (plain_ d ps a n c _ (hS.keep hk14)).mono ?_
  rintro e W5 ⟨cs5, rfl, hk5, hx5⟩
  obtain ⟨zk, zd, zna, znn, znc, zka, zkn, zkc, rfl⟩ := hx5.four
  have hk15 := Stab.Keeps.trans hk14 hk5
  have hs1 : w.heap.size ≤ W4.heap.size := hk14.size
  have hs5 : w.heap.size ≤ W5.heap.size := hk15.size
  have hx := gmS.mono (G := orNew no w.heap.size) hx5 (fun b _ hb => hb.elim (fun h => h.elim) (fun h => .inr (by omega)))
  have hR1 := Rows.lit1 gmS [.int .i64 (zk : Nat), .int .i64 (zd : Nat), .slice zna znn znc, .slice zka zkn zkc] 25 _ 4 rfl (by omega) hx (.inr hs5)
  have hR2 := Rows.lit1 (liS gmS 4) [.slice (some ⟨W5.heap.size, 0, none⟩) 1 1] 23 _ 1 rfl (by omega) ⟨_, _, _, _, rfl, by omega, hR1⟩ (.inr (by simp; omega))
  have hk16 : Stab.Keeps w ((W5.alloc (.cells #[.int .i64 (zk : Nat), .int .i64 (zd : Nat), .slice zna znn znc, .slice zka zkn zkc] 25)).alloc (.cells #[.slice (some ⟨W5.heap.size, 0, none⟩) 1 1] 23)) := by repeat (first | (with_reducible exact Stab.Keeps.refl _) | (with_reducible assumption) | (with_reducible refine Stab.Keeps.alloc ?_ _) | (with_reducible refine Stab.Keeps.drew ?_) | (with_reducible refine Stab.Keeps.drewN ?_ _) | ((with_reducible refine Stab.Keeps.setCell ?_ ?_ _); focus (first | (simp; done) | (simp; omega))) | (with_reducible refine Stab.Keeps.trans ?_ (by with_reducible assumption)))
  have hs6 : (W5.alloc (.cells [.int .i64 (zk : Nat), .int .i64 (zd : Nat), .slice zna znn znc, .slice zka zkn zkc].toArray 25)).heap.size = W5.heap.size + 1 := by simp
  rw [hs6] at hR2
  clear hk14 hk5 hx5 hx hR1 hs6 hk15
  go_wp2_with fail
  go_ret
  exact ⟨_, _, _, rfl, hk16, hR2⟩
set_option maxRecDepth 100000 in
set_option maxHeartbeats 2000000 in
theorem placesMp_ {F : Nat → Prop} (b : Nat) (cs : List Value) (p : Pg) (w : World) (hB : Blk w b 126 cs) (h : MpR w F cs p) (hok : PgOk p) : Calls Tryz.prog 41 #[.agg #[.int .i64 4, .iface 192 (.pointer (some ⟨b, 0, none⟩))]] w (PlacesPost w p) := by
  have hkl : p.kids.length ≤ 1000 := by cases hok; assumption
  have h2 := h.two
  obtain ⟨a, n, c, d, rfl⟩ := h2
  have hpk : placesP p = [[.node 2 p.dim (p.kids.flatMap Pg.ps) []]] := by obtain ⟨_, _, _, _, _, _, _, rfl, _⟩ := h; rfl
  unfold PlacesPost
  rw [hpk]
  clear hpk hok
  have hkA : Stab.Keeps w (w.alloc (.cells #[.int .i64 4, .iface 192 (.pointer (some ⟨b, 0, none⟩))] 78)) := by repeat (first | (with_reducible exact Stab.Keeps.refl _) | (with_reducible assumption) | (with_reducible refine Stab.Keeps.alloc ?_ _) | (with_reducible refine Stab.Keeps.drew ?_) | (with_reducible refine Stab.Keeps.drewN ?_ _) | ((with_reducible refine Stab.Keeps.setCell ?_ ?_ _); focus (first | (simp; done) | (simp; omega))) | (with_reducible refine Stab.Keeps.trans ?_ (by with_reducible assumption)))
  have hBA : Blk (w.alloc (.cells #[.int .i64 4, .iface 192 (.pointer (some ⟨b, 0, none⟩))] 78)) w.heap.size 78 [.int .i64 4, .iface 192 (.pointer (some ⟨b, 0, none⟩))] := by repeat (first | (with_reducible assumption) | ((with_reducible refine Blk.new1 ⟨?_, ?_⟩) <;> focus (first | (with_reducible rfl) | (simp; done) | omega)) | (with_reducible refine Blk.alloc ?_ _) | (with_reducible refine Blk.drew ?_) | (with_reducible refine Blk.drewN ?_ _) | ((with_reducible refine Blk.past2 ?_ ?_); focus (first | (simp; done) | (simp; omega) | omega)))
  go_enter Tryz.func41, Tryz.ntmps41
  go_upto_region 1 with (fail)
  generalize (w.alloc (.cells #[.int .i64 4, .iface 192 (.pointer (some ⟨b, 0, none⟩))] 78)) = W1 at *
  have t0 := hBA.cell (i := 0) rfl
  have t1 := hBA.cell (i := 1) rfl
  have tf := hBA.free
  have tl := hBA.lt
  go_wp2_with fail
  refine (geoType_ 4 _ b _).mono ?_
  rintro e W2 ⟨rfl, hk2⟩
  have hk12 := Stab.Keeps.trans hkA hk2
  have hBG := hBA.keep hk2
  clear t0 t1 tf tl hBA hkA hk2
  have t0 := hBG.cell (i := 0) rfl
  have t1 := hBG.cell (i := 1) rfl
  have tf := hBG.free
  have tl := hBG.lt
  go_wp2_with fail
  refine (mustMp_ a n c d b _ (hB.keep hk12)).mono ?_
  rintro e W3 ⟨rfl, hk3⟩
  have hk13 := Stab.Keeps.trans hk12 hk3
  clear t0 t1 tf tl hBG hk12 hk3
  go_wp2_with fail
  refine (mpCoords_ _ p _ (mpS.kf h (KF.keeps hk13)) hkl).mono ?_
  rintro e W4 ⟨cs4, rfl, hk4, hx4⟩
  obtain ⟨zd0, zps, za, zn, zc, rfl, hpe, hS⟩ := hx4
  have hk14 := Stab.Keeps.trans hk13 hk4
  have HPE := Lib.hid hpe
  clear hk13 hk4 h hpe
  go_wp2_with fail
  refine (plain_ zd0 zps za zn zc _ hS).mono ?_
  rintro e W5 ⟨cs5, rfl, hk5, hx5⟩
  obtain ⟨zk, zd, zna, znn, znc, zka, zkn, zkc, rfl⟩ := hx5.four
  have hk15 := Stab.Keeps.trans hk14 hk5
  have hs1 : w.heap.size ≤ W4.heap.size := hk14.size
  have hs5 : w.heap.size ≤ W5.heap.size := hk15.size
  have hx := gmS.mono (G := orNew no w.heap.size) hx5 (fun b _ hb => hb.elim (fun h => h.elim) (fun h => .inr (by omega)))
  have hR1 := Rows.lit1 gmS [.int .i64 (zk : Nat), .int .i64 (zd : Nat), .slice zna znn znc, .slice zka zkn zkc] 25 _ 4 rfl (by omega) hx (.inr hs5)
  have hR2 := Rows.lit1 (liS gmS 4) [.slice (some ⟨W5.heap.size, 0, none⟩) 1 1] 23 _ 1 rfl (by omega) ⟨_, _, _, _, rfl, by omega, hR1⟩ (.inr (by simp; omega))
  have hk16 : Stab.Keeps w ((W5.alloc (.cells #[.int .i64 (zk : Nat), .int .i64 (zd : Nat), .slice zna znn znc, .slice zka zkn zkc] 25)).alloc (.cells #[.slice (some ⟨W5.heap.size, 0, none⟩) 1 1] 23)) := by repeat (first | (with_reducible exact Stab.Keeps.refl _) | (with_reducible assumption) | (with_reducible refine Stab.Keeps.alloc ?_ _) | (with_reducible refine Stab.Keeps.drew ?_) | (with_reducible refine Stab.Keeps.drewN ?_ _) | ((with_reducible refine Stab.Keeps.setCell ?_ ?_ _); focus (first | (simp; done) | (simp; omega))) | (with_reducible refine Stab.Keeps.trans ?_ (by with_reducible assumption)))
  have hs6 : (W5.alloc (.cells [.int .i64 (zk : Nat), .int .i64 (zd : Nat), .slice zna znn znc, .slice zka zkn zkc].toArray 25)).heap.size = W5.heap.size + 1 := by simp
  rw [hs6] at hR2
  clear hk14 hk5 hx5 hx hR1 hs6 hk15
  go_wp2_with fail
  go_ret
  exact ⟨_, _, _, rfl, hk16, by rw [HPE.out]; exact hR2⟩
set_option maxRecDepth 100000 in
set_option maxHeartbeats 2000000 in
theorem placesPy_ {F : Nat → Prop} (b : Nat) (cs : List Value) (p : Pg) (w : World) (hB : Blk w b 121 cs) (h : PyR w F cs p) (hok : PgOk p) : Calls Tryz.prog 41 #[.agg #[.int .i64 3, .iface 191 (.pointer (some ⟨b, 0, none⟩))]] w (PlacesPost w p) := by
  have hkl : p.kids.length ≤ 1000 := by cases hok; assumption
  have h2 := h.two
  obtain ⟨a, n, c, d, rfl⟩ := h2
  have hpk : placesP p = [p.kids] := by obtain ⟨_, _, _, _, _, _, _, rfl, _⟩ := h; rfl
  unfold PlacesPost
  rw [hpk]
  clear hpk hok
  have hkA : Stab.Keeps w (w.alloc (.cells #[.int .i64 3, .iface 191 (.pointer (some ⟨b, 0, none⟩))] 78)) := by repeat (first | (with_reducible exact Stab.Keeps.refl _) | (with_reducible assumption) | (with_reducible refine Stab.Keeps.alloc ?_ _) | (with_reducible refine Stab.Keeps.drew ?_) | (with_reducible refine Stab.Keeps.drewN ?_ _) | ((with_reducible refine Stab.Keeps.setCell ?_ ?_ _); focus (first | (simp; done) | (simp; omega))) | (with_reducible refine Stab.Keeps.trans ?_ (by with_reducible assumption)))
  have hBA : Blk (w.alloc (.cells #[.int .i64 3, .iface 191 (.pointer (some ⟨b, 0, none⟩))] 78)) w.heap.size 78 [.int .i64 3, .iface 191 (.pointer (some ⟨b, 0, none⟩))] := by repeat (first | (with_reducible assumption) | ((with_reducible refine Blk.new1 ⟨?_, ?_⟩) <;> focus (first | (with_reducible rfl) | (simp; done) | omega)) | (with_reducible refine Blk.alloc ?_ _) | (with_reducible refine Blk.drew ?_) | (with_reducible refine Blk.drewN ?_ _) | ((with_reducible refine Blk.past2 ?_ ?_); focus (first | (simp; done) | (simp; omega) | omega)))
  go_enter Tryz.func41, Tryz.ntmps41
  go_upto_region 1 with (fail)
  generalize (w.alloc (.cells #[.int .i64 3, .iface 191 (.pointer (some ⟨b, 0, none⟩))] 78)) = W1 at *
  have t0 := hBA.cell (i := 0) rfl
  have t1 := hBA.cell (i := 1) rfl
  have tf := hBA.free
  have tl := hBA.lt
  go_wp2_with fail
  refine (geoType_ 3 _ b _).mono ?_
  rintro e W2 ⟨rfl, hk2⟩
  have hk12 := Stab.Keeps.trans hkA hk2
  have hBG := hBA.keep hk2
  clear t0 t1 tf tl hBA hkA hk2
  have t0 := hBG.cell (i := 0) rfl
  have t1 := hBG.cell (i := 1) rfl
  have tf := hBG.free
  have tl := hBG.lt
  go_wp2_with fail
  refine (mustPy_ a n c d b _ (hB.keep hk12)).mono ?_
  rintro e W3 ⟨rfl, hk3⟩
  have hk13 := Stab.Keeps.trans hk12 hk3
  clear t0 t1 tf tl hBG hk12 hk3
  go_wp2_with fail
  refine (pyCoords_ _ p _ (pyS.kf h (KF.keeps hk13))).mono ?_
  rintro e W4 ⟨qa, qc, qcss, rfl, hk4, hR4⟩
  have hk14 := Stab.Keeps.trans hk13 hk4
  clear hk13 hk4 h
  generalize hks : p.kids = ks at *
  have HKS := Lib.hid hks
  clear hks
  generalize ks.length = q at *
  go_wp2_with fail
  refine (sequences_ qa q qc qcss ks _ (by omega) hR4).mono ?_
  rintro e W5 ⟨za, zc, zcss, rfl, hk5, hR5⟩
  have hk15 := Stab.Keeps.trans hk14 hk5
  have hs1 : w.heap.size ≤ W4.heap.size := hk14.size
  have hs5 : w.heap.size ≤ W5.heap.size := hk15.size
  have hR6 := hR5.mono (G := orNew no w.heap.size) (fun b _ hb => hb.elim (fun h => h.elim) (fun h => .inr (by omega))) (fun _ _ h => gmS.mono h (fun b _ hb => hb.elim (fun h => h.elim) (fun h => .inr (by omega))))
  have hR2 := Rows.lit1 (liS gmS 4) [.slice za q zc] 23 _ 1 rfl (by omega) ⟨_, _, _, _, rfl, by omega, hR6⟩ (.inr hs5)
  have hk16 : Stab.Keeps w (W5.alloc (.cells #[.slice za q zc] 23)) := by repeat (first | (with_reducible exact Stab.Keeps.refl _) | (with_reducible assumption) | (with_reducible refine Stab.Keeps.alloc ?_ _) | (with_reducible refine Stab.Keeps.drew ?_) | (with_reducible refine Stab.Keeps.drewN ?_ _) | ((with_reducible refine Stab.Keeps.setCell ?_ ?_ _); focus (first | (simp; done) | (simp; omega))) | (with_reducible refine Stab.Keeps.trans ?_ (by with_reducible assumption)))
  clear hk14 hk5 hR5 hR6 hk15 hR4
  go_wp2_with fail
  go_ret
  exact ⟨_, _, _, rfl, hk16, by rw [HKS.out]; exact hR2⟩
set_option maxRecDepth 100000 in
set_option maxHeartbeats 2000000 in
theorem placesMl_ {F : Nat → Prop} (b : Nat) (cs : List Value) (p : Pg) (w : World) (hB : Blk w b 129 cs) (h : MlR w F cs p) (hok : PgOk p) : Calls Tryz.prog 41 #[.agg #[.int .i64 5, .iface 197 (.pointer (some ⟨b, 0, none⟩))]] w (PlacesPost w p) := by
  have hkl : p.kids.length ≤ 1000 := by cases hok; assumption
  have h2 := h.two
  obtain ⟨a, n, c, d, rfl⟩ := h2
  have hpk : placesP p = [p.kids] := by obtain ⟨_, _, _, _, _, _, _, rfl, _⟩ := h; rfl
  unfold PlacesPost
  rw [hpk]
  clear hpk hok
  have hkA : Stab.Keeps w (w.alloc (.cells #[.int .i64 5, .iface 197 (.pointer (some ⟨b, 0, none⟩))] 78)) := by repeat (first | (with_reducible exact Stab.Keeps.refl _) | (with_reducible assumption) | (with_reducible refine Stab.Keeps.alloc ?_ _) | (with_reducible refine Stab.Keeps.drew ?_) | (with_reducible refine Stab.Keeps.drewN ?_ _) | ((with_reducible refine Stab.Keeps.setCell ?_ ?_ _); focus (first | (simp; done) | (simp; omega))) | (with_reducible refine Stab.Keeps.trans ?_ (by with_reducible assumption)))
  have hBA : Blk (w.alloc (.cells #[.int .i64 5, .iface 197 (.pointer (some ⟨b, 0, none⟩))] 78)) w.heap.size 78 [.int .i64 5, .iface 197 (.pointer (some ⟨b, 0, none⟩))] := by repeat (first | (with_reducible assumption) | ((with_reducible refine Blk.new1 ⟨?_, ?_⟩) <;> focus (first | (with_reducible rfl) | (simp; done) | omega)) | (with_reducible refine Blk.alloc ?_ _) | (with_reducible refine Blk.drew ?_) | (with_reducible refine Blk.drewN ?_ _) | ((with_reducible refine Blk.past2 ?_ ?_); focus (first | (simp; done) | (simp; omega) | omega)))
  go_enter Tryz.func41, Tryz.ntmps41
  go_upto_region 1 with (fail)
  generalize (w.alloc (.cells #[.int .i64 5, .iface 197 (.pointer (some ⟨b, 0, none⟩))] 78)) = W1 at *
  have t0 := hBA.cell (i := 0) rfl
  have t1 := hBA.cell (i := 1) rfl
  have tf := hBA.free
  have tl := hBA.lt
  go_wp2_with fail
  refine (geoType_ 5 _ b _).mono ?_
  rintro e W2 ⟨rfl, hk2⟩
  have hk12 := Stab.Keeps.trans hkA hk2
  have hBG := hBA.keep hk2
  clear t0 t1 tf tl hBA hkA hk2
  have t0 := hBG.cell (i := 0) rfl
  have t1 := hBG.cell (i := 1) rfl
  have tf := hBG.free
  have tl := hBG.lt
  go_wp2_with fail
  refine (mustMl_ a n c d b _ (hB.keep hk12)).mono ?_
  rintro e W3 ⟨rfl, hk3⟩
  have hk13 := Stab.Keeps.trans hk12 hk3
  clear t0 t1 tf tl hBG hk12 hk3
  go_wp2_with fail
  refine (mlCoords_ _ p _ (mlS.kf h (KF.keeps hk13))).mono ?_
  rintro e W4 ⟨qa, qc, qcss, rfl, hk4, hR4⟩
  have hk14 := Stab.Keeps.trans hk13 hk4
  clear hk13 hk4 h
  generalize hks : p.kids = ks at *
  have HKS := Lib.hid hks
  clear hks
  generalize ks.length = q at *
  go_wp2_with fail
  refine (sequences_ qa q qc qcss ks _ (by omega) hR4).mono ?_
  rintro e W5 ⟨za, zc, zcss, rfl, hk5, hR5⟩
  have hk15 := Stab.Keeps.trans hk14 hk5
  have hs1 : w.heap.size ≤ W4.heap.size := hk14.size
  have hs5 : w.heap.size ≤ W5.heap.size := hk15.size
  have hR6 := hR5.mono (G := orNew no w.heap.size) (fun b _ hb => hb.elim (fun h => h.elim) (fun h => .inr (by omega))) (fun _ _ h => gmS.mono h (fun b _ hb => hb.elim (fun h => h.elim) (fun h => .inr (by omega))))
  have hR2 := Rows.lit1 (liS gmS 4) [.slice za q zc] 23 _ 1 rfl (by omega) ⟨_, _, _, _, rfl, by omega, hR6⟩ (.inr hs5)
  have hk16 : Stab.Keeps w (W5.alloc (.cells #[.slice za q zc] 23)) := by repeat (first | (with_reducible exact Stab.Keeps.refl _) | (with_reducible assumption) | (with_reducible refine Stab.Keeps.alloc ?_ _) | (with_reducible refine Stab.Keeps.drew ?_) | (with_reducible refine Stab.Keeps.drewN ?_ _) | ((with_reducible refine Stab.Keeps.setCell ?_ ?_ _); focus (first | (simp; done) | (simp; omega))) | (with_reducible refine Stab.Keeps.trans ?_ (by with_reducible assumption)))
  clear hk14 hk5 hR5 hR6 hk15 hR4
  go_wp2_with fail
  go_ret
  exact ⟨_, _, _, rfl, hk16, by rw [HKS.out]; exact hR2⟩
set_option maxRecDepth 100000 in
set_option maxHeartbeats 2000000 in
theorem placesPt_ {F : Nat → Prop} (b : Nat) (cs : List Value) (p : Pg) (w : World) (hB : Blk w b 141 cs) (h : PtR w F cs p) (hok : PgOk p) : Calls Tryz.prog 41 #[.agg #[.int .i64 1, .iface 204 (.pointer (some ⟨b, 0, none⟩))]] w (PlacesPost w p) := by
  have hpk : placesP p = [] := by obtain ⟨_, _, _, rfl, _⟩ := h; rfl
  unfold PlacesPost
  rw [hpk]
  clear hpk hok h
  have hkA : Stab.Keeps w (w.alloc (.cells #[.int .i64 1, .iface 204 (.pointer (some ⟨b, 0, none⟩))] 78)) := by repeat (first | (with_reducible exact Stab.Keeps.refl _) | (with_reducible assumption) | (with_reducible refine Stab.Keeps.alloc ?_ _) | (with_reducible refine Stab.Keeps.drew ?_) | (with_reducible refine Stab.Keeps.drewN ?_ _) | ((with_reducible refine Stab.Keeps.setCell ?_ ?_ _); focus (first | (simp; done) | (simp; omega))) | (with_reducible refine Stab.Keeps.trans ?_ (by with_reducible assumption)))
  have hBA : Blk (w.alloc (.cells #[.int .i64 1, .iface 204 (.pointer (some ⟨b, 0, none⟩))] 78)) w.heap.size 78 [.int .i64 1, .iface 204 (.pointer (some ⟨b, 0, none⟩))] := by repeat (first | (with_reducible assumption) | ((with_reducible refine Blk.new1 ⟨?_, ?_⟩) <;> focus (first | (with_reducible rfl) | (simp; done) | omega)) | (with_reducible refine Blk.alloc ?_ _) | (with_reducible refine Blk.drew ?_) | (with_reducible refine Blk.drewN ?_ _) | ((with_reducible refine Blk.past2 ?_ ?_); focus (first | (simp; done) | (simp; omega) | omega)))
  go_enter Tryz.func41, Tryz.ntmps41
  go_upto_region 1 with (fail)
  generalize (w.alloc (.cells #[.int .i64 1, .iface 204 (.pointer (some ⟨b, 0, none⟩))] 78)) = W1 at *
  have t0 := hBA.cell (i := 0) rfl
  have t1 := hBA.cell (i := 1) rfl
  have tf := hBA.free
  have tl := hBA.lt
  go_wp2_with fail
  refine (geoType_ 1 _ b _).mono ?_
  rintro e W2 ⟨rfl, hk2⟩
  have hk12 := Stab.Keeps.trans hkA hk2
  have hBG := hBA.keep hk2
  clear t0 t1 tf tl hBA hkA hk2
  have t0 := hBG.cell (i := 0) rfl
  have t1 := hBG.cell (i := 1) rfl
  have tf := hBG.free
  have tl := hBG.lt
  go_wp2_with fail
  go_ret
  exact ⟨none, 0, [], rfl, hk12, Rows.nil _ _ _ _⟩
theorem infoGms : (Tryz.prog.info? 23).map (fun i => (i.zero, i.size, i.bytes)) = some (some (.slice none 0 0), 1, 24) := by kernel_rfl
set_option maxRecDepth 100000 in
set_option maxHeartbeats 2000000 in
theorem placesMy_ {F : Nat → Prop} (b : Nat) (cs : List Value) (p : Pg) (w : World) (hB : Blk w b 134 cs) (h : MyR w F cs p) (hok : PgOk p) : Calls Tryz.prog 41 #[.agg #[.int .i64 6, .iface 199 (.pointer (some ⟨b, 0, none⟩))]] w (PlacesPost w p) := by
  have hkl : p.kids.length ≤ 1000 := by cases hok; assumption
  obtain ⟨i0, hi, hz0, hz1, hz2⟩ := info_parts infoGms
  have HI := Lib.hid hi
  have HZ0 := Lib.hid hz0
  have HZ1 := Lib.hid hz1
  have HZ2 := Lib.hid hz2
  clear hi hz0 hz1 hz2
  have h2 := h.two
  obtain ⟨a, n, c, d, rfl⟩ := h2
  have hpk : placesP p = p.kids.map Pg.kids := by obtain ⟨_, _, _, _, _, _, _, rfl, _⟩ := h; rfl
  unfold PlacesPost
  rw [hpk, List.length_map]
  clear hpk hok
  have hkA : Stab.Keeps w (w.alloc (.cells #[.int .i64 6, .iface 199 (.pointer (some ⟨b, 0, none⟩))] 78)) := by repeat (first | (with_reducible exact Stab.Keeps.refl _) | (with_reducible assumption) | (with_reducible refine Stab.Keeps.alloc ?_ _) | (with_reducible refine Stab.Keeps.drew ?_) | (with_reducible refine Stab.Keeps.drewN ?_ _) | ((with_reducible refine Stab.Keeps.setCell ?_ ?_ _); focus (first | (simp; done) | (simp; omega))) | (with_reducible refine Stab.Keeps.trans ?_ (by with_reducible assumption)))
  have hBA : Blk (w.alloc (.cells #[.int .i64 6, .iface 199 (.pointer (some ⟨b, 0, none⟩))] 78)) w.heap.size 78 [.int .i64 6, .iface 199 (.pointer (some ⟨b, 0, none⟩))] := by repeat (first | (with_reducible assumption) | ((with_reducible refine Blk.new1 ⟨?_, ?_⟩) <;> focus (first | (with_reducible rfl) | (simp; done) | omega)) | (with_reducible refine Blk.alloc ?_ _) | (with_reducible refine Blk.drew ?_) | (with_reducible refine Blk.drewN ?_ _) | ((with_reducible refine Blk.past2 ?_ ?_); focus (first | (simp; done) | (simp; omega) | omega)))
  go_enter Tryz.func41, Tryz.ntmps41
  go_upto_region 1 with (fail)
  generalize (w.alloc (.cells #[.int .i64 6, .iface 199 (.pointer (some ⟨b, 0, none⟩))] 78)) = W1 at *
  have t0 := hBA.cell (i := 0) rfl
  have t1 := hBA.cell (i := 1) rfl
  have tf := hBA.free
  have tl := hBA.lt
  go_wp2_with fail
  refine (geoType_ 6 _ b _).mono ?_
  rintro e W2 ⟨rfl, hk2⟩
  have hk12 := Stab.Keeps.trans hkA hk2
  have hBG := hBA.keep hk2
  clear t0 t1 tf tl hBA hkA hk2
  have t0 := hBG.cell (i := 0) rfl
  have t1 := hBG.cell (i := 1) rfl
  have tf := hBG.free
  have tl := hBG.lt
  go_wp2_with fail
  refine (mustMy_ a n c d b _ (hB.keep hk12)).mono ?_
  rintro e W3 ⟨rfl, hk3⟩
  have hk13 := Stab.Keeps.trans hk12 hk3
  clear t0 t1 tf tl hBG hk12 hk3
  go_wp2_with fail
  refine (myCoords_ _ p _ (myS.kf h (KF.keeps hk13))).mono ?_
  rintro e W4 ⟨qa, qc, qcss, rfl, hk4, hR4⟩
  have hk14 := Stab.Keeps.trans hk13 hk4
  have hs4 : w.heap.size ≤ W4.heap.size := hk14.size
  clear hk13 hk4 h
  have hql : (p.kids.map Pg.kids).length = p.kids.length := by simp
  generalize hks : p.kids.map Pg.kids = ks at *
  generalize hqq : p.kids.length = q at *
  have HKS := Lib.hid hks
  have HQL := Lib.hid hql
  have HQQ := Lib.hid hqq
  have hqm := hR4.sz.sz.max
  have hql2 := hR4.sz.sz.le
  unfold maxLen at hqm
  clear hks hql hqq
  go_wp2_with fail
  have hG0 : GrowB W4.heap.size W4 (LiR GmR 4) 23 1 0 (.slice none 0 0) (ks.take 0) := by simpa using GrowB.nil W4.heap.size W4 (LiR GmR 4) 23 1 (Nat.le_refl _)
  go_loopw [3, 44] (fun v iv wr => ∃ (k : Nat) (al : Option Addr) (c : Nat), k ≤ q ∧ iv = .int .i64 k ∧ v = .slice al k c ∧ Stab.Keeps W4 wr ∧ GrowB W4.heap.size wr (LiR GmR 4) 23 1 k (.slice al k c) (ks.take k)) (fun _ iv _ => q - (intOf iv).toNat)
  case atStart => exact ⟨0, none, 0, by omega, rfl, rfl, Stab.Keeps.refl _, hG0⟩
  case round =>
    clear hG0
    obtain ⟨k, al, c, hk, rfl, rfl, hkw, hG⟩ := hrel
    by_cases hlt : k < q
    · obtain ⟨bb, off, cc, ha, hb, _, _, hc6, hcc, hx⟩ := (hR4.kf (KF.keeps hkw) (fun _ _ h => (liS lsS 2).kf h (KF.keeps hkw))).elem hlt
      have hkk : k < ks.length := by have := HQL.out; omega
      have htk : ks.take (k + 1) = ks.take k ++ [ks[k]] := List.take_succ_eq_append_getElem hkk
      generalize hke : ks[k]'hkk = kid at *
      have HTK := Lib.hid htk
      clear htk hke
      obtain ⟨za, zn, zc, zcss, rfl, hzn, hS⟩ := hx
      subst ha
      have e0 : wr.cell? ⟨bb, off + k, none⟩ = some (.slice za zn zc) := by have := hcc 0 _ rfl; simpa using this
      have hP := fun w' (hk' : Stab.Keeps wr w') => sequences_ za zn zc zcss kid w' hzn (hS.kf (KF.keeps hk') (fun _ _ h => lsS.kf h (KF.keeps hk')))
      clear hcc hS
      generalize hyse : ks.take k = ys at *
      have hown : ∀ g, (Value.slice al k c).ownBlock = some g → g < wr.heap.size := fun g hg => (hG.own hg).2
      have hgl : W4.heap.size ≤ wr.heap.size := hG.size
      go_wp2_with fail
      refine (hP _ (by repeat (first | (with_reducible exact Stab.Keeps.refl _) | (with_reducible assumption) | (with_reducible refine Stab.Keeps.alloc ?_ _) | (with_reducible refine Stab.Keeps.drew ?_) | (with_reducible refine Stab.Keeps.drewN ?_ _) | ((with_reducible refine Stab.Keeps.setCell ?_ ?_ _); focus (first | (simp; done) | (simp; omega))) | (with_reducible refine Stab.Keeps.trans ?_ (by with_reducible assumption))))).mono ?_
      clear hP
      rintro e w4 ⟨ua, uc, ucss, rfl, hk4, hx4⟩
      have hG5 : GrowB W4.heap.size (w4.alloc (.cells #[.slice ua zn uc] 23)) (LiR GmR 4) 23 1 k (.slice al k c) ys := hG.keep (liS gmS 4) (hk4.alloc _)
      have hx5 : LiR GmR 4 (w4.alloc (.cells #[.slice ua zn uc] 23)) (fun b => wr.heap.size ≤ b ∧ b < w4.heap.size) [.slice ua zn uc] kid := (liS gmS 4).kf (⟨_, _, _, _, rfl, hzn, hx4.mono (fun b hb hf => hf.elim (fun h => h.elim) (fun h => ⟨h, hb⟩)) (fun _ _ h => gmS.mono h (fun b hb hf => hf.elim (fun h => h.elim) (fun h => ⟨h, hb⟩)))⟩) ((KF.refl _ _).alloc _)
      have hone : ∀ u ∈ ([.slice ua zn uc] : List Value), u.oneCell' = true := by intro u hu; simp at hu; subst hu; rfl
      have hkw4 := Stab.Keeps.trans hkw hk4
      have hs4 : wr.heap.size ≤ w4.heap.size := hk4.size
      have HG5 := Lib.hid hG5
      clear hG hG5 hx4 hk4 e0
      go_wp2_with (at_builtin; (refine append_growB (B := W4.heap.size) (liS gmS 4) rfl _ _ 27 rfl 23 i0 _ 1 24 Tryz.underlying27 HI.out HZ0.out HZ1.out HZ2.out rfl (by decide) _ k ys rfl HG5.out ⟨w4.heap.size, 0, none⟩ 1 [.slice ua zn uc] rfl rfl ?c1 hone ?c2 ?c3 _ _ hx5 ?c4 ?c5 ?_))
      case c1 => exact new_cells _ _ _ _ rfl
      case c2 => unfold maxLen; omega
      case c3 => omega
      case c4 => exact fun b hb => ⟨by omega, by simp; omega⟩
      case c5 => exact fun g hg hb => by have := hown g hg; omega
      intro al' c' w7 hG7 hB7 hgr
      have hk7 : Stab.Keeps W4 w7 := Below.trans (Stab.Keeps.alloc hkw4 _) hB7
      rw [← HTK.out] at hG7
      clear HG5 hown hgr hB7 hkw4 hx5
      go_wp2_with fail
      exact ⟨⟨k + 1, al', c', by omega, by simp, rfl, hk7, hG7⟩, by simp [intOf]; omega⟩
    · obtain rfl : q = k := by omega
      rw [List.take_of_length_le (by rw [HQL.out]; exact Nat.le_refl _)] at hG
      obtain ⟨css', hR'⟩ := hG.toRows (liS gmS 4)
      have hkz := Stab.Keeps.trans hk14 hkw
      go_wp2
      go_ret
      rw [HQQ.out, HKS.out]
      exact ⟨al, c, css', rfl, hkz, hR'.mono (fun b _ hb => .inr (by omega)) (fun _ _ h => (liS gmS 4).mono h (fun b _ hb => .inr (by omega)))⟩
set_option maxRecDepth 100000 in
set_option maxHeartbeats 2000000 in
theorem placesGc_ {F : Nat → Prop} (b : Nat) (cs : List Value) (p : Pg) (w : World) (hB : Blk w b 150 cs) (h : GcR w F cs p) (hok : PgOk p) : Calls Tryz.prog 41 #[.agg #[.int .i64 0, .iface 210 (.pointer (some ⟨b, 0, none⟩))]] w (PlacesPost w p) := by
  have hpk : placesP p = [] := by obtain ⟨_, _, _, _, _, _, _, rfl, _⟩ := h; rfl
  unfold PlacesPost
  rw [hpk]
  clear hpk hok h
  have hkA : Stab.Keeps w (w.alloc (.cells #[.int .i64 0, .iface 210 (.pointer (some ⟨b, 0, none⟩))] 78)) := by repeat (first | (with_reducible exact Stab.Keeps.refl _) | (with_reducible assumption) | (with_reducible refine Stab.Keeps.alloc ?_ _) | (with_reducible refine Stab.Keeps.drew ?_) | (with_reducible refine Stab.Keeps.drewN ?_ _) | ((with_reducible refine Stab.Keeps.setCell ?_ ?_ _); focus (first | (simp; done) | (simp; omega))) | (with_reducible refine Stab.Keeps.trans ?_ (by with_reducible assumption)))
  have hBA : Blk (w.alloc (.cells #[.int .i64 0, .iface 210 (.pointer (some ⟨b, 0, none⟩))] 78)) w.heap.size 78 [.int .i64 0, .iface 210 (.pointer (some ⟨b, 0, none⟩))] := by repeat (first | (with_reducible assumption) | ((with_reducible refine Blk.new1 ⟨?_, ?_⟩) <;> focus (first | (with_reducible rfl) | (simp; done) | omega)) | (with_reducible refine Blk.alloc ?_ _) | (with_reducible refine Blk.drew ?_) | (with_reducible refine Blk.drewN ?_ _) | ((with_reducible refine Blk.past2 ?_ ?_); focus (first | (simp; done) | (simp; omega) | omega)))
  go_enter Tryz.func41, Tryz.ntmps41
  go_upto_region 1 with (fail)
  generalize (w.alloc (.cells #[.int .i64 0, .iface 210 (.pointer (some ⟨b, 0, none⟩))] 78)) = W1 at *
  have t0 := hBA.cell (i := 0) rfl
  have t1 := hBA.cell (i := 1) rfl
  have tf := hBA.free
  have tl := hBA.lt
  go_wp2_with fail
  refine (geoType_ 0 _ b _).mono ?_
  rintro e W2 ⟨rfl, hk2⟩
  have hk12 := Stab.Keeps.trans hkA hk2
  have hBG := hBA.keep hk2
  clear t0 t1 tf tl hBA hkA hk2
  have t0 := hBG.cell (i := 0) rfl
  have t1 := hBG.cell (i := 1) rfl
  have tf := hBG.free
  have tl := hBG.lt
  go_wp2_with fail
  go_ret
  exact ⟨none, 0, [], rfl, hk12, Rows.nil _ _ _ _⟩
theorem iplaces_ {F : Nat → Prop} (cs : List Value) (p : Pg) (w : World) (h : GeoR w F cs p) (hok : PgOk p) : Calls Tryz.prog 41 #[.agg cs.toArray] w (PlacesPost w p) := by
  cases h with
  | pt b cs p hF hB h => exact placesPt_ b cs p w hB h hok
  | ls b cs p hF hB h => exact placesLs_ b cs p w hB h hok
  | py b cs p hF hB h => exact placesPy_ b cs p w hB h hok
  | mp b cs p hF hB h => exact placesMp_ b cs p w hB h hok
  | ml b cs p hF hB h => exact placesMl_ b cs p w hB h hok
  | my b cs p hF hB h => exact placesMy_ b cs p w hB h hok
  | gc b d a n cap css kids hF hB hd hn lc lx each sz is hdim => exact placesGc_ (F := F) b _ _ w hB ⟨d, a, n, cap, css, kids, rfl, rfl, hd, hn, ⟨lc, lx, each, sz, is⟩, hdim⟩ hok
theorem implPlaces_ (t : GT) (w : World) (hA : t.At w) (hs : t.Small) : Calls Tryz.prog 11 #[t.hd.val] w (PlacesPost w (newP t)) := by
  have hM := fun w' (hk : Stab.Keeps w w') => makeGeo_ t w' (hA.keep hk) hs
  have hok := newP_ok t hs
  generalize newP t = p at *
  obtain ⟨⟨kind, dim, na, nn, nc, ka, kn, kc⟩, nums, kids⟩ := t
  simp only [GT.hd, Gm.val] at hM ⊢
  clear hA hs
  go_enter Tryz.func11, Tryz.ntmps11
  go_wp2_with fail
  have hkA : Stab.Keeps w (w.alloc (.cells #[.int .i64 kind, .int .i64 dim, .slice na nn nc, .slice ka kn kc] 25)) := by repeat (first | (with_reducible exact Stab.Keeps.refl _) | (with_reducible assumption) | (with_reducible refine Stab.Keeps.alloc ?_ _) | (with_reducible refine Stab.Keeps.drew ?_) | (with_reducible refine Stab.Keeps.drewN ?_ _) | ((with_reducible refine Stab.Keeps.setCell ?_ ?_ _); focus (first | (simp; done) | (simp; omega))) | (with_reducible refine Stab.Keeps.trans ?_ (by with_reducible assumption)))
  refine (hM _ hkA).mono ?_
  clear hM
  rintro e w2 ⟨cs2, rfl, hk2, hx⟩
  obtain ⟨zk, zT, zb, rfl⟩ := hx.two
  have hk12 := Stab.Keeps.trans hkA hk2
  clear hkA hk2
  go_wp2_with fail
  refine (iplaces_ _ p _ hx hok).mono ?_
  rintro e w3 ⟨a3, c3, css3, rfl, hk3, hR3⟩
  have hk13 := Stab.Keeps.trans hk12 hk3
  have hs : w.heap.size ≤ w2.heap.size := hk12.size
  have hR5 := hR3.mono (G := orNew no w.heap.size) (fun b _ hb => hb.elim (fun h => h.elim) (fun h => .inr (by omega))) (fun _ _ h => (liS gmS 4).mono h (fun b _ hb => hb.elim (fun h => h.elim) (fun h => .inr (by omega))))
  generalize hls : placesP p = ls at *
  generalize hnn : ls.length = n at *
  have HLS := Lib.hid hls
  have HNN := Lib.hid hnn
  clear hk12 hk3 hx hls hnn hR3
  go_wp2_with fail
  go_ret
  unfold PlacesPost
  rw [HLS.out, HNN.out]
  exact ⟨a3, c3, css3, rfl, hk13, hR5⟩
end Go.Proofs.YtbakhldjfplbfaaGreat
