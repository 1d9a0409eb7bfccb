/-
  The reference's lists of places, walked. No condition.
-/
import Derived.Test.YtbakhldjfplbfaaGreatK5
import Derived.Test.YtbakhldjfplbfaaGreatGrow3
set_option linter.unusedVariables false
set_option linter.unusedSimpArgs false
namespace Go.Proofs.YtbakhldjfplbfaaGreat
open Go.RowKit Go.Fl Go.Sl Go.Pg Go.Ch Go.Kf
def ListsPost (w : World) (F : Nat → Prop) (p : Pg) (e : Ending) (w' : World) : Prop := RetS w F (LiR GmR 4) 1 (placesP p).length (placesP p) e w'
set_option maxRecDepth 100000 in
set_option maxHeartbeats 2000000 in
theorem lists2_ {F : Nat → Prop} (d : Nat) (na ka : Option Addr) (nn nc kn kc : Nat) (ps : List Pl) (ks : List Pg) (w : World) (h : GmR w F [.int .i64 (2 : Nat), .int .i64 d, .slice na nn nc, .slice ka kn kc] (.node 2 d ps ks)) (hok : PgOk (.node 2 d ps ks)) (hmp : MpOk (.node 2 d ps ks)) : Calls Tryz.prog 12 #[.agg #[.int .i64 2, .int .i64 d, .slice na nn nc, .slice ka kn kc]] w (ListsPost w F (.node 2 d ps ks)) := by
  show Calls _ _ _ _ (RetS w F (LiR GmR 4) 1 1 ([[.node 2 d ps ks]]))
  have hkn : kn ≤ 1000 ∧ ∃ css, Go.Kf.Rows w F GmR ka kn kc 4 css ks := by
    cases hok
    cases h with
    | mk _ _ _ _ _ _ _ _ _ _ css hn h1 lc lx each sz is => exact ⟨by omega, css, lc, lx, each, sz, is⟩
  obtain ⟨hkn, css, hR⟩ := hkn
  clear hmp hok hR hkn
  have hkA : Stab.Keeps w (w.alloc (.cells #[.int .i64 2, .int .i64 d, .slice na nn nc, .slice ka kn kc] 25)) := by repeat (first | (with_reducible exact Stab.Keeps.refl _) | (with_reducible assumption) | (with_reducible refine Stab.Keeps.alloc ?_ _) | (with_reducible refine Stab.Keeps.drew ?_) | (with_reducible refine Stab.Keeps.drewN ?_ _) | ((with_reducible refine Stab.Keeps.setCell ?_ ?_ _); focus (first | (simp; done) | (simp; omega))) | (with_reducible refine Stab.Keeps.trans ?_ (by with_reducible assumption)))
  have hB0 : Blk (w.alloc (.cells #[.int .i64 2, .int .i64 d, .slice na nn nc, .slice ka kn kc] 25)) w.heap.size 25 [.int .i64 2, .int .i64 d, .slice na nn nc, .slice ka kn kc] := by repeat (first | (with_reducible assumption) | ((with_reducible refine Blk.new1 ⟨?_, ?_⟩) <;> focus (first | (with_reducible rfl) | (simp; done) | omega)) | (with_reducible refine Blk.alloc ?_ _) | (with_reducible refine Blk.drew ?_) | (with_reducible refine Blk.drewN ?_ _) | ((with_reducible refine Blk.past2 ?_ ?_); focus (first | (simp; done) | (simp; omega) | omega)))
  go_enter Tryz.func12, Tryz.ntmps12
  go_upto_region 1 with (fail)
  generalize (w.alloc (.cells #[.int .i64 2, .int .i64 d, .slice na nn nc, .slice ka kn kc] 25)) = W5 at *
  have hs5 : w.heap.size ≤ W5.heap.size := hkA.size
  have t0 := hB0.cell (i := 0) rfl
  have t1 := hB0.cell (i := 1) rfl
  have t2 := hB0.cell (i := 2) rfl
  have t3 := hB0.cell (i := 3) rfl
  have tf := hB0.free
  have tl := hB0.lt
  have hx := gmS.mono (G := orNew F w.heap.size) (gmS.kf h (KF.keeps hkA)) (fun b _ hb => .inl hb)
  have hR1 := Rows.lit1 gmS [.int .i64 (2 : Nat), .int .i64 (d : Nat), .slice na nn nc, .slice ka kn kc] 25 _ 4 rfl (by omega) hx (.inr hs5)
  have hR2 := Rows.lit1 (liS gmS 4) [.slice (some ⟨W5.heap.size, 0, none⟩) 1 1] 23 _ 1 rfl (by omega) ⟨_, _, _, _, rfl, by omega, hR1⟩ (.inr (by simp; omega))
  have hk16 : Stab.Keeps w ((W5.alloc (.cells #[.int .i64 2, .int .i64 (d : Nat), .slice na nn nc, .slice ka kn kc] 25)).alloc (.cells #[.slice (some ⟨W5.heap.size, 0, none⟩) 1 1] 23)) := by repeat (first | (with_reducible exact Stab.Keeps.refl _) | (with_reducible assumption) | (with_reducible refine Stab.Keeps.alloc ?_ _) | (with_reducible refine Stab.Keeps.drew ?_) | (with_reducible refine Stab.Keeps.drewN ?_ _) | ((with_reducible refine Stab.Keeps.setCell ?_ ?_ _); focus (first | (simp; done) | (simp; omega))) | (with_reducible refine Stab.Keeps.trans ?_ (by with_reducible assumption)))
  have hs6 : (W5.alloc (.cells [.int .i64 (2 : Nat), .int .i64 (d : Nat), .slice na nn nc, .slice ka kn kc].toArray 25)).heap.size = W5.heap.size + 1 := by simp
  rw [hs6] at hR2
  clear hx hR1 hs6 h
  go_wp2_with fail
  go_ret
  exact ⟨_, _, _, rfl, hk16, hR2⟩
set_option maxRecDepth 100000 in
set_option maxHeartbeats 2000000 in
theorem lists3_ {F : Nat → Prop} (d : Nat) (na ka : Option Addr) (nn nc kn kc : Nat) (ps : List Pl) (ks : List Pg) (w : World) (h : GmR w F [.int .i64 (3 : Nat), .int .i64 d, .slice na nn nc, .slice ka kn kc] (.node 3 d ps ks)) (hok : PgOk (.node 3 d ps ks)) (hmp : MpOk (.node 3 d ps ks)) : Calls Tryz.prog 12 #[.agg #[.int .i64 3, .int .i64 d, .slice na nn nc, .slice ka kn kc]] w (ListsPost w F (.node 3 d ps ks)) := by
  show Calls _ _ _ _ (RetS w F (LiR GmR 4) 1 1 ([ks]))
  have hkn : kn ≤ 1000 ∧ ∃ css, Go.Kf.Rows w F GmR ka kn kc 4 css ks := by
    cases hok
    cases h with
    | mk _ _ _ _ _ _ _ _ _ _ css hn h1 lc lx each sz is => exact ⟨by omega, css, lc, lx, each, sz, is⟩
  obtain ⟨hkn, css, hR⟩ := hkn
  clear hmp hok h
  have hkA : Stab.Keeps w (w.alloc (.cells #[.int .i64 3, .int .i64 d, .slice na nn nc, .slice ka kn kc] 25)) := by repeat (first | (with_reducible exact Stab.Keeps.refl _) | (with_reducible assumption) | (with_reducible refine Stab.Keeps.alloc ?_ _) | (with_reducible refine Stab.Keeps.drew ?_) | (with_reducible refine Stab.Keeps.drewN ?_ _) | ((with_reducible refine Stab.Keeps.setCell ?_ ?_ _); focus (first | (simp; done) | (simp; omega))) | (with_reducible refine Stab.Keeps.trans ?_ (by with_reducible assumption)))
  have hB0 : Blk (w.alloc (.cells #[.int .i64 3, .int .i64 d, .slice na nn nc, .slice ka kn kc] 25)) w.heap.size 25 [.int .i64 3, .int .i64 d, .slice na nn nc, .slice ka kn kc] := by repeat (first | (with_reducible assumption) | ((with_reducible refine Blk.new1 ⟨?_, ?_⟩) <;> focus (first | (with_reducible rfl) | (simp; done) | omega)) | (with_reducible refine Blk.alloc ?_ _) | (with_reducible refine Blk.drew ?_) | (with_reducible refine Blk.drewN ?_ _) | ((with_reducible refine Blk.past2 ?_ ?_); focus (first | (simp; done) | (simp; omega) | omega)))
  go_enter Tryz.func12, Tryz.ntmps12
  go_upto_region 1 with (fail)
  generalize (w.alloc (.cells #[.int .i64 3, .int .i64 d, .slice na nn nc, .slice ka kn kc] 25)) = W5 at *
  have hs5 : w.heap.size ≤ W5.heap.size := hkA.size
  have t0 := hB0.cell (i := 0) rfl
  have t1 := hB0.cell (i := 1) rfl
  have t2 := hB0.cell (i := 2) rfl
  have t3 := hB0.cell (i := 3) rfl
  have tf := hB0.free
  have tl := hB0.lt
  have hx := hR.kf (KF.keeps hkA) (fun _ _ h => gmS.kf h (KF.keeps hkA))
  have hR2 := Rows.lit1 (liS gmS 4) [.slice ka kn kc] 23 _ 1 rfl (by omega) ⟨_, _, _, _, rfl, by omega, hx.mono (G := orNew F w.heap.size) (fun b _ hb => .inl hb) (fun _ _ h => gmS.mono h (fun b _ hb => .inl hb))⟩ (.inr hs5)
  have hk16 : Stab.Keeps w (W5.alloc (.cells #[.slice ka kn kc] 23)) := by repeat (first | (with_reducible exact Stab.Keeps.refl _) | (with_reducible assumption) | (with_reducible refine Stab.Keeps.alloc ?_ _) | (with_reducible refine Stab.Keeps.drew ?_) | (with_reducible refine Stab.Keeps.drewN ?_ _) | ((with_reducible refine Stab.Keeps.setCell ?_ ?_ _); focus (first | (simp; done) | (simp; omega))) | (with_reducible refine Stab.Keeps.trans ?_ (by with_reducible assumption)))
  clear hx hR
  go_wp2_with fail
  go_ret
  exact ⟨_, _, _, rfl, hk16, hR2⟩
set_option maxRecDepth 100000 in
set_option maxHeartbeats 2000000 in
theorem lists5_ {F : Nat → Prop} (d : Nat) (na ka : Option Addr) (nn nc kn kc : Nat) (ps : List Pl) (ks : List Pg) (w : World) (h : GmR w F [.int .i64 (5 : Nat), .int .i64 d, .slice na nn nc, .slice ka kn kc] (.node 5 d ps ks)) (hok : PgOk (.node 5 d ps ks)) (hmp : MpOk (.node 5 d ps ks)) : Calls Tryz.prog 12 #[.agg #[.int .i64 5, .int .i64 d, .slice na nn nc, .slice ka kn kc]] w (ListsPost w F (.node 5 d ps ks)) := by
  show Calls _ _ _ _ (RetS w F (LiR GmR 4) 1 1 ([ks]))
  have hkn : kn ≤ 1000 ∧ ∃ css, Go.Kf.Rows w F GmR ka kn kc 4 css ks := by
    cases hok
    cases h with
    | mk _ _ _ _ _ _ _ _ _ _ css hn h1 lc lx each sz is => exact ⟨by omega, css, lc, lx, each, sz, is⟩
  obtain ⟨hkn, css, hR⟩ := hkn
  clear hmp hok h
  have hkA : Stab.Keeps w (w.alloc (.cells #[.int .i64 5, .int .i64 d, .slice na nn nc, .slice ka kn kc] 25)) := by repeat (first | (with_reducible exact Stab.Keeps.refl _) | (with_reducible assumption) | (with_reducible refine Stab.Keeps.alloc ?_ _) | (with_reducible refine Stab.Keeps.drew ?_) | (with_reducible refine Stab.Keeps.drewN ?_ _) | ((with_reducible refine Stab.Keeps.setCell ?_ ?_ _); focus (first | (simp; done) | (simp; omega))) | (with_reducible refine Stab.Keeps.trans ?_ (by with_reducible assumption)))
  have hB0 : Blk (w.alloc (.cells #[.int .i64 5, .int .i64 d, .slice na nn nc, .slice ka kn kc] 25)) w.heap.size 25 [.int .i64 5, .int .i64 d, .slice na nn nc, .slice ka kn kc] := by repeat (first | (with_reducible assumption) | ((with_reducible refine Blk.new1 ⟨?_, ?_⟩) <;> focus (first | (with_reducible rfl) | (simp; done) | omega)) | (with_reducible refine Blk.alloc ?_ _) | (with_reducible refine Blk.drew ?_) | (with_reducible refine Blk.drewN ?_ _) | ((with_reducible refine Blk.past2 ?_ ?_); focus (first | (simp; done) | (simp; omega) | omega)))
  go_enter Tryz.func12, Tryz.ntmps12
  go_upto_region 1 with (fail)
  generalize (w.alloc (.cells #[.int .i64 5, .int .i64 d, .slice na nn nc, .slice ka kn kc] 25)) = W5 at *
  have hs5 : w.heap.size ≤ W5.heap.size := hkA.size
  have t0 := hB0.cell (i := 0) rfl
  have t1 := hB0.cell (i := 1) rfl
  have t2 := hB0.cell (i := 2) rfl
  have t3 := hB0.cell (i := 3) rfl
  have tf := hB0.free
  have tl := hB0.lt
  have hx := hR.kf (KF.keeps hkA) (fun _ _ h => gmS.kf h (KF.keeps hkA))
  have hR2 := Rows.lit1 (liS gmS 4) [.slice ka kn kc] 23 _ 1 rfl (by omega) ⟨_, _, _, _, rfl, by omega, hx.mono (G := orNew F w.heap.size) (fun b _ hb => .inl hb) (fun _ _ h => gmS.mono h (fun b _ hb => .inl hb))⟩ (.inr hs5)
  have hk16 : Stab.Keeps w (W5.alloc (.cells #[.slice ka kn kc] 23)) := by repeat (first | (with_reducible exact Stab.Keeps.refl _) | (with_reducible assumption) | (with_reducible refine Stab.Keeps.alloc ?_ _) | (with_reducible refine Stab.Keeps.drew ?_) | (with_reducible refine Stab.Keeps.drewN ?_ _) | ((with_reducible refine Stab.Keeps.setCell ?_ ?_ _); focus (first | (simp; done) | (simp; omega))) | (with_reducible refine Stab.Keeps.trans ?_ (by with_reducible assumption)))
  clear hx hR
  go_wp2_with fail
  go_ret
  exact ⟨_, _, _, rfl, hk16, hR2⟩
set_option maxRecDepth 100000 in
set_option maxHeartbeats 2000000 in
theorem lists0_ {F : Nat → Prop} (d : Nat) (na ka : Option Addr) (nn nc kn kc : Nat) (ps : List Pl) (ks : List Pg) (w : World) (h : GmR w F [.int .i64 (0 : Nat), .int .i64 d, .slice na nn nc, .slice ka kn kc] (.node 0 d ps ks)) (hok : PgOk (.node 0 d ps ks)) (hmp : MpOk (.node 0 d ps ks)) : Calls Tryz.prog 12 #[.agg #[.int .i64 0, .int .i64 d, .slice na nn nc, .slice ka kn kc]] w (ListsPost w F (.node 0 d ps ks)) := by
  show Calls _ _ _ _ (RetS w F (LiR GmR 4) 1 0 ([]))
  have hkn : kn ≤ 1000 ∧ ∃ css, Go.Kf.Rows w F GmR ka kn kc 4 css ks := by
    cases hok
    cases h with
    | mk _ _ _ _ _ _ _ _ _ _ css hn h1 lc lx each sz is => exact ⟨by omega, css, lc, lx, each, sz, is⟩
  obtain ⟨hkn, css, hR⟩ := hkn
  clear hmp hok h hR
  have hkA : Stab.Keeps w (w.alloc (.cells #[.int .i64 0, .int .i64 d, .slice na nn nc, .slice ka kn kc] 25)) := by repeat (first | (with_reducible exact Stab.Keeps.refl _) | (with_reducible assumption) | (with_reducible refine Stab.Keeps.alloc ?_ _) | (with_reducible refine Stab.Keeps.drew ?_) | (with_reducible refine Stab.Keeps.drewN ?_ _) | ((with_reducible refine Stab.Keeps.setCell ?_ ?_ _); focus (first | (simp; done) | (simp; omega))) | (with_reducible refine Stab.Keeps.trans ?_ (by with_reducible assumption)))
  have hB0 : Blk (w.alloc (.cells #[.int .i64 0, .int .i64 d, .slice na nn nc, .slice ka kn kc] 25)) w.heap.size 25 [.int .i64 0, .int .i64 d, .slice na nn nc, .slice ka kn kc] := by repeat (first | (with_reducible assumption) | ((with_reducible refine Blk.new1 ⟨?_, ?_⟩) <;> focus (first | (with_reducible rfl) | (simp; done) | omega)) | (with_reducible refine Blk.alloc ?_ _) | (with_reducible refine Blk.drew ?_) | (with_reducible refine Blk.drewN ?_ _) | ((with_reducible refine Blk.past2 ?_ ?_); focus (first | (simp; done) | (simp; omega) | omega)))
  go_enter Tryz.func12, Tryz.ntmps12
  go_upto_region 1 with (fail)
  generalize (w.alloc (.cells #[.int .i64 0, .int .i64 d, .slice na nn nc, .slice ka kn kc] 25)) = W5 at *
  have hs5 : w.heap.size ≤ W5.heap.size := hkA.size
  have t0 := hB0.cell (i := 0) rfl
  have t1 := hB0.cell (i := 1) rfl
  have t2 := hB0.cell (i := 2) rfl
  have t3 := hB0.cell (i := 3) rfl
  have tf := hB0.free
  have tl := hB0.lt
  go_wp2_with fail
  go_ret
  exact ⟨none, 0, [], rfl, hkA, Rows.nil _ _ _ _⟩
set_option maxRecDepth 100000 in
set_option maxHeartbeats 2000000 in
theorem lists1_ {F : Nat → Prop} (d : Nat) (na ka : Option Addr) (nn nc kn kc : Nat) (ps : List Pl) (ks : List Pg) (w : World) (h : GmR w F [.int .i64 (1 : Nat), .int .i64 d, .slice na nn nc, .slice ka kn kc] (.node 1 d ps ks)) (hok : PgOk (.node 1 d ps ks)) (hmp : MpOk (.node 1 d ps ks)) : Calls Tryz.prog 12 #[.agg #[.int .i64 1, .int .i64 d, .slice na nn nc, .slice ka kn kc]] w (ListsPost w F (.node 1 d ps ks)) := by
  show Calls _ _ _ _ (RetS w F (LiR GmR 4) 1 0 ([]))
  have hkn : kn ≤ 1000 ∧ ∃ css, Go.Kf.Rows w F GmR ka kn kc 4 css ks := by
    cases hok
    cases h with
    | mk _ _ _ _ _ _ _ _ _ _ css hn h1 lc lx each sz is => exact ⟨by omega, css, lc, lx, each, sz, is⟩
  obtain ⟨hkn, css, hR⟩ := hkn
  clear hmp hok h hR
  have hkA : Stab.Keeps w (w.alloc (.cells #[.int .i64 1, .int .i64 d, .slice na nn nc, .slice ka kn kc] 25)) := by repeat (first | (with_reducible exact Stab.Keeps.refl _) | (with_reducible assumption) | (with_reducible refine Stab.Keeps.alloc ?_ _) | (with_reducible refine Stab.Keeps.drew ?_) | (with_reducible refine Stab.Keeps.drewN ?_ _) | ((with_reducible refine Stab.Keeps.setCell ?_ ?_ _); focus (first | (simp; done) | (simp; omega))) | (with_reducible refine Stab.Keeps.trans ?_ (by with_reducible assumption)))
  have hB0 : Blk (w.alloc (.cells #[.int .i64 1, .int .i64 d, .slice na nn nc, .slice ka kn kc] 25)) w.heap.size 25 [.int .i64 1, .int .i64 d, .slice na nn nc, .slice ka kn kc] := by repeat (first | (with_reducible assumption) | ((with_reducible refine Blk.new1 ⟨?_, ?_⟩) <;> focus (first | (with_reducible rfl) | (simp; done) | omega)) | (with_reducible refine Blk.alloc ?_ _) | (with_reducible refine Blk.drew ?_) | (with_reducible refine Blk.drewN ?_ _) | ((with_reducible refine Blk.past2 ?_ ?_); focus (first | (simp; done) | (simp; omega) | omega)))
  go_enter Tryz.func12, Tryz.ntmps12
  go_upto_region 1 with (fail)
  generalize (w.alloc (.cells #[.int .i64 1, .int .i64 d, .slice na nn nc, .slice ka kn kc] 25)) = W5 at *
  have hs5 : w.heap.size ≤ W5.heap.size := hkA.size
  have t0 := hB0.cell (i := 0) rfl
  have t1 := hB0.cell (i := 1) rfl
  have t2 := hB0.cell (i := 2) rfl
  have t3 := hB0.cell (i := 3) rfl
  have tf := hB0.free
  have tl := hB0.lt
  go_wp2_with fail
  go_ret
  exact ⟨none, 0, [], rfl, hkA, Rows.nil _ _ _ _⟩
set_option maxRecDepth 100000 in
set_option maxHeartbeats 2000000 in
theorem lists4_ {F : Nat → Prop} (d : Nat) (na ka : Option Addr) (nn nc kn kc : Nat) (ps : List Pl) (ks : List Pg) (w : World) (h : GmR w F [.int .i64 (4 : Nat), .int .i64 d, .slice na nn nc, .slice ka kn kc] (.node 4 d ps ks)) (hok : PgOk (.node 4 d ps ks)) (hmp : MpOk (.node 4 d ps ks)) : Calls Tryz.prog 12 #[.agg #[.int .i64 4, .int .i64 d, .slice na nn nc, .slice ka kn kc]] w (ListsPost w F (.node 4 d ps ks)) := by
  show Calls _ _ _ _ (RetS w F (LiR GmR 4) 1 1 ([[.node 2 d (ks.flatMap Pg.ps) []]]))
  have hkn : kn ≤ 1000 ∧ ∃ css, Go.Kf.Rows w F GmR ka kn kc 4 css ks := by
    cases hok
    cases h with
    | mk _ _ _ _ _ _ _ _ _ _ css hn h1 lc lx each sz is => exact ⟨by omega, css, lc, lx, each, sz, is⟩
  obtain ⟨hkn, css, hR⟩ := hkn
  obtain ⟨t, htc, htA, htI⟩ := h.gt
  have hal := allN_mp htI rfl hmp
  have hsm := small_mp hok (fun c hc => ((hmp rfl).2 c hc).2.2)
  have hD := fun w' (hk : Stab.Keeps w w') => dumpC_ t w' (htA.keep hk) (by rw [hal]; omega)
  have htv : t.hd.val = .agg #[.int .i64 4, .int .i64 d, .slice na nn nc, .slice ka kn kc] := by
    obtain ⟨⟨a0, a1, a2, a3, a4, a5, a6, a7⟩, nums, kids⟩ := t
    simp only [GT.cells, GT.hd, Gm.cells, Gm.val] at htc ⊢
    injection htc with e0 htc
    injection htc with e1 htc
    injection htc with e2 htc
    injection htc with e3 htc
    injection e0 with _ e0
    injection e1 with _ e1
    injection e2 with e21 e22 e23
    injection e3 with e31 e32 e33
    subst e0 e1 e21 e22 e23 e31 e32 e33
    rfl
  have htd : t.hd.dim = (d : Int) := by cases htI; assumption
  rw [htv, htd, hal] at hD
  clear hmp hok h hR htc htA htI hal hsm htv htd
  show Calls _ _ _ _ (RetS w F (LiR GmR 4) 1 1 ([[.node 2 d (ks.flatMap Pg.ps) []]]))
  simp only [Pg.dim, Pg.kids] at hD
  have hkA : Stab.Keeps w (w.alloc (.cells #[.int .i64 4, .int .i64 d, .slice na nn nc, .slice ka kn kc] 25)) := by repeat (first | (with_reducible exact Stab.Keeps.refl _) | (with_reducible assumption) | (with_reducible refine Stab.Keeps.alloc ?_ _) | (with_reducible refine Stab.Keeps.drew ?_) | (with_reducible refine Stab.Keeps.drewN ?_ _) | ((with_reducible refine Stab.Keeps.setCell ?_ ?_ _); focus (first | (simp; done) | (simp; omega))) | (with_reducible refine Stab.Keeps.trans ?_ (by with_reducible assumption)))
  have hB0 : Blk (w.alloc (.cells #[.int .i64 4, .int .i64 d, .slice na nn nc, .slice ka kn kc] 25)) w.heap.size 25 [.int .i64 4, .int .i64 d, .slice na nn nc, .slice ka kn kc] := by repeat (first | (with_reducible assumption) | ((with_reducible refine Blk.new1 ⟨?_, ?_⟩) <;> focus (first | (with_reducible rfl) | (simp; done) | omega)) | (with_reducible refine Blk.alloc ?_ _) | (with_reducible refine Blk.drew ?_) | (with_reducible refine Blk.drewN ?_ _) | ((with_reducible refine Blk.past2 ?_ ?_); focus (first | (simp; done) | (simp; omega) | omega)))
  go_enter Tryz.func12, Tryz.ntmps12
  go_upto_region 1 with (fail)
  generalize (w.alloc (.cells #[.int .i64 4, .int .i64 d, .slice na nn nc, .slice ka kn kc] 25)) = W5 at *
  have hs5 : w.heap.size ≤ W5.heap.size := hkA.size
  have t0 := hB0.cell (i := 0) rfl
  have t1 := hB0.cell (i := 1) rfl
  have t2 := hB0.cell (i := 2) rfl
  have t3 := hB0.cell (i := 3) rfl
  have tf := hB0.free
  have tl := hB0.lt
  go_wp2_with fail
  refine (hD _ hkA).mono ?_
  clear hD t0 t1 t2 t3 tf tl hB0
  rintro e W6 ⟨a6, c6, rfl, hk6, hz6⟩
  have hk16 := Stab.Keeps.trans hkA hk6
  have hs6 : w.heap.size ≤ W6.heap.size := hk16.size
  have hx : GmR W6 (orNew F w.heap.size) [.int .i64 (2 : Nat), .int .i64 (d : Nat), .slice a6 (numsOf d (ks.flatMap Pg.ps)).length c6, .slice none 0 0] (.node 2 d (ks.flatMap Pg.ps) []) := .mk _ _ _ _ _ _ _ _ _ _ [] rfl (hz6.mono (fun b _ hb => .inr (Nat.le_trans hs5 hb))) rfl rfl (by simp) (SzF.nil _ _ _) (fun i h1 => by simp at h1)
  generalize (numsOf d (ks.flatMap Pg.ps)).length = nl at *
  have hR1 := Rows.lit1 gmS [.int .i64 (2 : Nat), .int .i64 (d : Nat), .slice a6 nl c6, .slice none 0 0] 25 _ 4 rfl (by omega) hx (.inr hs6)
  have hR2 := Rows.lit1 (liS gmS 4) [.slice (some ⟨W6.heap.size, 0, none⟩) 1 1] 23 _ 1 rfl (by omega) ⟨_, _, _, _, rfl, by omega, hR1⟩ (.inr (by simp; omega))
  have hk17 : Stab.Keeps w ((W6.alloc (.cells #[.int .i64 2, .int .i64 (d : Nat), .slice a6 nl c6, .slice none 0 0] 25)).alloc (.cells #[.slice (some ⟨W6.heap.size, 0, none⟩) 1 1] 23)) := by repeat (first | (with_reducible exact Stab.Keeps.refl _) | (with_reducible assumption) | (with_reducible refine Stab.Keeps.alloc ?_ _) | (with_reducible refine Stab.Keeps.drew ?_) | (with_reducible refine Stab.Keeps.drewN ?_ _) | ((with_reducible refine Stab.Keeps.setCell ?_ ?_ _); focus (first | (simp; done) | (simp; omega))) | (with_reducible refine Stab.Keeps.trans ?_ (by with_reducible assumption)))
  have hs7 : (W6.alloc (.cells [.int .i64 (2 : Nat), .int .i64 (d : Nat), .slice a6 nl c6, .slice none 0 0].toArray 25)).heap.size = W6.heap.size + 1 := by simp
  rw [hs7] at hR2
  clear hx hR1 hs7 hz6 hk6 hkA hk16
  go_wp2_with fail
  go_ret
  exact ⟨_, _, _, rfl, hk17, hR2⟩
set_option maxRecDepth 100000 in
set_option maxHeartbeats 2000000 in
theorem lists6_ {F : Nat → Prop} (d : Nat) (na ka : Option Addr) (nn nc kn kc : Nat) (ps : List Pl) (ks : List Pg) (w : World) (h : GmR w F [.int .i64 (6 : Nat), .int .i64 d, .slice na nn nc, .slice ka kn kc] (.node 6 d ps ks)) (hok : PgOk (.node 6 d ps ks)) (hmp : MpOk (.node 6 d ps ks)) : Calls Tryz.prog 12 #[.agg #[.int .i64 6, .int .i64 d, .slice na nn nc, .slice ka kn kc]] w (ListsPost w F (.node 6 d ps ks)) := by
  show Calls _ _ _ _ (RetS w F (LiR GmR 4) 1 (ks.map Pg.kids).length (ks.map Pg.kids))
  have hkn : kn ≤ 1000 ∧ ∃ css, Go.Kf.Rows w F GmR ka kn kc 4 css ks := by
    cases hok
    cases h with
    | mk _ _ _ _ _ _ _ _ _ _ css hn h1 lc lx each sz is => exact ⟨by omega, css, lc, lx, each, sz, is⟩
  obtain ⟨hkn, css, hR⟩ := hkn
  obtain ⟨i0, hi, hz0, hz1, hz2⟩ := info_parts infoGms
  have HI := Lib.hid hi
  have HZ0 := Lib.hid hz0
  have HZ1 := Lib.hid hz1
  have HZ2 := Lib.hid hz2
  clear hi hz0 hz1 hz2 hmp h
  have hall : ∀ c ∈ ks, PgOk c := by cases hok; assumption
  have HALL := Lib.hid hall
  have hkl := hR.lx
  have hle := hR.sz.sz.le
  have hmx := hR.sz.sz.max
  unfold maxLen at hmx
  rw [List.length_map, hkl]
  have HKL := Lib.hid hkl
  clear hok hall hkl
  have hkA : Stab.Keeps w (w.alloc (.cells #[.int .i64 6, .int .i64 d, .slice na nn nc, .slice ka kn kc] 25)) := by repeat (first | (with_reducible exact Stab.Keeps.refl _) | (with_reducible assumption) | (with_reducible refine Stab.Keeps.alloc ?_ _) | (with_reducible refine Stab.Keeps.drew ?_) | (with_reducible refine Stab.Keeps.drewN ?_ _) | ((with_reducible refine Stab.Keeps.setCell ?_ ?_ _); focus (first | (simp; done) | (simp; omega))) | (with_reducible refine Stab.Keeps.trans ?_ (by with_reducible assumption)))
  have hB0 : Blk (w.alloc (.cells #[.int .i64 6, .int .i64 d, .slice na nn nc, .slice ka kn kc] 25)) w.heap.size 25 [.int .i64 6, .int .i64 d, .slice na nn nc, .slice ka kn kc] := by repeat (first | (with_reducible assumption) | ((with_reducible refine Blk.new1 ⟨?_, ?_⟩) <;> focus (first | (with_reducible rfl) | (simp; done) | omega)) | (with_reducible refine Blk.alloc ?_ _) | (with_reducible refine Blk.drew ?_) | (with_reducible refine Blk.drewN ?_ _) | ((with_reducible refine Blk.past2 ?_ ?_); focus (first | (simp; done) | (simp; omega) | omega)))
  go_enter Tryz.func12, Tryz.ntmps12
  go_upto_region 1 with (fail)
  generalize (w.alloc (.cells #[.int .i64 6, .int .i64 d, .slice na nn nc, .slice ka kn kc] 25)) = W5 at *
  have hs5 : w.heap.size ≤ W5.heap.size := hkA.size
  have t0 := hB0.cell (i := 0) rfl
  have t1 := hB0.cell (i := 1) rfl
  have t2 := hB0.cell (i := 2) rfl
  have t3 := hB0.cell (i := 3) rfl
  have tf := hB0.free
  have tl := hB0.lt
  go_wp2_with fail
  clear t0 t1 t2 t3 tf tl hB0
  have hR0 := (hR.mono (G := Go.Kf.old F w.heap.size) (fun b h1 h2 => ⟨h2, h1⟩) (fun c x hx => gmS.mono hx fun b h1 h2 => ⟨h2, h1⟩)).kf (KF.keeps hkA) (fun _ _ h => gmS.kf h (KF.keeps hkA))
  clear hR
  have hG0 : GrowC W5.heap.size (Go.Kf.old F w.heap.size) W5 (LiR GmR 4) 23 1 0 (.slice none 0 0) ((ks.take 0).map Pg.kids) := by simpa using GrowC.nil W5.heap.size (Go.Kf.old F w.heap.size) W5 (LiR GmR 4) 23 1 (Nat.le_refl _)
  go_loopw [3, 30] (fun v iv wr => ∃ (k : Nat) (al : Option Addr) (c : Nat), k ≤ kn ∧ iv = .int .i64 k ∧ v = .slice al k c ∧ Stab.Keeps W5 wr ∧ GrowC W5.heap.size (Go.Kf.old F w.heap.size) wr (LiR GmR 4) 23 1 k (.slice al k c) ((ks.take k).map Pg.kids)) (fun _ iv _ => kn - (intOf iv).toNat)
  case atStart => exact ⟨0, none, 0, by omega, rfl, rfl, Stab.Keeps.refl _, hG0⟩
  case round =>
    clear hG0
    obtain ⟨k, al, c, hk, rfl, rfl, hkw, hG⟩ := hrel
    by_cases hlt : k < kn
    · obtain ⟨bb, off, cc, ha, hb, _, _, hc6, hcc, hx⟩ := (hR0.kf (KF.keeps hkw) (fun _ _ h => gmS.kf h (KF.keeps hkw))).elem hlt
      have hkk : k < ks.length := by have := HKL.out; omega
      have htk : (ks.take (k + 1)).map Pg.kids = (ks.take k).map Pg.kids ++ [ks[k].kids] := by rw [List.take_succ_eq_append_getElem hkk, List.map_append]; rfl
      have hkok := HALL.out ks[k] (List.getElem_mem _)
      generalize hke : ks[k]'hkk = kid at *
      have HTK := Lib.hid htk
      clear htk hke
      have hLi : ∃ (xk xd : Nat) (xna xka : Option Addr) (xnn xnc xkn xkc : Nat), cc = [.int .i64 xk, .int .i64 xd, .slice xna xnn xnc, .slice xka xkn xkc] ∧ LiR GmR 4 wr (Go.Kf.old F w.heap.size) [.slice xka xkn xkc] kid.kids := by
        cases hkok
        cases hx with
        | mk k' d' ps' kids' na' ka' nn' nc' kn' kc' css' hn' h1' lc' lx' each' sz' is' =>
          exact ⟨_, _, na', ka', nn', nc', kn', kc', rfl, ka', kn', kc', css', rfl, by omega, lc', lx', each', sz', is'⟩
      obtain ⟨xk, xd, xna, xka, xnn, xnc, xkn, xkc, rfl, hLi⟩ := hLi
      subst ha
      have e0 : wr.cell? ⟨bb, off + k * 4, none⟩ = some (.int .i64 xk) := by have := hcc 0 _ rfl; simpa using this
      have e1 : wr.cell? ⟨bb, off + k * 4 + 1, none⟩ = some (.int .i64 xd) := hcc 1 _ rfl
      have e2 : wr.cell? ⟨bb, off + k * 4 + 2, none⟩ = some (.slice xna xnn xnc) := hcc 2 _ rfl
      have e3 : wr.cell? ⟨bb, off + k * 4 + 3, none⟩ = some (.slice xka xkn xkc) := hcc 3 _ rfl
      clear hcc hx hkok
      generalize hyse : (ks.take k).map Pg.kids = ys at *
      generalize kid.kids = kk at *
      have hown : ∀ g, (Value.slice al k c).ownBlock = some g → W5.heap.size ≤ g ∧ g < wr.heap.size := fun g hg => hG.own hg
      have hgl : W5.heap.size ≤ wr.heap.size := hG.size
      have hkN : Stab.Keeps wr ((wr.alloc (.cells #[.int .i64 xk, .int .i64 xd, .slice xna xnn xnc, .slice xka xkn xkc] 25)).alloc (.cells #[.slice xka xkn xkc] 23)) := by repeat (first | (with_reducible exact Stab.Keeps.refl _) | (with_reducible assumption) | (with_reducible refine Stab.Keeps.alloc ?_ _) | (with_reducible refine Stab.Keeps.drew ?_) | (with_reducible refine Stab.Keeps.drewN ?_ _) | ((with_reducible refine Stab.Keeps.setCell ?_ ?_ _); focus (first | (simp; done) | (simp; omega))) | (with_reducible refine Stab.Keeps.trans ?_ (by with_reducible assumption)))
      have hG5 : GrowC W5.heap.size (Go.Kf.old F w.heap.size) ((wr.alloc (.cells #[.int .i64 xk, .int .i64 xd, .slice xna xnn xnc, .slice xka xkn xkc] 25)).alloc (.cells #[.slice xka xkn xkc] 23)) (LiR GmR 4) 23 1 k (.slice al k c) ys := hG.keep (liS gmS 4) hkN
      have hx5 := (liS gmS 4).kf hLi (KF.keeps hkN)
      have hone : ∀ u ∈ ([.slice xka xkn xkc] : List Value), u.oneCell' = true := by intro u hu; simp at hu; subst hu; rfl
      have hkw4 := Stab.Keeps.trans hkw hkN
      have HG5 := Lib.hid hG5
      clear hG hG5 hLi hkN
      go_wp2_with (at_builtin; (refine append_growC (B := W5.heap.size) (E := Go.Kf.old F w.heap.size) (liS gmS 4) rfl _ _ 27 rfl 23 i0 _ 1 24 Tryz.underlying27 HI.out HZ0.out HZ1.out HZ2.out rfl (by decide) _ k ys rfl HG5.out ⟨wr.heap.size + 1, 0, none⟩ 1 [.slice xka xkn xkc] rfl rfl ?c1 hone ?c2 ?c3 kk _ hx5 ?c4 ?c5 ?_))
      case c1 => exact new_cells _ _ _ _ (by simp)
      case c2 => unfold maxLen; omega
      case c3 => omega
      case c4 => exact fun b hb => ⟨.inr hb, by have := hb.2; simp; omega⟩
      case c5 => exact fun g hg hb => by have := hown g hg; have := hb.2; omega
      intro al' c' w7 hG7 hB7 hgr
      have hk7 : Stab.Keeps W5 w7 := Below.trans hkw4 hB7
      rw [← HTK.out] at hG7
      clear HG5 hown hgr hB7 hkw4 hx5
      go_wp2_with fail
      exact ⟨⟨k + 1, al', c', by omega, by simp, rfl, hk7, hG7⟩, by simp [intOf]; omega⟩
    · obtain rfl : kn = k := by omega
      rw [List.take_of_length_le (by rw [HKL.out]; exact Nat.le_refl _)] at hG
      obtain ⟨css', hR'⟩ := hG.toRows (liS gmS 4)
      have hkz := Stab.Keeps.trans hkA hkw
      go_wp2
      go_ret
      exact ⟨al, c, css', rfl, hkz, hR'.mono (fun b _ hb => hb.elim (fun h => .inr (by omega)) (fun h => .inl h.1)) (fun _ _ h => (liS gmS 4).mono h (fun b _ hb => hb.elim (fun h => .inr (by omega)) (fun h => .inl h.1)))⟩
theorem lists_ {F : Nat → Prop} (cs : List Value) (p : Pg) (w : World) (h : GmR w F cs p) (hk6 : p.kind ≤ 6) (hok : PgOk p) (hmp : MpOk p) : Calls Tryz.prog 12 #[.agg cs.toArray] w (ListsPost w F p) := by
  obtain ⟨k, d, ps, ks⟩ := p
  have h2 := h
  obtain ⟨zk, zd, na, nn, nc, ka, kn, kc, rfl⟩ := h2.four
  have hkd := h.kd
  have e1 : zk = k := by have := hkd.1; simp only [Pg.kind] at this; omega
  have e2 : zd = d := by have := hkd.2; simp only [Pg.dim] at this; omega
  subst e1 e2
  have hkc : zk = 0 ∨ zk = 1 ∨ zk = 2 ∨ zk = 3 ∨ zk = 4 ∨ zk = 5 ∨ zk = 6 := by simp only [Pg.kind] at hk6; omega
  rcases hkc with rfl | rfl | rfl | rfl | rfl | rfl | rfl
  · exact lists0_ _ _ _ _ _ _ _ _ _ w h hok hmp
  · exact lists1_ _ _ _ _ _ _ _ _ _ w h hok hmp
  · exact lists2_ _ _ _ _ _ _ _ _ _ w h hok hmp
  · exact lists3_ _ _ _ _ _ _ _ _ _ w h hok hmp
  · exact lists4_ _ _ _ _ _ _ _ _ _ w h hok hmp
  · exact lists5_ _ _ _ _ _ _ _ _ _ w h hok hmp
  · exact lists6_ _ _ _ _ _ _ _ _ _ w h hok hmp
end Go.Proofs.YtbakhldjfplbfaaGreat
