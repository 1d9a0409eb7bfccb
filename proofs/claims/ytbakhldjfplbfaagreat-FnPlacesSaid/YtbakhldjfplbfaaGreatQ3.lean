/-
  The places of a multi point as one sequence. No condition.
-/
import Derived.Test.YtbakhldjfplbfaaGreatQ2
set_option linter.unusedVariables false
set_option linter.unusedSimpArgs false
namespace Go.Proofs.YtbakhldjfplbfaaGreat
open Go.RowKit Go.Fl Go.Sl Go.Pg Go.Ch Go.Kf
/-- an own row with more behind it -/
def MorePost (w : World) (B m k : Nat) (xs : List Value) (e : Ending) (w' : World) : Prop := ∃ al c, e = .returned (.slice al (m + k) c) ∧ w'.ownsRow B 45 1 (.slice al (m + k) c) (m + k) xs ∧ Below B w w'
set_option maxRecDepth 100000 in
set_option maxHeartbeats 2000000 in
theorem appF0_ (px py pz pm : Nat) (B : Nat) (al : Option Addr) (m c : Nat) (xs : List Value) (w : World) (hm : m ≤ 1000000) (hB : B ≤ w.heap.size) (hown : w.ownsRow B 45 1 (.slice al m c) m xs) :
    Calls Tryz.prog 147 #[coV 0 ⟨px, py, pz, pm⟩, .slice al m c] w (MorePost w B m 2 (xs ++ [.float .f64 px, .float .f64 py])) := by
  obtain ⟨i0, hi, hz0, hz1, hz2⟩ := info_parts infoF
  unfold coV
  have hown1 := (hown.alloc (.cells #[.float .f64 px, .float .f64 py, .float .f64 pz, .float .f64 pm, .int .u8 0] 139)).alloc (.cells #[.float .f64 px, .float .f64 py] 45)
  have hk1 : Below B w ((w.alloc (.cells #[.float .f64 px, .float .f64 py, .float .f64 pz, .float .f64 pm, .int .u8 0] 139)).alloc (.cells #[.float .f64 px, .float .f64 py] 45)) := Below.alloc (Below.alloc (Below.refl _ _) hB _) (by simp; omega) _
  go_enter Tryz.func147, Tryz.ntmps147
  go_wp2_with (at_builtin; (refine Sl.append_own (w0 := w) rfl _ _ 22 rfl B 45 i0 _ 1 8 Tryz.underlying22 hi hz0 hz1 hz2 rfl (by decide) _ m _ rfl hown1 ⟨w.heap.size + 1, 0, none⟩ 2 2 [.float .f64 px, .float .f64 py] rfl rfl ?a1 ?a2 ?a3 ?a4 ?a5 hk1 ?_))
  case a1 => exact new_cells _ _ _ _ (by simp)
  case a2 => intro u hu; simp at hu; rcases hu with rfl | rfl <;> rfl
  case a3 => unfold maxLen; omega
  case a4 => omega
  case a5 => simp; omega
  intro al1 c1 W1 hownA hkA hszA hgrA
  go_wp2_with fail
  go_ret
  exact ⟨al1, c1, rfl, hownA, hkA⟩
set_option maxRecDepth 100000 in
set_option maxHeartbeats 2000000 in
theorem appF1_ (px py pz pm : Nat) (B : Nat) (al : Option Addr) (m c : Nat) (xs : List Value) (w : World) (hm : m ≤ 1000000) (hB : B ≤ w.heap.size) (hown : w.ownsRow B 45 1 (.slice al m c) m xs) :
    Calls Tryz.prog 147 #[coV 1 ⟨px, py, pz, pm⟩, .slice al m c] w (MorePost w B m 3 (xs ++ [.float .f64 px, .float .f64 py, .float .f64 pz])) := by
  obtain ⟨i0, hi, hz0, hz1, hz2⟩ := info_parts infoF
  unfold coV
  have hown1 := (hown.alloc (.cells #[.float .f64 px, .float .f64 py, .float .f64 pz, .float .f64 pm, .int .u8 1] 139)).alloc (.cells #[.float .f64 px, .float .f64 py, .float .f64 pz] 45)
  have hk1 : Below B w ((w.alloc (.cells #[.float .f64 px, .float .f64 py, .float .f64 pz, .float .f64 pm, .int .u8 1] 139)).alloc (.cells #[.float .f64 px, .float .f64 py, .float .f64 pz] 45)) := Below.alloc (Below.alloc (Below.refl _ _) hB _) (by simp; omega) _
  go_enter Tryz.func147, Tryz.ntmps147
  go_wp2_with (at_builtin; (refine Sl.append_own (w0 := w) rfl _ _ 22 rfl B 45 i0 _ 1 8 Tryz.underlying22 hi hz0 hz1 hz2 rfl (by decide) _ m _ rfl hown1 ⟨w.heap.size + 1, 0, none⟩ 3 3 [.float .f64 px, .float .f64 py, .float .f64 pz] rfl rfl ?a1 ?a2 ?a3 ?a4 ?a5 hk1 ?_))
  case a1 => exact new_cells _ _ _ _ (by simp)
  case a2 => intro u hu; simp at hu; rcases hu with rfl | rfl | rfl <;> rfl
  case a3 => unfold maxLen; omega
  case a4 => omega
  case a5 => simp; omega
  intro al1 c1 W1 hownA hkA hszA hgrA
  go_wp2_with fail
  go_ret
  exact ⟨al1, c1, rfl, hownA, hkA⟩
set_option maxRecDepth 100000 in
set_option maxHeartbeats 2000000 in
theorem appF2_ (px py pz pm : Nat) (B : Nat) (al : Option Addr) (m c : Nat) (xs : List Value) (w : World) (hm : m ≤ 1000000) (hB : B ≤ w.heap.size) (hown : w.ownsRow B 45 1 (.slice al m c) m xs) :
    Calls Tryz.prog 147 #[coV 2 ⟨px, py, pz, pm⟩, .slice al m c] w (MorePost w B m 3 (xs ++ [.float .f64 px, .float .f64 py, .float .f64 pm])) := by
  obtain ⟨i0, hi, hz0, hz1, hz2⟩ := info_parts infoF
  unfold coV
  have hown1 := (hown.alloc (.cells #[.float .f64 px, .float .f64 py, .float .f64 pz, .float .f64 pm, .int .u8 2] 139)).alloc (.cells #[.float .f64 px, .float .f64 py, .float .f64 pm] 45)
  have hk1 : Below B w ((w.alloc (.cells #[.float .f64 px, .float .f64 py, .float .f64 pz, .float .f64 pm, .int .u8 2] 139)).alloc (.cells #[.float .f64 px, .float .f64 py, .float .f64 pm] 45)) := Below.alloc (Below.alloc (Below.refl _ _) hB _) (by simp; omega) _
  go_enter Tryz.func147, Tryz.ntmps147
  go_wp2_with (at_builtin; (refine Sl.append_own (w0 := w) rfl _ _ 22 rfl B 45 i0 _ 1 8 Tryz.underlying22 hi hz0 hz1 hz2 rfl (by decide) _ m _ rfl hown1 ⟨w.heap.size + 1, 0, none⟩ 3 3 [.float .f64 px, .float .f64 py, .float .f64 pm] rfl rfl ?a1 ?a2 ?a3 ?a4 ?a5 hk1 ?_))
  case a1 => exact new_cells _ _ _ _ (by simp)
  case a2 => intro u hu; simp at hu; rcases hu with rfl | rfl | rfl <;> rfl
  case a3 => unfold maxLen; omega
  case a4 => omega
  case a5 => simp; omega
  intro al1 c1 W1 hownA hkA hszA hgrA
  go_wp2_with fail
  go_ret
  exact ⟨al1, c1, rfl, hownA, hkA⟩
set_option maxRecDepth 100000 in
set_option maxHeartbeats 2000000 in
theorem appF3_ (px py pz pm : Nat) (B : Nat) (al : Option Addr) (m c : Nat) (xs : List Value) (w : World) (hm : m ≤ 1000000) (hB : B ≤ w.heap.size) (hown : w.ownsRow B 45 1 (.slice al m c) m xs) :
    Calls Tryz.prog 147 #[coV 3 ⟨px, py, pz, pm⟩, .slice al m c] w (MorePost w B m 4 (xs ++ [.float .f64 px, .float .f64 py, .float .f64 pz, .float .f64 pm])) := by
  obtain ⟨i0, hi, hz0, hz1, hz2⟩ := info_parts infoF
  unfold coV
  have hown1 := (hown.alloc (.cells #[.float .f64 px, .float .f64 py, .float .f64 pz, .float .f64 pm, .int .u8 3] 139)).alloc (.cells #[.float .f64 px, .float .f64 py, .float .f64 pz, .float .f64 pm] 45)
  have hk1 : Below B w ((w.alloc (.cells #[.float .f64 px, .float .f64 py, .float .f64 pz, .float .f64 pm, .int .u8 3] 139)).alloc (.cells #[.float .f64 px, .float .f64 py, .float .f64 pz, .float .f64 pm] 45)) := Below.alloc (Below.alloc (Below.refl _ _) hB _) (by simp; omega) _
  go_enter Tryz.func147, Tryz.ntmps147
  go_wp2_with (at_builtin; (refine Sl.append_own (w0 := w) rfl _ _ 22 rfl B 45 i0 _ 1 8 Tryz.underlying22 hi hz0 hz1 hz2 rfl (by decide) _ m _ rfl hown1 ⟨w.heap.size + 1, 0, none⟩ 4 4 [.float .f64 px, .float .f64 py, .float .f64 pz, .float .f64 pm] rfl rfl ?a1 ?a2 ?a3 ?a4 ?a5 hk1 ?_))
  case a1 => exact new_cells _ _ _ _ (by simp)
  case a2 => intro u hu; simp at hu; rcases hu with rfl | rfl | rfl | rfl <;> rfl
  case a3 => unfold maxLen; omega
  case a4 => omega
  case a5 => simp; omega
  intro al1 c1 W1 hownA hkA hszA hgrA
  go_wp2_with fail
  go_ret
  exact ⟨al1, c1, rfl, hownA, hkA⟩
theorem appF_ (d : Nat) (hd : d < 4) (p : Pl) (B : Nat) (al : Option Addr) (m c : Nat) (xs : List Value) (w : World) (hm : m ≤ 1000000) (hB : B ≤ w.heap.size) (hown : w.ownsRow B 45 1 (.slice al m c) m xs) :
    Calls Tryz.prog 147 #[coV d p, .slice al m c] w (MorePost w B m (wid d) (xs ++ encN (p.nums d))) := by
  have : d = 0 ∨ d = 1 ∨ d = 2 ∨ d = 3 := by omega
  obtain ⟨px, py, pz, pm⟩ := p
  rcases this with rfl | rfl | rfl | rfl
  · exact appF0_ px py pz pm B al m c xs w hm hB hown
  · exact appF1_ px py pz pm B al m c xs w hm hB hown
  · exact appF2_ px py pz pm B al m c xs w hm hB hown
  · exact appF3_ px py pz pm B al m c xs w hm hB hown
theorem numMp_ (a : Option Addr) (n cap d : Nat) (w : World) : Calls Tryz.prog 144 #[.agg #[.slice a n cap, .int .u8 d]] w (One w (.int .u8 d)) := by
  go_enter Tryz.func144, Tryz.ntmps144
  go_wp2
  go_ret
  exact ⟨rfl, by repeat (first | (with_reducible exact Stab.Keeps.refl _) | (with_reducible assumption) | (with_reducible refine Stab.Keeps.alloc ?_ _) | (with_reducible refine Stab.Keeps.drew ?_) | (with_reducible refine Stab.Keeps.drewN ?_ _) | ((with_reducible refine Stab.Keeps.setCell ?_ ?_ _); focus (first | (simp; done) | (simp; omega))) | (with_reducible refine Stab.Keeps.trans ?_ (by with_reducible assumption)))⟩
set_option maxRecDepth 100000 in
set_option maxHeartbeats 2000000 in
theorem mpCoords_ {F : Nat → Prop} (cs : List Value) (p : Pg) (w : World) (h : MpR w F cs p) (hsm : p.kids.length ≤ 1000) : Calls Tryz.prog 73 #[.agg cs.toArray] w (RetR w no LsR (.node 2 p.dim (p.kids.flatMap Pg.ps) [])) := by
  obtain ⟨d, a, n, cap, css, kids, rfl, rfl, hd, hn, hR, hdim⟩ := h
  obtain ⟨i0, hi, hz0, hz1, hz2⟩ := info_parts infoF
  have HI := Lib.hid hi
  have HZ0 := Lib.hid hz0
  have HZ1 := Lib.hid hz1
  have HZ2 := Lib.hid hz2
  clear hi hz0 hz1 hz2
  show Calls _ _ _ _ (RetR w no LsR (.node 2 d (kids.flatMap Pg.ps) []))
  replace hsm : kids.length ≤ 1000 := hsm
  have hle := hR.sz.sz.le
  have hmx := hR.sz.sz.max
  unfold maxLen at hmx
  have hlk := hR.lx
  have hDm := fun w' => dimension_ d hd w'
  rw [dimN_wid hd] at hDm
  have hw2 := wid_pos d
  have hw4 := wid_le d
  have hn1 : n ≤ 1000 := by omega
  have hnw : n * wid d ≤ 4000 := by
    have : n * wid d ≤ 1000 * 4 := Nat.mul_le_mul hn1 hw4
    omega
  have hnm : wrap64 ((n : Int) * (wid d : Int)) = ((n * wid d : Nat) : Int) := by
    rw [← Int.natCast_mul]
    exact IntWalk.wrap64_in _ (by omega)
  have HLK := Lib.hid hlk
  have HDM := Lib.hid hdim
  have HNW := Lib.hid hnw
  have HNM := Lib.hid hnm
  clear hdim hlk hsm hnw hnm
  generalize hmc : n * wid d = mc at *
  have hmcb : mc ≤ 4000 := HNW.out
  clear hmc HNW
  have hnm := HNM.out
  go_enter Tryz.func73, Tryz.ntmps73
  go_wp2_with fail
  have hkA : Stab.Keeps w ((w.alloc (.cells #[.slice a n cap, .int .u8 d] 126)).alloc (.cells #[.int .u8 0, .slice none 0 0] 97)) := by repeat (first | (with_reducible exact Stab.Keeps.refl _) | (with_reducible assumption) | (with_reducible refine Stab.Keeps.alloc ?_ _) | (with_reducible refine Stab.Keeps.drew ?_) | (with_reducible refine Stab.Keeps.drewN ?_ _) | ((with_reducible refine Stab.Keeps.setCell ?_ ?_ _); focus (first | (simp; done) | (simp; omega))) | (with_reducible refine Stab.Keeps.trans ?_ (by with_reducible assumption)))
  have hB0A : Blk ((w.alloc (.cells #[.slice a n cap, .int .u8 d] 126)).alloc (.cells #[.int .u8 0, .slice none 0 0] 97)) w.heap.size 126 [.slice a n cap, .int .u8 d] := by repeat (first | (with_reducible assumption) | ((with_reducible refine Blk.new1 ⟨?_, ?_⟩) <;> focus (first | (with_reducible rfl) | (simp; done) | omega)) | (with_reducible refine Blk.alloc ?_ _) | (with_reducible refine Blk.drew ?_) | (with_reducible refine Blk.drewN ?_ _) | ((with_reducible refine Blk.past2 ?_ ?_); focus (first | (simp; done) | (simp; omega) | omega)))
  have hB1A : Blk ((w.alloc (.cells #[.slice a n cap, .int .u8 d] 126)).alloc (.cells #[.int .u8 0, .slice none 0 0] 97)) (w.heap.size + 1) 97 [.int .u8 0, .slice none 0 0] := by repeat (first | (with_reducible assumption) | ((with_reducible refine Blk.new1 ⟨?_, ?_⟩) <;> focus (first | (with_reducible rfl) | (simp; done) | omega)) | (with_reducible refine Blk.alloc ?_ _) | (with_reducible refine Blk.drew ?_) | (with_reducible refine Blk.drewN ?_ _) | ((with_reducible refine Blk.past2 ?_ ?_); focus (first | (simp; done) | (simp; omega) | omega)))
  generalize ((w.alloc (.cells #[.slice a n cap, .int .u8 d] 126)).alloc (.cells #[.int .u8 0, .slice none 0 0] 97)) = WA at *
  refine (numMp_ a n cap d _).mono ?_
  rintro e w4 ⟨rfl, hk4⟩
  have hkw := Stab.Keeps.trans hkA hk4
  have hB0 := hB0A.keep hk4
  have hB1 := hB1A.keep hk4
  clear hkA hB0A hB1A hk4
  have t0 := hB0.cell (i := 0) rfl
  have t1 := hB0.cell (i := 1) rfl
  have tf := hB0.free
  have tl := hB0.lt
  go_upto_region 2 with (fail)
  refine Stab.keep_tail 6 (fun _ _ _ => True) (fun _ => false) (fun k => k == 4) Stab.pre_none (by kernel_rfl) (by kernel_rfl) fun hcx => ?_
  simp only [List.take_succ_cons, List.take_zero, List.drop_succ_cons, List.drop_zero]
  repeat (first
    | (refine Stab.quiet rfl rfl rfl (fun K hK => ?_); go_big_quiet_op; refine hK _ ?_; clear hK K)
    | (refine Stab.one rfl rfl rfl ?_
       apply Exists.intro
       refine ⟨fun w1 hw1 => ?_, fun K hK => ?_⟩
       · go_simp
         first | (go_at_call 145; exact hDm _)
       go_simp
       refine hK _ ?_
       clear hK K)
    | (refine Stab.skip rfl (fun K hK => ?_); go_simp; refine hK _ ?_; clear hK K))
  refine Stab.nil fun w5 hk5 _ => ?_
  have hB05 := hB0.keep hk5
  have hB15 := hB1.keep hk5
  have hkw5 := Stab.Keeps.trans hkw hk5
  have hl5 := hB15.lt
  clear hcx hB0 hB1 hkw hk5 t0 t1 tf tl
  go_wp2_with (at_make; (refine wpList_make_own _ rfl _ _ 22 rfl w5.heap.size 45 i0 (.float .f64 0) 1 Tryz.underlying22 HI.out HZ0.out HZ1.out .i64 .i64 _ mc rfl rfl (by first | exact hnm | rfl | simp) (by rw [HZ2.out]; omega) (by unfold maxLen; omega) (Nat.le_refl _) ?_))
  intro w6 hown6 hgr6
  have hk6 : Stab.Keeps w5 w6 := (Below.refl w5.heap.size w5).grown hgr6 (Nat.le_refl _) (fun k hk' => by cases hk')
  have hB06 := hB05.keep hk6
  have hB16 := hB15.keep hk6
  have hkw6 := Stab.Keeps.trans hkw5 hk6
  have hs6 : w5.heap.size ≤ w6.heap.size := hk6.size
  have hR6 := hR.kf (KF.keeps hkw6) (fun _ _ h => ptS.kf h (KF.keeps hkw6))
  generalize hBe : w5.heap.size = B at *
  clear hB05 hB15 hkw5 hk6 hgr6
  have t0 := hB06.cell (i := 0) rfl
  have t1 := hB06.cell (i := 1) rfl
  have tf := hB06.free
  have tl := hB06.lt
  go_wp2_with fail
  clear t0 t1 tf tl
  go_loopw [4, 21] (fun v iv wr => ∃ (k m : Nat) (al : Option Addr) (c : Nat), k ≤ n ∧ m ≤ k * wid d ∧ iv = .int .i64 k ∧ v = .slice al m c ∧ Stab.Keeps w wr ∧ B ≤ wr.heap.size ∧ m = (numsOf d ((kids.take k).flatMap Pg.ps)).length ∧ Blk wr (w.heap.size + 1) 97 [.int .u8 0, .slice none 0 0] ∧ wr.ownsRow B 45 1 (.slice al m c) m (encN (numsOf d ((kids.take k).flatMap Pg.ps)))) (fun _ iv _ => n - (intOf iv).toNat)
  case atStart => exact ⟨0, 0, _, _, by omega, by omega, rfl, rfl, hkw6, hs6, by simp [numsOf], hB16, by simpa [numsOf, encN] using hown6⟩
  case round =>
    clear hown6 hkw6 hB16 hB06 hs6 hR6
    obtain ⟨k, m, al, c, hk, hmk, rfl, rfl, hkw, hB, hml, hB1, hown⟩ := hrel
    have hm6 : m ≤ 4000 := by
      have : k * wid d ≤ 1000 * 4 := Nat.mul_le_mul (by omega) hw4
      omega
    have HML := Lib.hid hml
    have HMK := Lib.hid hmk
    clear hml hmk
    by_cases hlt : k < n
    · obtain ⟨b, off, cc, ha, hb, _, _, hc6, hcc, hx⟩ := (hR.kf (KF.keeps hkw) (fun _ _ h => ptS.kf h (KF.keeps hkw))).elem hlt
      have hkk : k < kids.length := by have := HLK.out; omega
      have htk : kids.take (k + 1) = kids.take k ++ [kids[k]] := List.take_succ_eq_append_getElem hkk
      have hkd := HDM.out kids[k] (List.getElem_mem _)
      generalize hke : kids[k]'hkk = kid at *
      have HTK := Lib.hid htk
      clear htk hke
      obtain ⟨d2, l, rfl, rfl, hd2, hl1, hnorm⟩ := hx
      have hd2e : d2 = d := hkd
      subst hd2e
      subst ha
      clear hkd hd2
      have hfm : (kids.take (k + 1)).flatMap Pg.ps = (kids.take k).flatMap Pg.ps ++ l := by rw [HTK.out, List.flatMap_append]; simp [Pg.ps]
      have HFM := Lib.hid hfm
      clear hfm HTK
      generalize (kids.take k).flatMap Pg.ps = qs at *
      cases l with
      | nil =>
        have e0 : wr.cell? ⟨b, off + k * 6, none⟩ = some (.float .f64 0) := by have := hcc 0 _ rfl; simpa using this
        have e1 : wr.cell? ⟨b, off + k * 6 + 1, none⟩ = some (.float .f64 0) := hcc 1 _ rfl
        have e2 : wr.cell? ⟨b, off + k * 6 + 2, none⟩ = some (.float .f64 0) := hcc 2 _ rfl
        have e3 : wr.cell? ⟨b, off + k * 6 + 3, none⟩ = some (.float .f64 0) := hcc 3 _ rfl
        have e4 : wr.cell? ⟨b, off + k * 6 + 4, none⟩ = some (.int .u8 d2) := hcc 4 _ rfl
        have e5 : wr.cell? ⟨b, off + k * 6 + 5, none⟩ = some (.bool false) := hcc 5 _ rfl
        have hPC := fun w' => ptCoords_ d2 [] w'
        unfold ptC ptCo coV at hPC
        clear hcc
        go_wp2_with fail
        refine (hPC _).mono ?_
        rintro e w7 ⟨rfl, hk7⟩
        have hk8 : Stab.Keeps wr (w7.alloc (.cells #[.float .f64 0, .float .f64 0, .float .f64 0, .float .f64 0, .int .u8 d2] 139)) := by repeat (first | (with_reducible exact Stab.Keeps.refl _) | (with_reducible assumption) | (with_reducible refine Stab.Keeps.alloc ?_ _) | (with_reducible refine Stab.Keeps.drew ?_) | (with_reducible refine Stab.Keeps.drewN ?_ _) | ((with_reducible refine Stab.Keeps.setCell ?_ ?_ _); focus (first | (simp; done) | (simp; omega))) | (with_reducible refine Stab.Keeps.trans ?_ (by with_reducible assumption)))
        have hB18 := hB1.keep hk8
        have hkw8 := Stab.Keeps.trans hkw hk8
        have hown8 := owns_keep hown hk8
        have hs8 := Nat.le_trans hB hk8.size
        clear hPC hk7 hk8 hB1 hkw hown e0 e1 e2 e3 e4 e5
        go_wp2_with fail
        exact ⟨⟨k + 1, m, al, c, by omega, by have := HMK.out; rw [Nat.add_mul]; omega, by simp, rfl, hkw8, hs8, by rw [HFM.out, List.append_nil]; exact HML.out, hB18, by rw [HFM.out, List.append_nil]; exact hown8⟩, by simp [intOf]; omega⟩
      | cons q l =>
        have hl0 : l = [] := by simpa using hl1
        subst hl0
        have hPC := fun w' => ptCoords_ d2 [q] w'
        have hAF := fun w' => appF_ d2 hd q B al m c (encN (numsOf d2 qs)) w' (by omega)
        obtain ⟨px, py, pz, pm⟩ := q
        have e0 : wr.cell? ⟨b, off + k * 6, none⟩ = some (.float .f64 px) := by have := hcc 0 _ rfl; simpa using this
        have e1 : wr.cell? ⟨b, off + k * 6 + 1, none⟩ = some (.float .f64 py) := hcc 1 _ rfl
        have e2 : wr.cell? ⟨b, off + k * 6 + 2, none⟩ = some (.float .f64 pz) := hcc 2 _ rfl
        have e3 : wr.cell? ⟨b, off + k * 6 + 3, none⟩ = some (.float .f64 pm) := hcc 3 _ rfl
        have e4 : wr.cell? ⟨b, off + k * 6 + 4, none⟩ = some (.int .u8 d2) := hcc 4 _ rfl
        have e5 : wr.cell? ⟨b, off + k * 6 + 5, none⟩ = some (.bool true) := hcc 5 _ rfl
        unfold ptC ptCo coV at hPC
        unfold coV at hAF
        clear hcc
        go_wp2_with fail
        refine (hPC _).mono ?_
        rintro e w7 ⟨rfl, hk7⟩
        have hk8 : Stab.Keeps wr (w7.alloc (.cells #[.float .f64 px, .float .f64 py, .float .f64 pz, .float .f64 pm, .int .u8 d2] 139)) := by repeat (first | (with_reducible exact Stab.Keeps.refl _) | (with_reducible assumption) | (with_reducible refine Stab.Keeps.alloc ?_ _) | (with_reducible refine Stab.Keeps.drew ?_) | (with_reducible refine Stab.Keeps.drewN ?_ _) | ((with_reducible refine Stab.Keeps.setCell ?_ ?_ _); focus (first | (simp; done) | (simp; omega))) | (with_reducible refine Stab.Keeps.trans ?_ (by with_reducible assumption)))
        have hB18 := hB1.keep hk8
        have hkw8 := Stab.Keeps.trans hkw hk8
        have hown8 := owns_keep hown hk8
        have hs8 := Nat.le_trans hB hk8.size
        clear hPC hk7 hk8 hB1 hkw hown e0 e1 e2 e3 e4 e5
        go_wp2_with fail
        refine (hAF _ hs8 hown8).mono ?_
        clear hAF
        rintro e w9 ⟨al9, c9, rfl, hown9, hk9⟩
        have hl18 := hB18.lt
        have hB19 := hB18.below hk9 (by omega)
        have hkw9 := Below.trans hkw8 (Below.mono hk9 (by omega))
        have hs9 := Nat.le_trans hs8 hk9.size
        have hln : (numsOf d2 (qs ++ [⟨px, py, pz, pm⟩])).length = m + wid d2 := by rw [numsOf_append, List.length_append, ← HML.out, numsOf_one, nums_len]
        have hen : encN (numsOf d2 (qs ++ [⟨px, py, pz, pm⟩])) = encN (numsOf d2 qs) ++ encN (Pl.nums d2 ⟨px, py, pz, pm⟩) := by rw [numsOf_append, encN_append, numsOf_one]
        have HLN := Lib.hid hln
        have HEN := Lib.hid hen
        clear hln hen hB18 hkw8 hk9 hown8
        go_wp2_with fail
        exact ⟨⟨k + 1, m + wid d2, al9, c9, by omega, by have := HMK.out; rw [Nat.add_mul]; omega, by simp, rfl, hkw9, hs9, by rw [HFM.out]; exact HLN.out.symm, hB19, by rw [HFM.out, HEN.out]; exact hown9⟩, by simp [intOf]; omega⟩
    · obtain rfl : n = k := by omega
      rw [List.take_of_length_le (by rw [HLK.out]; exact Nat.le_refl _)] at hown HML
      have hq250 : (kids.flatMap Pg.ps).length ≤ 250000 := by
        have h1 : m = (numsOf d (kids.flatMap Pg.ps)).length := HML.out
        rw [numsOf_len] at h1
        have : (kids.flatMap Pg.ps).length * 1 ≤ (kids.flatMap Pg.ps).length * wid d := Nat.mul_le_mul_left _ (by omega)
        omega
      have hnr : ∀ q ∈ kids.flatMap Pg.ps, q.norm d := by
        intro q hq
        obtain ⟨kid, hk, hq⟩ := List.mem_flatMap.1 hq
        obtain ⟨j, hj, rfl⟩ := List.getElem_of_mem hk
        have hx := hR.is j (by have := hR.lc; have := HLK.out; omega) hj
        have hkd := HDM.out kids[j] (List.getElem_mem _)
        generalize kids[j]'hj = kid at *
        obtain ⟨d2, l, _, rfl, hd2, hl1, hnorm⟩ := hx
        have : d2 = d := hkd
        subst this
        exact hnorm q hq
      generalize kids.flatMap Pg.ps = qs at *
      have hml := HML.out
      have hmd : m % dimN d = 0 := by rw [hml, numsOf_len, dimN_wid hd, Nat.mul_mod_left]
      have hSq : SzF wr (fun b => B ≤ b) al m c 1 (encN (numsOf d qs)) := SzF.of_owns hown (fun b hb => hb)
      have hNS := fun w' => newSeq_ d hd al m c hSq.sz.le hSq.sz.max hmd w'
      have hmw : m = qs.length * wid d := by rw [hml, numsOf_len]
      have HMW := Lib.hid hmw
      clear hml hmd hown hmw
      go_wp2_with fail
      refine (hNS _).mono ?_
      clear hNS
      rintro e w9 ⟨rfl, hk9⟩
      have hB19 := hB1.keep hk9
      have hkw9 := Stab.Keeps.trans hkw hk9
      have hS9 := hSq.kf (KF.keeps hk9)
      clear hB1 hkw hSq hk9
      have g0 := hB19.cell (i := 0) rfl
      have g1 := hB19.cell (i := 1) rfl
      have gf := hB19.free
      have gl := hB19.lt
      have hB1n := (hB19.set 0 (.int .u8 d)).set 1 (.slice al m c)
      simp only [List.set] at hB1n
      have hkz : Stab.Keeps w ((w9.setCell ⟨w.heap.size + 1, 0, none⟩ (.int .u8 d)).setCell ⟨w.heap.size + 1, 1, none⟩ (.slice al m c)) := by repeat (first | (with_reducible exact Stab.Keeps.refl _) | (with_reducible assumption) | (with_reducible refine Stab.Keeps.alloc ?_ _) | (with_reducible refine Stab.Keeps.drew ?_) | (with_reducible refine Stab.Keeps.drewN ?_ _) | ((with_reducible refine Stab.Keeps.setCell ?_ ?_ _); focus (first | (simp; done) | (simp; omega))) | (with_reducible refine Stab.Keeps.trans ?_ (by with_reducible assumption)))
      have hSz := hS9.kf (w' := ((w9.setCell ⟨w.heap.size + 1, 0, none⟩ (.int .u8 d)).setCell ⟨w.heap.size + 1, 1, none⟩ (.slice al m c))) (((KF.refl _ _).set (fun h => by simp at h; omega)).set (fun h => by simp at h; omega))
      go_wp2_with fail
      generalize ((w9.setCell ⟨w.heap.size + 1, 0, none⟩ (.int .u8 d)).setCell ⟨w.heap.size + 1, 1, none⟩ (.slice al m c)) = Wz at *
      clear hB19 g0 g1 gf gl hS9
      have y0 := hB1n.cell (i := 0) rfl
      have y1 := hB1n.cell (i := 1) rfl
      have yf := hB1n.free
      have yl := hB1n.lt
      refine bodyPost_ret (v := .agg #[.int .u8 d, .slice al m c]) (by simp [results, Tryz.results73, go_sem, *]) rfl ⟨[.int .u8 (d : Nat), .slice al m c], rfl, hkz, ?_⟩
      exact ⟨d, qs, al, m, c, rfl, rfl, hd, hnr, HMW.out, hq250, hSz.mono fun b _ hb => .inr (by omega)⟩
end Go.Proofs.YtbakhldjfplbfaaGreat
