/-
  A sequence brought to another type of coordinates. No condition.
-/
import Derived.Test.YtbakhldjfplbfaaGreatG2
set_option linter.unusedVariables false
set_option linter.unusedSimpArgs false
namespace Go.Proofs.YtbakhldjfplbfaaGreat
open Go.RowKit Go.Fl Go.Sl Go.Pg Go.Ch Go.Kf
theorem Room.alloc {w : World} {b m : Nat} (h : Room w b m) (o : Obj) (hb : b < w.heap.size) : Room (w.alloc o) b m := h.keep (Stab.Keeps.alloc (Stab.Keeps.refl w) o) hb
theorem Filled.alloc {w : World} {b m : Nat} {xs : List Value} (h : Filled w b m xs) (o : Obj) (hb : b < w.heap.size) : Filled (w.alloc o) b m xs := h.keep (Stab.Keeps.alloc (Stab.Keeps.refl w) o) hb
theorem Filled.past {w : World} {b c i m : Nat} {v : Value} {xs : List Value} (hc : c ≠ b) (h : Filled w b m xs) : Filled (w.setCell ⟨c, i, none⟩ v) b m xs := fun j u hj hu => by
  rw [World.cell?_setCell_other _ _ _ _ (fun e => hc (by injection e))]
  exact h j u hj hu
/-- a callee that returns a sequence of these places -/
def SeqRet (w : World) (F : Nat → Prop) (d : Nat) (ps : List Pl) (e : Ending) (w' : World) : Prop := ∃ a n cap, e = .returned (.agg #[.int .u8 d, .slice a n cap]) ∧ Stab.Keeps w w' ∧ SeqAt w' (orNew F w.heap.size) d ps a n cap
set_option maxRecDepth 100000 in
theorem seqForceSame_ {F : Nat → Prop} (d : Nat) (ps : List Pl) (a : Option Addr) (n cap : Nat) (w : World) (h : SeqAt w F d ps a n cap) :
    Calls Tryz.prog 201 #[.agg #[.int .u8 d, .slice a n cap], .int .u8 d] w (SeqRet w F d ps) := by
  go_enter Tryz.func201, Tryz.ntmps201
  go_wp2_with fail
  have hk : Stab.Keeps w (((w.alloc (.cells #[.int .u8 d, .slice a n cap] 97)).alloc (.cells #[.int .u8 d, .slice a n cap] 97))) := by with_reducible (repeat (first | exact Kx.r _ | assumption | refine Kx.a ?_ _ | refine Kx.d ?_ | refine Kx.e ?_ _ | (refine Kx.s ?_ ?_ _; focus (first | (simp; done) | (simp; omega))) | refine Kx.t ?_ (by assumption)))
  refine bodyPost_ret (v := .agg #[.int .u8 d, .slice a n cap]) (by simp [results, Tryz.results201, go_sem]) rfl ⟨a, n, cap, rfl, ?_, ?_⟩
  · with_reducible (repeat (first | exact Kx.r _ | assumption | refine Kx.a ?_ _ | refine Kx.d ?_ | refine Kx.e ?_ _ | (refine Kx.s ?_ ?_ _; focus (first | (simp; done) | (simp; omega))) | refine Kx.t ?_ (by assumption)))
  · refine (h.keep ?_).mono fun b _ hb => .inl hb
    with_reducible (repeat (first | exact Kx.r _ | assumption | refine Kx.a ?_ _ | refine Kx.d ?_ | refine Kx.e ?_ _ | (refine Kx.s ?_ ?_ _; focus (first | (simp; done) | (simp; omega))) | refine Kx.t ?_ (by assumption)))
set_option maxRecDepth 100000 in
theorem seqForceNil_ (F : Nat → Prop) (d d' : Nat) (hd' : d' < 4) (hne : d ≠ d') (a : Option Addr) (cap : Nat) (w : World) :
    Calls Tryz.prog 201 #[.agg #[.int .u8 d, .slice a 0 cap], .int .u8 d'] w (SeqRet w F d' []) := by
  have e1 : ((d : Int) == (d' : Int)) = false := by simp; omega
  have e2 : (d == d') = false := by simp; omega
  go_enter Tryz.func201, Tryz.ntmps201
  go_wp2_with fail
  refine bodyPost_ret (v := .agg #[.int .u8 d', .slice none 0 0]) (by simp [results, Tryz.results201, go_sem]) rfl ⟨none, 0, 0, rfl, ?_, hd', fun p hp => by simp at hp, by simp, by simp, SzF.nil _ _ _⟩
  with_reducible (repeat (first | exact Kx.r _ | assumption | refine Kx.a ?_ _ | refine Kx.d ?_ | refine Kx.e ?_ _ | (refine Kx.s ?_ ?_ _; focus (first | (simp; done) | (simp; omega))) | refine Kx.t ?_ (by assumption)))
set_option maxRecDepth 100000 in
set_option maxHeartbeats 4000000 in
theorem seqForceAll_ {F : Nat → Prop} (d d' : Nat) (hd' : d' < 4) (hne : d ≠ d') (ps : List Pl) (hps : 0 < ps.length) (hsm : ps.length ≤ 250000) (a : Option Addr) (n cap : Nat) (w : World) (h : SeqAt w F d ps a n cap) :
    Calls Tryz.prog 201 #[.agg #[.int .u8 d, .slice a n cap], .int .u8 d'] w (SeqRet w F d' (ps.map (Pl.force d'))) := by
  obtain ⟨i0, hi, hz0, hz1, hz2⟩ := info_parts infoFloat
  have hL := fun w' => seqLen_ d ps a n cap w' w h
  have hD := fun w' => dimension_ d' hd' w'
  rw [dimN_wid hd'] at hD
  have hG := fun (i : Nat) (hi : i < ps.length) (w' : World) (hk : Stab.Keeps w w') => get_ d ps a n cap i w' (h.keep hk) hi
  have hn0 : n ≠ 0 := by
    have := h.len
    have := wid_pos d
    have : ps.length ≤ ps.length * wid d := Nat.le_mul_of_pos_right _ (by omega)
    omega
  have n1 : ((n : Int) == 0) = false := by simp; omega
  have n2 : (n == 0) = false := by simp; omega
  have HN := Lib.hid hn0
  have hxs : ∀ k (hk : k < ps.length) j v, ((ps[k].force d').nums d')[j]? = some v → (encN (numsOf d' (ps.map (Pl.force d'))))[k * wid d' + j]? = some (.float .f64 v) := fun k hk j v hv => by
    have hj : j < wid d' := by
      have := (List.getElem?_eq_some_iff.1 hv).1
      rwa [nums_len] at this
    unfold encN
    rw [List.getElem?_map, numsOf_get d' _ k j (by simpa using hk) hj, List.getElem_map, hv]
    rfl
  have hxl : (encN (numsOf d' (ps.map (Pl.force d')))).length = ps.length * wid d' := by simp [encN, numsOf_len]
  have HXL := Lib.hid hxl
  have HX := Lib.hid hxs
  generalize hxe : encN (numsOf d' (ps.map (Pl.force d'))) = xs at *
  have HXE := Lib.hid hxe
  clear hn0 hxl hxs hxe
  have : d' = 0 ∨ d' = 1 ∨ d' = 2 ∨ d' = 3 := by omega
  rcases this with rfl | rfl | rfl | rfl
  · have e1 : ((d : Int) == 0) = false := by simp; omega
    obtain ⟨q, hq⟩ : ∃ q, 2 * ps.length = q := ⟨_, rfl⟩
    have hq2 : 2 * (ps.length : Int) = (q : Int) := by rw [← hq]; simp
    have HQ := Lib.hid hq
    clear hq
    have hmk : ∀ w : World, (Instr.makeSlice 22 (.int .i64 q) (.int .i64 q)).run Tryz.prog w = .ok (.slice (some ⟨w.heap.size, 0, none⟩) q q) (w.alloc (.cells (madeCells #[.float .f64 0] q) 45)) := fun w => by
      have := run_make (P := Tryz.prog) w 22 45 i0 _ Tryz.underlying22 hi hz0 .i64 .i64 q q (by omega) (Int.le_refl _) (by rw [hz2]; omega) (by omega)
      rw [hz1] at this
      simpa [Value.cells] using this
    have hmz : (madeCells #[.float .f64 0] q).size = q := by
      have : (madeCells #[.float .f64 0] q) = (List.replicate q (Value.float .f64 0)).toArray := by rw [← toList_madeCells_one]
      rw [this]; simp
    simp only [show wid 0 = 2 from rfl] at hD HX HXL
    simp only [Int.natCast_zero, Int.natCast_one, Int.cast_ofNat_Int] at hD
    clear hi hz0 hz1 hz2 hne
    go_enter Tryz.func201, Tryz.ntmps201
    go_wp2_with fail
    refine (hL _).mono ?_
    clear hL
    rintro e w2 ⟨rfl, hk2⟩
    obtain ⟨mc_, mf_⟩ := Stab.own_cell hk2 (w.heap.size) (by first | (simp; done) | (simp; omega) | omega | (apply Stab.cell_lt (a := ⟨w.heap.size, 0, none⟩); assumption))
    have m0 : w2.cell? ⟨w.heap.size, 0, none⟩ = some (.int .u8 d) := by rw [mc_]; first | assumption | (go_simp; done)
    have m1 : w2.cell? ⟨w.heap.size, 1, none⟩ = some (.slice a n cap) := by rw [mc_]; first | assumption | (go_simp; done)
    have mf : ∀ j, w2.frozen? ⟨w.heap.size, j, none⟩ = false := fun j => by rw [mf_]; first | (go_simp; done) | (apply_assumption)
    clear mc_ mf_
    obtain ⟨rc_, rf_⟩ := Stab.own_cell hk2 (w.heap.size + 1) (by first | (simp; done) | (simp; omega) | omega | (apply Stab.cell_lt (a := ⟨w.heap.size + 1, 0, none⟩); assumption))
    have r0 : w2.cell? ⟨w.heap.size + 1, 0, none⟩ = some (.int .u8 0) := by rw [rc_]; first | assumption | (go_simp; done)
    have r1 : w2.cell? ⟨w.heap.size + 1, 1, none⟩ = some (.slice none 0 0) := by rw [rc_]; first | assumption | (go_simp; done)
    have rf : ∀ j, w2.frozen? ⟨w.heap.size + 1, j, none⟩ = false := fun j => by rw [rf_]; first | (go_simp; done) | (apply_assumption)
    clear rc_ rf_
    go_wp2_with fail
    refine (hD _).mono ?_
    rintro e w3 ⟨rfl, hk3⟩
    have hB0 : Blk w3 w.heap.size 97 [.int .u8 d, .slice a n cap] := Blk.keep (Blk.keep (by with_reducible (repeat (first | assumption | ((refine Bx.n ⟨?_, ?_⟩) <;> focus (first | rfl | (simp; done) | omega)) | refine Bx.a ?_ _ | refine Bx.d ?_ | refine Bx.e ?_ _ | (refine Bx.p ?_ ?_; focus (first | (simp; done) | (simp; omega) | omega))))) hk2) hk3
    have hB1 : Blk w3 (w.heap.size + 1) 97 [.int .u8 0, .slice none 0 0] := Blk.keep (Blk.keep (by with_reducible (repeat (first | assumption | ((refine Bx.n ⟨?_, ?_⟩) <;> focus (first | rfl | (simp; done) | omega)) | refine Bx.a ?_ _ | refine Bx.d ?_ | refine Bx.e ?_ _ | (refine Bx.p ?_ ?_; focus (first | (simp; done) | (simp; omega) | omega))))) hk2) hk3
    have hkw : Stab.Keeps w w3 := by with_reducible (repeat (first | exact Kx.r _ | assumption | refine Kx.a ?_ _ | refine Kx.d ?_ | refine Kx.e ?_ _ | (refine Kx.s ?_ ?_ _; focus (first | (simp; done) | (simp; omega))) | refine Kx.t ?_ (by assumption)))
    clear m0 m1 mf r0 r1 rf hk2 hk3 hD
    go_wp2_with fail
    have hR := room_new w3 (madeCells #[.float .f64 0] q) 45 w3.heap.size q rfl hmz.symm
    have hF : Filled (w3.alloc (.cells (madeCells #[.float .f64 0] q) 45)) w3.heap.size (0 * 2) xs := fun j u hj => by omega
    have hB0' := hB0.alloc (.cells (madeCells #[.float .f64 0] q) 45)
    have hB1' := hB1.alloc (.cells (madeCells #[.float .f64 0] q) 45)
    have hkw' : Stab.Keeps w (w3.alloc (.cells (madeCells #[.float .f64 0] q) 45)) := by with_reducible (repeat (first | exact Kx.r _ | assumption | refine Kx.a ?_ _ | refine Kx.d ?_ | refine Kx.e ?_ _ | (refine Kx.s ?_ ?_ _; focus (first | (simp; done) | (simp; omega))) | refine Kx.t ?_ (by assumption)))
    have hlt' : w3.heap.size < (w3.alloc (.cells (madeCells #[.float .f64 0] q) 45)).heap.size := by simp
    have hfb := hB1.lt
    generalize (w3.alloc (.cells (madeCells #[.float .f64 0] q) 45)) = W at *
    generalize w3.heap.size = fb at *
    clear hB0 hB1 hkw hmk hq2 hmz
    go_loopw [8] (fun iv wr => ∃ k : Nat, k ≤ ps.length ∧ iv = .int .i64 k ∧ Stab.Keeps w wr ∧ Blk wr w.heap.size 97 [.int .u8 d, .slice a n cap] ∧ Blk wr (w.heap.size + 1) 97 [.int .u8 0, .slice none 0 0] ∧ Room wr fb q ∧ Filled wr fb (k * 2) xs ∧ fb < wr.heap.size) (fun iv _ => ps.length - (intOf iv).toNat)
    case atStart => exact ⟨0, by omega, rfl, hkw', hB0', hB1', hR, hF, hlt'⟩
    case round =>
      clear hkw' hB0' hB1' hR hF hlt'
      obtain ⟨k, k2, rfl, hk, hB0, hB1, hR, hF, hlt⟩ := hrel
      have m0 := hB0.cell (i := 0) rfl
      have m1 := hB0.cell (i := 1) rfl
      have ml := hB0.lt
      by_cases hkl : k < ps.length
      · have hget := hG k hkl wr hk
        have hv := HX.out k hkl
        generalize ps[k] = pl at *
        obtain ⟨px, py, pz, pm⟩ := pl
        unfold coV at hget
        simp only at hget
        obtain ⟨p, hp⟩ : ∃ p, k * 2 = p := ⟨_, rfl⟩
        have hp2 : 2 * (k : Int) = (p : Int) := by rw [← hp]; simp; omega
        have hpq : p + 2 ≤ q := by have := HQ.out; omega
        have HP := Lib.hid hp
        rw [hp] at hF
        have v0 := hv 0 _ rfl
        have v1 := hv 1 _ rfl
        skip
        simp only [Pl.force, has3, hasM] at v0 v1 
        rw [hp] at v0 v1 
        clear hv hp
        go_wp2_with fail
        refine hget.mono ?_
        clear hget
        rintro e w4 ⟨rfl, hk4⟩
        have hB0' := hB0.keep hk4
        have hB1' := hB1.keep hk4
        have hR' := hR.keep hk4 hlt
        have hF' := hF.keep hk4 hlt
        have hlt' := Nat.lt_of_lt_of_le hlt hk4.size
        have hk' := Stab.Keeps.trans hk hk4
        clear m0 m1 ml hB0 hB1 hR hF hlt hk hk4
        obtain ⟨u0, r0⟩ := hR'.cell p (by omega)
        obtain ⟨u1, r1⟩ := hR'.cell (p + 1) (by omega)
        skip
        have rf := hR'.free
        have b0 : (0 : Int) ≤ (p : Int) + 1 := by omega
        have b1 : ((p : Int) + 1).toNat = p + 1 := by omega
        have b2 : ((p : Int) + 1) < q := by omega
        have b3 : (p : Int) < q := by omega
        skip
        have hFn := ((hF'.set hR' (by omega) v0).set (hR'.set _ _ _) (by omega) v1)
        have hRn := (hR'.set fb p (.float .f64 px)).set fb (p + 1) (.float .f64 py)
        skip
        go_wp2_with fail
        go_roundw
        case rel =>
          refine ⟨k + 1, by omega, by go_num, ?_, ?_, ?_, ?_, ?_, ?_⟩
          · with_reducible (repeat (first | exact Kx.r _ | assumption | refine Kx.a ?_ _ | refine Kx.d ?_ | refine Kx.e ?_ _ | (refine Kx.s ?_ ?_ _; focus (first | (simp; done) | (simp; omega))) | refine Kx.t ?_ (by assumption)))
          · with_reducible (repeat (first | assumption | ((refine Bx.n ⟨?_, ?_⟩) <;> focus (first | rfl | (simp; done) | omega)) | refine Bx.a ?_ _ | refine Bx.d ?_ | refine Bx.e ?_ _ | (refine Bx.p ?_ ?_; focus (first | (simp; done) | (simp; omega) | omega))))
          · with_reducible (repeat (first | assumption | ((refine Bx.n ⟨?_, ?_⟩) <;> focus (first | rfl | (simp; done) | omega)) | refine Bx.a ?_ _ | refine Bx.d ?_ | refine Bx.e ?_ _ | (refine Bx.p ?_ ?_; focus (first | (simp; done) | (simp; omega) | omega))))
          · exact Room.alloc hRn _ (by simp; omega)
          · have hk1 : (k + 1) * 2 = p + 2 := by have := HP.out; omega
            rw [hk1]
            exact Filled.alloc hFn _ (by simp; omega)
          · simp; omega
        case measure => simp [intOf]; omega
      · obtain rfl : k = ps.length := by omega
        have r0 := hB1.cell (i := 0) rfl
        have r1 := hB1.cell (i := 1) rfl
        have rf := hB1.free
        have rl := hB1.lt
        go_wp2_with fail
        refine bodyPost_ret (v := .agg #[.int .u8 0, .slice (some ⟨fb, 0, none⟩) q q]) (by simp [results, Tryz.results201, go_sem, *]) rfl ⟨_, q, q, rfl, ?_, hd', ?_, ?_, ?_, ?_⟩
        · with_reducible (repeat (first | exact Kx.r _ | assumption | refine Kx.a ?_ _ | refine Kx.d ?_ | refine Kx.e ?_ _ | (refine Kx.s ?_ ?_ _; focus (first | (simp; done) | (simp; omega))) | refine Kx.t ?_ (by assumption)))
        · intro pl hpl
          obtain ⟨r, _, rfl⟩ := List.mem_map.1 hpl
          exact force_norm _ r
        · have := HQ.out; simp only [List.length_map, show wid 0 = 2 from rfl]; omega
        · simpa using hsm
        · rw [HXE.out]
          have hq' : ps.length * 2 = q := by have := HQ.out; omega
          rw [hq'] at hF
          refine ⟨Sl.toSz (Filled.sl (n := q) (k := 1) ?_ ?_ ?_ ?_), fun _ x hx => by cases hx; exact .inr (by show w.heap.size ≤ fb; omega)⟩
          · rw [Nat.mul_one]
            refine Filled.past (by omega) (Filled.past (by omega) hF)
          · rw [HXL.out]; omega
          · unfold maxLen; have := HQ.out; omega
          · simp; omega
  · have e1 : ((d : Int) == 1) = false := by simp; omega
    obtain ⟨q, hq⟩ : ∃ q, 3 * ps.length = q := ⟨_, rfl⟩
    have hq2 : 3 * (ps.length : Int) = (q : Int) := by rw [← hq]; simp
    have HQ := Lib.hid hq
    clear hq
    have hmk : ∀ w : World, (Instr.makeSlice 22 (.int .i64 q) (.int .i64 q)).run Tryz.prog w = .ok (.slice (some ⟨w.heap.size, 0, none⟩) q q) (w.alloc (.cells (madeCells #[.float .f64 0] q) 45)) := fun w => by
      have := run_make (P := Tryz.prog) w 22 45 i0 _ Tryz.underlying22 hi hz0 .i64 .i64 q q (by omega) (Int.le_refl _) (by rw [hz2]; omega) (by omega)
      rw [hz1] at this
      simpa [Value.cells] using this
    have hmz : (madeCells #[.float .f64 0] q).size = q := by
      have : (madeCells #[.float .f64 0] q) = (List.replicate q (Value.float .f64 0)).toArray := by rw [← toList_madeCells_one]
      rw [this]; simp
    simp only [show wid 1 = 3 from rfl] at hD HX HXL
    simp only [Int.natCast_zero, Int.natCast_one, Int.cast_ofNat_Int] at hD
    clear hi hz0 hz1 hz2 hne
    go_enter Tryz.func201, Tryz.ntmps201
    go_wp2_with fail
    refine (hL _).mono ?_
    clear hL
    rintro e w2 ⟨rfl, hk2⟩
    obtain ⟨mc_, mf_⟩ := Stab.own_cell hk2 (w.heap.size) (by first | (simp; done) | (simp; omega) | omega | (apply Stab.cell_lt (a := ⟨w.heap.size, 0, none⟩); assumption))
    have m0 : w2.cell? ⟨w.heap.size, 0, none⟩ = some (.int .u8 d) := by rw [mc_]; first | assumption | (go_simp; done)
    have m1 : w2.cell? ⟨w.heap.size, 1, none⟩ = some (.slice a n cap) := by rw [mc_]; first | assumption | (go_simp; done)
    have mf : ∀ j, w2.frozen? ⟨w.heap.size, j, none⟩ = false := fun j => by rw [mf_]; first | (go_simp; done) | (apply_assumption)
    clear mc_ mf_
    obtain ⟨rc_, rf_⟩ := Stab.own_cell hk2 (w.heap.size + 1) (by first | (simp; done) | (simp; omega) | omega | (apply Stab.cell_lt (a := ⟨w.heap.size + 1, 0, none⟩); assumption))
    have r0 : w2.cell? ⟨w.heap.size + 1, 0, none⟩ = some (.int .u8 0) := by rw [rc_]; first | assumption | (go_simp; done)
    have r1 : w2.cell? ⟨w.heap.size + 1, 1, none⟩ = some (.slice none 0 0) := by rw [rc_]; first | assumption | (go_simp; done)
    have rf : ∀ j, w2.frozen? ⟨w.heap.size + 1, j, none⟩ = false := fun j => by rw [rf_]; first | (go_simp; done) | (apply_assumption)
    clear rc_ rf_
    go_wp2_with fail
    refine (hD _).mono ?_
    rintro e w3 ⟨rfl, hk3⟩
    have hB0 : Blk w3 w.heap.size 97 [.int .u8 d, .slice a n cap] := Blk.keep (Blk.keep (by with_reducible (repeat (first | assumption | ((refine Bx.n ⟨?_, ?_⟩) <;> focus (first | rfl | (simp; done) | omega)) | refine Bx.a ?_ _ | refine Bx.d ?_ | refine Bx.e ?_ _ | (refine Bx.p ?_ ?_; focus (first | (simp; done) | (simp; omega) | omega))))) hk2) hk3
    have hB1 : Blk w3 (w.heap.size + 1) 97 [.int .u8 0, .slice none 0 0] := Blk.keep (Blk.keep (by with_reducible (repeat (first | assumption | ((refine Bx.n ⟨?_, ?_⟩) <;> focus (first | rfl | (simp; done) | omega)) | refine Bx.a ?_ _ | refine Bx.d ?_ | refine Bx.e ?_ _ | (refine Bx.p ?_ ?_; focus (first | (simp; done) | (simp; omega) | omega))))) hk2) hk3
    have hkw : Stab.Keeps w w3 := by with_reducible (repeat (first | exact Kx.r _ | assumption | refine Kx.a ?_ _ | refine Kx.d ?_ | refine Kx.e ?_ _ | (refine Kx.s ?_ ?_ _; focus (first | (simp; done) | (simp; omega))) | refine Kx.t ?_ (by assumption)))
    clear m0 m1 mf r0 r1 rf hk2 hk3 hD
    go_wp2_with fail
    have hR := room_new w3 (madeCells #[.float .f64 0] q) 45 w3.heap.size q rfl hmz.symm
    have hF : Filled (w3.alloc (.cells (madeCells #[.float .f64 0] q) 45)) w3.heap.size (0 * 3) xs := fun j u hj => by omega
    have hB0' := hB0.alloc (.cells (madeCells #[.float .f64 0] q) 45)
    have hB1' := hB1.alloc (.cells (madeCells #[.float .f64 0] q) 45)
    have hkw' : Stab.Keeps w (w3.alloc (.cells (madeCells #[.float .f64 0] q) 45)) := by with_reducible (repeat (first | exact Kx.r _ | assumption | refine Kx.a ?_ _ | refine Kx.d ?_ | refine Kx.e ?_ _ | (refine Kx.s ?_ ?_ _; focus (first | (simp; done) | (simp; omega))) | refine Kx.t ?_ (by assumption)))
    have hlt' : w3.heap.size < (w3.alloc (.cells (madeCells #[.float .f64 0] q) 45)).heap.size := by simp
    have hfb := hB1.lt
    generalize (w3.alloc (.cells (madeCells #[.float .f64 0] q) 45)) = W at *
    generalize w3.heap.size = fb at *
    clear hB0 hB1 hkw hmk hq2 hmz
    go_loopw [8] (fun iv wr => ∃ k : Nat, k ≤ ps.length ∧ iv = .int .i64 k ∧ Stab.Keeps w wr ∧ Blk wr w.heap.size 97 [.int .u8 d, .slice a n cap] ∧ Blk wr (w.heap.size + 1) 97 [.int .u8 0, .slice none 0 0] ∧ Room wr fb q ∧ Filled wr fb (k * 3) xs ∧ fb < wr.heap.size) (fun iv _ => ps.length - (intOf iv).toNat)
    case atStart => exact ⟨0, by omega, rfl, hkw', hB0', hB1', hR, hF, hlt'⟩
    case round =>
      clear hkw' hB0' hB1' hR hF hlt'
      obtain ⟨k, k2, rfl, hk, hB0, hB1, hR, hF, hlt⟩ := hrel
      have m0 := hB0.cell (i := 0) rfl
      have m1 := hB0.cell (i := 1) rfl
      have ml := hB0.lt
      by_cases hkl : k < ps.length
      · have hget := hG k hkl wr hk
        have hv := HX.out k hkl
        generalize ps[k] = pl at *
        obtain ⟨px, py, pz, pm⟩ := pl
        unfold coV at hget
        simp only at hget
        obtain ⟨p, hp⟩ : ∃ p, k * 3 = p := ⟨_, rfl⟩
        have hp2 : 3 * (k : Int) = (p : Int) := by rw [← hp]; simp; omega
        have hpq : p + 3 ≤ q := by have := HQ.out; omega
        have HP := Lib.hid hp
        rw [hp] at hF
        have v0 := hv 0 _ rfl
        have v1 := hv 1 _ rfl
        have v2 := hv 2 _ rfl
        simp only [Pl.force, has3, hasM] at v0 v1 v2
        rw [hp] at v0 v1 v2
        clear hv hp
        go_wp2_with fail
        refine hget.mono ?_
        clear hget
        rintro e w4 ⟨rfl, hk4⟩
        have hB0' := hB0.keep hk4
        have hB1' := hB1.keep hk4
        have hR' := hR.keep hk4 hlt
        have hF' := hF.keep hk4 hlt
        have hlt' := Nat.lt_of_lt_of_le hlt hk4.size
        have hk' := Stab.Keeps.trans hk hk4
        clear m0 m1 ml hB0 hB1 hR hF hlt hk hk4
        obtain ⟨u0, r0⟩ := hR'.cell p (by omega)
        obtain ⟨u1, r1⟩ := hR'.cell (p + 1) (by omega)
        obtain ⟨u2, r2⟩ := hR'.cell (p + 2) (by omega)
        have rf := hR'.free
        have b0 : (0 : Int) ≤ (p : Int) + 1 := by omega
        have b1 : ((p : Int) + 1).toNat = p + 1 := by omega
        have b2 : ((p : Int) + 1) < q := by omega
        have b3 : (p : Int) < q := by omega
        have b20 : (0 : Int) ≤ (p : Int) + 2 := by omega
        have b21 : ((p : Int) + 2).toNat = p + 2 := by omega
        have b22 : ((p : Int) + 2) < q := by omega
        have hFn := ((hF'.set hR' (by omega) v0).set (hR'.set _ _ _) (by omega) v1)
        have hRn := (hR'.set fb p (.float .f64 px)).set fb (p + 1) (.float .f64 py)
        replace hFn := hFn.set hRn (by omega) v2
        replace hRn := hRn.set fb (p + 2) (.float .f64 pz)
        go_wp2_with fail
        go_roundw
        case rel =>
          refine ⟨k + 1, by omega, by go_num, ?_, ?_, ?_, ?_, ?_, ?_⟩
          · with_reducible (repeat (first | exact Kx.r _ | assumption | refine Kx.a ?_ _ | refine Kx.d ?_ | refine Kx.e ?_ _ | (refine Kx.s ?_ ?_ _; focus (first | (simp; done) | (simp; omega))) | refine Kx.t ?_ (by assumption)))
          · with_reducible (repeat (first | assumption | ((refine Bx.n ⟨?_, ?_⟩) <;> focus (first | rfl | (simp; done) | omega)) | refine Bx.a ?_ _ | refine Bx.d ?_ | refine Bx.e ?_ _ | (refine Bx.p ?_ ?_; focus (first | (simp; done) | (simp; omega) | omega))))
          · with_reducible (repeat (first | assumption | ((refine Bx.n ⟨?_, ?_⟩) <;> focus (first | rfl | (simp; done) | omega)) | refine Bx.a ?_ _ | refine Bx.d ?_ | refine Bx.e ?_ _ | (refine Bx.p ?_ ?_; focus (first | (simp; done) | (simp; omega) | omega))))
          · exact Room.alloc hRn _ (by simp; omega)
          · have hk1 : (k + 1) * 3 = p + 3 := by have := HP.out; omega
            rw [hk1]
            exact Filled.alloc hFn _ (by simp; omega)
          · simp; omega
        case measure => simp [intOf]; omega
      · obtain rfl : k = ps.length := by omega
        have r0 := hB1.cell (i := 0) rfl
        have r1 := hB1.cell (i := 1) rfl
        have rf := hB1.free
        have rl := hB1.lt
        go_wp2_with fail
        refine bodyPost_ret (v := .agg #[.int .u8 1, .slice (some ⟨fb, 0, none⟩) q q]) (by simp [results, Tryz.results201, go_sem, *]) rfl ⟨_, q, q, rfl, ?_, hd', ?_, ?_, ?_, ?_⟩
        · with_reducible (repeat (first | exact Kx.r _ | assumption | refine Kx.a ?_ _ | refine Kx.d ?_ | refine Kx.e ?_ _ | (refine Kx.s ?_ ?_ _; focus (first | (simp; done) | (simp; omega))) | refine Kx.t ?_ (by assumption)))
        · intro pl hpl
          obtain ⟨r, _, rfl⟩ := List.mem_map.1 hpl
          exact force_norm _ r
        · have := HQ.out; simp only [List.length_map, show wid 1 = 3 from rfl]; omega
        · simpa using hsm
        · rw [HXE.out]
          have hq' : ps.length * 3 = q := by have := HQ.out; omega
          rw [hq'] at hF
          refine ⟨Sl.toSz (Filled.sl (n := q) (k := 1) ?_ ?_ ?_ ?_), fun _ x hx => by cases hx; exact .inr (by show w.heap.size ≤ fb; omega)⟩
          · rw [Nat.mul_one]
            refine Filled.past (by omega) (Filled.past (by omega) hF)
          · rw [HXL.out]; omega
          · unfold maxLen; have := HQ.out; omega
          · simp; omega
  · have e1 : ((d : Int) == 2) = false := by simp; omega
    obtain ⟨q, hq⟩ : ∃ q, 3 * ps.length = q := ⟨_, rfl⟩
    have hq2 : 3 * (ps.length : Int) = (q : Int) := by rw [← hq]; simp
    have HQ := Lib.hid hq
    clear hq
    have hmk : ∀ w : World, (Instr.makeSlice 22 (.int .i64 q) (.int .i64 q)).run Tryz.prog w = .ok (.slice (some ⟨w.heap.size, 0, none⟩) q q) (w.alloc (.cells (madeCells #[.float .f64 0] q) 45)) := fun w => by
      have := run_make (P := Tryz.prog) w 22 45 i0 _ Tryz.underlying22 hi hz0 .i64 .i64 q q (by omega) (Int.le_refl _) (by rw [hz2]; omega) (by omega)
      rw [hz1] at this
      simpa [Value.cells] using this
    have hmz : (madeCells #[.float .f64 0] q).size = q := by
      have : (madeCells #[.float .f64 0] q) = (List.replicate q (Value.float .f64 0)).toArray := by rw [← toList_madeCells_one]
      rw [this]; simp
    simp only [show wid 2 = 3 from rfl] at hD HX HXL
    simp only [Int.natCast_zero, Int.natCast_one, Int.cast_ofNat_Int] at hD
    clear hi hz0 hz1 hz2 hne
    go_enter Tryz.func201, Tryz.ntmps201
    go_wp2_with fail
    refine (hL _).mono ?_
    clear hL
    rintro e w2 ⟨rfl, hk2⟩
    obtain ⟨mc_, mf_⟩ := Stab.own_cell hk2 (w.heap.size) (by first | (simp; done) | (simp; omega) | omega | (apply Stab.cell_lt (a := ⟨w.heap.size, 0, none⟩); assumption))
    have m0 : w2.cell? ⟨w.heap.size, 0, none⟩ = some (.int .u8 d) := by rw [mc_]; first | assumption | (go_simp; done)
    have m1 : w2.cell? ⟨w.heap.size, 1, none⟩ = some (.slice a n cap) := by rw [mc_]; first | assumption | (go_simp; done)
    have mf : ∀ j, w2.frozen? ⟨w.heap.size, j, none⟩ = false := fun j => by rw [mf_]; first | (go_simp; done) | (apply_assumption)
    clear mc_ mf_
    obtain ⟨rc_, rf_⟩ := Stab.own_cell hk2 (w.heap.size + 1) (by first | (simp; done) | (simp; omega) | omega | (apply Stab.cell_lt (a := ⟨w.heap.size + 1, 0, none⟩); assumption))
    have r0 : w2.cell? ⟨w.heap.size + 1, 0, none⟩ = some (.int .u8 0) := by rw [rc_]; first | assumption | (go_simp; done)
    have r1 : w2.cell? ⟨w.heap.size + 1, 1, none⟩ = some (.slice none 0 0) := by rw [rc_]; first | assumption | (go_simp; done)
    have rf : ∀ j, w2.frozen? ⟨w.heap.size + 1, j, none⟩ = false := fun j => by rw [rf_]; first | (go_simp; done) | (apply_assumption)
    clear rc_ rf_
    go_wp2_with fail
    refine (hD _).mono ?_
    rintro e w3 ⟨rfl, hk3⟩
    have hB0 : Blk w3 w.heap.size 97 [.int .u8 d, .slice a n cap] := Blk.keep (Blk.keep (by with_reducible (repeat (first | assumption | ((refine Bx.n ⟨?_, ?_⟩) <;> focus (first | rfl | (simp; done) | omega)) | refine Bx.a ?_ _ | refine Bx.d ?_ | refine Bx.e ?_ _ | (refine Bx.p ?_ ?_; focus (first | (simp; done) | (simp; omega) | omega))))) hk2) hk3
    have hB1 : Blk w3 (w.heap.size + 1) 97 [.int .u8 0, .slice none 0 0] := Blk.keep (Blk.keep (by with_reducible (repeat (first | assumption | ((refine Bx.n ⟨?_, ?_⟩) <;> focus (first | rfl | (simp; done) | omega)) | refine Bx.a ?_ _ | refine Bx.d ?_ | refine Bx.e ?_ _ | (refine Bx.p ?_ ?_; focus (first | (simp; done) | (simp; omega) | omega))))) hk2) hk3
    have hkw : Stab.Keeps w w3 := by with_reducible (repeat (first | exact Kx.r _ | assumption | refine Kx.a ?_ _ | refine Kx.d ?_ | refine Kx.e ?_ _ | (refine Kx.s ?_ ?_ _; focus (first | (simp; done) | (simp; omega))) | refine Kx.t ?_ (by assumption)))
    clear m0 m1 mf r0 r1 rf hk2 hk3 hD
    go_wp2_with fail
    have hR := room_new w3 (madeCells #[.float .f64 0] q) 45 w3.heap.size q rfl hmz.symm
    have hF : Filled (w3.alloc (.cells (madeCells #[.float .f64 0] q) 45)) w3.heap.size (0 * 3) xs := fun j u hj => by omega
    have hB0' := hB0.alloc (.cells (madeCells #[.float .f64 0] q) 45)
    have hB1' := hB1.alloc (.cells (madeCells #[.float .f64 0] q) 45)
    have hkw' : Stab.Keeps w (w3.alloc (.cells (madeCells #[.float .f64 0] q) 45)) := by with_reducible (repeat (first | exact Kx.r _ | assumption | refine Kx.a ?_ _ | refine Kx.d ?_ | refine Kx.e ?_ _ | (refine Kx.s ?_ ?_ _; focus (first | (simp; done) | (simp; omega))) | refine Kx.t ?_ (by assumption)))
    have hlt' : w3.heap.size < (w3.alloc (.cells (madeCells #[.float .f64 0] q) 45)).heap.size := by simp
    have hfb := hB1.lt
    generalize (w3.alloc (.cells (madeCells #[.float .f64 0] q) 45)) = W at *
    generalize w3.heap.size = fb at *
    clear hB0 hB1 hkw hmk hq2 hmz
    go_loopw [8] (fun iv wr => ∃ k : Nat, k ≤ ps.length ∧ iv = .int .i64 k ∧ Stab.Keeps w wr ∧ Blk wr w.heap.size 97 [.int .u8 d, .slice a n cap] ∧ Blk wr (w.heap.size + 1) 97 [.int .u8 0, .slice none 0 0] ∧ Room wr fb q ∧ Filled wr fb (k * 3) xs ∧ fb < wr.heap.size) (fun iv _ => ps.length - (intOf iv).toNat)
    case atStart => exact ⟨0, by omega, rfl, hkw', hB0', hB1', hR, hF, hlt'⟩
    case round =>
      clear hkw' hB0' hB1' hR hF hlt'
      obtain ⟨k, k2, rfl, hk, hB0, hB1, hR, hF, hlt⟩ := hrel
      have m0 := hB0.cell (i := 0) rfl
      have m1 := hB0.cell (i := 1) rfl
      have ml := hB0.lt
      by_cases hkl : k < ps.length
      · have hget := hG k hkl wr hk
        have hv := HX.out k hkl
        generalize ps[k] = pl at *
        obtain ⟨px, py, pz, pm⟩ := pl
        unfold coV at hget
        simp only at hget
        obtain ⟨p, hp⟩ : ∃ p, k * 3 = p := ⟨_, rfl⟩
        have hp2 : 3 * (k : Int) = (p : Int) := by rw [← hp]; simp; omega
        have hpq : p + 3 ≤ q := by have := HQ.out; omega
        have HP := Lib.hid hp
        rw [hp] at hF
        have v0 := hv 0 _ rfl
        have v1 := hv 1 _ rfl
        have v2 := hv 2 _ rfl
        simp only [Pl.force, has3, hasM] at v0 v1 v2
        rw [hp] at v0 v1 v2
        clear hv hp
        go_wp2_with fail
        refine hget.mono ?_
        clear hget
        rintro e w4 ⟨rfl, hk4⟩
        have hB0' := hB0.keep hk4
        have hB1' := hB1.keep hk4
        have hR' := hR.keep hk4 hlt
        have hF' := hF.keep hk4 hlt
        have hlt' := Nat.lt_of_lt_of_le hlt hk4.size
        have hk' := Stab.Keeps.trans hk hk4
        clear m0 m1 ml hB0 hB1 hR hF hlt hk hk4
        obtain ⟨u0, r0⟩ := hR'.cell p (by omega)
        obtain ⟨u1, r1⟩ := hR'.cell (p + 1) (by omega)
        obtain ⟨u2, r2⟩ := hR'.cell (p + 2) (by omega)
        have rf := hR'.free
        have b0 : (0 : Int) ≤ (p : Int) + 1 := by omega
        have b1 : ((p : Int) + 1).toNat = p + 1 := by omega
        have b2 : ((p : Int) + 1) < q := by omega
        have b3 : (p : Int) < q := by omega
        have b20 : (0 : Int) ≤ (p : Int) + 2 := by omega
        have b21 : ((p : Int) + 2).toNat = p + 2 := by omega
        have b22 : ((p : Int) + 2) < q := by omega
        have hFn := ((hF'.set hR' (by omega) v0).set (hR'.set _ _ _) (by omega) v1)
        have hRn := (hR'.set fb p (.float .f64 px)).set fb (p + 1) (.float .f64 py)
        replace hFn := hFn.set hRn (by omega) v2
        replace hRn := hRn.set fb (p + 2) (.float .f64 pm)
        go_wp2_with fail
        go_roundw
        case rel =>
          refine ⟨k + 1, by omega, by go_num, ?_, ?_, ?_, ?_, ?_, ?_⟩
          · with_reducible (repeat (first | exact Kx.r _ | assumption | refine Kx.a ?_ _ | refine Kx.d ?_ | refine Kx.e ?_ _ | (refine Kx.s ?_ ?_ _; focus (first | (simp; done) | (simp; omega))) | refine Kx.t ?_ (by assumption)))
          · with_reducible (repeat (first | assumption | ((refine Bx.n ⟨?_, ?_⟩) <;> focus (first | rfl | (simp; done) | omega)) | refine Bx.a ?_ _ | refine Bx.d ?_ | refine Bx.e ?_ _ | (refine Bx.p ?_ ?_; focus (first | (simp; done) | (simp; omega) | omega))))
          · with_reducible (repeat (first | assumption | ((refine Bx.n ⟨?_, ?_⟩) <;> focus (first | rfl | (simp; done) | omega)) | refine Bx.a ?_ _ | refine Bx.d ?_ | refine Bx.e ?_ _ | (refine Bx.p ?_ ?_; focus (first | (simp; done) | (simp; omega) | omega))))
          · exact Room.alloc hRn _ (by simp; omega)
          · have hk1 : (k + 1) * 3 = p + 3 := by have := HP.out; omega
            rw [hk1]
            exact Filled.alloc hFn _ (by simp; omega)
          · simp; omega
        case measure => simp [intOf]; omega
      · obtain rfl : k = ps.length := by omega
        have r0 := hB1.cell (i := 0) rfl
        have r1 := hB1.cell (i := 1) rfl
        have rf := hB1.free
        have rl := hB1.lt
        go_wp2_with fail
        refine bodyPost_ret (v := .agg #[.int .u8 2, .slice (some ⟨fb, 0, none⟩) q q]) (by simp [results, Tryz.results201, go_sem, *]) rfl ⟨_, q, q, rfl, ?_, hd', ?_, ?_, ?_, ?_⟩
        · with_reducible (repeat (first | exact Kx.r _ | assumption | refine Kx.a ?_ _ | refine Kx.d ?_ | refine Kx.e ?_ _ | (refine Kx.s ?_ ?_ _; focus (first | (simp; done) | (simp; omega))) | refine Kx.t ?_ (by assumption)))
        · intro pl hpl
          obtain ⟨r, _, rfl⟩ := List.mem_map.1 hpl
          exact force_norm _ r
        · have := HQ.out; simp only [List.length_map, show wid 2 = 3 from rfl]; omega
        · simpa using hsm
        · rw [HXE.out]
          have hq' : ps.length * 3 = q := by have := HQ.out; omega
          rw [hq'] at hF
          refine ⟨Sl.toSz (Filled.sl (n := q) (k := 1) ?_ ?_ ?_ ?_), fun _ x hx => by cases hx; exact .inr (by show w.heap.size ≤ fb; omega)⟩
          · rw [Nat.mul_one]
            refine Filled.past (by omega) (Filled.past (by omega) hF)
          · rw [HXL.out]; omega
          · unfold maxLen; have := HQ.out; omega
          · simp; omega
  · have e1 : ((d : Int) == 3) = false := by simp; omega
    obtain ⟨q, hq⟩ : ∃ q, 4 * ps.length = q := ⟨_, rfl⟩
    have hq2 : 4 * (ps.length : Int) = (q : Int) := by rw [← hq]; simp
    have HQ := Lib.hid hq
    clear hq
    have hmk : ∀ w : World, (Instr.makeSlice 22 (.int .i64 q) (.int .i64 q)).run Tryz.prog w = .ok (.slice (some ⟨w.heap.size, 0, none⟩) q q) (w.alloc (.cells (madeCells #[.float .f64 0] q) 45)) := fun w => by
      have := run_make (P := Tryz.prog) w 22 45 i0 _ Tryz.underlying22 hi hz0 .i64 .i64 q q (by omega) (Int.le_refl _) (by rw [hz2]; omega) (by omega)
      rw [hz1] at this
      simpa [Value.cells] using this
    have hmz : (madeCells #[.float .f64 0] q).size = q := by
      have : (madeCells #[.float .f64 0] q) = (List.replicate q (Value.float .f64 0)).toArray := by rw [← toList_madeCells_one]
      rw [this]; simp
    simp only [show wid 3 = 4 from rfl] at hD HX HXL
    simp only [Int.natCast_zero, Int.natCast_one, Int.cast_ofNat_Int] at hD
    clear hi hz0 hz1 hz2 hne
    go_enter Tryz.func201, Tryz.ntmps201
    go_wp2_with fail
    refine (hL _).mono ?_
    clear hL
    rintro e w2 ⟨rfl, hk2⟩
    obtain ⟨mc_, mf_⟩ := Stab.own_cell hk2 (w.heap.size) (by first | (simp; done) | (simp; omega) | omega | (apply Stab.cell_lt (a := ⟨w.heap.size, 0, none⟩); assumption))
    have m0 : w2.cell? ⟨w.heap.size, 0, none⟩ = some (.int .u8 d) := by rw [mc_]; first | assumption | (go_simp; done)
    have m1 : w2.cell? ⟨w.heap.size, 1, none⟩ = some (.slice a n cap) := by rw [mc_]; first | assumption | (go_simp; done)
    have mf : ∀ j, w2.frozen? ⟨w.heap.size, j, none⟩ = false := fun j => by rw [mf_]; first | (go_simp; done) | (apply_assumption)
    clear mc_ mf_
    obtain ⟨rc_, rf_⟩ := Stab.own_cell hk2 (w.heap.size + 1) (by first | (simp; done) | (simp; omega) | omega | (apply Stab.cell_lt (a := ⟨w.heap.size + 1, 0, none⟩); assumption))
    have r0 : w2.cell? ⟨w.heap.size + 1, 0, none⟩ = some (.int .u8 0) := by rw [rc_]; first | assumption | (go_simp; done)
    have r1 : w2.cell? ⟨w.heap.size + 1, 1, none⟩ = some (.slice none 0 0) := by rw [rc_]; first | assumption | (go_simp; done)
    have rf : ∀ j, w2.frozen? ⟨w.heap.size + 1, j, none⟩ = false := fun j => by rw [rf_]; first | (go_simp; done) | (apply_assumption)
    clear rc_ rf_
    go_wp2_with fail
    refine (hD _).mono ?_
    rintro e w3 ⟨rfl, hk3⟩
    have hB0 : Blk w3 w.heap.size 97 [.int .u8 d, .slice a n cap] := Blk.keep (Blk.keep (by with_reducible (repeat (first | assumption | ((refine Bx.n ⟨?_, ?_⟩) <;> focus (first | rfl | (simp; done) | omega)) | refine Bx.a ?_ _ | refine Bx.d ?_ | refine Bx.e ?_ _ | (refine Bx.p ?_ ?_; focus (first | (simp; done) | (simp; omega) | omega))))) hk2) hk3
    have hB1 : Blk w3 (w.heap.size + 1) 97 [.int .u8 0, .slice none 0 0] := Blk.keep (Blk.keep (by with_reducible (repeat (first | assumption | ((refine Bx.n ⟨?_, ?_⟩) <;> focus (first | rfl | (simp; done) | omega)) | refine Bx.a ?_ _ | refine Bx.d ?_ | refine Bx.e ?_ _ | (refine Bx.p ?_ ?_; focus (first | (simp; done) | (simp; omega) | omega))))) hk2) hk3
    have hkw : Stab.Keeps w w3 := by with_reducible (repeat (first | exact Kx.r _ | assumption | refine Kx.a ?_ _ | refine Kx.d ?_ | refine Kx.e ?_ _ | (refine Kx.s ?_ ?_ _; focus (first | (simp; done) | (simp; omega))) | refine Kx.t ?_ (by assumption)))
    clear m0 m1 mf r0 r1 rf hk2 hk3 hD
    go_wp2_with fail
    have hR := room_new w3 (madeCells #[.float .f64 0] q) 45 w3.heap.size q rfl hmz.symm
    have hF : Filled (w3.alloc (.cells (madeCells #[.float .f64 0] q) 45)) w3.heap.size (0 * 4) xs := fun j u hj => by omega
    have hB0' := hB0.alloc (.cells (madeCells #[.float .f64 0] q) 45)
    have hB1' := hB1.alloc (.cells (madeCells #[.float .f64 0] q) 45)
    have hkw' : Stab.Keeps w (w3.alloc (.cells (madeCells #[.float .f64 0] q) 45)) := by with_reducible (repeat (first | exact Kx.r _ | assumption | refine Kx.a ?_ _ | refine Kx.d ?_ | refine Kx.e ?_ _ | (refine Kx.s ?_ ?_ _; focus (first | (simp; done) | (simp; omega))) | refine Kx.t ?_ (by assumption)))
    have hlt' : w3.heap.size < (w3.alloc (.cells (madeCells #[.float .f64 0] q) 45)).heap.size := by simp
    have hfb := hB1.lt
    generalize (w3.alloc (.cells (madeCells #[.float .f64 0] q) 45)) = W at *
    generalize w3.heap.size = fb at *
    clear hB0 hB1 hkw hmk hq2 hmz
    go_loopw [8] (fun iv wr => ∃ k : Nat, k ≤ ps.length ∧ iv = .int .i64 k ∧ Stab.Keeps w wr ∧ Blk wr w.heap.size 97 [.int .u8 d, .slice a n cap] ∧ Blk wr (w.heap.size + 1) 97 [.int .u8 0, .slice none 0 0] ∧ Room wr fb q ∧ Filled wr fb (k * 4) xs ∧ fb < wr.heap.size) (fun iv _ => ps.length - (intOf iv).toNat)
    case atStart => exact ⟨0, by omega, rfl, hkw', hB0', hB1', hR, hF, hlt'⟩
    case round =>
      clear hkw' hB0' hB1' hR hF hlt'
      obtain ⟨k, k2, rfl, hk, hB0, hB1, hR, hF, hlt⟩ := hrel
      have m0 := hB0.cell (i := 0) rfl
      have m1 := hB0.cell (i := 1) rfl
      have ml := hB0.lt
      by_cases hkl : k < ps.length
      · have hget := hG k hkl wr hk
        have hv := HX.out k hkl
        generalize ps[k] = pl at *
        obtain ⟨px, py, pz, pm⟩ := pl
        unfold coV at hget
        simp only at hget
        obtain ⟨p, hp⟩ : ∃ p, k * 4 = p := ⟨_, rfl⟩
        have hp2 : 4 * (k : Int) = (p : Int) := by rw [← hp]; simp; omega
        have hpq : p + 4 ≤ q := by have := HQ.out; omega
        have HP := Lib.hid hp
        rw [hp] at hF
        have v0 := hv 0 _ rfl
        have v1 := hv 1 _ rfl
        have v2 := hv 2 _ rfl
        have v3 := hv 3 _ rfl
        simp only [Pl.force, has3, hasM] at v0 v1 v2 v3
        rw [hp] at v0 v1 v2 v3
        clear hv hp
        go_wp2_with fail
        refine hget.mono ?_
        clear hget
        rintro e w4 ⟨rfl, hk4⟩
        have hB0' := hB0.keep hk4
        have hB1' := hB1.keep hk4
        have hR' := hR.keep hk4 hlt
        have hF' := hF.keep hk4 hlt
        have hlt' := Nat.lt_of_lt_of_le hlt hk4.size
        have hk' := Stab.Keeps.trans hk hk4
        clear m0 m1 ml hB0 hB1 hR hF hlt hk hk4
        obtain ⟨u0, r0⟩ := hR'.cell p (by omega)
        obtain ⟨u1, r1⟩ := hR'.cell (p + 1) (by omega)
        obtain ⟨u2, r2⟩ := hR'.cell (p + 2) (by omega)
        obtain ⟨u3, r3⟩ := hR'.cell (p + 3) (by omega)
        have rf := hR'.free
        have b0 : (0 : Int) ≤ (p : Int) + 1 := by omega
        have b1 : ((p : Int) + 1).toNat = p + 1 := by omega
        have b2 : ((p : Int) + 1) < q := by omega
        have b3 : (p : Int) < q := by omega
        have b20 : (0 : Int) ≤ (p : Int) + 2 := by omega
        have b21 : ((p : Int) + 2).toNat = p + 2 := by omega
        have b22 : ((p : Int) + 2) < q := by omega
        have b30 : (0 : Int) ≤ (p : Int) + 3 := by omega
        have b31 : ((p : Int) + 3).toNat = p + 3 := by omega
        have b32 : ((p : Int) + 3) < q := by omega
        have hFn := ((hF'.set hR' (by omega) v0).set (hR'.set _ _ _) (by omega) v1)
        have hRn := (hR'.set fb p (.float .f64 px)).set fb (p + 1) (.float .f64 py)
        replace hFn := hFn.set hRn (by omega) v2
        replace hRn := hRn.set fb (p + 2) (.float .f64 pz)
        replace hFn := hFn.set hRn (by omega) v3
        replace hRn := hRn.set fb (p + 3) (.float .f64 pm)
        go_wp2_with fail
        go_roundw
        case rel =>
          refine ⟨k + 1, by omega, by go_num, ?_, ?_, ?_, ?_, ?_, ?_⟩
          · with_reducible (repeat (first | exact Kx.r _ | assumption | refine Kx.a ?_ _ | refine Kx.d ?_ | refine Kx.e ?_ _ | (refine Kx.s ?_ ?_ _; focus (first | (simp; done) | (simp; omega))) | refine Kx.t ?_ (by assumption)))
          · with_reducible (repeat (first | assumption | ((refine Bx.n ⟨?_, ?_⟩) <;> focus (first | rfl | (simp; done) | omega)) | refine Bx.a ?_ _ | refine Bx.d ?_ | refine Bx.e ?_ _ | (refine Bx.p ?_ ?_; focus (first | (simp; done) | (simp; omega) | omega))))
          · with_reducible (repeat (first | assumption | ((refine Bx.n ⟨?_, ?_⟩) <;> focus (first | rfl | (simp; done) | omega)) | refine Bx.a ?_ _ | refine Bx.d ?_ | refine Bx.e ?_ _ | (refine Bx.p ?_ ?_; focus (first | (simp; done) | (simp; omega) | omega))))
          · exact Room.alloc hRn _ (by simp; omega)
          · have hk1 : (k + 1) * 4 = p + 4 := by have := HP.out; omega
            rw [hk1]
            exact Filled.alloc hFn _ (by simp; omega)
          · simp; omega
        case measure => simp [intOf]; omega
      · obtain rfl : k = ps.length := by omega
        have r0 := hB1.cell (i := 0) rfl
        have r1 := hB1.cell (i := 1) rfl
        have rf := hB1.free
        have rl := hB1.lt
        go_wp2_with fail
        refine bodyPost_ret (v := .agg #[.int .u8 3, .slice (some ⟨fb, 0, none⟩) q q]) (by simp [results, Tryz.results201, go_sem, *]) rfl ⟨_, q, q, rfl, ?_, hd', ?_, ?_, ?_, ?_⟩
        · with_reducible (repeat (first | exact Kx.r _ | assumption | refine Kx.a ?_ _ | refine Kx.d ?_ | refine Kx.e ?_ _ | (refine Kx.s ?_ ?_ _; focus (first | (simp; done) | (simp; omega))) | refine Kx.t ?_ (by assumption)))
        · intro pl hpl
          obtain ⟨r, _, rfl⟩ := List.mem_map.1 hpl
          exact force_norm _ r
        · have := HQ.out; simp only [List.length_map, show wid 3 = 4 from rfl]; omega
        · simpa using hsm
        · rw [HXE.out]
          have hq' : ps.length * 4 = q := by have := HQ.out; omega
          rw [hq'] at hF
          refine ⟨Sl.toSz (Filled.sl (n := q) (k := 1) ?_ ?_ ?_ ?_), fun _ x hx => by cases hx; exact .inr (by show w.heap.size ≤ fb; omega)⟩
          · rw [Nat.mul_one]
            refine Filled.past (by omega) (Filled.past (by omega) hF)
          · rw [HXL.out]; omega
          · unfold maxLen; have := HQ.out; omega
          · simp; omega
theorem seqForce_ {F : Nat → Prop} (d d' : Nat) (hd' : d' < 4) (ps : List Pl) (a : Option Addr) (n cap : Nat) (w : World) (h : SeqAt w F d ps a n cap) :
    Calls Tryz.prog 201 #[.agg #[.int .u8 d, .slice a n cap], .int .u8 d'] w (SeqRet w F d' (ps.map (Pl.force d'))) := by
  by_cases hne : d = d'
  · subst hne
    rw [map_force_id h.nrm]
    exact seqForceSame_ d ps a n cap w h
  · rcases Nat.eq_zero_or_pos ps.length with h0 | h0
    · have hn : n = 0 := by rw [h.len, h0]; simp
      have hp : ps = [] := List.length_eq_zero_iff.1 h0
      subst hn hp
      exact seqForceNil_ F d d' hd' hne a cap w
    · exact seqForceAll_ d d' hd' hne ps h0 h.sm a n cap w h
end Go.Proofs.YtbakhldjfplbfaaGreat
