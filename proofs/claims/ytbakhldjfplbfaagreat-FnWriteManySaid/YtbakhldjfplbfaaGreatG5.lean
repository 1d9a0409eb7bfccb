/-
  Sequences, lines and points made of plain data, whatever their type's number. No condition.
-/
import Derived.Test.YtbakhldjfplbfaaGreatG4
set_option linter.unusedVariables false
set_option linter.unusedSimpArgs false
namespace Go.Proofs.YtbakhldjfplbfaaGreat
open Go.RowKit Go.Fl Go.Sl Go.Pg Go.Ch Go.Kf
set_option maxRecDepth 100000 in
theorem sequenceD_ (dm : Int) (d : Nat) (hdm : dim4 dm = d) (hd : d < 4) (a : Option Addr) (n cap : Nat) (l : List Nat) (w : World) (hn : l.length = n) (hs : n ≤ 1000000) (h : Sz w a n cap 1 (encN l)) :
    Calls Tryz.prog 120 #[.slice a n cap, .int .i64 dm] w (SeqPost w d (n - n % dimN d) (encN (l.take (n - n % dimN d)))) := by
  obtain ⟨i0, hi, hz0, hz1, hz2⟩ := info_parts infoFloat
  have hle := h.le
  have hm := h.max
  unfold maxLen at hm
  have h1 := dimN_pos d
  have h2 := dimN_le d
  obtain ⟨q, hq⟩ : ∃ q, n - n % dimN d = q := ⟨_, rfl⟩
  have hqn : q ≤ n := by rw [← hq]; exact Nat.sub_le _ _
  have hqm : q % dimN d = 0 := by
    have h1 : dimN d * (n / dimN d) + n % dimN d = n := Nat.div_add_mod n (dimN d)
    have : q = dimN d * (n / dimN d) := by omega
    rw [this]; exact Nat.mul_mod_right _ _
  have hw : wrap64 ((n : Int) - (n : Int) % (dimN d : Int)) = (q : Int) := by
    have : n % dimN d ≤ n := Nat.mod_le _ _
    rw [← Int.natCast_emod]
    generalize n % dimN d = x at *
    rw [IntWalk.wrap64_in _ (by omega)]
    omega
  have hmk : ∀ w : World, (Instr.makeSlice 22 (.int .i64 q) (.int .i64 q)).run Tryz.prog w = .ok (.slice (some ⟨w.heap.size, 0, none⟩) q q) (w.alloc (.cells (madeCells #[.float .f64 0] q) 45)) := fun w => by
    have := run_make (P := Tryz.prog) w 22 45 i0 _ Tryz.underlying22 hi hz0 .i64 .i64 q q (by omega) (Int.le_refl _) (by rw [hz2]; omega) (by omega)
    rw [hz1] at this
    simpa [Value.cells] using this
  have hmt : (madeCells #[.float .f64 0] q) = (List.replicate q (.float .f64 0)).toArray := by
    rw [← toList_madeCells_one]
  rw [hq]
  have hO := fun w' => dimOfA_ dm w'
  rw [hdm] at hO
  clear hdm
  have hD := fun w' => dimension_ d hd w'
  go_enter Tryz.func120, Tryz.ntmps120
  go_wp2_with fail
  refine (hO _).mono ?_
  rintro e w2 ⟨rfl, hk2⟩
  go_wp2_with fail
  refine (hD _).mono ?_
  rintro e w3 ⟨rfl, hk3⟩
  have hk4 : Stab.Keeps w w3 := by with_reducible (repeat (first | exact Kx.r _ | assumption | refine Kx.a ?_ _ | refine Kx.d ?_ | refine Kx.e ?_ _ | (refine Kx.s ?_ ?_ _; focus (first | (simp; done) | (simp; omega))) | refine Kx.t ?_ (by assumption)))
  obtain ⟨hc, hf⟩ := Stab.own_cell (Stab.Keeps.trans hk2 hk3) w.heap.size (by first | (simp; done) | (simp; omega))
  have m0 : w3.cell? ⟨w.heap.size, 0, none⟩ = some (.int .u8 0) := by rw [hc]; go_simp
  have m1 : w3.cell? ⟨w.heap.size, 1, none⟩ = some (.slice none 0 0) := by rw [hc]; go_simp
  have f0 : ∀ j, w3.frozen? ⟨w.heap.size, j, none⟩ = false := fun j => by rw [hf]; go_simp
  have hT := h.keep hk4
  have hP := fun b w' => newSeq_ d hd (some ⟨b, 0, none⟩) q q (Nat.le_refl _) (by unfold maxLen; omega) hqm w'
  clear hc hf hO hD hz0 hz1 hz2
  go_wp2_with ((with_reducible_and_instances refine wpList_copy_splice (w0 := w3) rfl _ _ 22 22 rfl 45 Tryz.underlying22 (by kernel_rfl) _ _ q q n cap rfl rfl w3.heap.size 0 (List.replicate q (.float .f64 0)) 45 ?c1 ((encN l).take q) ?c2 ?c3 ?c4 ?c5 w3.heap.size ?c6 ?c7 ?_))
  case c1 => rw [show (List.replicate q (Value.float .f64 0)).toArray = Array.replicate q (.float .f64 0) by simp]; exact heap_alloc_new _ _
  case c2 => rw [List.length_take, show (encN l).length = n by simp [encN, hn]]; exact Nat.min_comm _ _
  case c3 =>
    intro hp
    have hS := hT.some_ (by simp [encN] at hp; omega)
    cases ha : a with
    | none => have := hS.nil ha; simp [encN] at hp; omega
    | some x =>
      obtain ⟨b, off, e, hb, hc⟩ := hS.at_ x ha
      subst e
      refine ⟨_, rfl, fun j v hj => ?_⟩
      rw [add_none, World.cell?_alloc_past _ _ _ hb]
      refine hc j v ?_
      rw [List.getElem?_take] at hj
      split at hj <;> simp_all
  case c4 => simp; exact Nat.min_le_left _ _
  case c5 => intro v hv; have := List.mem_of_mem_take hv; simp [encN] at this; obtain ⟨x, _, rfl⟩ := this; rfl
  case c6 => exact (Stab.Keeps.refl w3).alloc _
  case c7 => exact Nat.le_refl _
  intro w5 hG hB
  have hsp : splice (List.replicate q (Value.float .f64 0)) 0 ((encN l).take q) = encN (l.take q) := by
    have h1 : ((encN l).take q).length = q := by simp [encN, hn]; omega
    unfold splice
    rw [h1, List.take_zero, List.nil_append, Nat.zero_add, List.drop_of_length_le (by simp), List.append_nil]
    simp [encN]
  have hown : w5.ownsRow (w.heap.size + 1) 45 1 (.slice (some ⟨w3.heap.size, 0, none⟩) q q) q (encN (l.take q)) := by
    refine ⟨by simp [encN, hn]; omega, .inr ⟨w3.heap.size, q, (encN (l.take q)).toArray, rfl, Stab.cell_lt m0, ?_, Nat.le_refl _, by unfold maxLen; omega, by simp [encN, hn]; omega, ?_⟩⟩
    · rw [← hsp]; exact hG.out
    · rw [List.toList_toArray, List.take_of_length_le (by simp [encN, hn]; omega)]
  have hlt := Stab.cell_lt m0
  obtain ⟨hc, hf⟩ := Stab.own_cell (show Stab.Keeps w3 w5 from hB) w.heap.size hlt
  have n0 : w5.cell? ⟨w.heap.size, 0, none⟩ = some (.int .u8 0) := by rw [hc]; exact m0
  have n1 : w5.cell? ⟨w.heap.size, 1, none⟩ = some (.slice none 0 0) := by rw [hc]; exact m1
  have g0 : ∀ j, w5.frozen? ⟨w.heap.size, j, none⟩ = false := fun j => by rw [hf]; exact f0 j
  have hk5 : Stab.Keeps w w5 := Stab.Keeps.trans hk4 hB
  clear hG hT hsp hc hf m0 m1
  go_wp2_with fail
  refine (hP _ _).mono ?_
  rintro e w6 ⟨rfl, hk6⟩
  obtain ⟨hc, hf⟩ := Stab.own_cell hk6 w.heap.size (Stab.cell_lt n0)
  have p0 : w6.cell? ⟨w.heap.size, 0, none⟩ = some (.int .u8 0) := by rw [hc]; exact n0
  have p1 : w6.cell? ⟨w.heap.size, 1, none⟩ = some (.slice none 0 0) := by rw [hc]; exact n1
  have q0 : ∀ j, w6.frozen? ⟨w.heap.size, j, none⟩ = false := fun j => by rw [hf]; exact g0 j
  clear hc hf n0 n1 g0
  go_wp2_with fail
  refine bodyPost_ret (v := .agg #[.int .u8 d, .slice (some ⟨w3.heap.size, 0, none⟩) q q]) (by simp [results, Tryz.results120, go_sem, p0, p1]) rfl ⟨_, rfl, ?_, ?_⟩
  · with_reducible (repeat (first | exact Kx.r _ | assumption | refine Kx.a ?_ _ | refine Kx.d ?_ | refine Kx.e ?_ _ | (refine Kx.s ?_ ?_ _; focus (first | (simp; done) | (simp; omega))) | refine Kx.t ?_ (by assumption)))
  · exact owns_base (owns_set (owns_set (owns_keep hown hk6) (by omega)) (by omega)) (Nat.le_succ _)
set_option maxRecDepth 100000 in
set_option maxHeartbeats 600000 in
theorem lineD_ (dm : Int) (d : Nat) (hdm : dim4 dm = d) (hd : d < 4) (na ka : Option Addr) (n cap kn kc : Nat) (l : List Nat) (w : World) (hn : l.length = n) (hs : n ≤ 1000000) (h : Sz w na n cap 1 (encN l)) :
    Calls Tryz.prog 58 #[.agg #[.int .i64 2, .int .i64 dm, .slice na n cap, .slice ka kn kc]] w (SeqPost w d (n - n % dimN d) (encN (l.take (n - n % dimN d)))) := by
  have hS := fun w' (hk : Stab.Keeps w w') => sequenceD_ dm d hdm hd na n cap l w' hn hs (h.keep hk)
  have hL := fun a n cap w' => newLine_ .nilIface d a n cap w'
  obtain ⟨q, hq⟩ : ∃ q, n - n % dimN d = q := ⟨_, rfl⟩
  rw [hq]
  simp only [hq] at hS
  clear hq h hdm
  go_enter Tryz.func58, Tryz.ntmps58
  go_wp2_with fail
  refine (hS _ (by with_reducible (repeat (first | exact Kx.r _ | assumption | refine Kx.a ?_ _ | refine Kx.d ?_ | refine Kx.e ?_ _ | (refine Kx.s ?_ ?_ _; focus (first | (simp; done) | (simp; omega))) | refine Kx.t ?_ (by assumption))))).mono ?_
  rintro e w2 ⟨b, rfl, hk2, hS2⟩
  clear hS
  obtain ⟨hc, hf⟩ := Stab.own_cell hk2 (w.heap.size + 1) (by first | (simp; done) | (simp; omega))
  have m0 : w2.cell? ⟨w.heap.size + 1, 0, none⟩ = some (.int .u8 0) := by rw [hc]; go_simp
  have m1 : w2.cell? ⟨w.heap.size + 1, 1, none⟩ = some (.slice none 0 0) := by rw [hc]; go_simp
  have f0 : ∀ j, w2.frozen? ⟨w.heap.size + 1, j, none⟩ = false := fun j => by rw [hf]; go_simp
  clear hc hf
  go_wp2_with fail
  refine (hL _ _ _ _).mono ?_
  rintro e w3 ⟨rfl, hk3⟩
  obtain ⟨hc, hf⟩ := Stab.own_cell hk3 (w.heap.size + 1) (Stab.cell_lt m0)
  have p0 : w3.cell? ⟨w.heap.size + 1, 0, none⟩ = some (.int .u8 0) := by rw [hc]; exact m0
  have p1 : w3.cell? ⟨w.heap.size + 1, 1, none⟩ = some (.slice none 0 0) := by rw [hc]; exact m1
  have q0 : ∀ j, w3.frozen? ⟨w.heap.size + 1, j, none⟩ = false := fun j => by rw [hf]; exact f0 j
  clear hc hf m0 m1 f0
  go_wp2_with fail
  refine bodyPost_ret (v := .agg #[.int .u8 d, .slice (some ⟨b, 0, none⟩) q q]) (by simp [results, Tryz.results58, go_sem, p0, p1]) rfl ⟨_, rfl, ?_, ?_⟩
  · with_reducible (repeat (first | exact Kx.r _ | assumption | refine Kx.a ?_ _ | refine Kx.d ?_ | refine Kx.e ?_ _ | (refine Kx.s ?_ ?_ _; focus (first | (simp; done) | (simp; omega))) | refine Kx.t ?_ (by assumption)))
  · simp only [World.size_alloc] at hS2
    exact owns_base (owns_set (owns_set (owns_keep hS2 hk3) (by omega)) (by omega)) (by omega)
def no : Nat → Prop := fun _ => False
theorem SeqPost.ret {w : World} {d n : Nat} (hd : d < 4) {l : List Nat} (hn : l.length = n) (hs : n ≤ 500000) {e : Ending} {w' : World} (h : SeqPost w d (n - n % dimN d) (encN (l.take (n - n % dimN d))) e w') : SeqRet w no d (placesOf d l) e w' := by
  obtain ⟨b, he, hk, ho⟩ := h
  rw [dimN_wid hd] at he ho
  have hp := numsOf_placesOf d l
  have hw := wid_pos d
  rw [hn] at hp
  rw [← hp] at ho
  have hl : n - n % wid d = (placesOf d l).length * wid d := by
    rw [placesOf_len, hn]
    have := Nat.div_add_mod n (wid d)
    rw [Nat.mul_comm] at this
    omega
  refine ⟨_, _, _, he, hk, hd, placesOf_norm d l, hl, ?_, SzF.of_owns ho fun b hb => .inr hb⟩
  rw [placesOf_len, hn]
  have : n / wid d ≤ n / 2 := Nat.div_le_div_left hw (by omega)
  omega
theorem lineA_ (dm : Int) (na ka : Option Addr) (n cap kn kc : Nat) (l : List Nat) (w : World) (hn : l.length = n) (hs : n ≤ 500000) (h : Sz w na n cap 1 (encN l)) :
    Calls Tryz.prog 58 #[.agg #[.int .i64 2, .int .i64 dm, .slice na n cap, .slice ka kn kc]] w (SeqRet w no (dim4 dm) (placesOf (dim4 dm) l)) :=
  (lineD_ dm _ rfl (dim4_lt dm) na ka n cap kn kc l w hn (by omega) h).mono fun _ _ h => h.ret (dim4_lt dm) hn hs
set_option maxRecDepth 100000 in
set_option maxHeartbeats 1000000 in
theorem pointA_ (dm : Int) (na ka : Option Addr) (n cap kn kc : Nat) (l : List Nat) (w : World) (hn : l.length = n) (hs : n ≤ 500000) (h : Sz w na n cap 1 (encN l)) :
    Calls Tryz.prog 78 #[.agg #[.int .i64 1, .int .i64 dm, .slice na n cap, .slice ka kn kc]] w (One w (.agg (ptC (dim4 dm) ((placesOf (dim4 dm) l).take 1)).toArray)) := by
  have hS := fun w' (hk : Stab.Keeps w w') => (sequenceD_ dm _ rfl (dim4_lt dm) na n cap l w' hn (by omega) (h.keep hk)).mono fun _ _ h => SeqPost.ret (dim4_lt dm) hn hs h
  have hO := fun w' => dimOfA_ dm w'
  have hE := fun w' => newEmpty_ (dim4 dm) w'
  have hP := fun p w' => newPoint_ (dim4 dm) p w'
  generalize dim4 dm = d at *
  generalize placesOf d l = ps at *
  clear h hn hs
  go_enter Tryz.func78, Tryz.ntmps78
  go_wp2_with fail
  refine (hS _ (by with_reducible (repeat (first | exact Kx.r _ | assumption | refine Kx.a ?_ _ | refine Kx.d ?_ | refine Kx.e ?_ _ | (refine Kx.s ?_ ?_ _; focus (first | (simp; done) | (simp; omega))) | refine Kx.t ?_ (by assumption))))).mono ?_
  clear hS
  rintro e w2 ⟨a2, n2, cap2, rfl, hk2, h2⟩
  have hB : Blk w2 w.heap.size 25 [.int .i64 1, .int .i64 dm, .slice na n cap, .slice ka kn kc] := Blk.keep (by with_reducible (repeat (first | assumption | ((refine Bx.n ⟨?_, ?_⟩) <;> focus (first | rfl | (simp; done) | omega)) | refine Bx.a ?_ _ | refine Bx.d ?_ | refine Bx.e ?_ _ | (refine Bx.p ?_ ?_; focus (first | (simp; done) | (simp; omega) | omega))))) hk2
  have hR : Blk w2 (w.heap.size + 1) 141 [.float .f64 0, .float .f64 0, .float .f64 0, .float .f64 0, .int .u8 0, .bool false] := Blk.keep (by with_reducible (repeat (first | assumption | ((refine Bx.n ⟨?_, ?_⟩) <;> focus (first | rfl | (simp; done) | omega)) | refine Bx.a ?_ _ | refine Bx.d ?_ | refine Bx.e ?_ _ | (refine Bx.p ?_ ?_; focus (first | (simp; done) | (simp; omega) | omega))))) hk2
  have hkk : Stab.Keeps w w2 := by with_reducible (repeat (first | exact Kx.r _ | assumption | refine Kx.a ?_ _ | refine Kx.d ?_ | refine Kx.e ?_ _ | (refine Kx.s ?_ ?_ _; focus (first | (simp; done) | (simp; omega))) | refine Kx.t ?_ (by assumption)))
  have m0 := hB.cell (i := 0) rfl
  have m1 := hB.cell (i := 1) rfl
  have hl := hR.lt
  have hl' := hB.lt
  clear hk2
  have hL := fun w' => seqLen_ d ps a2 n2 cap2 w' w2 h2
  have hG := fun w' (hk : Stab.Keeps w2 w') (hi : 0 < ps.length) => get_ d ps a2 n2 cap2 0 w' (h2.keep hk) hi
  go_wp2_with fail
  refine (hL _).mono ?_
  clear hL
  rintro e w3 ⟨rfl, hk3⟩
  have hB3 : Blk w3 w.heap.size 25 [.int .i64 1, .int .i64 dm, .slice na n cap, .slice ka kn kc] := Blk.keep (by with_reducible (repeat (first | assumption | ((refine Bx.n ⟨?_, ?_⟩) <;> focus (first | rfl | (simp; done) | omega)) | refine Bx.a ?_ _ | refine Bx.d ?_ | refine Bx.e ?_ _ | (refine Bx.p ?_ ?_; focus (first | (simp; done) | (simp; omega) | omega))))) hk3
  have hR3 : Blk w3 (w.heap.size + 1) 141 [.float .f64 0, .float .f64 0, .float .f64 0, .float .f64 0, .int .u8 0, .bool false] := Blk.keep (by with_reducible (repeat (first | assumption | ((refine Bx.n ⟨?_, ?_⟩) <;> focus (first | rfl | (simp; done) | omega)) | refine Bx.a ?_ _ | refine Bx.d ?_ | refine Bx.e ?_ _ | (refine Bx.p ?_ ?_; focus (first | (simp; done) | (simp; omega) | omega))))) hk3
  have hS3 : Blk w3 w2.heap.size 97 [.int .u8 d, .slice a2 n2 cap2] := Blk.keep (by with_reducible (repeat (first | assumption | ((refine Bx.n ⟨?_, ?_⟩) <;> focus (first | rfl | (simp; done) | omega)) | refine Bx.a ?_ _ | refine Bx.d ?_ | refine Bx.e ?_ _ | (refine Bx.p ?_ ?_; focus (first | (simp; done) | (simp; omega) | omega))))) hk3
  have hk4 : Stab.Keeps w2 w3 := by with_reducible (repeat (first | exact Kx.r _ | assumption | refine Kx.a ?_ _ | refine Kx.d ?_ | refine Kx.e ?_ _ | (refine Kx.s ?_ ?_ _; focus (first | (simp; done) | (simp; omega))) | refine Kx.t ?_ (by assumption)))
  have hkf : Stab.Keeps w w3 := by with_reducible (repeat (first | exact Kx.r _ | assumption | refine Kx.a ?_ _ | refine Kx.d ?_ | refine Kx.e ?_ _ | (refine Kx.s ?_ ?_ _; focus (first | (simp; done) | (simp; omega))) | refine Kx.t ?_ (by assumption)))
  clear m0 m1 hl hl' hB hR hk3
  cases ps with
  | nil =>
    have m1 := hB3.cell (i := 1) rfl
    have hl := hR3.lt
    have hl' := hB3.lt
    go_wp2_with fail
    refine (hO _).mono ?_
    rintro e w4 ⟨rfl, hk5⟩
    have hR4 := hR3.keep hk5
    have hk6 : Stab.Keeps w w4 := by with_reducible (repeat (first | exact Kx.r _ | assumption | refine Kx.a ?_ _ | refine Kx.d ?_ | refine Kx.e ?_ _ | (refine Kx.s ?_ ?_ _; focus (first | (simp; done) | (simp; omega))) | refine Kx.t ?_ (by assumption)))
    clear m1 hl hl'
    have hl := hR4.lt
    go_wp2_with fail
    refine (hE _).mono ?_
    rintro e w5 ⟨rfl, hk7⟩
    have hR5 := hR4.keep hk7
    have hk8 : Stab.Keeps w w5 := by with_reducible (repeat (first | exact Kx.r _ | assumption | refine Kx.a ?_ _ | refine Kx.d ?_ | refine Kx.e ?_ _ | (refine Kx.s ?_ ?_ _; focus (first | (simp; done) | (simp; omega))) | refine Kx.t ?_ (by assumption)))
    have r0 := hR5.cell (i := 0) rfl
    have r1 := hR5.cell (i := 1) rfl
    have r2 := hR5.cell (i := 2) rfl
    have r3 := hR5.cell (i := 3) rfl
    have r4 := hR5.cell (i := 4) rfl
    have r5 := hR5.cell (i := 5) rfl
    have rf := hR5.free
    have hl5 := hR5.lt
    clear hl
    simp only [ptC, List.take_nil]
    go_wp2_with fail
    refine bodyPost_ret (by simp [results, Tryz.results78, go_sem, ptC, *]; done) rfl ⟨rfl, ?_⟩
    with_reducible (repeat (first | exact Kx.r _ | assumption | refine Kx.a ?_ _ | refine Kx.d ?_ | refine Kx.e ?_ _ | (refine Kx.s ?_ ?_ _; focus (first | (simp; done) | (simp; omega))) | refine Kx.t ?_ (by assumption)))
  | cons p ps =>
    have n1 : decide ((((p :: ps).length : Nat) : Int) = 0) = false := decide_eq_false (by simp; omega)
    have n2 : ((((p :: ps).length : Nat) : Int) == 0) = false := by simp; omega
    replace hG := fun w' hk => hG w' hk (by simp)
    simp only [List.getElem_cons_zero] at hG
    have s0 := hS3.cell (i := 0) rfl
    have s1 := hS3.cell (i := 1) rfl
    have hl := hR3.lt
    have hl' := hS3.lt
    go_wp2_with fail
    refine (hG _ hk4).mono ?_
    rintro e w4 ⟨rfl, hk5⟩
    have hR4 := hR3.keep hk5
    have hk6 : Stab.Keeps w w4 := by with_reducible (repeat (first | exact Kx.r _ | assumption | refine Kx.a ?_ _ | refine Kx.d ?_ | refine Kx.e ?_ _ | (refine Kx.s ?_ ?_ _; focus (first | (simp; done) | (simp; omega))) | refine Kx.t ?_ (by assumption)))
    clear s0 s1 hl hl' n1 n2
    have hl := hR4.lt
    go_wp2_with fail
    refine (hP _ _).mono ?_
    rintro e w5 ⟨rfl, hk7⟩
    have hR5 := hR4.keep hk7
    have hk8 : Stab.Keeps w w5 := by with_reducible (repeat (first | exact Kx.r _ | assumption | refine Kx.a ?_ _ | refine Kx.d ?_ | refine Kx.e ?_ _ | (refine Kx.s ?_ ?_ _; focus (first | (simp; done) | (simp; omega))) | refine Kx.t ?_ (by assumption)))
    have r0 := hR5.cell (i := 0) rfl
    have r1 := hR5.cell (i := 1) rfl
    have r2 := hR5.cell (i := 2) rfl
    have r3 := hR5.cell (i := 3) rfl
    have r4 := hR5.cell (i := 4) rfl
    have r5 := hR5.cell (i := 5) rfl
    have rf := hR5.free
    have hl5 := hR5.lt
    clear hl
    simp only [ptC, List.take_succ_cons, List.take_zero]
    go_wp2_with fail
    refine bodyPost_ret (by simp [results, Tryz.results78, go_sem, ptC, *]; done) rfl ⟨rfl, ?_⟩
    with_reducible (repeat (first | exact Kx.r _ | assumption | refine Kx.a ?_ _ | refine Kx.d ?_ | refine Kx.e ?_ _ | (refine Kx.s ?_ ?_ _; focus (first | (simp; done) | (simp; omega))) | refine Kx.t ?_ (by assumption)))
end Go.Proofs.YtbakhldjfplbfaaGreat
