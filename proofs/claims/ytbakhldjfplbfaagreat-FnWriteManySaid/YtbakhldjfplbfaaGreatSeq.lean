/-
  Sequences of places: their dimension, length, and making. No condition.
-/
import Derived.Test.YtbakhldjfplbfaaGreatGeo
import Derived.Laws.CopyOwn
set_option linter.unusedVariables false
set_option linter.unusedSimpArgs false
namespace Go.Proofs.YtbakhldjfplbfaaGreat
open Go.RowKit Go.Fl Go.Sl
/-- a new sequence of the numbers xs -/
def SeqPost (w : World) (d q : Nat) (xs : List Value) (e : Ending) (w' : World) : Prop :=
  ∃ b, e = .returned (.agg #[.int .u8 d, .slice (some ⟨b, 0, none⟩) q q]) ∧ Stab.Keeps w w' ∧ w'.ownsRow w.heap.size 45 1 (.slice (some ⟨b, 0, none⟩) q q) q xs
theorem owns_set {w : World} {base k n B i : Nat} {e : TypeId} {v u : Value} {xs : List Value} (h : w.ownsRow base e k v n xs) (hB : B < base) : (w.setCell ⟨B, i, none⟩ u).ownsRow base e k v n xs := by
  refine ⟨h.1, ?_⟩
  rcases h.2 with hn | ⟨g, cap, cur, hv, hb, hg, rest⟩
  · exact .inl hn
  · exact .inr ⟨g, cap, cur, hv, hb, by rw [Below.heap_setCell _ _ _ _ (show g ≠ B by omega)]; exact hg, rest⟩
theorem owns_base {w : World} {base base' k n : Nat} {e : TypeId} {v : Value} {xs : List Value} (h : w.ownsRow base e k v n xs) (hB : base' ≤ base) : w.ownsRow base' e k v n xs := by
  refine ⟨h.1, ?_⟩
  rcases h.2 with hn | ⟨g, cap, cur, hv, hb, hg, rest⟩
  · exact .inl hn
  · exact .inr ⟨g, cap, cur, hv, by omega, hg, rest⟩
def dimN (d : Nat) : Nat := if d = 0 then 2 else if d = 3 then 4 else 3
theorem dimN_pos (d : Nat) : 2 ≤ dimN d := by unfold dimN; split <;> (try split) <;> omega
theorem dimN_le (d : Nat) : dimN d ≤ 4 := by unfold dimN; split <;> (try split) <;> omega
set_option maxRecDepth 100000 in
theorem ix_dim (d : Nat) (hd : d < 4) (w : World) : (Instr.index 237 (.agg #[.int .i64 2, .int .i64 3, .int .i64 3, .int .i64 4]) (.int .u8 d)).run Tryz.prog w = .ok (.int .i64 (dimN d)) w := by
  have h : d = 0 ∨ d = 1 ∨ d = 2 ∨ d = 3 := by omega
  have hs : ∀ w, (sizeOf 3).run Tryz.prog w = .ok 1 w := fun w => by rfl
  rcases h with rfl | rfl | rfl | rfl
  all_goals
    simp [Instr.index, run_underlying Tryz.underlying237, asIntOf, go_sem, hs, dimN]
    trace_state
set_option maxRecDepth 100000 in
theorem dimension_ (d : Nat) (hd : d < 4) (w : World) : Calls Tryz.prog 145 #[.int .u8 d] w (One w (.int .i64 (dimN d))) := by
  have hI := ix_dim d hd
  go_enter Tryz.func145, Tryz.ntmps145
  go_wp2
  go_ret
  exact ⟨rfl, by with_reducible (repeat (first | exact Kx.r _ | assumption | refine Kx.a ?_ _ | refine Kx.d ?_ | refine Kx.e ?_ _ | (refine Kx.s ?_ ?_ _; focus (first | (simp; done) | (simp; omega))) | refine Kx.t ?_ (by assumption)))⟩
set_option maxRecDepth 100000 in
theorem dimOf_ (d : Nat) (hd : d < 4) (w : World) : Calls Tryz.prog 154 #[.int .i64 d] w (One w (.int .u8 d)) := by
  have h : d = 0 ∨ d = 1 ∨ d = 2 ∨ d = 3 := by omega
  rcases h with rfl | rfl | rfl | rfl
  all_goals
    go_enter Tryz.func154, Tryz.ntmps154
    go_wp2
    go_ret
    exact ⟨rfl, by with_reducible (repeat (first | exact Kx.r _ | assumption | refine Kx.a ?_ _ | refine Kx.d ?_ | refine Kx.e ?_ _ | (refine Kx.s ?_ ?_ _; focus (first | (simp; done) | (simp; omega))) | refine Kx.t ?_ (by assumption)))⟩
set_option maxRecDepth 100000 in
theorem length_ (d : Nat) (hd : d < 4) (a : Option Addr) (n cap : Nat) (hc : n ≤ cap) (hm : cap ≤ maxLen) (w : World) : Calls Tryz.prog 139 #[.agg #[.int .u8 d, .slice a n cap]] w (One w (.int .i64 (n / dimN d : Nat))) := by
  have hD := fun w' => dimension_ d hd w'
  have h1 := dimN_pos d
  have h2 := dimN_le d
  unfold maxLen at hm
  go_enter Tryz.func139, Tryz.ntmps139
  go_wp2_with fail
  refine Stab.keep_tail 6 (fun _ _ _ => True) (fun _ => false) (fun k => k == 5) Stab.pre_none (by kernel_rfl) (by kernel_rfl) fun hcx => ?_
  simp only [List.take_succ_cons, List.take_zero, List.drop_succ_cons, List.drop_zero]
  repeat (first
    | (refine Stab.quiet rfl rfl rfl (fun K hK => ?_); go_big_quiet_op; refine hK _ ?_; clear hK K)
    | (refine Stab.one rfl rfl rfl ?_
       apply Exists.intro
       refine ⟨fun w1 hw1 => ?_, fun K hK => ?_⟩
       · go_simp
         first | (go_at_call 145; exact hD _)
       go_simp
       refine hK _ ?_
       clear hK K)
    | (refine Stab.skip rfl (fun K hK => ?_); go_simp; refine hK _ ?_; clear hK K))
  refine Stab.nil fun w' hw' _ => ?_
  clear hcx
  go_wp2_with fail
  go_ret
  refine ⟨?_, ?_⟩
  · refine congrArg (fun x => Ending.returned (.int .i64 x)) ?_
    have : n / dimN d ≤ n := Nat.div_le_self _ _
    rw [← Int.natCast_ediv]
    generalize n / dimN d = q at *
    exact IntWalk.wrap64_in _ (by omega)
  with_reducible (repeat (first | exact Kx.r _ | assumption | refine Kx.a ?_ _ | refine Kx.d ?_ | refine Kx.e ?_ _ | (refine Kx.s ?_ ?_ _; focus (first | (simp; done) | (simp; omega))) | refine Kx.t ?_ (by assumption)))
set_option maxRecDepth 100000 in
theorem newSeq_ (d : Nat) (hd : d < 4) (a : Option Addr) (n cap : Nat) (hc : n ≤ cap) (hm : cap ≤ maxLen) (hn : n % dimN d = 0) (w : World) : Calls Tryz.prog 148 #[.slice a n cap, .int .u8 d] w (One w (.agg #[.int .u8 d, .slice a n cap])) := by
  have hD := fun w' => dimension_ d hd w'
  have h1 := dimN_pos d
  have h2 := dimN_le d
  unfold maxLen at hm
  go_enter Tryz.func148, Tryz.ntmps148
  go_wp2_with fail
  refine (hD _).mono ?_
  rintro e w2 ⟨rfl, hk⟩
  have hz : ((n : Int) % (dimN d : Int)) = 0 := by omega
  obtain ⟨hc, hf⟩ := Stab.own_cell hk w.heap.size (by first | (simp; done) | (simp; omega))
  have m0 : w2.cell? ⟨w.heap.size, 0, none⟩ = some (.int .u8 0) := by rw [hc]; go_simp
  have m1 : w2.cell? ⟨w.heap.size, 1, none⟩ = some (.slice none 0 0) := by rw [hc]; go_simp
  have f0 : w2.frozen? ⟨w.heap.size, 0, none⟩ = false := by rw [hf]; go_simp
  have f1 : w2.frozen? ⟨w.heap.size, 1, none⟩ = false := by rw [hf]; go_simp
  clear hc hf
  go_wp2_with fail
  refine bodyPost_ret (by simp [results, Tryz.results148, go_sem, m0, m1]) rfl ⟨rfl, ?_⟩
  with_reducible (repeat (first | exact Kx.r _ | assumption | refine Kx.a ?_ _ | refine Kx.d ?_ | refine Kx.e ?_ _ | (refine Kx.s ?_ ?_ _; focus (first | (simp; done) | (simp; omega))) | refine Kx.t ?_ (by assumption)))
set_option maxRecDepth 100000 in
theorem newLine_ (v : Value) (d : Nat) (a : Option Addr) (n cap : Nat) (w : World) : Calls Tryz.prog 119 #[.agg #[.int .u8 d, .slice a n cap]] w (One w (.agg #[.int .u8 d, .slice a n cap])) := by
  go_enter Tryz.func119, Tryz.ntmps119
  go_wp2
  refine bodyPost_ret (by simp [results, Tryz.results119, go_sem]) rfl ⟨rfl, ?_⟩
  with_reducible (repeat (first | exact Kx.r _ | assumption | refine Kx.a ?_ _ | refine Kx.d ?_ | refine Kx.e ?_ _ | (refine Kx.s ?_ ?_ _; focus (first | (simp; done) | (simp; omega))) | refine Kx.t ?_ (by assumption)))
set_option maxRecDepth 100000 in
theorem lineCoords_ (d : Nat) (a : Option Addr) (n cap : Nat) (w : World) : Calls Tryz.prog 59 #[.agg #[.int .u8 d, .slice a n cap]] w (One w (.agg #[.int .u8 d, .slice a n cap])) := by
  go_enter Tryz.func59, Tryz.ntmps59
  go_wp2
  refine bodyPost_ret (by simp [results, Tryz.results59, go_sem]) rfl ⟨rfl, ?_⟩
  with_reducible (repeat (first | exact Kx.r _ | assumption | refine Kx.a ?_ _ | refine Kx.d ?_ | refine Kx.e ?_ _ | (refine Kx.s ?_ ?_ _; focus (first | (simp; done) | (simp; omega))) | refine Kx.t ?_ (by assumption)))
set_option maxRecDepth 100000 in
theorem seqType_ (d : Nat) (a : Option Addr) (n cap : Nat) (w : World) : Calls Tryz.prog 138 #[.agg #[.int .u8 d, .slice a n cap]] w (One w (.int .u8 d)) := by
  go_enter Tryz.func138, Tryz.ntmps138
  go_wp2
  go_ret
  refine ⟨rfl, ?_⟩
  with_reducible (repeat (first | exact Kx.r _ | assumption | refine Kx.a ?_ _ | refine Kx.d ?_ | refine Kx.e ?_ _ | (refine Kx.s ?_ ?_ _; focus (first | (simp; done) | (simp; omega))) | refine Kx.t ?_ (by assumption)))
theorem infoFloat : (Tryz.prog.info? 45).map (fun i => (i.zero, i.size, i.bytes)) = some (some (.float .f64 0), 1, 8) := by kernel_rfl
set_option maxRecDepth 100000 in
theorem sequence_ (d : Nat) (hd : d < 4) (a : Option Addr) (n cap : Nat) (l : List Nat) (w : World) (hn : l.length = n) (hs : n ≤ 1000000) (h : Sz w a n cap 1 (encN l)) :
    Calls Tryz.prog 120 #[.slice a n cap, .int .i64 d] w (SeqPost w d (n - n % dimN d) (encN (l.take (n - n % dimN d)))) := by
  obtain ⟨i0, hi, hz0, hz1, hz2⟩ := info_parts infoFloat
  have hle := h.le
  have hm := h.max
  unfold maxLen at hm
  have h1 := dimN_pos d
  have h2 := dimN_le d
  obtain ⟨q, hq⟩ : ∃ q, n - n % dimN d = q := ⟨_, rfl⟩
  have hqn : q ≤ n := by rw [← hq]; exact Nat.sub_le _ _
  have hqm : q % dimN d = 0 := by
    have h1 : dimN d * (n / dimN d) + n % dimN d = n := Nat.div_add_mod n (dimN d)
    have : q = dimN d * (n / dimN d) := by omega
    rw [this]; exact Nat.mul_mod_right _ _
  have hw : wrap64 ((n : Int) - (n : Int) % (dimN d : Int)) = (q : Int) := by
    have : n % dimN d ≤ n := Nat.mod_le _ _
    rw [← Int.natCast_emod]
    generalize n % dimN d = x at *
    rw [IntWalk.wrap64_in _ (by omega)]
    omega
  have hmk : ∀ w : World, (Instr.makeSlice 22 (.int .i64 q) (.int .i64 q)).run Tryz.prog w = .ok (.slice (some ⟨w.heap.size, 0, none⟩) q q) (w.alloc (.cells (madeCells #[.float .f64 0] q) 45)) := fun w => by
    have := run_make (P := Tryz.prog) w 22 45 i0 _ Tryz.underlying22 hi hz0 .i64 .i64 q q (by omega) (Int.le_refl _) (by rw [hz2]; omega) (by omega)
    rw [hz1] at this
    simpa [Value.cells] using this
  have hmt : (madeCells #[.float .f64 0] q) = (List.replicate q (.float .f64 0)).toArray := by
    rw [← toList_madeCells_one]
  rw [hq]
  have hO := fun w' => dimOf_ d hd w'
  have hD := fun w' => dimension_ d hd w'
  go_enter Tryz.func120, Tryz.ntmps120
  go_wp2_with fail
  refine (hO _).mono ?_
  rintro e w2 ⟨rfl, hk2⟩
  go_wp2_with fail
  refine (hD _).mono ?_
  rintro e w3 ⟨rfl, hk3⟩
  have hk4 : Stab.Keeps w w3 := by with_reducible (repeat (first | exact Kx.r _ | assumption | refine Kx.a ?_ _ | refine Kx.d ?_ | refine Kx.e ?_ _ | (refine Kx.s ?_ ?_ _; focus (first | (simp; done) | (simp; omega))) | refine Kx.t ?_ (by assumption)))
  obtain ⟨hc, hf⟩ := Stab.own_cell (Stab.Keeps.trans hk2 hk3) w.heap.size (by first | (simp; done) | (simp; omega))
  have m0 : w3.cell? ⟨w.heap.size, 0, none⟩ = some (.int .u8 0) := by rw [hc]; go_simp
  have m1 : w3.cell? ⟨w.heap.size, 1, none⟩ = some (.slice none 0 0) := by rw [hc]; go_simp
  have f0 : ∀ j, w3.frozen? ⟨w.heap.size, j, none⟩ = false := fun j => by rw [hf]; go_simp
  have hT := h.keep hk4
  have hP := fun b w' => newSeq_ d hd (some ⟨b, 0, none⟩) q q (Nat.le_refl _) (by unfold maxLen; omega) hqm w'
  clear hc hf hO hD hz0 hz1 hz2
  go_wp2_with ((with_reducible_and_instances refine wpList_copy_splice (w0 := w3) rfl _ _ 22 22 rfl 45 Tryz.underlying22 (by kernel_rfl) _ _ q q n cap rfl rfl w3.heap.size 0 (List.replicate q (.float .f64 0)) 45 ?c1 ((encN l).take q) ?c2 ?c3 ?c4 ?c5 w3.heap.size ?c6 ?c7 ?_))
  case c1 => rw [show (List.replicate q (Value.float .f64 0)).toArray = Array.replicate q (.float .f64 0) by simp]; exact heap_alloc_new _ _
  case c2 => rw [List.length_take, show (encN l).length = n by simp [encN, hn]]; exact Nat.min_comm _ _
  case c3 =>
    intro hp
    have hS := hT.some_ (by simp [encN] at hp; omega)
    cases ha : a with
    | none => have := hS.nil ha; simp [encN] at hp; omega
    | some x =>
      obtain ⟨b, off, e, hb, hc⟩ := hS.at_ x ha
      subst e
      refine ⟨_, rfl, fun j v hj => ?_⟩
      rw [add_none, World.cell?_alloc_past _ _ _ hb]
      refine hc j v ?_
      rw [List.getElem?_take] at hj
      split at hj <;> simp_all
  case c4 => simp; exact Nat.min_le_left _ _
  case c5 => intro v hv; have := List.mem_of_mem_take hv; simp [encN] at this; obtain ⟨x, _, rfl⟩ := this; rfl
  case c6 => exact (Stab.Keeps.refl w3).alloc _
  case c7 => exact Nat.le_refl _
  intro w5 hG hB
  have hsp : splice (List.replicate q (Value.float .f64 0)) 0 ((encN l).take q) = encN (l.take q) := by
    have h1 : ((encN l).take q).length = q := by simp [encN, hn]; omega
    unfold splice
    rw [h1, List.take_zero, List.nil_append, Nat.zero_add, List.drop_of_length_le (by simp), List.append_nil]
    simp [encN]
  have hown : w5.ownsRow (w.heap.size + 1) 45 1 (.slice (some ⟨w3.heap.size, 0, none⟩) q q) q (encN (l.take q)) := by
    refine ⟨by simp [encN, hn]; omega, .inr ⟨w3.heap.size, q, (encN (l.take q)).toArray, rfl, Stab.cell_lt m0, ?_, Nat.le_refl _, by unfold maxLen; omega, by simp [encN, hn]; omega, ?_⟩⟩
    · rw [← hsp]; exact hG.out
    · rw [List.toList_toArray, List.take_of_length_le (by simp [encN, hn]; omega)]
  have hlt := Stab.cell_lt m0
  obtain ⟨hc, hf⟩ := Stab.own_cell (show Stab.Keeps w3 w5 from hB) w.heap.size hlt
  have n0 : w5.cell? ⟨w.heap.size, 0, none⟩ = some (.int .u8 0) := by rw [hc]; exact m0
  have n1 : w5.cell? ⟨w.heap.size, 1, none⟩ = some (.slice none 0 0) := by rw [hc]; exact m1
  have g0 : ∀ j, w5.frozen? ⟨w.heap.size, j, none⟩ = false := fun j => by rw [hf]; exact f0 j
  have hk5 : Stab.Keeps w w5 := Stab.Keeps.trans hk4 hB
  clear hG hT hsp hc hf m0 m1
  go_wp2_with fail
  refine (hP _ _).mono ?_
  rintro e w6 ⟨rfl, hk6⟩
  obtain ⟨hc, hf⟩ := Stab.own_cell hk6 w.heap.size (Stab.cell_lt n0)
  have p0 : w6.cell? ⟨w.heap.size, 0, none⟩ = some (.int .u8 0) := by rw [hc]; exact n0
  have p1 : w6.cell? ⟨w.heap.size, 1, none⟩ = some (.slice none 0 0) := by rw [hc]; exact n1
  have q0 : ∀ j, w6.frozen? ⟨w.heap.size, j, none⟩ = false := fun j => by rw [hf]; exact g0 j
  clear hc hf n0 n1 g0
  go_wp2_with fail
  refine bodyPost_ret (v := .agg #[.int .u8 d, .slice (some ⟨w3.heap.size, 0, none⟩) q q]) (by simp [results, Tryz.results120, go_sem, p0, p1]) rfl ⟨_, rfl, ?_, ?_⟩
  · with_reducible (repeat (first | exact Kx.r _ | assumption | refine Kx.a ?_ _ | refine Kx.d ?_ | refine Kx.e ?_ _ | (refine Kx.s ?_ ?_ _; focus (first | (simp; done) | (simp; omega))) | refine Kx.t ?_ (by assumption)))
  · exact owns_base (owns_set (owns_set (owns_keep hown hk6) (by omega)) (by omega)) (Nat.le_succ _)
end Go.Proofs.YtbakhldjfplbfaaGreat
