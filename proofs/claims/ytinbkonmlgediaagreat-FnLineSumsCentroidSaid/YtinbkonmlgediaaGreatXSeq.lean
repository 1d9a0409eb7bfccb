/-
  Sequences of places: their dimension, length, and making. No condition.
-/
import Derived.Test.YtinbkonmlgediaaGreatXGeo
import Derived.Laws.CopyOwn
set_option linter.unusedVariables false
set_option linter.unusedSimpArgs false
namespace Go.Proofs.YtinbkonmlgediaaGreat
open Go.RowKit Go.Fl Go.Sl
/-- a new sequence of the numbers xs -/
def SeqPost (w : World) (d q : Nat) (xs : List Value) (e : Ending) (w' : World) : Prop :=
  ∃ b, e = .returned (.agg #[.int .u8 d, .slice (some ⟨b, 0, none⟩) q q]) ∧ Stab.Keeps w w' ∧ w'.ownsRow w.heap.size 27 1 (.slice (some ⟨b, 0, none⟩) q q) q xs
theorem owns_set {w : World} {base k n B i : Nat} {e : TypeId} {v u : Value} {xs : List Value} (h : w.ownsRow base e k v n xs) (hB : B < base) : (w.setCell ⟨B, i, none⟩ u).ownsRow base e k v n xs := by
  refine ⟨h.1, ?_⟩
  rcases h.2 with hn | ⟨g, cap, cur, hv, hb, hg, rest⟩
  · exact .inl hn
  · exact .inr ⟨g, cap, cur, hv, hb, by rw [Below.heap_setCell _ _ _ _ (show g ≠ B by omega)]; exact hg, rest⟩
theorem owns_base {w : World} {base base' k n : Nat} {e : TypeId} {v : Value} {xs : List Value} (h : w.ownsRow base e k v n xs) (hB : base' ≤ base) : w.ownsRow base' e k v n xs := by
  refine ⟨h.1, ?_⟩
  rcases h.2 with hn | ⟨g, cap, cur, hv, hb, hg, rest⟩
  · exact .inl hn
  · exact .inr ⟨g, cap, cur, hv, by omega, hg, rest⟩
def dimN (d : Nat) : Nat := if d = 0 then 2 else if d = 3 then 4 else 3
theorem dimN_pos (d : Nat) : 2 ≤ dimN d := by unfold dimN; split <;> (try split) <;> omega
theorem dimN_le (d : Nat) : dimN d ≤ 4 := by unfold dimN; split <;> (try split) <;> omega
set_option maxRecDepth 100000 in
theorem ix_dim (d : Nat) (hd : d < 4) (w : World) : (Instr.index 164 (.agg #[.int .i64 2, .int .i64 3, .int .i64 3, .int .i64 4]) (.int .u8 d)).run Tryz.prog w = .ok (.int .i64 (dimN d)) w := by
  have h : d = 0 ∨ d = 1 ∨ d = 2 ∨ d = 3 := by omega
  have hs : ∀ w, (sizeOf 3).run Tryz.prog w = .ok 1 w := fun w => by rfl
  rcases h with rfl | rfl | rfl | rfl
  all_goals
    simp [Instr.index, run_underlying Tryz.underlying164, asIntOf, go_sem, hs, dimN]
    trace_state
set_option maxRecDepth 100000 in
theorem dimension_ (d : Nat) (hd : d < 4) (w : World) : Calls Tryz.prog 74 #[.int .u8 d] w (One w (.int .i64 (dimN d))) := by
  have hI := ix_dim d hd
  go_enter Tryz.func74, Tryz.ntmps74
  go_wp2
  go_ret
  exact ⟨rfl, by with_reducible (repeat first | exact Kx.r _ | assumption | refine Kx.a ?_ _ | refine Kx.d ?_ | refine Kx.e ?_ _ | refine Kx.s (by simp <;> omega) ?_ _ | refine Kx.t ?_ (by assumption))⟩
set_option maxRecDepth 100000 in
theorem length_ (d : Nat) (hd : d < 4) (a : Option Addr) (n cap : Nat) (hc : n ≤ cap) (hm : cap ≤ maxLen) (w : World) : Calls Tryz.prog 67 #[.agg #[.int .u8 d, .slice a n cap]] w (One w (.int .i64 (n / dimN d : Nat))) := by
  have hD := fun w' => dimension_ d hd w'
  have h1 := dimN_pos d
  have h2 := dimN_le d
  unfold maxLen at hm
  go_enter Tryz.func67, Tryz.ntmps67
  go_wp2_with fail
  refine Stab.keep_tail 6 (fun _ _ _ => True) (fun _ => false) (fun k => k == 5) Stab.pre_none (by kernel_rfl) (by kernel_rfl) fun hcx => ?_
  simp only [List.take_succ_cons, List.take_zero, List.drop_succ_cons, List.drop_zero]
  repeat (first
    | (refine Stab.quiet rfl rfl rfl (fun K hK => ?_); go_big_quiet_op; refine hK _ ?_; clear hK K)
    | (refine Stab.one rfl rfl rfl ?_
       apply Exists.intro
       refine ⟨fun w1 hw1 => ?_, fun K hK => ?_⟩
       · go_simp
         first | (go_at_call 74; exact hD _)
       go_simp
       refine hK _ ?_
       clear hK K)
    | (refine Stab.skip rfl (fun K hK => ?_); go_simp; refine hK _ ?_; clear hK K))
  refine Stab.nil fun w' hw' _ => ?_
  clear hcx
  go_wp2_with fail
  go_ret
  refine ⟨?_, ?_⟩
  · refine congrArg (fun x => Ending.returned (.int .i64 x)) ?_
    have : n / dimN d ≤ n := Nat.div_le_self _ _
    rw [← Int.natCast_ediv]
    generalize n / dimN d = q at *
    exact IntWalk.wrap64_in _ (by omega)
  with_reducible (repeat first | exact Kx.r _ | assumption | refine Kx.a ?_ _ | refine Kx.d ?_ | refine Kx.e ?_ _ | refine Kx.s (by simp <;> omega) ?_ _ | refine Kx.t ?_ (by assumption))
set_option maxRecDepth 100000 in
theorem newSeq_ (d : Nat) (hd : d < 4) (a : Option Addr) (n cap : Nat) (hc : n ≤ cap) (hm : cap ≤ maxLen) (hn : n % dimN d = 0) (w : World) : Calls Tryz.prog 75 #[.slice a n cap, .int .u8 d] w (One w (.agg #[.int .u8 d, .slice a n cap])) := by
  have hD := fun w' => dimension_ d hd w'
  have h1 := dimN_pos d
  have h2 := dimN_le d
  unfold maxLen at hm
  go_enter Tryz.func75, Tryz.ntmps75
  go_wp2_with fail
  refine (hD _).mono ?_
  rintro e w2 ⟨rfl, hk⟩
  have hz : ((n : Int) % (dimN d : Int)) = 0 := by omega
  obtain ⟨hc, hf⟩ := Stab.own_cell hk w.heap.size (by first | (simp; done) | (simp; omega))
  have m0 : w2.cell? ⟨w.heap.size, 0, none⟩ = some (.int .u8 0) := by rw [hc]; go_simp
  have m1 : w2.cell? ⟨w.heap.size, 1, none⟩ = some (.slice none 0 0) := by rw [hc]; go_simp
  have f0 : w2.frozen? ⟨w.heap.size, 0, none⟩ = false := by rw [hf]; go_simp
  have f1 : w2.frozen? ⟨w.heap.size, 1, none⟩ = false := by rw [hf]; go_simp
  clear hc hf
  go_wp2_with fail
  refine bodyPost_ret (by simp [results, Tryz.results75, go_sem, m0, m1]) rfl ⟨rfl, ?_⟩
  with_reducible (repeat first | exact Kx.r _ | assumption | refine Kx.a ?_ _ | refine Kx.d ?_ | refine Kx.e ?_ _ | refine Kx.s (by simp <;> omega) ?_ _ | refine Kx.t ?_ (by assumption))
set_option maxRecDepth 100000 in
theorem newLine_ (v : Value) (d : Nat) (a : Option Addr) (n cap : Nat) (w : World) : Calls Tryz.prog 25 #[.agg #[.int .u8 d, .slice a n cap]] w (One w (.agg #[.int .u8 d, .slice a n cap])) := by
  go_enter Tryz.func25, Tryz.ntmps25
  go_wp2
  refine bodyPost_ret (by simp [results, Tryz.results25, go_sem]) rfl ⟨rfl, ?_⟩
  with_reducible (repeat first | exact Kx.r _ | assumption | refine Kx.a ?_ _ | refine Kx.d ?_ | refine Kx.e ?_ _ | refine Kx.s (by simp <;> omega) ?_ _ | refine Kx.t ?_ (by assumption))
set_option maxRecDepth 100000 in
theorem lineCoords_ (d : Nat) (a : Option Addr) (n cap : Nat) (w : World) : Calls Tryz.prog 66 #[.agg #[.int .u8 d, .slice a n cap]] w (One w (.agg #[.int .u8 d, .slice a n cap])) := by
  go_enter Tryz.func66, Tryz.ntmps66
  go_wp2
  refine bodyPost_ret (by simp [results, Tryz.results66, go_sem]) rfl ⟨rfl, ?_⟩
  with_reducible (repeat first | exact Kx.r _ | assumption | refine Kx.a ?_ _ | refine Kx.d ?_ | refine Kx.e ?_ _ | refine Kx.s (by simp <;> omega) ?_ _ | refine Kx.t ?_ (by assumption))
set_option maxRecDepth 100000 in
theorem seqType_ (d : Nat) (a : Option Addr) (n cap : Nat) (w : World) : Calls Tryz.prog 166 #[.agg #[.int .u8 d, .slice a n cap]] w (One w (.int .u8 d)) := by
  go_enter Tryz.func166, Tryz.ntmps166
  go_wp2
  go_ret
  refine ⟨rfl, ?_⟩
  with_reducible (repeat first | exact Kx.r _ | assumption | refine Kx.a ?_ _ | refine Kx.d ?_ | refine Kx.e ?_ _ | refine Kx.s (by simp <;> omega) ?_ _ | refine Kx.t ?_ (by assumption))
theorem infoFloat : (Tryz.prog.info? 27).map (fun i => (i.zero, i.size, i.bytes)) = some (some (.float .f64 0), 1, 8) := by kernel_rfl
end Go.Proofs.YtinbkonmlgediaaGreat
