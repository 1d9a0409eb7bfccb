/-
  FnXYLength: the package's and the thin package's functions, walked. No condition.
-/
import Derived.Test.YtfiplieljdkdjaaXyWalk2
set_option linter.unusedVariables false
set_option linter.unusedSimpArgs false
namespace Go.Proofs.Ytfiplieljdkdjaa
open Go.RowKit Go.Fl Go.Fr
structure Vec (x y p q s l : Nat) : Prop where
  h1 : floatBits .mul .f64 x x = some p
  h2 : floatBits .mul .f64 y y = some q
  h3 : floatBits .add .f64 p q = some s
  h4 : Ieee.double.sqrt s = some l
theorem lengthSq_ {x y p q s l : Nat} (h : Vec x y p q s l) (w : World) : Calls Try.prog 13 #[.agg #[.float .f64 x, .float .f64 y]] w (One w (.float .f64 s)) := by
  go_enter Try.func13, Try.ntmps13
  go_wp2_with fail
  refine (dot_ _ _ _ _ _ _ _ h.h1 h.h2 h.h3 _).mono ?_
  rintro e w2 ⟨rfl, hb2⟩
  go_wp2_with fail
  go_ret
  refine ⟨rfl, ?_⟩
  repeat (first | (with_reducible exact Stab.Keeps.refl _) | (with_reducible assumption) | (with_reducible refine Stab.Keeps.alloc ?_ _) | (with_reducible refine Stab.Keeps.drew ?_) | (with_reducible refine Stab.Keeps.drewN ?_ _) | ((with_reducible refine Stab.Keeps.setCell ?_ ?_ _); focus (first | (simp; done) | (simp; omega))) | (with_reducible refine Stab.Keeps.trans ?_ (by with_reducible assumption)))
theorem length_ {x y p q s l : Nat} (h : Vec x y p q s l) (w : World) : Calls Try.prog 9 #[.agg #[.float .f64 x, .float .f64 y]] w (One w (.float .f64 l)) := by
  go_enter Try.func9, Try.ntmps9
  go_wp2_with fail
  refine (lengthSq_ h _).mono ?_
  rintro e w2 ⟨rfl, hb2⟩
  go_wp2_with fail
  refine (msqrt_ _ _ h.h4 _).mono ?_
  rintro e w3 ⟨rfl, rfl⟩
  go_wp2_with fail
  go_ret
  refine ⟨rfl, ?_⟩
  repeat (first | (with_reducible exact Stab.Keeps.refl _) | (with_reducible assumption) | (with_reducible refine Stab.Keeps.alloc ?_ _) | (with_reducible refine Stab.Keeps.drew ?_) | (with_reducible refine Stab.Keeps.drewN ?_ _) | ((with_reducible refine Stab.Keeps.setCell ?_ ?_ _); focus (first | (simp; done) | (simp; omega))) | (with_reducible refine Stab.Keeps.trans ?_ (by with_reducible assumption)))
def one1 : Nat := 4607182418800017408
set_option maxRecDepth 100000 in
set_option maxHeartbeats 1000000 in
theorem unit_ {x y p q s l : Nat} (h : Vec x y p q s l) {v : Nat} (hv : floatBits .quo .f64 4607182418800017408 l = some v) {a b : Nat} (ha : floatBits .mul .f64 x v = some a) (hb : floatBits .mul .f64 y v = some b) (w : World) :
    Calls Try.prog 11 #[.agg #[.float .f64 x, .float .f64 y]] w (One w (.agg #[.float .f64 a, .float .f64 b])) := by
  have v1 := fun w => opV_some hv w
  have n1 := opN_some hv
  have hz := World.drewN_zero
  go_enter Try.func11, Try.ntmps11
  go_wp2_with fail
  refine Stab.keep_tail 4 (fun _ _ _ => True) (fun _ => false) (fun k => k == 2) Stab.pre_none (by kernel_rfl) (by kernel_rfl) fun hcx => ?_
  simp only [List.take_succ_cons, List.take_zero, List.drop_succ_cons, List.drop_zero]
  repeat (first
    | (refine Stab.quiet rfl rfl rfl (fun K hK => ?_); go_big_quiet_op; refine hK _ ?_; clear hK K)
    | (refine Stab.one rfl rfl rfl ?_
       apply Exists.intro
       refine ⟨fun w1 hw1 => ?_, fun K hK => ?_⟩
       · go_simp
         first | (go_at_call 9; exact length_ h _)
       go_simp
       refine hK _ ?_
       clear hK K)
    | (refine Stab.skip rfl (fun K hK => ?_); go_simp; refine hK _ ?_; clear hK K))
  refine Stab.nil fun w' hw' _ => ?_
  clear hcx
  go_wp2_with (go_at_call 14; refine (scale_ _ _ _ _ _ (fun w => opV_some ha w) (fun w => opV_some hb w) _).mono ?_; rintro e w2 ⟨rfl, hb2⟩; have hK2 := Stab.Keeps.trans hw' hb2; obtain ⟨hc, hf⟩ := Stab.own_cell hK2 (w.heap.size + 1) (by first | (simp; done) | (simp; omega)))
  refine bodyPost_ret (v := .agg #[.float .f64 a, .float .f64 b]) (by simp [results, Try.results11, go_sem, hc]) rfl ⟨rfl, ?_⟩
  repeat (first | (with_reducible exact Stab.Keeps.refl _) | (with_reducible assumption) | (with_reducible refine Stab.Keeps.alloc ?_ _) | (with_reducible refine Stab.Keeps.drew ?_) | (with_reducible refine Stab.Keeps.drewN ?_ _) | ((with_reducible refine Stab.Keeps.setCell ?_ ?_ _); focus (first | (simp; done) | (simp; omega))) | (with_reducible refine Stab.Keeps.trans ?_ (by with_reducible assumption)))
set_option maxRecDepth 100000 in
set_option maxHeartbeats 1000000 in
theorem unitNan_ {x y p q s l : Nat} (h : Vec x y p q s l) {v : Nat} (hv : floatBits .quo .f64 4607182418800017408 l = some v) (ha : floatBits .mul .f64 x v = none) (hb : floatBits .mul .f64 y v = none) (w : World) :
    Calls Try.prog 11 #[.agg #[.float .f64 x, .float .f64 y]] w (Nan2 w) := by
  have v1 := fun w => opV_some hv w
  have n1 := opN_some hv
  have hz := World.drewN_zero
  go_enter Try.func11, Try.ntmps11
  go_wp2_with fail
  refine Stab.keep_tail 4 (fun _ _ _ => True) (fun _ => false) (fun k => k == 2) Stab.pre_none (by kernel_rfl) (by kernel_rfl) fun hcx => ?_
  simp only [List.take_succ_cons, List.take_zero, List.drop_succ_cons, List.drop_zero]
  repeat (first
    | (refine Stab.quiet rfl rfl rfl (fun K hK => ?_); go_big_quiet_op; refine hK _ ?_; clear hK K)
    | (refine Stab.one rfl rfl rfl ?_
       apply Exists.intro
       refine ⟨fun w1 hw1 => ?_, fun K hK => ?_⟩
       · go_simp
         first | (go_at_call 9; exact length_ h _)
       go_simp
       refine hK _ ?_
       clear hK K)
    | (refine Stab.skip rfl (fun K hK => ?_); go_simp; refine hK _ ?_; clear hK K))
  refine Stab.nil fun w' hw' _ => ?_
  clear hcx
  go_wp2_with (go_at_call 14; refine (scaleNan_ _ _ _ ha hb _).mono ?_; rintro e w2 ⟨a, b, rfl, na, nb, hb2⟩; have hK2 := Stab.Keeps.trans hw' hb2; obtain ⟨hc, hf⟩ := Stab.own_cell hK2 (w.heap.size + 1) (by first | (simp; done) | (simp; omega)))
  refine bodyPost_ret (v := .agg #[.float .f64 a, .float .f64 b]) (by simp [results, Try.results11, go_sem, hc]) rfl ⟨_, _, rfl, na, nb, ?_⟩
  repeat (first | (with_reducible exact Stab.Keeps.refl _) | (with_reducible assumption) | (with_reducible refine Stab.Keeps.alloc ?_ _) | (with_reducible refine Stab.Keeps.drew ?_) | (with_reducible refine Stab.Keeps.drewN ?_ _) | ((with_reducible refine Stab.Keeps.setCell ?_ ?_ _); focus (first | (simp; done) | (simp; omega))) | (with_reducible refine Stab.Keeps.trans ?_ (by with_reducible assumption)))
theorem xy_ (x y : Nat) (w : World) : Calls Try.prog 8 #[.agg #[.float .f64 x, .float .f64 y]] w (One w (.agg #[.float .f64 x, .float .f64 y])) := by
  go_enter Try.func8, Try.ntmps8
  go_wp2
  refine bodyPost_ret (v := .agg #[.float .f64 x, .float .f64 y]) (by simp [results, Try.results8, go_sem]) rfl ⟨rfl, ?_⟩
  repeat (first | (with_reducible exact Stab.Keeps.refl _) | (with_reducible assumption) | (with_reducible refine Stab.Keeps.alloc ?_ _) | (with_reducible refine Stab.Keeps.drew ?_) | (with_reducible refine Stab.Keeps.drewN ?_ _) | ((with_reducible refine Stab.Keeps.setCell ?_ ?_ _); focus (first | (simp; done) | (simp; omega))) | (with_reducible refine Stab.Keeps.trans ?_ (by with_reducible assumption)))
theorem plainXY_ (x y : Nat) (w : World) : Calls Try.prog 10 #[.agg #[.float .f64 x, .float .f64 y]] w (One w (.agg #[.float .f64 x, .float .f64 y])) := by
  go_enter Try.func10, Try.ntmps10
  go_wp2
  refine bodyPost_ret (v := .agg #[.float .f64 x, .float .f64 y]) (by simp [results, Try.results10, go_sem]) rfl ⟨rfl, ?_⟩
  repeat (first | (with_reducible exact Stab.Keeps.refl _) | (with_reducible assumption) | (with_reducible refine Stab.Keeps.alloc ?_ _) | (with_reducible refine Stab.Keeps.drew ?_) | (with_reducible refine Stab.Keeps.drewN ?_ _) | ((with_reducible refine Stab.Keeps.setCell ?_ ?_ _); focus (first | (simp; done) | (simp; omega))) | (with_reducible refine Stab.Keeps.trans ?_ (by with_reducible assumption)))
theorem iLength_ {x y p q s l : Nat} (h : Vec x y p q s l) (w : World) : Calls Try.prog 5 #[.agg #[.float .f64 x, .float .f64 y]] w (One w (.float .f64 l)) := by
  go_enter Try.func5, Try.ntmps5
  go_wp2_with fail
  refine (xy_ _ _ _).mono ?_
  rintro e w2 ⟨rfl, hb2⟩
  go_wp2_with fail
  refine (length_ h _).mono ?_
  rintro e w3 ⟨rfl, hb3⟩
  go_wp2_with fail
  go_ret
  refine ⟨rfl, ?_⟩
  repeat (first | (with_reducible exact Stab.Keeps.refl _) | (with_reducible assumption) | (with_reducible refine Stab.Keeps.alloc ?_ _) | (with_reducible refine Stab.Keeps.drew ?_) | (with_reducible refine Stab.Keeps.drewN ?_ _) | ((with_reducible refine Stab.Keeps.setCell ?_ ?_ _); focus (first | (simp; done) | (simp; omega))) | (with_reducible refine Stab.Keeps.trans ?_ (by with_reducible assumption)))
theorem iUnit_ {x y p q s l : Nat} (h : Vec x y p q s l) {v : Nat} (hv : floatBits .quo .f64 4607182418800017408 l = some v) {a b : Nat} (ha : floatBits .mul .f64 x v = some a) (hb : floatBits .mul .f64 y v = some b) (w : World) :
    Calls Try.prog 6 #[.agg #[.float .f64 x, .float .f64 y]] w (One w (.agg #[.float .f64 a, .float .f64 b])) := by
  go_enter Try.func6, Try.ntmps6
  go_wp2_with fail
  refine (xy_ _ _ _).mono ?_
  rintro e w2 ⟨rfl, hb2⟩
  go_wp2_with fail
  refine (unit_ h hv ha hb _).mono ?_
  rintro e w3 ⟨rfl, hb3⟩
  go_wp2_with fail
  refine (plainXY_ _ _ _).mono ?_
  rintro e w4 ⟨rfl, hb4⟩
  have hK2 := Stab.Keeps.trans (Stab.Keeps.trans hb2 hb3) hb4
  obtain ⟨hc, hf⟩ := Stab.own_cell hK2 (w.heap.size + 1) (by first | (simp; done) | (simp; omega))
  go_wp2_with fail
  refine bodyPost_ret (v := .agg #[.float .f64 a, .float .f64 b]) (by simp [results, Try.results6, go_sem, hc]) rfl ⟨rfl, ?_⟩
  repeat (first | (with_reducible exact Stab.Keeps.refl _) | (with_reducible assumption) | (with_reducible refine Stab.Keeps.alloc ?_ _) | (with_reducible refine Stab.Keeps.drew ?_) | (with_reducible refine Stab.Keeps.drewN ?_ _) | ((with_reducible refine Stab.Keeps.setCell ?_ ?_ _); focus (first | (simp; done) | (simp; omega))) | (with_reducible refine Stab.Keeps.trans ?_ (by with_reducible assumption)))
theorem iUnitNan_ {x y p q s l : Nat} (h : Vec x y p q s l) {v : Nat} (hv : floatBits .quo .f64 4607182418800017408 l = some v) (ha : floatBits .mul .f64 x v = none) (hb : floatBits .mul .f64 y v = none) (w : World) :
    Calls Try.prog 6 #[.agg #[.float .f64 x, .float .f64 y]] w (Nan2 w) := by
  go_enter Try.func6, Try.ntmps6
  go_wp2_with fail
  refine (xy_ _ _ _).mono ?_
  rintro e w2 ⟨rfl, hb2⟩
  go_wp2_with fail
  refine (unitNan_ h hv ha hb _).mono ?_
  rintro e w3 ⟨a, b, rfl, na, nb, hb3⟩
  go_wp2_with fail
  refine (plainXY_ _ _ _).mono ?_
  rintro e w4 ⟨rfl, hb4⟩
  have hK2 := Stab.Keeps.trans (Stab.Keeps.trans hb2 hb3) hb4
  obtain ⟨hc, hf⟩ := Stab.own_cell hK2 (w.heap.size + 1) (by first | (simp; done) | (simp; omega))
  go_wp2_with fail
  refine bodyPost_ret (v := .agg #[.float .f64 a, .float .f64 b]) (by simp [results, Try.results6, go_sem, hc]) rfl ⟨_, _, rfl, na, nb, ?_⟩
  repeat (first | (with_reducible exact Stab.Keeps.refl _) | (with_reducible assumption) | (with_reducible refine Stab.Keeps.alloc ?_ _) | (with_reducible refine Stab.Keeps.drew ?_) | (with_reducible refine Stab.Keeps.drewN ?_ _) | ((with_reducible refine Stab.Keeps.setCell ?_ ?_ _); focus (first | (simp; done) | (simp; omega))) | (with_reducible refine Stab.Keeps.trans ?_ (by with_reducible assumption)))
end Go.Proofs.Ytfiplieljdkdjaa
