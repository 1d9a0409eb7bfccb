/-
  FnNodeIs returns true at every input: the walk, out of contracts of the functions that it calls. No condition.
-/
import Derived.Test.YtkpbapemeiigbaaNd0
import Derived.Lib.Hide
import Derived.ProofKit
import Derived.OpenShut
namespace Go.Proofs.Ytkpbapemeiigbaa
open Go.RowKit
theorem vert_cast (a b : Bool) (x : Int) (h : 0 ≤ x ∧ x ≤ 2) : 0 ≤ vert a b x ∧ vert a b x ≤ 2 := by unfold vert; cases a <;> cases b <;> simp <;> omega
theorem edgeI_b (l r i : Bool) : 0 ≤ edgeI l r i ∧ edgeI l r i ≤ 2 := by cases l <;> cases r <;> cases i <;> decide
set_option maxRecDepth 100000 in
set_option maxHeartbeats 1000000 in
theorem door28 (a b c d e : Bool) (w : World) :
    Calls Try.prog 28 #[.bool a, .bool b, .bool c, .bool d, .bool e] w fun e' w' => e' = .returned (.int .i64 (vert a b (edgeI c d e))) ∧ Below w.heap.size w w' := by
  have hmm : ∀ w : World, (Instr.makeMap 84 none).run Try.prog w = .ok (.map (some w.heap.size)) (w.alloc (.map #[] 0)) := fun w => run_makeMap 84 w
  have hi := hins
  have hbd := vert_cast a b _ (edgeI_b c d e)
  generalize hx : vert a b (edgeI c d e) = x at hbd ⊢
  have Hx := Lib.hid hx
  clear hx
  go_enter Try.func28, Try.ntmps28
  go_wp2_with (first | (go_at_call 42; refine (edge42 _ _ _ _).mono ?_; rintro e w1 ⟨p, rfl, hb, hp, hE⟩))
  refine (loc43 _ _ w1.heap.size p a b c d e (by go_simp) (by go_simp) (by go_simp) (by rw [heap_alloc_old _ _ (by simp), heap_alloc_new]) (hE.mono (((Below.refl _ _).alloc (Nat.le_refl _) _).alloc (by simp) _))).mono ?_
  rintro e w2 ⟨rfl, hb2⟩
  rw [Hx.out]
  go_wp2
  go_ret
  have := hb.size
  exact ⟨rfl, (hb.trans ((((Below.refl _ _).alloc this _).alloc (by simp; omega) _).trans (hb2.mono (by simp; omega))))⟩
set_option maxRecDepth 100000 in
set_option maxHeartbeats 1000000 in
theorem door29 (c d e : Bool) (w : World) :
    Calls Try.prog 29 #[.bool c, .bool d, .bool e] w fun e' w' => e' = .returned (.int .i64 (edgeI c d e)) ∧ Below w.heap.size w w' := by
  have hbd := edgeI_b c d e
  generalize hx : edgeI c d e = x at hbd ⊢
  have Hx := Lib.hid hx
  clear hx
  go_enter Try.func29, Try.ntmps29
  go_wp2_with (first | (go_at_call 42; refine (edge42 _ _ _ _).mono ?_; rintro e w1 ⟨p, rfl, hb, hp, hE⟩)| (go_at_call 44; refine (loc44 _ _ _ _ _ hE).mono ?_; rintro e w' ⟨rfl, rfl⟩; rw [Hx.out]))
  go_ret
  exact ⟨rfl, hb⟩
theorem node14 (a b c d e : Bool) (w : World) :
    Calls Try.prog 14 #[.bool a, .bool b, .bool c, .bool d, .bool e] w fun e' w' => e' = .returned (.int .i64 (vert a b (edgeI c d e))) ∧ Below w.heap.size w w' := by
  go_enter Try.func14, Try.ntmps14
  go_wp2_with (first | (go_at_call 28; refine (door28 _ _ _ _ _ _).mono ?_; rintro e w1 ⟨rfl, hb⟩))
  go_ret
  exact ⟨rfl, hb⟩
theorem edge15 (c d e : Bool) (w : World) :
    Calls Try.prog 15 #[.bool c, .bool d, .bool e] w fun e' w' => e' = .returned (.int .i64 (edgeI c d e)) ∧ Below w.heap.size w w' := by
  go_enter Try.func15, Try.ntmps15
  go_wp2_with (first | (go_at_call 29; refine (door29 _ _ _ _).mono ?_; rintro e w1 ⟨rfl, hb⟩))
  go_ret
  exact ⟨rfl, hb⟩
theorem iedge13 (c d e : Bool) (w : World) :
    Calls Try.prog 13 #[.bool c, .bool d, .bool e] w fun e' w' => e' = .returned (.int .i64 (edgeI c d e)) ∧ w = w' := by
  cases c <;> cases d <;> cases e
  all_goals
    go_enter Try.func13, Try.ntmps13
    go_wp2
    go_ret
    exact ⟨rfl, rfl⟩

def LawPost (B : Nat) (w : World) (e : Ending) (w' : World) : Prop := e = .returned (.bool true) ∧ Below B w w'
set_option maxRecDepth 100000 in
set_option maxHeartbeats 1000000 in
theorem law5 (a b c d e : Bool) (w : World) :
    Calls Try.prog 5 #[.bool a, .bool b, .bool c, .bool d, .bool e] w (LawPost w.heap.size w) := by
  cases a <;> cases b
  all_goals
    go_enter Try.func5, Try.ntmps5
    go_wp2_with (first | (go_at_call 13; refine (iedge13 _ _ _ _).mono ?_; rintro e w1 ⟨rfl, rfl⟩) | (go_at_call 14; refine (node14 _ _ _ _ _ _).mono ?_; rintro e w1 ⟨rfl, hb⟩; have hs := hb.size; simp only [vert, Bool.false_eq_true, if_false, if_true]) | (go_at_call 15; refine (edge15 _ _ _ _).mono ?_; rintro e w2 ⟨rfl, hb'⟩; have hs' := hb'.size))
    go_ret
    refine ⟨rfl, ?_⟩
    first
      | exact (‹Below w.heap.size w _›.trans (hb.mono (by assumption)))
      | exact ((‹Below w.heap.size w _›.trans (hb'.mono (by assumption))).trans (hb.mono (by omega)))

namespace fnNodeIs
open Go.ChangeShapes Go.WideShapes Go.ChangeAt
theorem walkT {H : Type} (enc : TypeId × Value → H) (W : World) (base : Nat) {v0 v1 v2 v3 v4 : Value} {d0 d1 d2 d3 d4 : DataW H} {p0 p1 p2 p3 p4 : List MemPlace}
    (o0 : Value.okWide Try.prog W .any base 4 v0) (o1 : Value.okWide Try.prog W .any base 4 v1) (o2 : Value.okWide Try.prog W .any base 4 v2) (o3 : Value.okWide Try.prog W .any base 4 v3) (o4 : Value.okWide Try.prog W .any base 4 v4)
    (h0 : DataW.Trod enc Try.prog W 0 (fun _ => true) true 4 v0 d0 p0) (h1 : DataW.Trod enc Try.prog W 0 (fun _ => true) true 4 v1 d1 p1) (h2 : DataW.Trod enc Try.prog W 0 (fun _ => true) true 4 v2 d2 p2)
    (h3 : DataW.Trod enc Try.prog W 0 (fun _ => true) true 4 v3 d3 p3) (h4 : DataW.Trod enc Try.prog W 0 (fun _ => true) true 4 v4 d4 p4) :
    Calls Try.prog 5 #[v0, v1, v2, v3, v4] W (LawPost W.heap.size W) := by
  obtain ⟨a0, rfl, rfl, rfl⟩ := open_bool Try.underlying4 o0 h0
  obtain ⟨a1, rfl, rfl, rfl⟩ := open_bool Try.underlying4 o1 h1
  obtain ⟨a2, rfl, rfl, rfl⟩ := open_bool Try.underlying4 o2 h2
  obtain ⟨a3, rfl, rfl, rfl⟩ := open_bool Try.underlying4 o3 h3
  obtain ⟨a4, rfl, rfl, rfl⟩ := open_bool Try.underlying4 o4 h4
  exact law5 a0 a1 a2 a3 a4 W
end fnNodeIs
end Go.Proofs.Ytkpbapemeiigbaa
