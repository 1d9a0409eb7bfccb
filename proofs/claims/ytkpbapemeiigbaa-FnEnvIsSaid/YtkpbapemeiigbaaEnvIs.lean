/-
  FnEnvIs: the walk over envelopes: what each function returns, and that it keeps what was there. No condition.
-/
import Derived.Test.YtkpbapemeiigbaaProg
import Derived.Test.YtkpbapemeiigbaaFl
import Derived.Test.YtkpbapemeiigbaaStab
import Derived.WalkKit
import Derived.WalkSpells
import Derived.WalkLawsBesides
import Derived.Lib.Hide
import Derived.BigQuiet
set_option linter.unusedVariables false
set_option linter.unusedSimpArgs false
namespace Go.Proofs.Ytkpbapemeiigbaa
open Go.RowKit Go.Fl

def One (w : World) (v : Value) (e : Ending) (w' : World) : Prop := e = .returned v ∧ Stab.Keeps w w'
def May (w : World) (p : Prop) (e : Ending) (w' : World) : Prop := ∃ t, e = .returned (.bool t) ∧ (t = true → p) ∧ Stab.Keeps w w'
def EnvOk (a b c d : Nat) : Prop := fin a = true ∧ fin b = true ∧ fin c = true ∧ fin d = true ∧ (lt a c || eq a c) = true ∧ (lt b d || eq b d) = true
def mn (x y : Nat) : Nat := if isNaN x || lt x y then x else y
def mx (x y : Nat) : Nat := if isNaN x || gt x y then x else y

theorem sum_fin {a b c d : Nat} {w1 w2 w3 w4 w5 w6 w7 : World}
    (h : (FloatKind.f64.format.order (opV .add (opV .add (opV .add (opV .sub a a w1) (opV .sub b b w2) w3) (opV .sub c c w4) w5) (opV .sub d d w6) w7) 0 = some .eq)) : fin a = true ∧ fin b = true ∧ fin c = true ∧ fin d = true := by
  refine ⟨?_, ?_, ?_, ?_⟩ <;> refine Bool.not_eq_false _ |>.mp fun hf => ?_
  · rw [show FloatKind.f64.format = Ieee.double from rfl, order_nan_l (opV_nan_l _ _ _ _ (opV_nan_l _ _ _ _ (opV_nan_l _ _ _ _ (sub_self_nan hf _))))] at h; cases h
  · rw [show FloatKind.f64.format = Ieee.double from rfl, order_nan_l (opV_nan_l _ _ _ _ (opV_nan_l _ _ _ _ (opV_nan_r _ _ _ _ (sub_self_nan hf _))))] at h; cases h
  · rw [show FloatKind.f64.format = Ieee.double from rfl, order_nan_l (opV_nan_l _ _ _ _ (opV_nan_r _ _ _ _ (sub_self_nan hf _)))] at h; cases h
  · rw [show FloatKind.f64.format = Ieee.double from rfl, order_nan_l (opV_nan_r _ _ _ _ (sub_self_nan hf _))] at h; cases h

set_option maxHeartbeats 1000000 in
theorem kenv (a b c d: Nat) (f : Bool) (w : World) : Calls Try.prog 16 #[.agg #[.bool f, .float .f64 a, .float .f64 b, .float .f64 c, .float .f64 d]] w (May w (EnvOk a b c d)) := by
  go_enter Try.func16, Try.ntmps16
  go_wp2
  all_goals
    go_ret
    refine ⟨_, rfl, fun ht => ?_, ?_⟩
    · first
        | (cases ht; done)
        | (have hs := sum_fin (by first | assumption | exact beq_iff_eq.1 (by assumption))
           rw [Bool.and_eq_true] at ht
           exact ⟨hs.1, hs.2.1, hs.2.2.1, hs.2.2.2, ht.1, ht.2⟩)
    · repeat (first | (with_reducible exact Stab.Keeps.refl _) | (with_reducible assumption) | (with_reducible refine Stab.Keeps.alloc ?_ _) | (with_reducible refine Stab.Keeps.drew ?_) | (with_reducible refine Stab.Keeps.drewN ?_ _) | ((with_reducible refine Stab.Keeps.setCell ?_ ?_ _); focus (first | (simp; done) | (simp; omega))) | (with_reducible refine Stab.Keeps.trans ?_ (by with_reducible assumption)))
theorem isnan_ (x : Nat) (w : World) : Calls Try.prog 55 #[.float .f64 x] w fun e w' => e = .returned (.bool (isNaN x)) ∧ w = w' := by
  go_enter Try.func55, Try.ntmps55
  go_wp2
  go_ret
  refine ⟨?_, rfl⟩
  rw [isNaN_neq]; rfl
theorem min_ (x y : Nat) (w : World) : Calls Try.prog 53 #[.float .f64 x, .float .f64 y] w fun e w' => e = .returned (.float .f64 (mn x y)) ∧ w = w' := by
  go_enter Try.func53, Try.ntmps53
  go_wp2_with (first | (go_at_call 55; refine (isnan_ _ _).mono ?_; rintro e w1 ⟨rfl, rfl⟩))
  all_goals
    go_ret
    refine ⟨?_, rfl⟩
    simp_all [mn, lt]
theorem max_ (x y : Nat) (w : World) : Calls Try.prog 54 #[.float .f64 x, .float .f64 y] w fun e w' => e = .returned (.float .f64 (mx x y)) ∧ w = w' := by
  go_enter Try.func54, Try.ntmps54
  go_wp2_with (first | (go_at_call 55; refine (isnan_ _ _).mono ?_; rintro e w1 ⟨rfl, rfl⟩))
  all_goals
    go_ret
    refine ⟨?_, rfl⟩
    simp_all [mx, gt]
theorem unch (a b c d : Nat) (w : World) : Calls Try.prog 52 #[.agg #[.float .f64 a, .float .f64 b], .agg #[.float .f64 c, .float .f64 d]] w (One w (.agg #[.float .f64 a, .float .f64 b, .float .f64 c, .float .f64 d, .bool true])) := by
  go_enter Try.func52, Try.ntmps52
  go_wp2
  refine bodyPost_ret (v := .agg #[.float .f64 a, .float .f64 b, .float .f64 c, .float .f64 d, .bool true]) (by simp [results, Try.results52, go_sem]) rfl ⟨rfl, ?_⟩
  repeat (first | (with_reducible exact Stab.Keeps.refl _) | (with_reducible assumption) | (with_reducible refine Stab.Keeps.alloc ?_ _) | (with_reducible refine Stab.Keeps.drew ?_) | (with_reducible refine Stab.Keeps.drewN ?_ _) | ((with_reducible refine Stab.Keeps.setCell ?_ ?_ _); focus (first | (simp; done) | (simp; omega))) | (with_reducible refine Stab.Keeps.trans ?_ (by with_reducible assumption)))
theorem eqXY (a b c d : Nat) (w : World) :
  (binOp .eql 62 (.agg #[.float .f64 a, .float .f64 b]) (.agg #[.float .f64 c, .float .f64 d])).run Try.prog w = .ok (.bool (eq a c && eq b d)) w := by
  rw [run_eql_struct, run_equalIn_struct (d := 9999) _ _ _ _ (by kernel_rfl) (by kernel_rfl)]
  simp [go_sem, Try.underlying38]
  by_cases h1 : FloatKind.f64.format.order a c = some .eq <;> by_cases h2 : FloatKind.f64.format.order b d = some .eq <;> simp [eq, h1, h2]
theorem guardXY : Try.prog.eqGuardType Try.prog.depth 62 = false := by kernel_rfl
theorem point (a b c d : Nat) (f : Bool) (w : World) : Calls Try.prog 32 #[.agg #[.float .f64 a, .float .f64 b, .float .f64 c, .float .f64 d, .bool f]] w (One w (.bool (f && (eq a c && eq b d)))) := by
  have h1 := eqXY
  have h2 := guardXY
  cases f
  all_goals
    go_enter Try.func32, Try.ntmps32
    go_wp2
    go_ret
    refine ⟨by simp [eq], ?_⟩
    repeat (first | (with_reducible exact Stab.Keeps.refl _) | (with_reducible assumption) | (with_reducible refine Stab.Keeps.alloc ?_ _) | (with_reducible refine Stab.Keeps.drew ?_) | (with_reducible refine Stab.Keeps.drewN ?_ _) | ((with_reducible refine Stab.Keeps.setCell ?_ ?_ _); focus (first | (simp; done) | (simp; omega))) | (with_reducible refine Stab.Keeps.trans ?_ (by with_reducible assumption)))
theorem line_ (a b c d : Nat) (f : Bool) (w : World) : Calls Try.prog 33 #[.agg #[.float .f64 a, .float .f64 b, .float .f64 c, .float .f64 d, .bool f]] w (One w (.bool (f && (eq a c != eq b d)))) := by
  cases f
  all_goals
    go_enter Try.func33, Try.ntmps33
    go_wp2
    go_ret
    refine ⟨by simp [eq, bne], ?_⟩
    repeat (first | (with_reducible exact Stab.Keeps.refl _) | (with_reducible assumption) | (with_reducible refine Stab.Keeps.alloc ?_ _) | (with_reducible refine Stab.Keeps.drew ?_) | (with_reducible refine Stab.Keeps.drewN ?_ _) | ((with_reducible refine Stab.Keeps.setCell ?_ ?_ _); focus (first | (simp; done) | (simp; omega))) | (with_reducible refine Stab.Keeps.trans ?_ (by with_reducible assumption)))
theorem rect_ (a b c d : Nat) (f : Bool) (w : World) : Calls Try.prog 34 #[.agg #[.float .f64 a, .float .f64 b, .float .f64 c, .float .f64 d, .bool f]] w (One w (.bool (f && (!eq a c && !eq b d)))) := by
  cases f
  all_goals
    go_enter Try.func34, Try.ntmps34
    go_wp2
    all_goals
      go_ret
      refine ⟨by simp_all [eq, bne], ?_⟩
      repeat (first | (with_reducible exact Stab.Keeps.refl _) | (with_reducible assumption) | (with_reducible refine Stab.Keeps.alloc ?_ _) | (with_reducible refine Stab.Keeps.drew ?_) | (with_reducible refine Stab.Keeps.drewN ?_ _) | ((with_reducible refine Stab.Keeps.setCell ?_ ?_ _); focus (first | (simp; done) | (simp; omega))) | (with_reducible refine Stab.Keeps.trans ?_ (by with_reducible assumption)))
theorem empty_ (a b c d : Nat) (f : Bool) (w : World) : Calls Try.prog 31 #[.agg #[.float .f64 a, .float .f64 b, .float .f64 c, .float .f64 d, .bool f]] w (One w (.bool !f)) := by
  go_enter Try.func31, Try.ntmps31
  go_wp2
  go_ret
  refine ⟨rfl, ?_⟩
  repeat (first | (with_reducible exact Stab.Keeps.refl _) | (with_reducible assumption) | (with_reducible refine Stab.Keeps.alloc ?_ _) | (with_reducible refine Stab.Keeps.drew ?_) | (with_reducible refine Stab.Keeps.drewN ?_ _) | ((with_reducible refine Stab.Keeps.setCell ?_ ?_ _); focus (first | (simp; done) | (simp; omega))) | (with_reducible refine Stab.Keeps.trans ?_ (by with_reducible assumption)))
set_option maxRecDepth 100000 in
set_option maxHeartbeats 1000000 in
theorem exp_ (a b c d x y : Nat) (w : World) : Calls Try.prog 49 #[.agg #[.float .f64 a, .float .f64 b, .float .f64 c, .float .f64 d, .bool true], .agg #[.float .f64 x, .float .f64 y]] w
    (One w (.agg #[.float .f64 (mn a x), .float .f64 (mn b y), .float .f64 (mx c x), .float .f64 (mx d y), .bool true])) := by
  go_enter Try.func49, Try.ntmps49
  go_wp2
  refine Stab.keep_tail 26 (fun _ _ _ => True) (fun _ => false) (fun k => k == 5 || k == 11 || k == 18 || k == 24) Stab.pre_none (by kernel_rfl) (by kernel_rfl) fun hcx => ?_
  simp only [List.take_succ_cons, List.take_zero, List.drop_succ_cons, List.drop_zero]
  repeat (first
    | (refine Stab.quiet rfl rfl rfl (fun K hK => ?_); go_big_quiet_op; refine hK _ ?_; clear hK K)
    | (refine Stab.one rfl rfl rfl ?_
       apply Exists.intro
       refine ⟨fun w1 hw1 => ?_, fun K hK => ?_⟩
       · go_simp
         first | (go_at_call 53; exact Stab.upon_same (min_ _ _ _)) | (go_at_call 54; exact Stab.upon_same (max_ _ _ _))
       go_simp
       refine hK _ ?_
       clear hK K)
    | (refine Stab.skip rfl (fun K hK => ?_); go_simp; refine hK _ ?_; clear hK K))
  refine Stab.nil fun w' hw' _ => ?_
  clear hcx
  go_wp2_with (go_at_call 52; refine (unch _ _ _ _ _).mono ?_; rintro e w2 ⟨rfl, hb2⟩; have hK2 := Stab.Keeps.trans hw' hb2; obtain ⟨hc, hf⟩ := Stab.own_cell hK2 (w.heap.size + 1 + 1) (by first | (simp; done) | (simp; omega)))
  refine bodyPost_ret (v := .agg #[.float .f64 (mn a x), .float .f64 (mn b y), .float .f64 (mx c x), .float .f64 (mx d y), .bool true]) (by simp [results, Try.results49, go_sem, hc]) rfl ⟨rfl, ?_⟩
  repeat (first | (with_reducible exact Stab.Keeps.refl _) | (with_reducible assumption) | (with_reducible refine Stab.Keeps.alloc ?_ _) | (with_reducible refine Stab.Keeps.drew ?_) | (with_reducible refine Stab.Keeps.drewN ?_ _) | ((with_reducible refine Stab.Keeps.setCell ?_ ?_ _); focus (first | (simp; done) | (simp; omega))) | (with_reducible refine Stab.Keeps.trans ?_ (by with_reducible assumption)))
theorem exp_empty (a b c d x y : Nat) (w : World) : Calls Try.prog 49 #[.agg #[.float .f64 a, .float .f64 b, .float .f64 c, .float .f64 d, .bool false], .agg #[.float .f64 x, .float .f64 y]] w
    (One w (.agg #[.float .f64 x, .float .f64 y, .float .f64 x, .float .f64 y, .bool true])) := by
  go_enter Try.func49, Try.ntmps49
  go_wp2_with (first | (go_at_call 31; go_in) | (go_at_call 52; refine (unch _ _ _ _ _).mono ?_; rintro e w2 ⟨rfl, hb2⟩; obtain ⟨hc, hf⟩ := Stab.own_cell hb2 (w.heap.size + 1 + 1) (by first | (simp; done) | (simp; omega))))
  refine bodyPost_ret (v := .agg #[.float .f64 x, .float .f64 y, .float .f64 x, .float .f64 y, .bool true]) (by simp [results, Try.results49, go_sem, hc]) rfl ⟨rfl, ?_⟩
  repeat (first | (with_reducible exact Stab.Keeps.refl _) | (with_reducible assumption) | (with_reducible refine Stab.Keeps.alloc ?_ _) | (with_reducible refine Stab.Keeps.drew ?_) | (with_reducible refine Stab.Keeps.drewN ?_ _) | ((with_reducible refine Stab.Keeps.setCell ?_ ?_ _); focus (first | (simp; done) | (simp; omega))) | (with_reducible refine Stab.Keeps.trans ?_ (by with_reducible assumption)))
/-- five cells that hold an envelope, free to be written -/
def EnvAt (w : World) (p a b c d : Nat) (f : Bool) : Prop := w.cell? ⟨p, 0, none⟩ = some (.float .f64 a) ∧ w.cell? ⟨p, 1, none⟩ = some (.float .f64 b) ∧ w.cell? ⟨p, 2, none⟩ = some (.float .f64 c) ∧ w.cell? ⟨p, 3, none⟩ = some (.float .f64 d) ∧
  w.cell? ⟨p, 4, none⟩ = some (.bool f) ∧ ∀ o, w.frozen? ⟨p, o, none⟩ = false
theorem EnvAt.keep {w w' : World} {p a b c d : Nat} {f : Bool} (h : EnvAt w p a b c d f) (hk : Stab.Keeps w w') (hp : p < w.heap.size) : EnvAt w' p a b c d f := by
  obtain ⟨h1, h2⟩ := Stab.own_cell hk p hp
  obtain ⟨e0, e1, e2, e3, e4, e5⟩ := h
  exact ⟨by rw [h1]; exact e0, by rw [h1]; exact e1, by rw [h1]; exact e2, by rw [h1]; exact e3, by rw [h1]; exact e4, fun o => by rw [h2]; exact e5 o⟩
theorem EnvAt.lt {w : World} {p a b c d : Nat} {f : Bool} (h : EnvAt w p a b c d f) : p < w.heap.size := Stab.cell_lt h.1
theorem EnvAt.set {w : World} {p a b c d : Nat} {f : Bool} (h : EnvAt w p a b c d f) (a' b' c' d' : Nat) (f' : Bool) :
    EnvAt (((((w.setCell ⟨p, 0, none⟩ (.float .f64 a')).setCell ⟨p, 1, none⟩ (.float .f64 b')).setCell ⟨p, 2, none⟩ (.float .f64 c')).setCell ⟨p, 3, none⟩ (.float .f64 d')).setCell ⟨p, 4, none⟩ (.bool f')) p a' b' c' d' f' := by
  obtain ⟨e0, e1, e2, e3, e4, e5⟩ := h
  refine ⟨?_, ?_, ?_, ?_, ?_, fun o => ?_⟩ <;> (go_simp; try (simp [e5]))
theorem EnvAt.past {w : World} {p a b c d : Nat} {f : Bool} (h : EnvAt w p a b c d f) {q : Nat} (hq : q ≠ p) (i : Nat) (v : Value) : EnvAt (w.setCell ⟨q, i, none⟩ v) p a b c d f := by
  obtain ⟨e0, e1, e2, e3, e4, e5⟩ := h
  have hne : ∀ j, (⟨q, i, none⟩ : Addr) ≠ ⟨p, j, none⟩ := fun j he => hq (by injection he)
  refine ⟨?_, ?_, ?_, ?_, ?_, fun o => by simp [e5]⟩ <;> rw [World.cell?_setCell_other _ _ _ _ (hne _)] <;> assumption
set_option maxRecDepth 100000 in
set_option maxHeartbeats 1000000 in
theorem newEnv (n a b c d : Nat) (w : World) (hn : n < w.heap.size) (h0 : w.cell? ⟨n, 0, none⟩ = some (.float .f64 a)) (h1 : w.cell? ⟨n, 1, none⟩ = some (.float .f64 b)) (h2 : w.cell? ⟨n, 2, none⟩ = some (.float .f64 c)) (h3 : w.cell? ⟨n, 3, none⟩ = some (.float .f64 d)) :
    Calls Try.prog 45 #[.slice (some ⟨n, 0, none⟩) 2 2] w
    (One w (.agg #[.float .f64 (mn a c), .float .f64 (mn b d), .float .f64 (mx a c), .float .f64 (mx b d), .bool true])) := by
  have hx0 : n ≠ w.heap.size := by omega
  have hx1 : n ≠ w.heap.size + 1 := by omega
  go_enter Try.func45, Try.ntmps45
  go_wp2
  go_loopw [8] (fun i wr => Stab.Keeps w wr ∧ EnvAt wr w.heap.size 0 0 0 0 false ∧ ((i = .int .i64 0 ∧ EnvAt wr (w.heap.size + 1) 0 0 0 0 false) ∨ (i = .int .i64 1 ∧ EnvAt wr (w.heap.size + 1) a b a b true) ∨ (i = .int .i64 2 ∧ EnvAt wr (w.heap.size + 1) (mn a c) (mn b d) (mx a c) (mx b d) true))) (fun i _ => 2 - (intOf i).toNat)
  case atStart => 
    refine ⟨by repeat (first | (with_reducible exact Stab.Keeps.refl _) | (with_reducible assumption) | (with_reducible refine Stab.Keeps.alloc ?_ _) | (with_reducible refine Stab.Keeps.drew ?_) | (with_reducible refine Stab.Keeps.drewN ?_ _) | ((with_reducible refine Stab.Keeps.setCell ?_ ?_ _); focus (first | (simp; done) | (simp; omega))) | (with_reducible refine Stab.Keeps.trans ?_ (by with_reducible assumption))), ?_, .inl ⟨rfl, ?_⟩⟩
    · refine ⟨?_, ?_, ?_, ?_, ?_, fun o => ?_⟩ <;> go_simp
    · refine ⟨?_, ?_, ?_, ?_, ?_, fun o => ?_⟩ <;> simp
  case round =>
    obtain ⟨hK, hR, ⟨rfl, hE⟩ | ⟨rfl, hE⟩ | ⟨rfl, hE⟩⟩ := hrel
    · have hlt := hE.lt
      have hE' := hE
      obtain ⟨e0, e1, e2, e3, e4, e5⟩ := hE
      obtain ⟨hcN, _⟩ := Stab.own_cell hK n (by omega)
      have m0 : wr.cell? ⟨n, 0, none⟩ = some (.float .f64 a) := by rw [hcN]; exact h0
      have m1 : wr.cell? ⟨n, 1, none⟩ = some (.float .f64 b) := by rw [hcN]; exact h1
      clear hcN h0 h1 h2 h3
      go_wp2_with fail
      refine (exp_empty _ _ _ _ _ _ _).mono ?_
      rintro e w3 ⟨rfl, hb3⟩
      have hK3 : Stab.Keeps wr w3 := Stab.Keeps.trans (Stab.Keeps.alloc (Stab.Keeps.refl _) _) hb3
      have hE3 := hE'.keep hK3 hlt
      have hR4 := hR.keep hK3 (by omega)
      have hE4 := hE3.set a b a b true
      obtain ⟨f0, f1, f2, f3, f4, f5⟩ := hE3
      clear hb3 hR hE' e0 e1 e2 e3 e4 e5 m0 m1
      go_wp2_with fail
      go_roundw
      case rel =>
        refine ⟨?_, ((((hR4.past (by omega) _ _).past (by omega) _ _).past (by omega) _ _).past (by omega) _ _).past (by omega) _ _, .inr (.inl ⟨rfl, hE4⟩)⟩
        clear hE4 hR4
        repeat (first | (with_reducible exact Stab.Keeps.refl _) | (with_reducible assumption) | (with_reducible refine Stab.Keeps.alloc ?_ _) | (with_reducible refine Stab.Keeps.drew ?_) | (with_reducible refine Stab.Keeps.drewN ?_ _) | ((with_reducible refine Stab.Keeps.setCell ?_ ?_ _); focus (first | (simp; done) | (simp; omega))) | (with_reducible refine Stab.Keeps.trans ?_ (by with_reducible assumption)))
      case measure => simp [intOf]
    · have hlt := hE.lt
      have hE' := hE
      obtain ⟨e0, e1, e2, e3, e4, e5⟩ := hE
      obtain ⟨hcN, _⟩ := Stab.own_cell hK n (by omega)
      have m0 : wr.cell? ⟨n, 2, none⟩ = some (.float .f64 c) := by rw [hcN]; exact h2
      have m1 : wr.cell? ⟨n, 3, none⟩ = some (.float .f64 d) := by rw [hcN]; exact h3
      clear hcN h0 h1 h2 h3
      go_wp2_with fail
      refine (exp_ _ _ _ _ _ _ _).mono ?_
      rintro e w3 ⟨rfl, hb3⟩
      have hK3 : Stab.Keeps wr w3 := Stab.Keeps.trans (Stab.Keeps.alloc (Stab.Keeps.refl _) _) hb3
      have hE3 := hE'.keep hK3 hlt
      have hR4 := hR.keep hK3 (by omega)
      have hE4 := hE3.set (mn a c) (mn b d) (mx a c) (mx b d) true
      obtain ⟨f0, f1, f2, f3, f4, f5⟩ := hE3
      clear hb3 hR hE' e0 e1 e2 e3 e4 e5 m0 m1
      go_wp2_with fail
      go_roundw
      case rel =>
        refine ⟨?_, ((((hR4.past (by omega) _ _).past (by omega) _ _).past (by omega) _ _).past (by omega) _ _).past (by omega) _ _, .inr (.inr ⟨rfl, hE4⟩)⟩
        clear hE4 hR4
        repeat (first | (with_reducible exact Stab.Keeps.refl _) | (with_reducible assumption) | (with_reducible refine Stab.Keeps.alloc ?_ _) | (with_reducible refine Stab.Keeps.drew ?_) | (with_reducible refine Stab.Keeps.drewN ?_ _) | ((with_reducible refine Stab.Keeps.setCell ?_ ?_ _); focus (first | (simp; done) | (simp; omega))) | (with_reducible refine Stab.Keeps.trans ?_ (by with_reducible assumption)))
      case measure => simp [intOf]
    · obtain ⟨e0, e1, e2, e3, e4, e5⟩ := hE
      have hR5 := hR.set (mn a c) (mn b d) (mx a c) (mx b d) true
      obtain ⟨r0, r1, r2, r3, r4, r5⟩ := hR
      obtain ⟨g0, g1, g2, g3, g4, g5⟩ := hR5
      clear h0 h1 h2 h3
      go_wp2_with fail
      refine bodyPost_ret (v := .agg #[.float .f64 (mn a c), .float .f64 (mn b d), .float .f64 (mx a c), .float .f64 (mx b d), .bool true]) (by simp [results, Try.results45, go_sem, g0, g1, g2, g3, g4]) rfl ⟨rfl, ?_⟩
      clear g0 g1 g2 g3 g4 g5
      repeat (first | (with_reducible exact Stab.Keeps.refl _) | (with_reducible assumption) | (with_reducible refine Stab.Keeps.alloc ?_ _) | (with_reducible refine Stab.Keeps.drew ?_) | (with_reducible refine Stab.Keeps.drewN ?_ _) | ((with_reducible refine Stab.Keeps.setCell ?_ ?_ _); focus (first | (simp; done) | (simp; omega))) | (with_reducible refine Stab.Keeps.trans ?_ (by with_reducible assumption)))
def envV (f : Bool) (a b c d : Nat) : Value := if f then .agg #[.float .f64 (mn a c), .float .f64 (mn b d), .float .f64 (mx a c), .float .f64 (mx b d), .bool true] else .agg #[.float .f64 0, .float .f64 0, .float .f64 0, .float .f64 0, .bool false]
set_option maxRecDepth 100000 in
set_option maxHeartbeats 1000000 in
theorem envelope_ (f : Bool) (a b c d : Nat) (w : World) : Calls Try.prog 30 #[.agg #[.bool f, .float .f64 a, .float .f64 b, .float .f64 c, .float .f64 d]] w (One w (envV f a b c d)) := by
  cases f
  · go_enter Try.func30, Try.ntmps30
    go_wp2
    refine bodyPost_ret (v := .agg #[.float .f64 0, .float .f64 0, .float .f64 0, .float .f64 0, .bool false]) (by simp [results, Try.results30, go_sem]) rfl ⟨rfl, ?_⟩
    repeat (first | (with_reducible exact Stab.Keeps.refl _) | (with_reducible assumption) | (with_reducible refine Stab.Keeps.alloc ?_ _) | (with_reducible refine Stab.Keeps.drew ?_) | (with_reducible refine Stab.Keeps.drewN ?_ _) | ((with_reducible refine Stab.Keeps.setCell ?_ ?_ _); focus (first | (simp; done) | (simp; omega))) | (with_reducible refine Stab.Keeps.trans ?_ (by with_reducible assumption)))
  · go_enter Try.func30, Try.ntmps30
    go_wp2_with fail
    refine (newEnv _ a b c d _ (by simp) (by go_simp) (by go_simp) (by go_simp) (by go_simp)).mono ?_
    rintro e w2 ⟨rfl, hb2⟩
    have hr : EnvAt w2 (w.heap.size + 1) 0 0 0 0 false := by
      refine EnvAt.keep ?_ hb2 (by first | (simp; done) | (simp; omega))
      refine ⟨?_, ?_, ?_, ?_, ?_, fun o => ?_⟩ <;> go_simp
    have hR5 := hr.set (mn a c) (mn b d) (mx a c) (mx b d) true
    obtain ⟨r0, r1, r2, r3, r4, r5⟩ := hr
    obtain ⟨g0, g1, g2, g3, g4, g5⟩ := hR5
    go_wp2_with fail
    refine bodyPost_ret (v := .agg #[.float .f64 (mn a c), .float .f64 (mn b d), .float .f64 (mx a c), .float .f64 (mx b d), .bool true]) (by simp [results, Try.results30, go_sem, g0, g1, g2, g3, g4]) rfl ⟨rfl, ?_⟩
    clear g0 g1 g2 g3 g4 g5
    repeat (first | (with_reducible exact Stab.Keeps.refl _) | (with_reducible assumption) | (with_reducible refine Stab.Keeps.alloc ?_ _) | (with_reducible refine Stab.Keeps.drew ?_) | (with_reducible refine Stab.Keeps.drewN ?_ _) | ((with_reducible refine Stab.Keeps.setCell ?_ ?_ _); focus (first | (simp; done) | (simp; omega))) | (with_reducible refine Stab.Keeps.trans ?_ (by with_reducible assumption)))
theorem envIs_ (f : Bool) (a b c d : Nat) (w : World) : Calls Try.prog 17 #[.agg #[.bool f, .float .f64 a, .float .f64 b, .float .f64 c, .float .f64 d]] w
    (One w (.tuple #[.bool !f, .bool (f && (eq (mn a c) (mx a c) && eq (mn b d) (mx b d))), .bool (f && (eq (mn a c) (mx a c) != eq (mn b d) (mx b d))), .bool (f && (!eq (mn a c) (mx a c) && !eq (mn b d) (mx b d)))])) := by
  obtain ⟨x0, x1, x2, x3, hv, h0, h1, h2⟩ : ∃ x0 x1 x2 x3, envV f a b c d = .agg #[.float .f64 x0, .float .f64 x1, .float .f64 x2, .float .f64 x3, .bool f] ∧ (f && (eq x0 x2 && eq x1 x3)) = (f && (eq (mn a c) (mx a c) && eq (mn b d) (mx b d))) ∧
      (f && (eq x0 x2 != eq x1 x3)) = (f && (eq (mn a c) (mx a c) != eq (mn b d) (mx b d))) ∧ (f && (!eq x0 x2 && !eq x1 x3)) = (f && (!eq (mn a c) (mx a c) && !eq (mn b d) (mx b d))) := by
    cases f
    · exact ⟨0, 0, 0, 0, rfl, rfl, rfl, rfl⟩
    · exact ⟨_, _, _, _, rfl, rfl, rfl, rfl⟩
  have hE := fun w' => envelope_ f a b c d w'
  rw [hv] at hE
  rw [← h0, ← h1, ← h2]
  clear h0 h1 h2 hv
  go_enter Try.func17, Try.ntmps17
  go_wp2_with fail
  refine (hE _).mono ?_
  clear hE
  rintro e w2 ⟨rfl, hb2⟩
  go_wp2_with fail
  refine Stab.keep_region (fun _ _ _ => True) (fun _ => false) (fun k => k == 1 || k == 3 || k == 5 || k == 7) Stab.pre_none (by kernel_rfl) (by kernel_rfl) fun hcx => ?_
  repeat (first
    | (refine Stab.quiet rfl rfl rfl (fun K hK => ?_); go_big_quiet_op; refine hK _ ?_; clear hK K)
    | (refine Stab.one rfl rfl rfl ?_
       apply Exists.intro
       refine ⟨fun w1 hw1 => ?_, fun K hK => ?_⟩
       · go_simp
         first | (go_at_call 31; exact empty_ _ _ _ _ _ _) | (go_at_call 32; exact point _ _ _ _ _ _) | (go_at_call 33; exact line_ _ _ _ _ _ _) | (go_at_call 34; exact rect_ _ _ _ _ _ _)
       go_simp
       refine hK _ ?_
       clear hK K)
    | (refine Stab.skip rfl (fun K hK => ?_); go_simp; refine hK _ ?_; clear hK K))
  refine Stab.nil fun w' hw' _ => ?_
  clear hcx
  go_wp2_with fail
  refine bodyPost_ret (by simp [results, Try.results17, go_sem]) rfl ⟨rfl, ?_⟩
  repeat (first | (with_reducible exact Stab.Keeps.refl _) | (with_reducible assumption) | (with_reducible refine Stab.Keeps.alloc ?_ _) | (with_reducible refine Stab.Keeps.drew ?_) | (with_reducible refine Stab.Keeps.drewN ?_ _) | ((with_reducible refine Stab.Keeps.setCell ?_ ?_ _); focus (first | (simp; done) | (simp; omega))) | (with_reducible refine Stab.Keeps.trans ?_ (by with_reducible assumption)))
end Go.Proofs.Ytkpbapemeiigbaa
