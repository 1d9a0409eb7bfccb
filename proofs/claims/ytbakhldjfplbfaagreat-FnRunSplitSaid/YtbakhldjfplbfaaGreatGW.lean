/-
  FnRunSplit: rows of places as line strings. No condition.
  FnRunSplit: lengths between places. No condition.
  FnRunSplit: running lengths. No condition.
  FnRunSplit: the interpolator's door, a line string's length. No condition.
  FnRunSplit: the interpolator's door. No condition.
  FnRunSplit: a line string's length, asked of the geometry. No condition.
  FnRunSplit: impl.RunLengths. No condition.
  FnRunSplit: the running lengths as doubles: they are there, do not fall, and come near the length. No condition.
  FnRunSplit: math.Abs; the walk of the law. No condition.
  FnRunSplit: the walk of the law. No condition.
  FnRunSplit: the arguments opened, the walk in the row's form. No condition.
-/
import Derived.Test.YtbakhldjfplbfaaGreatV11
import Derived.Laws.Externs
import Derived.WalkKit
import Derived.WalkSpells
import Derived.WalkLawsBesides
import Derived.Lib.Hide
import Derived.BigQuiet
import Derived.Defers
import Derived.Recover
import Derived.Test.YtbakhldjfplbfaaGreatFr5
import Derived.Laws.BitsAllLaws
import Derived.Test.YtbakhldjfplbfaaGreatOpSz0
import Derived.Test.YtbakhldjfplbfaaGreatRows
set_option linter.unusedVariables false
set_option linter.unusedSimpArgs false
namespace Go.Proofs.YtbakhldjfplbfaaGreat
open Go.RowKit Go.Fl Go.Sl Go.Pg Go.Ch Go.Kf
/-- a row of places as a shape -/
def rowST (a : Option Addr) (n cap : Nat) (pts : List (Int × Int)) : ST := .node ⟨2, a, n, cap, none, 0, 0⟩ pts []
theorem row_at {w : World} {a : Option Addr} {n cap : Nat} {pts : List (Int × Int)} (hn : pts.length = n) (h : Sz w a n cap 2 (pts.flatMap ptCells)) : (rowST a n cap pts).At w :=
  .mk _ _ _ hn rfl h (Sz.nil _ _) (by simp)
theorem row_ok {a : Option Addr} {n cap : Nat} {pts : List (Int × Int)} (h : (rowST a n cap pts).Formed) : ∀ p ∈ pts, PtOk p := by
  cases h with
  | leaf _ _ _ hp => exact hp
  | many _ _ hk => simp at hk
theorem row_geomP (a : Option Addr) (n cap : Nat) (pts : List (Int × Int)) : geomP (rowST a n cap pts) = .node 2 0 (pts.map ptP) [] := by unfold rowST; rw [geomP_eq]; rfl
set_option maxRecDepth 100000 in
theorem lined_ (a : Option Addr) (n cap : Nat) (pts : List (Int × Int)) (w : World) (hn : pts.length = n) (h : Sz w a n cap 2 (pts.flatMap ptCells)) : Calls Tryz.prog 30 #[.slice a n cap, .int .i64 1048576] w (Tells w (n ≤ 200 ∧ ∀ p ∈ pts, PtOk p)) := by
  have hF := fun w' (hk : Stab.Keeps w w') => formed_ (rowST a n cap pts) w' ((row_at hn h).keep hk)
  have hR := @row_ok a n cap pts
  generalize (rowST a n cap pts).Formed = FM at *
  simp only [rowST, ST.hd, Sm.val] at hF
  have hle := h.le
  have hmx := h.max
  unfold maxLen at hmx
  by_cases h2 : n ≤ 200
  · have hd : decide ((n : Int) ≤ 200) = true := by simp; omega
    clear h hn
    go_enter Tryz.func30, Tryz.ntmps30
    go_wp2_with fail
    refine (hF _ (by with_reducible (repeat (first | exact Kx.r _ | assumption | refine Kx.a ?_ _ | refine Kx.d ?_ | refine Kx.e ?_ _ | (refine Kx.s ?_ ?_ _; focus (first | (simp; done) | (simp; omega))) | refine Kx.t ?_ (by assumption))))).mono ?_
    rintro e w3 ⟨⟨v, rfl, hv⟩, hk3⟩
    have HV := Lib.hid hv
    have HR := Lib.hid hR
    clear hF hv hR
    go_wp2_with fail
    go_ret
    exact ⟨⟨v, rfl, fun h => ⟨h2, HR.out (HV.out h)⟩⟩, by with_reducible (repeat (first | exact Kx.r _ | assumption | refine Kx.a ?_ _ | refine Kx.d ?_ | refine Kx.e ?_ _ | (refine Kx.s ?_ ?_ _; focus (first | (simp; done) | (simp; omega))) | refine Kx.t ?_ (by assumption)))⟩
  · have hd : decide ((n : Int) ≤ 200) = false := by simp; omega
    clear h hn hF hR
    go_enter Tryz.func30, Tryz.ntmps30
    go_wp2_with fail
    go_ret
    exact ⟨⟨false, rfl, fun h => by simp at h⟩, by with_reducible (repeat (first | exact Kx.r _ | assumption | refine Kx.a ?_ _ | refine Kx.d ?_ | refine Kx.e ?_ _ | (refine Kx.s ?_ ?_ _; focus (first | (simp; done) | (simp; omega))) | refine Kx.t ?_ (by assumption)))⟩
set_option maxRecDepth 100000 in
theorem lineOf_ (a : Option Addr) (n cap : Nat) (pts : List (Int × Int)) (w : World) (hn : pts.length = n) (h : Sz w a n cap 2 (pts.flatMap ptCells)) (h2 : n ≤ 200) (hp : ∀ p ∈ pts, PtOk p) : Calls Tryz.prog 32 #[.slice a n cap] w (RetR w no GmR (.node 2 0 (pts.map ptP) [])) := by
  have hF := fun w' (hk : Stab.Keeps w w') => figure_ (rowST a n cap pts) w' ((row_at hn h).keep hk) (by simp [rowST, ST.total, ST.totals]; omega) (.leaf _ _ (.inr rfl) hp)
  rw [row_geomP] at hF
  generalize Pg.node 2 0 (pts.map ptP) [] = P at *
  simp only [rowST, ST.hd, Sm.val] at hF
  clear h hn hp
  go_enter Tryz.func32, Tryz.ntmps32
  go_wp2_with fail
  refine (hF _ (by with_reducible (repeat (first | exact Kx.r _ | assumption | refine Kx.a ?_ _ | refine Kx.d ?_ | refine Kx.e ?_ _ | (refine Kx.s ?_ ?_ _; focus (first | (simp; done) | (simp; omega))) | refine Kx.t ?_ (by assumption))))).mono ?_
  clear hF
  rintro e w3 ⟨cs, rfl, hk3, hx⟩
  obtain ⟨zk, zd, zna, znn, znc, zka, zkn, zkc, rfl⟩ := hx.four
  have hB := (show Blk _ w.heap.size 25 [.int .i64 0, .int .i64 0, .slice none 0 0, .slice none 0 0] from by with_reducible (repeat (first | assumption | ((refine Bx.n ⟨?_, ?_⟩) <;> focus (first | rfl | (simp; done) | omega)) | refine Bx.a ?_ _ | refine Bx.d ?_ | refine Bx.e ?_ _ | (refine Bx.p ?_ ?_; focus (first | (simp; done) | (simp; omega) | omega))))).keep hk3
  have hkw : Stab.Keeps w w3 := by with_reducible (repeat (first | exact Kx.r _ | assumption | refine Kx.a ?_ _ | refine Kx.d ?_ | refine Kx.e ?_ _ | (refine Kx.s ?_ ?_ _; focus (first | (simp; done) | (simp; omega))) | refine Kx.t ?_ (by assumption)))
  clear hk3
  have g0 := hB.cell (i := 0) rfl
  have g1 := hB.cell (i := 1) rfl
  have g2 := hB.cell (i := 2) rfl
  have g3 := hB.cell (i := 3) rfl
  have gf := hB.free
  have gl := hB.lt
  have hkz : Stab.Keeps w ((((w3.setCell ⟨w.heap.size, 0, none⟩ (.int .i64 zk)).setCell ⟨w.heap.size, 1, none⟩ (.int .i64 zd)).setCell ⟨w.heap.size, 2, none⟩ (.slice zna znn znc)).setCell ⟨w.heap.size, 3, none⟩ (.slice zka zkn zkc)) := by with_reducible (repeat (first | exact Kx.r _ | assumption | refine Kx.a ?_ _ | refine Kx.d ?_ | refine Kx.e ?_ _ | (refine Kx.s ?_ ?_ _; focus (first | (simp; done) | (simp; omega))) | refine Kx.t ?_ (by assumption)))
  have hxz := gmS.kf (w' := (((w3.setCell ⟨w.heap.size, 0, none⟩ (.int .i64 zk)).setCell ⟨w.heap.size, 1, none⟩ (.int .i64 zd)).setCell ⟨w.heap.size, 2, none⟩ (.slice zna znn znc)).setCell ⟨w.heap.size, 3, none⟩ (.slice zka zkn zkc)) hx (((((KF.refl _ _).set (fun h => by simp [orNew, no] at h; omega)).set (fun h => by simp [orNew, no] at h; omega)).set (fun h => by simp [orNew, no] at h; omega)).set (fun h => by simp [orNew, no] at h; omega))
  clear hx hB
  go_wp2_with fail
  refine bodyPost_ret (v := .agg #[.int .i64 zk, .int .i64 zd, .slice zna znn znc, .slice zka zkn zkc]) (by simp [results, Tryz.results32, go_sem, *]) rfl ⟨[.int .i64 zk, .int .i64 zd, .slice zna znn znc, .slice zka zkn zkc], rfl, hkz, ?_⟩
  exact gmS.mono hxz (fun b _ hb => by simp [orNew, no] at hb; exact .inr (by omega))
end Go.Proofs.YtbakhldjfplbfaaGreat
set_option linter.unusedVariables false
set_option linter.unusedSimpArgs false
namespace Go.Proofs.YtbakhldjfplbfaaGreat
open Go.RowKit Go.Fl Go.Sl Go.Pg Go.Ch Go.Kf
theorem extSqrt (x r : Nat) (h : Ieee.double.sqrt x = some r) (w : World) : (callFunc 218 #[.float .f64 x]).run Tryz.prog w = .ok (.value (.float .f64 r)) w := by
  rw [run_callFunc_extern (e := Extern.MathSqrt.sqrt) Tryz.func218 (by kernel_rfl) (by kernel_rfl) (by kernel_rfl) (by kernel_rfl)]
  change ((match FloatKind.f64.format.sqrt x with | some r => pure (.float .f64 r) | none => do pure (.float .f64 (← choose (.nanBits .f64 x x))) : Sem Value).run Tryz.prog w).andThen _ = _
  rw [show FloatKind.f64.format = Ieee.double from rfl, h]
  rfl
theorem msqrt_ (x r : Nat) (h : Ieee.double.sqrt x = some r) (w : World) : Calls Tryz.prog 205 #[.float .f64 x] w fun e w' => e = .returned (.float .f64 r) ∧ w = w' := by
  have hs := extSqrt x r h
  go_enter Tryz.func205, Tryz.ntmps205
  go_wp2
  go_ret
  exact ⟨rfl, rfl⟩
set_option maxHeartbeats 1000000 in
theorem dot_ (x y a b p q s : Nat) (h1 : floatBits .mul .f64 x a = some p) (h2 : floatBits .mul .f64 y b = some q) (h3 : floatBits .add .f64 p q = some s) (w : World) :
    Calls Tryz.prog 219 #[.agg #[.float .f64 x, .float .f64 y], .agg #[.float .f64 a, .float .f64 b]] w (One w (.float .f64 s)) := by
  have v1 := fun w => opV_some h1 w
  have v2 := fun w => opV_some h2 w
  have v3 := fun w => opV_some h3 w
  have n1 := opN_some h1
  have n2 := opN_some h2
  have n3 := opN_some h3
  have hz := World.drewN_zero
  go_enter Tryz.func219, Tryz.ntmps219
  go_wp2
  go_ret
  refine ⟨rfl, ?_⟩
  with_reducible (repeat (first | exact Kx.r _ | assumption | refine Kx.a ?_ _ | refine Kx.d ?_ | refine Kx.e ?_ _ | (refine Kx.s ?_ ?_ _; focus (first | (simp; done) | (simp; omega))) | refine Kx.t ?_ (by assumption)))
structure Vec (x y p q s l : Nat) : Prop where
  h1 : floatBits .mul .f64 x x = some p
  h2 : floatBits .mul .f64 y y = some q
  h3 : floatBits .add .f64 p q = some s
  h4 : Ieee.double.sqrt s = some l
theorem lengthSq_ {x y p q s l : Nat} (h : Vec x y p q s l) (w : World) : Calls Tryz.prog 207 #[.agg #[.float .f64 x, .float .f64 y]] w (One w (.float .f64 s)) := by
  go_enter Tryz.func207, Tryz.ntmps207
  go_wp2_with fail
  refine (dot_ _ _ _ _ _ _ _ h.h1 h.h2 h.h3 _).mono ?_
  rintro e w2 ⟨rfl, hb2⟩
  go_wp2_with fail
  go_ret
  refine ⟨rfl, ?_⟩
  with_reducible (repeat (first | exact Kx.r _ | assumption | refine Kx.a ?_ _ | refine Kx.d ?_ | refine Kx.e ?_ _ | (refine Kx.s ?_ ?_ _; focus (first | (simp; done) | (simp; omega))) | refine Kx.t ?_ (by assumption)))
theorem vecLen_ {x y p q s l : Nat} (h : Vec x y p q s l) (w : World) : Calls Tryz.prog 195 #[.agg #[.float .f64 x, .float .f64 y]] w (One w (.float .f64 l)) := by
  go_enter Tryz.func195, Tryz.ntmps195
  go_wp2_with fail
  refine (lengthSq_ h _).mono ?_
  rintro e w2 ⟨rfl, hb2⟩
  go_wp2_with fail
  refine (msqrt_ _ _ h.h4 _).mono ?_
  rintro e w3 ⟨rfl, rfl⟩
  go_wp2_with fail
  go_ret
  refine ⟨rfl, ?_⟩
  with_reducible (repeat (first | exact Kx.r _ | assumption | refine Kx.a ?_ _ | refine Kx.d ?_ | refine Kx.e ?_ _ | (refine Kx.s ?_ ?_ _; focus (first | (simp; done) | (simp; omega))) | refine Kx.t ?_ (by assumption)))

/-- from (x, y) to (a, b): the differences u, v, the length l -/
structure Dst (x y a b u v p q s l : Nat) : Prop where
  d1 : floatBits .sub .f64 a x = some u
  d2 : floatBits .sub .f64 b y = some v
  vec : Vec u v p q s l
theorem sub_ {x y a b u v : Nat} (h1 : floatBits .sub .f64 x a = some u) (h2 : floatBits .sub .f64 y b = some v) (w : World) : Calls Tryz.prog 194 #[.agg #[.float .f64 x, .float .f64 y], .agg #[.float .f64 a, .float .f64 b]] w (One w (.agg #[.float .f64 u, .float .f64 v])) := by
  have v1 := fun w => opV_some h1 w
  have v2 := fun w => opV_some h2 w
  have n1 := opN_some h1
  have n2 := opN_some h2
  have hz := World.drewN_zero
  go_enter Tryz.func194, Tryz.ntmps194
  go_wp2
  refine bodyPost_ret (v := .agg #[.float .f64 u, .float .f64 v]) (by simp [results, Tryz.results194, go_sem, *]) rfl ⟨rfl, ?_⟩
  with_reducible (repeat (first | exact Kx.r _ | assumption | refine Kx.a ?_ _ | refine Kx.d ?_ | refine Kx.e ?_ _ | (refine Kx.s ?_ ?_ _; focus (first | (simp; done) | (simp; omega))) | refine Kx.t ?_ (by assumption)))
theorem distSq_ {x y a b u v p q s l : Nat} (h : Dst x y a b u v p q s l) (w : World) : Calls Tryz.prog 206 #[.agg #[.float .f64 x, .float .f64 y], .agg #[.float .f64 a, .float .f64 b]] w (One w (.float .f64 s)) := by
  go_enter Tryz.func206, Tryz.ntmps206
  go_wp2_with fail
  refine (sub_ h.d1 h.d2 _).mono ?_
  rintro e w2 ⟨rfl, hb2⟩
  go_wp2_with fail
  refine (dot_ _ _ _ _ _ _ _ h.vec.h1 h.vec.h2 h.vec.h3 _).mono ?_
  rintro e w3 ⟨rfl, hb3⟩
  go_wp2_with fail
  go_ret
  refine ⟨rfl, ?_⟩
  with_reducible (repeat (first | exact Kx.r _ | assumption | refine Kx.a ?_ _ | refine Kx.d ?_ | refine Kx.e ?_ _ | (refine Kx.s ?_ ?_ _; focus (first | (simp; done) | (simp; omega))) | refine Kx.t ?_ (by assumption)))
theorem distTo_ {x y a b u v p q s l : Nat} (h : Dst x y a b u v p q s l) (w : World) : Calls Tryz.prog 186 #[.agg #[.float .f64 x, .float .f64 y], .agg #[.float .f64 a, .float .f64 b]] w (One w (.float .f64 l)) := by
  go_enter Tryz.func186, Tryz.ntmps186
  go_wp2_with fail
  refine (distSq_ h _).mono ?_
  rintro e w2 ⟨rfl, hb2⟩
  go_wp2_with fail
  refine (msqrt_ _ _ h.vec.h4 _).mono ?_
  rintro e w3 ⟨rfl, rfl⟩
  go_wp2_with fail
  go_ret
  refine ⟨rfl, ?_⟩
  with_reducible (repeat (first | exact Kx.r _ | assumption | refine Kx.a ?_ _ | refine Kx.d ?_ | refine Kx.e ?_ _ | (refine Kx.s ?_ ?_ _; focus (first | (simp; done) | (simp; omega))) | refine Kx.t ?_ (by assumption)))
end Go.Proofs.YtbakhldjfplbfaaGreat
set_option linter.unusedVariables false
set_option linter.unusedSimpArgs false
namespace Go.Kf
open Go.RowKit Go.Sl Go.Ch
variable {α : Type} {R : World → (Nat → Prop) → List Value → α → Prop} {w wr w4 : World} {F : Nat → Prop} {fb n k kc : Nat} {css : List (List Value)} {ys : List α}
theorem Fill.put1a (S : Stable R) (h : Fill w wr F R fb n k 1 css ys) {u : Value} (hk : k < n) (hk2 : k < ys.length) (hx : R wr F [u] ys[k]) :
    Fill w (wr.setCell ⟨fb, k * 1, none⟩ u) F R fb n (k + 1) 1 (css ++ [[u]]) ys := by
  have hl : css.flatten.length = k * 1 := by rw [flatten_len css h.each, h.lc]
  have hge := h.ge
  have hf := h.filled
  rw [← hl] at hf
  have hf1 := Go.Kf.Filled.ext hf [u]
  rw [hl] at hf1
  have g0 : (css.flatten ++ [u])[k * 1]? = some u := by rw [List.getElem?_append_right (by omega), hl]; simp
  have hf2 := hf1.set h.room (by omega) g0
  have hK : ∀ {c x}, R wr F c x → R (wr.setCell ⟨fb, k * 1, none⟩ u) F c x := fun hr => S.kf hr ((KF.refl _ _).set h.nin)
  refine ⟨h.keeps.setCell hge u, h.room.set _ _ _, ?_, by simp [h.lc], fun c hc => ?_, fun i h1 h2 => ?_, by simp; exact h.lt, hge, h.nin⟩
  · rw [List.flatten_append, Nat.add_mul]
    simpa using hf2
  · rcases List.mem_append.1 hc with hc | hc
    · exact h.each c hc
    · simp at hc; rw [hc]; rfl
  · rcases Nat.lt_or_ge i css.length with hi | hi
    · rw [List.getElem_append_left hi]
      exact hK (h.is i hi h2)
    · have h3 := h.lc
      have : i = k := by simp at h1; omega
      subst this
      have e1 : (css ++ [[u]])[i] = [u] := by rw [List.getElem_append_right hi]; simp
      rw [e1]
      exact hK hx
end Go.Kf
namespace Go.Proofs.YtbakhldjfplbfaaGreat
open Go.RowKit Go.Fl Go.Sl Go.Pg Go.Ch Go.Kf
/-- the running lengths of a row of places, as they are computed -/
structure Run (ps : List Pl) (tot : Nat → Nat) : Prop where
  t0 : tot 0 = 0
  step : ∀ i (h : i + 1 < ps.length), ∃ u v p q s l, Dst ps[i].x ps[i].y ps[i + 1].x ps[i + 1].y u v p q s l ∧ floatBits .add .f64 (tot i) l = some (tot (i + 1))
def FlR (w : World) (F : Nat → Prop) (cs : List Value) (x : Nat) : Prop := cs = [.float .f64 x]
theorem flS : Stable FlR := ⟨fun h _ => h, fun h _ => h⟩
theorem rows_fl {w : World} {F : Nat → Prop} {a : Option Addr} {n cap : Nat} {css : List (List Value)} {l : List Nat} (h : Go.Kf.Rows w F FlR a n cap 1 css l) : Sz w a n cap 1 (encN l) := by
  have e : css = l.map fun x => [.float .f64 x] := by
    refine List.ext_getElem (by rw [List.length_map, h.lc, h.lx]) fun i h1 h2 => ?_
    rw [List.getElem_map]
    exact h.is i h1 (by simpa using h2)
  have := h.sz.sz
  rw [e] at this
  have e2 : (l.map fun x => [Value.float .f64 x]).flatten = encN l := by
    unfold encN
    clear e this h
    induction l with
    | nil => rfl
    | cons a l ih => simp [ih]
  rw [e2] at this
  exact this
/-- what the interpolator is made of -/
def InterPost (w : World) (d : Nat) (a : Option Addr) (n cap m : Nat) (tot : Nat → Nat) (e : Ending) (w' : World) : Prop := ∃ fb : Nat, e = .returned (.agg #[.int .u8 d, .slice a n cap, .slice (some ⟨fb, 0, none⟩) m m, .float .f64 (tot m)]) ∧ Stab.Keeps w w' ∧ Sz w' (some ⟨fb, 0, none⟩) m m 1 (encN ((List.range m).map fun i => tot (i + 1))) ∧ w.heap.size ≤ fb
set_option maxRecDepth 100000 in
set_option maxHeartbeats 2000000 in
theorem inter_ {F : Nat → Prop} (d : Nat) (ps : List Pl) (a : Option Addr) (n cap m : Nat) (tot : Nat → Nat) (w : World) (hs : SeqAt w F d ps a n cap) (hm : ps.length = m + 1) (hR : Run ps tot) : Calls Tryz.prog 118 #[.agg #[.int .u8 d, .slice a n cap]] w (InterPost w d a n cap m tot) := by
  have hsm : m + 1 ≤ 250000 := by have := hs.sm; omega
  have hmk := fun w => run_makeN (P := Tryz.prog) 22 45 _ 1 8 m Tryz.underlying22 infoFloat (by omega) (by omega) w
  have hw1 : wrap64 (((m + 1 : Nat) : Int) - 1) = m := by have := IntWalk.wrap64_in (((m + 1 : Nat) : Int) - 1) (by omega); rw [this]; omega
  have hk0 : Stab.Keeps w ((w.alloc (.cells #[.int .u8 d, .slice a n cap] 97)).alloc (.cells #[.int .u8 0, .slice none 0 0, .slice none 0 0, .float .f64 0] 174)) := by with_reducible (repeat (first | exact Kx.r _ | assumption | refine Kx.a ?_ _ | refine Kx.d ?_ | refine Kx.e ?_ _ | (refine Kx.s ?_ ?_ _; focus (first | (simp; done) | (simp; omega))) | refine Kx.t ?_ (by assumption)))
  have hB1 : Blk ((w.alloc (.cells #[.int .u8 d, .slice a n cap] 97)).alloc (.cells #[.int .u8 0, .slice none 0 0, .slice none 0 0, .float .f64 0] 174)) w.heap.size 97 [.int .u8 d, .slice a n cap] := by with_reducible (repeat (first | assumption | ((refine Bx.n ⟨?_, ?_⟩) <;> focus (first | rfl | (simp; done) | omega)) | refine Bx.a ?_ _ | refine Bx.d ?_ | refine Bx.e ?_ _ | (refine Bx.p ?_ ?_; focus (first | (simp; done) | (simp; omega) | omega))))
  have hB2 : Blk ((w.alloc (.cells #[.int .u8 d, .slice a n cap] 97)).alloc (.cells #[.int .u8 0, .slice none 0 0, .slice none 0 0, .float .f64 0] 174)) (w.heap.size + 1) 174 [.int .u8 0, .slice none 0 0, .slice none 0 0, .float .f64 0] := by with_reducible (repeat (first | assumption | ((refine Bx.n ⟨?_, ?_⟩) <;> focus (first | rfl | (simp; done) | omega)) | refine Bx.a ?_ _ | refine Bx.d ?_ | refine Bx.e ?_ _ | (refine Bx.p ?_ ?_; focus (first | (simp; done) | (simp; omega) | omega))))
  go_enter Tryz.func118, Tryz.ntmps118
  go_wp2_with fail
  generalize ((w.alloc (.cells #[.int .u8 d, .slice a n cap] 97)).alloc (.cells #[.int .u8 0, .slice none 0 0, .slice none 0 0, .float .f64 0] 174)) = W0 at *
  refine (seqLen_ d ps a n cap _ w hs).mono ?_
  rintro e w2 ⟨rfl, hk2⟩
  rw [hm]
  replace hB1 := hB1.keep hk2
  replace hB2 := hB2.keep hk2
  replace hk0 := Stab.Keeps.trans hk0 hk2
  clear hk2
  have hl2 := hB2.lt
  have hFl := Fill.start w w2 (fun _ => False) FlR m 1 (madeCells (#[.float .f64 0]) m) 45 ((List.range m).map fun i => tot (i + 1)) hk0 (by rw [size_madeCells]; omega) (by simp)
  have hB1' := hB1.alloc (.cells (madeCells (#[.float .f64 0]) m) 45)
  have hB2' := hB2.alloc (.cells (madeCells (#[.float .f64 0]) m) 45)
  have ht0 := hR.t0
  have HR := Lib.hid hR
  have HM := Lib.hid hm
  have hne0 : (((m : Int) + 1) == 0) = false := by simp; omega
  clear hB1 hB2 hR hm
  go_upto_region 6 with (fail)
  generalize (w2.alloc (.cells (madeCells (#[.float .f64 0]) m) 45)) = W at *
  generalize w2.heap.size = fb at *
  clear hmk hk0
  go_wp2_with fail
  go_loopw [4, 6] (fun tv iv wr => ∃ (k : Nat) (cs' : List (List Value)), k ≤ m ∧ iv = .int .i64 k ∧ tv = .float .f64 (tot k) ∧ Blk wr w.heap.size 97 [.int .u8 d, .slice a n cap] ∧ Blk wr (w.heap.size + 1) 174 [.int .u8 0, .slice none 0 0, .slice none 0 0, .float .f64 0] ∧ Fill w wr (fun _ => False) FlR fb m k 1 cs' ((List.range m).map fun i => tot (i + 1))) (fun _ iv _ => m - (intOf iv).toNat)
  case atStart => exact ⟨0, [], by omega, rfl, by rw [ht0], hB1', hB2', hFl⟩
  case round =>
    clear hFl hB1' hB2' ht0
    obtain ⟨k, cs', k2, rfl, rfl, hB1, hB2, hFl⟩ := hrel
    by_cases hlt : k < m
    · have hki : k + 1 < ps.length := by have := HM.out; omega
      obtain ⟨u, v, p, q, s, l, hD, hadd⟩ := HR.out.step k hki
      have hG0 := fun w' (hk : Stab.Keeps wr w') => getXY_ d ps a n cap k w' (hs.keep (Stab.Keeps.trans hFl.keeps hk)) (by omega)
      have hG1 := fun w' (hk : Stab.Keeps wr w') => getXY_ d ps a n cap (k + 1) w' (hs.keep (Stab.Keeps.trans hFl.keeps hk)) hki
      have hDs := fun w' => distTo_ hD w'
      have v1 := fun w => opV_some hadd w
      have n1 := opN_some hadd
      have hz := World.drewN_zero
      clear hD hadd
      generalize ps[k] = P0 at *
      generalize ps[k + 1] = P1 at *
      obtain ⟨x0, y0, z0, m0⟩ := P0
      obtain ⟨x1, y1, z1, m1⟩ := P1
      simp only at hG0 hG1 hDs
      have g0 := hB1.cell (i := 0) rfl
      have g1 := hB1.cell (i := 1) rfl
      have gf := hB1.free
      have gl := hB1.lt
      go_upto_region 9 with (fail)
      refine Stab.keep_region (fun _ _ _ => True) (fun _ => false) (fun k => k == 3 || k == 7 || k == 8) Stab.pre_none (by kernel_rfl) (by kernel_rfl) fun hcx => ?_
      (with_reducible refine Stab.quiet ?_ ?_ ?_ ?_); rfl; rfl; rfl; intro K hK; go_big_quiet_op; refine hK _ ?_; clear hK K
      (with_reducible refine Stab.quiet ?_ ?_ ?_ ?_); rfl; rfl; rfl; intro K hK; go_big_quiet_op; refine hK _ ?_; clear hK K
      (with_reducible refine Stab.quiet ?_ ?_ ?_ ?_); rfl; rfl; rfl; intro K hK; go_big_quiet_op; refine hK _ ?_; clear hK K
      (with_reducible refine Stab.one ?_ ?_ ?_ ?_); rfl; rfl; rfl
      apply Exists.intro
      refine ⟨fun w1 hw1 => ?_, fun K hK => ?_⟩
      · go_simp
        (exact hG0 _ (by with_reducible (repeat (first | exact Kx.r _ | assumption | refine Kx.a ?_ _ | refine Kx.d ?_ | refine Kx.e ?_ _ | (refine Kx.s ?_ ?_ _; focus (first | (simp; done) | (simp; omega))) | refine Kx.t ?_ (by assumption)))))
      go_simp
      refine hK _ ?_
      clear hK K
      (with_reducible refine Stab.quiet ?_ ?_ ?_ ?_); rfl; rfl; rfl; intro K hK; go_big_quiet_op; refine hK _ ?_; clear hK K
      (with_reducible refine Stab.quiet ?_ ?_ ?_ ?_); rfl; rfl; rfl; intro K hK; go_big_quiet_op; refine hK _ ?_; clear hK K
      (with_reducible refine Stab.quiet ?_ ?_ ?_ ?_); rfl; rfl; rfl; intro K hK; go_big_quiet_op; refine hK _ ?_; clear hK K
      (with_reducible refine Stab.one ?_ ?_ ?_ ?_); rfl; rfl; rfl
      apply Exists.intro
      refine ⟨fun w1 hw1 => ?_, fun K hK => ?_⟩
      · go_simp
        (exact hG1 _ (by with_reducible (repeat (first | exact Kx.r _ | assumption | refine Kx.a ?_ _ | refine Kx.d ?_ | refine Kx.e ?_ _ | (refine Kx.s ?_ ?_ _; focus (first | (simp; done) | (simp; omega))) | refine Kx.t ?_ (by assumption)))))
      go_simp
      refine hK _ ?_
      clear hK K
      (with_reducible refine Stab.one ?_ ?_ ?_ ?_); rfl; rfl; rfl
      apply Exists.intro
      refine ⟨fun w1 hw1 => ?_, fun K hK => ?_⟩
      · go_simp
        (exact hDs _)
      go_simp
      refine hK _ ?_
      clear hK K
      (with_reducible refine Stab.quiet ?_ ?_ ?_ ?_); rfl; rfl; rfl; intro K hK; go_big_quiet_op; refine hK _ ?_; clear hK K
      (with_reducible refine Stab.quiet ?_ ?_ ?_ ?_); rfl; rfl; rfl; intro K hK; go_big_quiet_op; refine hK _ ?_; clear hK K
      refine Stab.nil fun w4 hk4 _ => ?_
      have hB14 := hB1.keep hk4
      have hB24 := hB2.keep hk4
      have hFl4 := hFl.keep flS hk4
      have hkr : k < ((List.range m).map fun i => tot (i + 1)).length := by simpa using hlt
      have hx5 : FlR w4 (fun _ => False) [.float .f64 (tot (k + 1))] (((List.range m).map fun i => tot (i + 1))[k]'hkr) := by simp [FlR]
      have hFl5 := hFl4.put1a flS hlt hkr hx5
      obtain ⟨x5, r0⟩ := hFl4.room.cell (k * 1) (by omega)
      have rf := hFl4.room.free
      have hl4 := hFl4.lt
      simp only [Nat.mul_one] at hFl5 r0
      clear hcx hFl hFl4 hB1 hB2 hx5 hk4 hG0 hG1 hDs v1 n1 g0 g1 gf gl
      go_wp2_with fail
      exact ⟨⟨k + 1, _, by omega, by go_num, rfl, by with_reducible (repeat (first | assumption | ((refine Bx.n ⟨?_, ?_⟩) <;> focus (first | rfl | (simp; done) | omega)) | refine Bx.a ?_ _ | refine Bx.d ?_ | refine Bx.e ?_ _ | (refine Bx.p ?_ ?_; focus (first | (simp; done) | (simp; omega) | omega)))), by with_reducible (repeat (first | assumption | ((refine Bx.n ⟨?_, ?_⟩) <;> focus (first | rfl | (simp; done) | omega)) | refine Bx.a ?_ _ | refine Bx.d ?_ | refine Bx.e ?_ _ | (refine Bx.p ?_ ?_; focus (first | (simp; done) | (simp; omega) | omega)))), hFl5⟩, by simp [intOf]; omega⟩
    · have hkk : m = k := by omega
      subst hkk
      have hge : w.heap.size + 1 ≠ fb := by omega
      have hkw := hFl.keeps
      have g0 := hB1.cell (i := 0) rfl
      have g1 := hB1.cell (i := 1) rfl
      have gf := hB1.free
      have gl := hB1.lt
      have r0 := hB2.cell (i := 0) rfl
      have r1 := hB2.cell (i := 1) rfl
      have r2 := hB2.cell (i := 2) rfl
      have r3 := hB2.cell (i := 3) rfl
      have rf := hB2.free
      have rl := hB2.lt
      go_wp2_with fail
      refine bodyPost_ret (v := .agg #[.int .u8 d, .slice a n cap, .slice (some ⟨fb, 0, none⟩) m m, .float .f64 (tot m)]) (by simp [results, Tryz.results118, go_sem, *]) rfl ⟨fb, rfl, ?_, ?_, by omega⟩
      · with_reducible (repeat (first | exact Kx.r _ | assumption | refine Kx.a ?_ _ | refine Kx.d ?_ | refine Kx.e ?_ _ | (refine Kx.s ?_ ?_ _; focus (first | (simp; done) | (simp; omega))) | refine Kx.t ?_ (by assumption)))
      · exact rows_fl (((((hFl.past flS hge (by simp) (by omega) _).past flS hge (by simp) (by omega) _).past flS hge (by simp) (by omega) _).past flS hge (by simp) (by omega) _).rows flS (by simp) (by unfold maxLen; omega) (G := fun _ => True) (fun _ _ _ => trivial) trivial)
end Go.Proofs.YtbakhldjfplbfaaGreat
set_option linter.unusedVariables false
set_option linter.unusedSimpArgs false
namespace Go.Proofs.YtbakhldjfplbfaaGreat
open Go.RowKit Go.Fl Go.Sl Go.Pg Go.Ch Go.Kf
/-- the same with each segment taken backwards -/
structure RunB (ps : List Pl) (tot : Nat → Nat) : Prop where
  t0 : tot 0 = 0
  step : ∀ i (h : i + 1 < ps.length), ∃ u v p q s l, Dst ps[i + 1].x ps[i + 1].y ps[i].x ps[i].y u v p q s l ∧ floatBits .add .f64 (tot i) l = some (tot (i + 1))
set_option maxRecDepth 100000 in
set_option maxHeartbeats 2000000 in
theorem lineLen_ {F : Nat → Prop} (d : Nat) (ps : List Pl) (a : Option Addr) (n cap m : Nat) (tot : Nat → Nat) (w : World) (hs : SeqAt w F d ps a n cap) (hm : ps.length = m + 1) (hR : RunB ps tot) : Calls Tryz.prog 125 #[.agg #[.int .u8 d, .slice a n cap]] w (One w (.float .f64 (tot m))) := by
  have hsm : m + 1 ≤ 250000 := by have := hs.sm; omega
  have hk0 : Stab.Keeps w (w.alloc (.cells #[.int .u8 d, .slice a n cap] 99)) := by with_reducible (repeat (first | exact Kx.r _ | assumption | refine Kx.a ?_ _ | refine Kx.d ?_ | refine Kx.e ?_ _ | (refine Kx.s ?_ ?_ _; focus (first | (simp; done) | (simp; omega))) | refine Kx.t ?_ (by assumption)))
  have hB1 : Blk (w.alloc (.cells #[.int .u8 d, .slice a n cap] 99)) w.heap.size 99 [.int .u8 d, .slice a n cap] := by with_reducible (repeat (first | assumption | ((refine Bx.n ⟨?_, ?_⟩) <;> focus (first | rfl | (simp; done) | omega)) | refine Bx.a ?_ _ | refine Bx.d ?_ | refine Bx.e ?_ _ | (refine Bx.p ?_ ?_; focus (first | (simp; done) | (simp; omega) | omega))))
  go_enter Tryz.func125, Tryz.ntmps125
  go_wp2_with fail
  generalize (w.alloc (.cells #[.int .u8 d, .slice a n cap] 99)) = W0 at *
  refine (seqLen_ d ps a n cap _ w hs).mono ?_
  rintro e w2 ⟨rfl, hk2⟩
  rw [hm]
  replace hB1 := hB1.keep hk2
  replace hk0 := Stab.Keeps.trans hk0 hk2
  clear hk2
  have ht0 := hR.t0
  have HR := Lib.hid hR
  have HM := Lib.hid hm
  clear hR hm
  go_wp2_with fail
  go_loopw [3, 5] (fun tv iv wr => ∃ k : Nat, k ≤ m ∧ iv = .int .i64 k ∧ tv = .float .f64 (tot k) ∧ Stab.Keeps w wr ∧ Blk wr w.heap.size 99 [.int .u8 d, .slice a n cap]) (fun _ iv _ => m - (intOf iv).toNat)
  case atStart => exact ⟨0, by omega, rfl, by rw [ht0], hk0, hB1⟩
  case round =>
    clear hk0 hB1 ht0
    obtain ⟨k, k2, rfl, rfl, hK, hB1⟩ := hrel
    have g0 := hB1.cell (i := 0) rfl
    have g1 := hB1.cell (i := 1) rfl
    have gf := hB1.free
    have gl := hB1.lt
    by_cases hlt : k < m
    · have hki : k + 1 < ps.length := by have := HM.out; omega
      obtain ⟨u, v, p, q, s, l, hD, hadd⟩ := HR.out.step k hki
      have hG0 := fun w' (hk : Stab.Keeps wr w') => getXY_ d ps a n cap k w' (hs.keep (Stab.Keeps.trans hK hk)) (by omega)
      have hG1 := fun w' (hk : Stab.Keeps wr w') => getXY_ d ps a n cap (k + 1) w' (hs.keep (Stab.Keeps.trans hK hk)) hki
      have hSu := fun w' => sub_ hD.d1 hD.d2 w'
      have hLe := fun w' => vecLen_ hD.vec w'
      have v1 := fun w => opV_some hadd w
      have n1 := opN_some hadd
      have hz := World.drewN_zero
      clear hD hadd
      generalize ps[k] = P0 at *
      generalize ps[k + 1] = P1 at *
      obtain ⟨x0, y0, z0, m0⟩ := P0
      obtain ⟨x1, y1, z1, m1⟩ := P1
      simp only at hG0 hG1 hSu
      go_wp2_with fail
      refine (hG0 _ (Stab.Keeps.refl _)).mono ?_
      clear hG0
      rintro e w4 ⟨rfl, hk4⟩
      replace hB1 := hB1.keep hk4
      clear g0 g1 gf gl
      have g0 := hB1.cell (i := 0) rfl
      have g1 := hB1.cell (i := 1) rfl
      have gf := hB1.free
      have gl := hB1.lt
      go_wp2_with fail
      refine (hG1 _ (by with_reducible (repeat (first | exact Kx.r _ | assumption | refine Kx.a ?_ _ | refine Kx.d ?_ | refine Kx.e ?_ _ | (refine Kx.s ?_ ?_ _; focus (first | (simp; done) | (simp; omega))) | refine Kx.t ?_ (by assumption))))).mono ?_
      clear hG1
      rintro e w5 ⟨rfl, hk5⟩
      have hBa := (show Blk _ w4.heap.size 137 [.float .f64 x0, .float .f64 y0] from by with_reducible (repeat (first | assumption | ((refine Bx.n ⟨?_, ?_⟩) <;> focus (first | rfl | (simp; done) | omega)) | refine Bx.a ?_ _ | refine Bx.d ?_ | refine Bx.e ?_ _ | (refine Bx.p ?_ ?_; focus (first | (simp; done) | (simp; omega) | omega))))).keep hk5
      have hB5 : Blk w5 w.heap.size 99 [.int .u8 d, .slice a n cap] := Blk.keep (by with_reducible (repeat (first | assumption | ((refine Bx.n ⟨?_, ?_⟩) <;> focus (first | rfl | (simp; done) | omega)) | refine Bx.a ?_ _ | refine Bx.d ?_ | refine Bx.e ?_ _ | (refine Bx.p ?_ ?_; focus (first | (simp; done) | (simp; omega) | omega))))) hk5
      have hk45 : Stab.Keeps wr w5 := by with_reducible (repeat (first | exact Kx.r _ | assumption | refine Kx.a ?_ _ | refine Kx.d ?_ | refine Kx.e ?_ _ | (refine Kx.s ?_ ?_ _; focus (first | (simp; done) | (simp; omega))) | refine Kx.t ?_ (by assumption)))
      clear g0 g1 gf gl hB1 hk4 hk5
      have xx0 := hBa.cell (i := 0) rfl
      have xx1 := hBa.cell (i := 1) rfl
      have xxf := hBa.free
      have xxl := hBa.lt
      go_wp2_with fail
      refine (hSu _).mono ?_
      clear hSu
      rintro e w6 ⟨rfl, hk6⟩
      clear xx0 xx1 xxf xxl
      go_wp2_with fail
      refine (hLe _).mono ?_
      clear hLe
      rintro e w7 ⟨rfl, hk7⟩
      have hk57 : Stab.Keeps w5 w7 := by with_reducible (repeat (first | exact Kx.r _ | assumption | refine Kx.a ?_ _ | refine Kx.d ?_ | refine Kx.e ?_ _ | (refine Kx.s ?_ ?_ _; focus (first | (simp; done) | (simp; omega))) | refine Kx.t ?_ (by assumption)))
      have hk67 := Stab.Keeps.trans hk45 hk57
      have hB7 := hB5.keep hk57
      have hK7 := Stab.Keeps.trans hK hk67
      clear hk67 hk57 hB5 hk45 hk6 hk7 hBa
      go_wp2_with fail
      exact ⟨⟨k + 1, by omega, by go_num, rfl, hK7, hB7⟩, by simp [intOf]; omega⟩
    · have hkk : m = k := by omega
      subst hkk
      go_wp2_with fail
      go_ret
      exact ⟨rfl, hK⟩
end Go.Proofs.YtbakhldjfplbfaaGreat
set_option linter.unusedVariables false
set_option linter.unusedSimpArgs false
namespace Go.Proofs.YtbakhldjfplbfaaGreat
open Go.RowKit Go.Fl Go.Sl Go.Pg Go.Ch Go.Kf
def CumPost (w : World) (m : Nat) (tot : Nat → Nat) (e : Ending) (w' : World) : Prop := ∃ fb : Nat, e = .returned (.tuple #[.slice (some ⟨fb, 0, none⟩) m m, .float .f64 (tot m)]) ∧ Stab.Keeps w w' ∧ Sz w' (some ⟨fb, 0, none⟩) m m 1 (encN ((List.range m).map fun i => tot (i + 1))) ∧ w.heap.size ≤ fb
set_option maxRecDepth 100000 in
theorem doorCum_ {F : Nat → Prop} (d : Nat) (ps : List Pl) (a : Option Addr) (n cap m : Nat) (tot : Nat → Nat) (w : World) (hs : SeqAt w F d ps a n cap) (hm : ps.length = m + 1) (hR : Run ps tot) : Calls Tryz.prog 57 #[.agg #[.int .u8 d, .slice a n cap]] w (CumPost w m tot) := by
  have hI := fun w' (hk : Stab.Keeps w w') => inter_ d ps a n cap m tot w' (hs.keep hk) hm hR
  clear hs hm hR
  go_enter Tryz.func57, Tryz.ntmps57
  go_wp2_with fail
  refine (hI _ (by with_reducible (repeat (first | exact Kx.r _ | assumption | refine Kx.a ?_ _ | refine Kx.d ?_ | refine Kx.e ?_ _ | (refine Kx.s ?_ ?_ _; focus (first | (simp; done) | (simp; omega))) | refine Kx.t ?_ (by assumption))))).mono ?_
  clear hI
  rintro e w2 ⟨fb, rfl, hk2, hz, hfb⟩
  have hfb2 : w.heap.size ≤ fb := by simp at hfb; omega
  clear hfb
  have hB : Blk (w2.alloc (.cells #[.int .u8 d, .slice a n cap, .slice (some ⟨fb, 0, none⟩) m m, .float .f64 (tot m)] 174)) w2.heap.size 174 [.int .u8 d, .slice a n cap, .slice (some ⟨fb, 0, none⟩) m m, .float .f64 (tot m)] := by with_reducible (repeat (first | assumption | ((refine Bx.n ⟨?_, ?_⟩) <;> focus (first | rfl | (simp; done) | omega)) | refine Bx.a ?_ _ | refine Bx.d ?_ | refine Bx.e ?_ _ | (refine Bx.p ?_ ?_; focus (first | (simp; done) | (simp; omega) | omega))))
  have hkA : Stab.Keeps w2 (w2.alloc (.cells #[.int .u8 d, .slice a n cap, .slice (some ⟨fb, 0, none⟩) m m, .float .f64 (tot m)] 174)) := by with_reducible (repeat (first | exact Kx.r _ | assumption | refine Kx.a ?_ _ | refine Kx.d ?_ | refine Kx.e ?_ _ | (refine Kx.s ?_ ?_ _; focus (first | (simp; done) | (simp; omega))) | refine Kx.t ?_ (by assumption)))
  have hkw : Stab.Keeps w (w2.alloc (.cells #[.int .u8 d, .slice a n cap, .slice (some ⟨fb, 0, none⟩) m m, .float .f64 (tot m)] 174)) := by with_reducible (repeat (first | exact Kx.r _ | assumption | refine Kx.a ?_ _ | refine Kx.d ?_ | refine Kx.e ?_ _ | (refine Kx.s ?_ ?_ _; focus (first | (simp; done) | (simp; omega))) | refine Kx.t ?_ (by assumption)))
  replace hz := hz.keep hkA
  go_upto_region 2 with (fail)
  generalize (w2.alloc (.cells #[.int .u8 d, .slice a n cap, .slice (some ⟨fb, 0, none⟩) m m, .float .f64 (tot m)] 174)) = w3 at *
  clear hkA hk2
  have g0 := hB.cell (i := 0) rfl
  have g1 := hB.cell (i := 1) rfl
  have g2 := hB.cell (i := 2) rfl
  have g3 := hB.cell (i := 3) rfl
  have gf := hB.free
  have gl := hB.lt
  refine Stab.keep_region (fun _ _ _ => True) (fun _ => false) (fun _ => false) Stab.pre_none (by kernel_rfl) (by kernel_rfl) fun hcx => ?_
  (with_reducible refine Stab.quiet ?_ ?_ ?_ ?_); rfl; rfl; rfl; intro K hK; go_big_quiet_op; refine hK _ ?_; clear hK K
  (with_reducible refine Stab.quiet ?_ ?_ ?_ ?_); rfl; rfl; rfl; intro K hK; go_big_quiet_op; refine hK _ ?_; clear hK K
  (with_reducible refine Stab.quiet ?_ ?_ ?_ ?_); rfl; rfl; rfl; intro K hK; go_big_quiet_op; refine hK _ ?_; clear hK K
  (with_reducible refine Stab.quiet ?_ ?_ ?_ ?_); rfl; rfl; rfl; intro K hK; go_big_quiet_op; refine hK _ ?_; clear hK K
  (with_reducible refine Stab.quiet ?_ ?_ ?_ ?_); rfl; rfl; rfl; intro K hK; go_big_quiet_op; refine hK _ ?_; clear hK K
  (with_reducible refine Stab.quiet ?_ ?_ ?_ ?_); rfl; rfl; rfl; intro K hK; go_big_quiet_op; refine hK _ ?_; clear hK K
  refine Stab.nil fun w4 hk4 _ => ?_
  clear hcx g0 g1 g2 g3 gf gl
  go_wp2_with fail
  refine bodyPost_ret (v := .tuple #[.slice (some ⟨fb, 0, none⟩) m m, .float .f64 (tot m)]) (by simp [results, Tryz.results57, go_sem]) rfl ⟨fb, rfl, Stab.Keeps.trans hkw hk4, hz.keep hk4, hfb2⟩
end Go.Proofs.YtbakhldjfplbfaaGreat
set_option linter.unusedVariables false
set_option linter.unusedSimpArgs false
namespace Go.Proofs.YtbakhldjfplbfaaGreat
open Go.RowKit Go.Fl Go.Sl Go.Pg Go.Ch Go.Kf
theorem lsEmpty_ {F : Nat → Prop} (d : Nat) (ps : List Pl) (a : Option Addr) (n cap : Nat) (w : World) (hs : SeqAt w F d ps a n cap) : Calls Tryz.prog 189 #[.agg #[.int .u8 d, .slice a n cap]] w (One w (.bool ((ps.length : Int) == 0))) := by
  have hL := fun w' => seqLen_ d ps a n cap w' w hs
  clear hs
  go_enter Tryz.func189, Tryz.ntmps189
  go_wp2_with fail
  refine (hL _).mono ?_
  rintro e w2 ⟨rfl, hk2⟩
  go_wp2_with fail
  go_ret
  exact ⟨rfl, by with_reducible (repeat (first | exact Kx.r _ | assumption | refine Kx.a ?_ _ | refine Kx.d ?_ | refine Kx.e ?_ _ | (refine Kx.s ?_ ?_ _; focus (first | (simp; done) | (simp; omega))) | refine Kx.t ?_ (by assumption)))⟩
set_option maxRecDepth 100000 in
theorem geoEmptyLs_ {F : Nat → Prop} (b d : Nat) (ps : List Pl) (a : Option Addr) (n cap : Nat) (w : World) (hB : Blk w b 99 [.int .u8 d, .slice a n cap]) (hs : SeqAt w F d ps a n cap) : Calls Tryz.prog 121 #[.agg #[.int .i64 2, .iface 190 (.pointer (some ⟨b, 0, none⟩))]] w (One w (.bool ((ps.length : Int) == 0))) := by
  have hM := fun w' (hk' : Stab.Keeps w w') => mustLs_ a n cap d b w' (Blk.keep hB hk')
  have hE := fun w' (hk' : Stab.Keeps w w') => lsEmpty_ d ps a n cap w' (hs.keep hk')
  clear hB hs
  go_enter Tryz.func121, Tryz.ntmps121
  go_wp2_with fail
  refine (hM _ (by with_reducible (repeat (first | exact Kx.r _ | assumption | refine Kx.a ?_ _ | refine Kx.d ?_ | refine Kx.e ?_ _ | (refine Kx.s ?_ ?_ _; focus (first | (simp; done) | (simp; omega))) | refine Kx.t ?_ (by assumption))))).mono ?_
  clear hM
  rintro e w2 ⟨rfl, hk2⟩
  have hkw : Stab.Keeps w w2 := by with_reducible (repeat (first | exact Kx.r _ | assumption | refine Kx.a ?_ _ | refine Kx.d ?_ | refine Kx.e ?_ _ | (refine Kx.s ?_ ?_ _; focus (first | (simp; done) | (simp; omega))) | refine Kx.t ?_ (by assumption)))
  go_wp2_with fail
  refine (hE _ hkw).mono ?_
  clear hE
  rintro e w3 ⟨rfl, hk3⟩
  go_wp2_with fail
  go_ret
  exact ⟨rfl, Stab.Keeps.trans hkw hk3⟩
set_option maxRecDepth 100000 in
set_option maxHeartbeats 1000000 in
theorem geoLenLs_ {F : Nat → Prop} (b d : Nat) (ps : List Pl) (a : Option Addr) (n cap m : Nat) (tot : Nat → Nat) (w : World) (hB : Blk w b 99 [.int .u8 d, .slice a n cap]) (hs : SeqAt w F d ps a n cap) (hm : ps.length = m + 1) (hR : RunB ps tot) : Calls Tryz.prog 62 #[.agg #[.int .i64 2, .iface 190 (.pointer (some ⟨b, 0, none⟩))]] w (One w (.float .f64 (tot m))) := by
  have hE := fun w' (hk' : Stab.Keeps w w') => geoEmptyLs_ b d ps a n cap w' (Blk.keep hB hk') (hs.keep hk')
  have hM := fun w' (hk' : Stab.Keeps w w') => mustLs_ a n cap d b w' (Blk.keep hB hk')
  have hL := fun w' (hk' : Stab.Keeps w w') => lineLen_ d ps a n cap m tot w' (hs.keep hk') hm hR
  have he : ((ps.length : Int) == 0) = false := by rw [hm]; simp; omega
  rw [he] at hE
  clear hB hs hm hR he
  have hk0 : Stab.Keeps w (w.alloc (.cells #[.int .i64 2, .iface 190 (.pointer (some ⟨b, 0, none⟩))] 78)) := by with_reducible (repeat (first | exact Kx.r _ | assumption | refine Kx.a ?_ _ | refine Kx.d ?_ | refine Kx.e ?_ _ | (refine Kx.s ?_ ?_ _; focus (first | (simp; done) | (simp; omega))) | refine Kx.t ?_ (by assumption)))
  have hB0 : Blk (w.alloc (.cells #[.int .i64 2, .iface 190 (.pointer (some ⟨b, 0, none⟩))] 78)) w.heap.size 78 [.int .i64 2, .iface 190 (.pointer (some ⟨b, 0, none⟩))] := by with_reducible (repeat (first | assumption | ((refine Bx.n ⟨?_, ?_⟩) <;> focus (first | rfl | (simp; done) | omega)) | refine Bx.a ?_ _ | refine Bx.d ?_ | refine Bx.e ?_ _ | (refine Bx.p ?_ ?_; focus (first | (simp; done) | (simp; omega) | omega))))
  go_enter Tryz.func62, Tryz.ntmps62
  go_wp2_with fail
  generalize (w.alloc (.cells #[.int .i64 2, .iface 190 (.pointer (some ⟨b, 0, none⟩))] 78)) = W0 at *
  refine (hE _ hk0).mono ?_
  clear hE
  rintro e w1 ⟨rfl, hkz⟩
  replace hB0 := hB0.keep hkz
  replace hk0 := Stab.Keeps.trans hk0 hkz
  clear hkz
  have g0 := hB0.cell (i := 0) rfl
  have g1 := hB0.cell (i := 1) rfl
  have gf := hB0.free
  have gl := hB0.lt
  go_wp2_with fail
  refine (isGc_ 2 _ b _).mono ?_
  rintro e w2 ⟨rfl, hkz⟩
  replace hB0 := hB0.keep hkz
  replace hk0 := Stab.Keeps.trans hk0 hkz
  clear hkz g0 g1 gf gl
  have g0 := hB0.cell (i := 0) rfl
  have g1 := hB0.cell (i := 1) rfl
  have gf := hB0.free
  have gl := hB0.lt
  go_wp2_with fail
  refine (isLs_ 2 _ b _).mono ?_
  rintro e w3 ⟨rfl, hkz⟩
  replace hB0 := hB0.keep hkz
  replace hk0 := Stab.Keeps.trans hk0 hkz
  clear hkz g0 g1 gf gl
  have g0 := hB0.cell (i := 0) rfl
  have g1 := hB0.cell (i := 1) rfl
  have gf := hB0.free
  have gl := hB0.lt
  go_wp2_with fail
  refine (hM _ hk0).mono ?_
  clear hM
  rintro e w4 ⟨rfl, hkz⟩
  replace hk0 := Stab.Keeps.trans hk0 hkz
  go_wp2_with fail
  refine (hL _ hk0).mono ?_
  clear hL
  rintro e w5 ⟨rfl, hk5⟩
  go_wp2_with fail
  go_ret
  exact ⟨rfl, Stab.Keeps.trans hk0 hk5⟩
set_option maxRecDepth 100000 in
theorem implLen_ {F : Nat → Prop} (cs : List Value) (ps : List Pl) (m : Nat) (tot : Nat → Nat) (w : World) (h : GmR w F cs (.node 2 0 ps [])) (hn : PgNum 1000 (.node 2 0 ps [])) (hp : ∀ q ∈ ps, q.norm 0) (hm : ps.length = m + 1) (hR : RunB ps tot) : Calls Tryz.prog 34 #[.agg cs.toArray] w (One w (.float .f64 (tot m))) := by
  obtain ⟨q, rfl, hA, hI⟩ := h.gt
  have e := newP_is (.ls 0 ps (by omega) hp) q hI
  have hM := fun w' (hk : Stab.Keeps w w') => makeGeo_ q w' (hA.keep hk) (small_is hn q hI)
  rw [e] at hM
  clear hA hI e hn hp h
  obtain ⟨⟨kind, dim, na, nn, nc, ka, kn, kc⟩, nums, kids⟩ := q
  simp only [GT.hd, Gm.val] at hM
  show Calls _ _ #[.agg #[.int .i64 kind, .int .i64 dim, .slice na nn nc, .slice ka kn kc]] _ _
  go_enter Tryz.func34, Tryz.ntmps34
  go_wp2_with fail
  refine (hM _ (by with_reducible (repeat (first | exact Kx.r _ | assumption | refine Kx.a ?_ _ | refine Kx.d ?_ | refine Kx.e ?_ _ | (refine Kx.s ?_ ?_ _; focus (first | (simp; done) | (simp; omega))) | refine Kx.t ?_ (by assumption))))).mono ?_
  clear hM
  rintro e w2 ⟨cs, rfl, hk2, hx⟩
  have hkw : Stab.Keeps w w2 := by with_reducible (repeat (first | exact Kx.r _ | assumption | refine Kx.a ?_ _ | refine Kx.d ?_ | refine Kx.e ?_ _ | (refine Kx.s ?_ ?_ _; focus (first | (simp; done) | (simp; omega))) | refine Kx.t ?_ (by assumption)))
  cases hx with
  | pt b cs p hF hB h => obtain ⟨_, _, _, he, _⟩ := h; cases he
  | py b cs p hF hB h => obtain ⟨_, _, _, _, _, _, _, he, _⟩ := h; cases he
  | mp b cs p hF hB h => obtain ⟨_, _, _, _, _, _, _, he, _⟩ := h; cases he
  | ml b cs p hF hB h => obtain ⟨_, _, _, _, _, _, _, he, _⟩ := h; cases he
  | my b cs p hF hB h => obtain ⟨_, _, _, _, _, _, _, he, _⟩ := h; cases he
  | ls b cs p hF hB h =>
    obtain ⟨d, ps', a, n, cap, rfl, he, hs⟩ := h
    cases he
    have hG := geoLenLs_ b _ _ a n cap m tot w2 hB hs hm hR
    clear hB hs hm hR
    go_wp2_with fail
    refine hG.mono ?_
    rintro e w3 ⟨rfl, hk3⟩
    go_wp2_with fail
    go_ret
    exact ⟨rfl, Stab.Keeps.trans hkw hk3⟩
end Go.Proofs.YtbakhldjfplbfaaGreat
set_option linter.unusedVariables false
set_option linter.unusedSimpArgs false
namespace Go.Proofs.YtbakhldjfplbfaaGreat
open Go.RowKit Go.Fl Go.Sl Go.Pg Go.Ch Go.Kf
theorem catch_run (p q r : Value) (w : World) :
    CallsD Tryz.prog 56 #[p, q, r] .returning w fun e u' w' => e = .returned (.tuple #[]) ∧ u' = .returning ∧ w' = w := by
  refine callsD_of_wpS Tryz.func56 rfl fun c₀ cs hu => ?_
  apply wpS_seq
  apply wpS_region
  simp [wpOpsS, go_sem, recoverD, hu, Tryz.ntmps56, Exit.thenS]
  refine wpS_cond (t := false) (by simp [Act.eval, Array.replicate]) ?_
  simp only [Bool.false_eq_true, if_false]
  refine wpS_of_wp (wp_skip ?_)
  cases c₀
  simp_all [bodyPostS, results, Tryz.results56]
def RunPost (w : World) (m : Nat) (tot : Nat → Nat) (e : Ending) (w' : World) : Prop := ∃ fb : Nat, e = .returned (.tuple #[.slice (some ⟨fb, 0, none⟩) m m, .float .f64 (tot m), .bool true]) ∧ Stab.Keeps w w' ∧ Sz w' (some ⟨fb, 0, none⟩) m m 1 (encN ((List.range m).map fun i => tot (i + 1)))
set_option maxRecDepth 100000 in
set_option maxHeartbeats 1000000 in
theorem implRun_ {F : Nat → Prop} (cs : List Value) (ps : List Pl) (m : Nat) (tot : Nat → Nat) (w : World) (h : GmR w F cs (.node 2 0 ps [])) (hn : PgNum 1000 (.node 2 0 ps [])) (hp : ∀ q ∈ ps, q.norm 0) (hm : ps.length = m + 1) (hR : Run ps tot) : Calls Tryz.prog 31 #[.agg cs.toArray] w (RunPost w m tot) := by
  have hmf : ∀ (fn : Fn) (first cap : Array Value) (w : World), (Instr.makeFunc fn first cap).run Tryz.prog w = .ok (.func fn first cap) w := fun _ _ _ _ => rfl
  obtain ⟨q, rfl, hA, hI⟩ := h.gt
  have e := newP_is (.ls 0 ps (by omega) hp) q hI
  have hk2 : q.hd.kind = 2 := by cases hI with | mk h nums kids _ _ _ _ i1 => exact i1
  have hM := fun w' (hk : Stab.Keeps w w') => makeLs_ q w' (hA.keep hk) (small_is hn q hI) hk2
  rw [e] at hM
  clear hA hI e hn hp h hk2
  obtain ⟨⟨kind, dim, na, nn, nc, ka, kn, kc⟩, nums, kids⟩ := q
  simp only [GT.hd, Gm.val] at hM
  show Calls _ _ #[.agg #[.int .i64 kind, .int .i64 dim, .slice na nn nc, .slice ka kn kc]] _ _
  go_enter_defers Tryz.func31, Tryz.ntmps31
  go_wp2_with fail
  refine (hM _ (by with_reducible (repeat (first | exact Kx.r _ | assumption | refine Kx.a ?_ _ | refine Kx.d ?_ | refine Kx.e ?_ _ | (refine Kx.s ?_ ?_ _; focus (first | (simp; done) | (simp; omega))) | refine Kx.t ?_ (by assumption))))).mono ?_
  clear hM
  rintro e w2 ⟨cs, rfl, hk2, d, ps', a, n, cap, rfl, he, hs⟩
  cases he
  have hkw : Stab.Keeps w w2 := by with_reducible (repeat (first | exact Kx.r _ | assumption | refine Kx.a ?_ _ | refine Kx.d ?_ | refine Kx.e ?_ _ | (refine Kx.s ?_ ?_ _; focus (first | (simp; done) | (simp; omega))) | refine Kx.t ?_ (by assumption)))
  go_wp2_with fail
  refine (lsSeq_ _ _ _ _ _).mono ?_
  rintro e w3 ⟨rfl, hk3⟩
  go_wp2_with fail
  refine (doorCum_ 0 ps a n cap m tot w3 (hs.keep hk3) hm hR).mono ?_
  rintro e w4 ⟨fb, rfl, hk4, hz, hfb⟩
  have hfb4 : w.heap.size + 4 ≤ fb := by have h1 := hk2.size; have h2 := hk3.size; simp at h1; omega
  have hzF : SzF w4 (fun b => b = fb) (some ⟨fb, 0, none⟩) m m 1 (encN ((List.range m).map fun i => tot (i + 1))) := ⟨hz, fun _ x hx => by cases hx; rfl⟩
  have hk24 := Stab.Keeps.trans hk2 (Stab.Keeps.trans hk3 hk4)
  have hB1 := (show Blk ((((w.alloc (.cells #[.int .i64 kind, .int .i64 dim, .slice na nn nc, .slice ka kn kc] 25)).alloc (.cells #[.slice none 0 0] 22)).alloc (.cells #[.float .f64 0] 45)).alloc (.cells #[.bool false] 4)) (w.heap.size + 1) 22 [.slice none 0 0] from by with_reducible (repeat (first | assumption | ((refine Bx.n ⟨?_, ?_⟩) <;> focus (first | rfl | (simp; done) | omega)) | refine Bx.a ?_ _ | refine Bx.d ?_ | refine Bx.e ?_ _ | (refine Bx.p ?_ ?_; focus (first | (simp; done) | (simp; omega) | omega))))).keep hk24
  have hB2 := (show Blk ((((w.alloc (.cells #[.int .i64 kind, .int .i64 dim, .slice na nn nc, .slice ka kn kc] 25)).alloc (.cells #[.slice none 0 0] 22)).alloc (.cells #[.float .f64 0] 45)).alloc (.cells #[.bool false] 4)) (w.heap.size + 1 + 1) 45 [.float .f64 0] from by with_reducible (repeat (first | assumption | ((refine Bx.n ⟨?_, ?_⟩) <;> focus (first | rfl | (simp; done) | omega)) | refine Bx.a ?_ _ | refine Bx.d ?_ | refine Bx.e ?_ _ | (refine Bx.p ?_ ?_; focus (first | (simp; done) | (simp; omega) | omega))))).keep hk24
  have hB3 := (show Blk ((((w.alloc (.cells #[.int .i64 kind, .int .i64 dim, .slice na nn nc, .slice ka kn kc] 25)).alloc (.cells #[.slice none 0 0] 22)).alloc (.cells #[.float .f64 0] 45)).alloc (.cells #[.bool false] 4)) (w.heap.size + 1 + 1 + 1) 4 [.bool false] from by with_reducible (repeat (first | assumption | ((refine Bx.n ⟨?_, ?_⟩) <;> focus (first | rfl | (simp; done) | omega)) | refine Bx.a ?_ _ | refine Bx.d ?_ | refine Bx.e ?_ _ | (refine Bx.p ?_ ?_; focus (first | (simp; done) | (simp; omega) | omega))))).keep hk24
  have hk5 : Stab.Keeps w w4 := Stab.Keeps.trans hkw (Stab.Keeps.trans hk3 hk4)
  clear hk24 hkw hk2 hk3 hk4 hs hm hR
  have x0 := hB1.cell (i := 0) rfl
  have xf := hB1.free
  have xl := hB1.lt
  have y0 := hB2.cell (i := 0) rfl
  have yf := hB2.free
  have yl := hB2.lt
  have z0 := hB3.cell (i := 0) rfl
  have zf := hB3.free
  have zl := hB3.lt
  go_upto_region 3 with (fail)
  have hC1 := hB1.set 0 (.slice (some ⟨fb, 0, none⟩) m m)
  simp only [List.set] at hC1
  have hD1 : Blk ((w4.setCell ⟨w.heap.size + 1, 0, none⟩ (.slice (some ⟨fb, 0, none⟩) m m)).setCell ⟨w.heap.size + 1 + 1, 0, none⟩ (.float .f64 (tot m))) (w.heap.size + 1) 22 [.slice (some ⟨fb, 0, none⟩) m m] := by with_reducible (repeat (first | assumption | ((refine Bx.n ⟨?_, ?_⟩) <;> focus (first | rfl | (simp; done) | omega)) | refine Bx.a ?_ _ | refine Bx.d ?_ | refine Bx.e ?_ _ | (refine Bx.p ?_ ?_; focus (first | (simp; done) | (simp; omega) | omega))))
  have hC2 : Blk (w4.setCell ⟨w.heap.size + 1, 0, none⟩ (.slice (some ⟨fb, 0, none⟩) m m)) (w.heap.size + 1 + 1) 45 [.float .f64 0] := by with_reducible (repeat (first | assumption | ((refine Bx.n ⟨?_, ?_⟩) <;> focus (first | rfl | (simp; done) | omega)) | refine Bx.a ?_ _ | refine Bx.d ?_ | refine Bx.e ?_ _ | (refine Bx.p ?_ ?_; focus (first | (simp; done) | (simp; omega) | omega))))
  have hD2 := hC2.set 0 (.float .f64 (tot m))
  simp only [List.set] at hD2
  have hD3 : Blk ((w4.setCell ⟨w.heap.size + 1, 0, none⟩ (.slice (some ⟨fb, 0, none⟩) m m)).setCell ⟨w.heap.size + 1 + 1, 0, none⟩ (.float .f64 (tot m))) (w.heap.size + 1 + 1 + 1) 4 [.bool false] := by with_reducible (repeat (first | assumption | ((refine Bx.n ⟨?_, ?_⟩) <;> focus (first | rfl | (simp; done) | omega)) | refine Bx.a ?_ _ | refine Bx.d ?_ | refine Bx.e ?_ _ | (refine Bx.p ?_ ?_; focus (first | (simp; done) | (simp; omega) | omega))))
  have hkS : Stab.Keeps w ((w4.setCell ⟨w.heap.size + 1, 0, none⟩ (.slice (some ⟨fb, 0, none⟩) m m)).setCell ⟨w.heap.size + 1 + 1, 0, none⟩ (.float .f64 (tot m))) := Stab.Keeps.setCell (by simp; omega) (Stab.Keeps.setCell (by simp) hk5 _) _
  have hzS := hzF.kf (w' := ((w4.setCell ⟨w.heap.size + 1, 0, none⟩ (.slice (some ⟨fb, 0, none⟩) m m)).setCell ⟨w.heap.size + 1 + 1, 0, none⟩ (.float .f64 (tot m)))) (((KF.refl _ _).set (fun h => by simp at h; omega)).set (fun h => by simp at h; omega))
  clear hzF hz
  generalize ((w4.setCell ⟨w.heap.size + 1, 0, none⟩ (.slice (some ⟨fb, 0, none⟩) m m)).setCell ⟨w.heap.size + 1 + 1, 0, none⟩ (.float .f64 (tot m))) = W at *
  clear x0 xf xl y0 yf yl z0 zf zl hB1 hB2 hB3 hC1 hC2
  have x0 := hD1.cell (i := 0) rfl
  have xf := hD1.free
  have xl := hD1.lt
  have y0 := hD2.cell (i := 0) rfl
  have yf := hD2.free
  have yl := hD2.lt
  have z0 := hD3.cell (i := 0) rfl
  have zf := hD3.free
  have zl := hD3.lt
  go_region
  all_goals
    go_wp2
    refine leaves_cons (f := 56) (args := #[.pointer (some ⟨w.heap.size + 1, 0, none⟩), .pointer (some ⟨w.heap.size + 1 + 1, 0, none⟩), .pointer (some ⟨w.heap.size + 1 + 1 + 1, 0, none⟩)]) (by simp) (by simp [go_sem]) ?_
    refine (catch_run _ _ _ _).mono ?_
    rintro e u' w'' ⟨rfl, rfl, rfl⟩
    refine ⟨.tuple #[.slice (some ⟨fb, 0, none⟩) m m, .float .f64 (tot m), .bool true], by simp [results, Tryz.results31, go_sem, x0, y0, z0], fb, rfl, ?_, ?_⟩
    · with_reducible (repeat (first | exact Kx.r _ | assumption | refine Kx.a ?_ _ | refine Kx.d ?_ | refine Kx.e ?_ _ | (refine Kx.s ?_ ?_ _; focus (first | (simp; done) | (simp; omega))) | refine Kx.t ?_ (by assumption)))
    · exact (hzS.kf (by repeat (first | (with_reducible exact KF.refl _ _) | (with_reducible assumption) | (with_reducible refine KF.alloc ?_ _) | (with_reducible refine KF.drew ?_) | (with_reducible refine KF.drewN ?_ _) | ((with_reducible refine KF.set ?_ ?_); focus (first | assumption | (simp [orNew, old]; done) | (simp [orNew, old]; omega) | (simp [orNew, old] at *; omega))) | (with_reducible refine KF.trans ?_ (KF.keeps (by with_reducible assumption)))))).sz
end Go.Proofs.YtbakhldjfplbfaaGreat
set_option linter.unusedVariables false
set_option linter.unusedSimpArgs false
namespace Go.Fr
open Ieee Go.Fl Go.Fw
theorem le_of_sq {a b : Rat} (ha : 0 ≤ a) (hb : 0 ≤ b) (h : a * a ≤ b * b) : a ≤ b := by
  by_cases hc : a ≤ b
  · exact hc
  · have h1 : 0 < (a - b) * (a + b) := Rat.mul_pos (by grind) (by grind)
    grind
theorem q49' : two (-49) = 1 / 562949953421312 := by decide +kernel
theorem q52' : two (-52) = 1 / 4503599627370496 := by decide +kernel
theorem tiny' : two (-1074) ≤ 1 / 1267650600228229401496703205376 := by
  have h : two (-1074) ≤ two (-100) := two_mono (by decide)
  have e : two (-100) = 1 / 1267650600228229401496703205376 := by decide +kernel
  grind
theorem big' {v : Rat} (h : v < 1267650600228229401496703205376) {k : Int} (hk : 1000 ≤ k) : v < two k := by
  have e : two 100 = 1267650600228229401496703205376 := by decide +kernel
  have h1 : two 100 ≤ two k := two_mono (by omega)
  grind
/-- r is the root of the whole number N, nearly -/
def Len (N : Int) (r : Rat) : Prop := (N = 0 ∧ r = 0) ∨ (1 ≤ N ∧ 0 < r ∧ r * r ≤ N * (1 + two (-49)) ∧ (N : Rat) ≤ r * r * (1 + two (-49)))
theorem len_close {N : Int} {r s : Rat} (hN : N ≤ 8796093022208) (h : Len N r) (h' : Len N s) : (r = 0 ∧ s = 0) ∨ (1 / 2 ≤ r ∧ 1 / 2 ≤ s ∧ r ≤ 3000000 ∧ s ≤ 3000000 ∧ ab (r - s) ≤ 1 / 134217728) := by
  unfold Len at h h'
  rw [q49'] at h h'
  rcases h with ⟨a, b⟩ | ⟨a1, a2, a3, a4⟩ <;> rcases h' with ⟨c, d⟩ | ⟨c1, c2, c3, c4⟩
  · exact .inl ⟨b, d⟩
  · omega
  · omega
  · right
    have hN1 : (1 : Rat) ≤ N := by have := Rat.intCast_le_intCast.2 a1; simpa using this
    have hN2 : (N : Rat) ≤ 8796093022208 := by have := Rat.intCast_le_intCast.2 hN; simpa using this
    have key : ∀ x : Rat, 0 < x → x * x ≤ N * (1 + 1 / 562949953421312) → (N : Rat) ≤ x * x * (1 + 1 / 562949953421312) → 1 / 2 ≤ x ∧ x ≤ 3000000 := fun x h0 h1 h2 => by
      refine ⟨le_of_sq (by grind) (by grind) (by grind), le_of_sq (by grind) (by grind) (by grind)⟩
    have kr := key r a2 a3 a4
    have ks := key s c2 c3 c4
    have two' : ∀ x y : Rat, 0 < x → 0 < y → y ≤ 3000000 → x * x ≤ N * (1 + 1 / 562949953421312) → (N : Rat) ≤ y * y * (1 + 1 / 562949953421312) → x - y ≤ 1 / 134217728 := fun x y h0 h1 hy h2 h3 => by
      have h4 : x * x ≤ (y * (1 + 1 / 562949953421312)) * (y * (1 + 1 / 562949953421312)) := by grind
      have := le_of_sq (by grind) (by grind) h4
      grind
    refine ⟨kr.1, ks.1, kr.2, ks.2, ?_⟩
    have t1 := two' r s a2 c2 ks.2 a3 c4
    have t2 := two' s r c2 a2 kr.2 c3 a4
    rcases ab_cases (r - s) with ⟨_, e⟩ | ⟨_, e⟩ <;> rw [e] <;> grind
/-- what is added: a number and a length -/
theorem add_len {t l : Nat} (ht : fin t = true) (hl : fin l = true) (h0 : 0 ≤ R t) (h1 : R t ≤ 1000000000) (hr : 1 / 2 ≤ R l) (hr2 : R l ≤ 3000000) :
    ∃ r, floatBits .add .f64 t l = some r ∧ fin r = true ∧ R t ≤ R r ∧ R r ≤ R t + R l + 1 / 4194304 ∧ R t + R l ≤ R r + 1 / 4194304 := by
  have hab : ab (R t + R l) = R t + R l := by unfold ab; rw [if_pos (by grind)]
  obtain ⟨r, a, b, c⟩ := add_near ht hl (by rw [hab]; exact big' (by grind) (by decide))
  refine ⟨r, a, b, ?_⟩
  unfold Near at c
  rw [hab, q52'] at c
  have := tiny'
  have := two_pos (-1074)
  refine ⟨?_, ?_, ?_⟩ <;> grind
end Go.Fr
namespace Go.Proofs.YtbakhldjfplbfaaGreat
open Go.RowKit Go.Fl Go.Sl Go.Pg Go.Ch Go.Kf Go.Fr Ieee
theorem vec_ {u v : Nat} {n m : Int} (hu : Z u n) (hv : Z v m) (hn : n.natAbs ≤ 2097152) (hm : m.natAbs ≤ 2097152) : ∃ p q s l, Vec u v p q s l ∧ fin l = true ∧ Len (n * n + m * m) (R l) ∧ n * n + m * m ≤ 8796093022208 := by
  have b1 : (n * n).natAbs ≤ 4398046511104 := by rw [Int.natAbs_mul]; exact Nat.mul_le_mul hn hn
  have b2 : (m * m).natAbs ≤ 4398046511104 := by rw [Int.natAbs_mul]; exact Nat.mul_le_mul hm hm
  have n1 : 0 ≤ n * n := by rcases Int.le_total 0 n with h | h
                            · exact Int.mul_nonneg h h
                            · exact Int.mul_nonneg_of_nonpos_of_nonpos h h
  have n2 : 0 ≤ m * m := by rcases Int.le_total 0 m with h | h
                            · exact Int.mul_nonneg h h
                            · exact Int.mul_nonneg_of_nonpos_of_nonpos h h
  obtain ⟨p, e1, z1⟩ := Z.mul hu hu (by omega)
  obtain ⟨q, e2, z2⟩ := Z.mul hv hv (by omega)
  obtain ⟨s, e3, z3⟩ := Z.add z1 z2 (by omega)
  by_cases h0 : n * n + m * m = 0
  · obtain ⟨l, e4, f, z⟩ := sqrt_zero z3.1 (by rw [z3.2, h0]; rfl)
    exact ⟨p, q, s, l, ⟨e1, e2, e3, e4⟩, f, .inl ⟨h0, z⟩, by omega⟩
  · have h1 : 1 ≤ n * n + m * m := by omega
    have h1r : (1 : Rat) ≤ ((n * n + m * m : Int) : Rat) := by have := Rat.intCast_le_intCast.2 h1; simpa using this
    have h2r : ((n * n + m * m : Int) : Rat) ≤ 8796093022208 := by have := Rat.intCast_le_intCast.2 (show n * n + m * m ≤ 8796093022208 by omega); simpa using this
    obtain ⟨l, e4, f, g1, g2, g3⟩ := sqrt_near z3.1 (by rw [z3.2]; grind) (by rw [z3.2]; exact big' (by grind) (by decide))
    rw [z3.2] at g2 g3
    exact ⟨p, q, s, l, ⟨e1, e2, e3, e4⟩, f, .inr ⟨h1, g1, g2, g3⟩, by omega⟩
/-- a segment, there and back -/
theorem seg_ {p q : Int × Int} (hp : PtOk p) (hq : PtOk q) : ∃ u v a b s l u' v' a' b' s' l', Dst (ptP p).x (ptP p).y (ptP q).x (ptP q).y u v a b s l ∧ Dst (ptP q).x (ptP q).y (ptP p).x (ptP p).y u' v' a' b' s' l' ∧ fin l = true ∧ fin l' = true ∧
    ((R l = 0 ∧ R l' = 0) ∨ (1 / 2 ≤ R l ∧ 1 / 2 ≤ R l' ∧ R l ≤ 3000000 ∧ R l' ≤ 3000000 ∧ ab (R l - R l') ≤ 1 / 134217728)) := by
  obtain ⟨x, y⟩ := p
  obtain ⟨x', y'⟩ := q
  obtain ⟨h1, h2, h3, h4⟩ := hp
  obtain ⟨k1, k2, k3, k4⟩ := hq
  simp only at h1 h2 h3 h4 k1 k2 k3 k4
  simp only [ptP]
  have zx := Z.ofInt x (by omega)
  have zy := Z.ofInt y (by omega)
  have zx' := Z.ofInt x' (by omega)
  have zy' := Z.ofInt y' (by omega)
  obtain ⟨u, d1, u1⟩ := Z.sub zx' zx (by omega)
  obtain ⟨v, d2, v1⟩ := Z.sub zy' zy (by omega)
  obtain ⟨u', d1', u1'⟩ := Z.sub zx zx' (by omega)
  obtain ⟨v', d2', v1'⟩ := Z.sub zy zy' (by omega)
  obtain ⟨a, b, s, l, hV, hf, hL, hle⟩ := vec_ u1 v1 (by omega) (by omega)
  obtain ⟨a', b', s', l', hV', hf', hL', _⟩ := vec_ u1' v1' (by omega) (by omega)
  have e : (x - x') * (x - x') + (y - y') * (y - y') = (x' - x) * (x' - x) + (y' - y) * (y' - y) := by
    rw [show x - x' = -(x' - x) by omega, show y - y' = -(y' - y) by omega, Int.neg_mul_neg, Int.neg_mul_neg]
  rw [e] at hL'
  exact ⟨u, v, a, b, s, l, u', v', a', b', s', l', ⟨d1, d2, hV⟩, ⟨d1', d2', hV'⟩, hf, hf', len_close hle hL hL'⟩
/-- two running lengths -/
structure Inv (i : Nat) (t t' : Nat) : Prop where
  f : fin t = true
  f' : fin t' = true
  p : 0 ≤ R t
  p' : 0 ≤ R t'
  b : R t ≤ (i : Rat) * 4000000
  b' : R t' ≤ (i : Rat) * 4000000
  c : ab (R t - R t') ≤ (i : Rat) * (1 / 1048576)
theorem inv_step {p q : Int × Int} (hp : PtOk p) (hq : PtOk q) {i t t' : Nat} (hi : i ≤ 200) (h : Inv i t t') : ∃ t1 t1', Inv (i + 1) t1 t1' ∧ R t ≤ R t1 ∧
    (∃ u v a b s l, Dst (ptP p).x (ptP p).y (ptP q).x (ptP q).y u v a b s l ∧ floatBits .add .f64 t l = some t1) ∧ (∃ u v a b s l, Dst (ptP q).x (ptP q).y (ptP p).x (ptP p).y u v a b s l ∧ floatBits .add .f64 t' l = some t1') := by
  obtain ⟨u, v, a, b, s, l, u', v', a', b', s', l', hD, hD', hf, hf', hc⟩ := seg_ hp hq
  have hir : (i : Rat) ≤ 200 := by have := nle hi; simpa using this
  have hi0 := nat_nn i
  have hi1 : ((i + 1 : Nat) : Rat) = i + 1 := by simp [Rat.natCast_add]
  obtain ⟨f, f', p0, p0', bb, bb', cc⟩ := h
  rcases hc with ⟨z, z'⟩ | ⟨r1, r2, r3, r4, r5⟩
  · obtain ⟨t1, e1, g1, k1⟩ := add_nothing f hf z
    obtain ⟨t2, e2, g2, k2⟩ := add_nothing f' hf' z'
    refine ⟨t1, t2, ⟨g1, g2, by rw [k1]; exact p0, by rw [k2]; exact p0', by rw [k1, hi1]; grind, by rw [k2, hi1]; grind, by rw [k1, k2, hi1]; grind⟩, by rw [k1]; exact Rat.le_refl, ⟨_, _, _, _, _, _, hD, e1⟩, ⟨_, _, _, _, _, _, hD', e2⟩⟩
  · obtain ⟨t1, e1, g1, k1, m1, w1⟩ := add_len f hf p0 (by grind) r1 r3
    obtain ⟨t2, e2, g2, k2, m2, w2⟩ := add_len f' hf' p0' (by grind) r2 r4
    refine ⟨t1, t2, ⟨g1, g2, by grind, by grind, by rw [hi1]; grind, by rw [hi1]; grind, ?_⟩, k1, ⟨_, _, _, _, _, _, hD, e1⟩, ⟨_, _, _, _, _, _, hD', e2⟩⟩
    rw [hi1]
    have c1 : R t - R t' ≤ i * (1 / 1048576) ∧ R t' - R t ≤ i * (1 / 1048576) := by rcases ab_cases (R t - R t') with ⟨_, e⟩ | ⟨_, e⟩ <;> rw [e] at cc <;> constructor <;> grind
    have c2 : R l - R l' ≤ 1 / 134217728 ∧ R l' - R l ≤ 1 / 134217728 := by rcases ab_cases (R l - R l') with ⟨_, e⟩ | ⟨_, e⟩ <;> rw [e] at r5 <;> constructor <;> grind
    rcases ab_cases (R t1 - R t2) with ⟨_, e⟩ | ⟨_, e⟩ <;> rw [e] <;> grind
theorem grow_ {Iv : Nat → Nat → Nat → Prop} {St : Nat → Nat → Nat → Nat → Nat → Prop} (h0 : Iv 0 0 0) : ∀ m : Nat, (∀ i, i < m → ∀ t t', Iv i t t' → ∃ t1 t1', Iv (i + 1) t1 t1' ∧ St i t t' t1 t1') →
    ∃ tot tot' : Nat → Nat, tot 0 = 0 ∧ tot' 0 = 0 ∧ (∀ i, i ≤ m → Iv i (tot i) (tot' i)) ∧ ∀ i, i < m → St i (tot i) (tot' i) (tot (i + 1)) (tot' (i + 1))
  | 0, _ => by
    refine ⟨fun _ => 0, fun _ => 0, rfl, rfl, fun i h => ?_, fun i h => by omega⟩
    obtain rfl : i = 0 := by omega
    exact h0
  | m + 1, hs => by
    obtain ⟨tot, tot', a, b, c, d⟩ := grow_ h0 m (fun i hi => hs i (by omega))
    obtain ⟨t1, t1', e, f⟩ := hs m (by omega) _ _ (c m (by omega))
    refine ⟨fun i => if i ≤ m then tot i else t1, fun i => if i ≤ m then tot' i else t1', by simp [a], by simp [b], fun i hi => ?_, fun i hi => ?_⟩
    · by_cases h : i ≤ m
      · simp only [if_pos h]; exact c i h
      · obtain rfl : i = m + 1 := by omega
        simp only [if_neg h]; exact e
    · by_cases h : i + 1 ≤ m
      · simp only [if_pos h, if_pos (show i ≤ m by omega)]; exact d i (by omega)
      · obtain rfl : i = m := by omega
        simp only [if_neg h, if_pos (Nat.le_refl i)]; exact f
theorem runs_ (pts : List (Int × Int)) (m : Nat) (hm : pts.length = m + 1) (h2 : m ≤ 199) (hp : ∀ p ∈ pts, PtOk p) :
    ∃ tot tot' : Nat → Nat, Run (pts.map ptP) tot ∧ RunB (pts.map ptP) tot' ∧ (∀ i, i ≤ m → fin (tot i) = true) ∧ (∀ i, i < m → R (tot i) ≤ R (tot (i + 1))) ∧ fin (tot' m) = true ∧ ab (R (tot m) - R (tot' m)) ≤ 1 / 4096 := by
  obtain ⟨z1, z2⟩ := R_zero false 0
  have z0 : double.nearest false 0 0 = 0 := by decide +kernel
  rw [z0] at z1 z2
  have h0 : Inv 0 0 0 := ⟨z1, z1, by rw [z2]; exact Rat.le_refl, by rw [z2]; exact Rat.le_refl, by rw [z2]; simp, by rw [z2]; simp, by rw [z2]; decide +kernel⟩
  obtain ⟨tot, tot', a, b, c, d⟩ := grow_ (Iv := Inv) (St := fun i t t' t1 t1' => ∀ (h : i + 1 < pts.length), R t ≤ R t1 ∧
    (∃ u v a b s l, Dst (ptP pts[i]).x (ptP pts[i]).y (ptP pts[i + 1]).x (ptP pts[i + 1]).y u v a b s l ∧ floatBits .add .f64 t l = some t1) ∧ (∃ u v a b s l, Dst (ptP pts[i + 1]).x (ptP pts[i + 1]).y (ptP pts[i]).x (ptP pts[i]).y u v a b s l ∧ floatBits .add .f64 t' l = some t1')) h0 m
    (fun i hi t t' hI => by
      have hl : i + 1 < pts.length := by omega
      obtain ⟨t1, t1', g, g1, g2, g3⟩ := inv_step (hp _ (List.getElem_mem (show i < pts.length by omega))) (hp _ (List.getElem_mem hl)) (by omega) hI
      exact ⟨t1, t1', g, fun _ => ⟨g1, g2, g3⟩⟩)
  refine ⟨tot, tot', ⟨a, fun i h => ?_⟩, ⟨b, fun i h => ?_⟩, fun i hi => (c i hi).f, fun i hi => (d i hi (by omega)).1, (c m (by omega)).f', ?_⟩
  · obtain ⟨u, v, p, q, s, l, hD, hA⟩ := (d i (by simp at h; omega) (by simpa using h)).2.1
    refine ⟨u, v, p, q, s, l, ?_, hA⟩
    simpa using hD
  · obtain ⟨u, v, p, q, s, l, hD, hA⟩ := (d i (by simp at h; omega) (by simpa using h)).2.2
    refine ⟨u, v, p, q, s, l, ?_, hA⟩
    simpa using hD
  · have := (c m (by omega)).c
    have hmr : (m : Rat) ≤ 199 := by have := nle h2; simpa using this
    grind
theorem Run.take {ps : List Pl} {tot : Nat → Nat} (h : Run ps tot) (k : Nat) : Run (ps.take k) tot := ⟨h.t0, fun i hi => by
  have hi2 : i + 1 < ps.length := by simp at hi; omega
  obtain ⟨u, v, p, q, s, l, hD, hA⟩ := h.step i hi2
  refine ⟨u, v, p, q, s, l, ?_, hA⟩
  simpa using hD⟩
/-- the difference, its size -/
theorem near_end {x y : Nat} (hx : fin x = true) (hy : fin y = true) (hc : ab (R x - R y) ≤ 1 / 4096) : ∃ d, floatBits .sub .f64 x y = some d ∧ fin d = true ∧ ab (R d) ≤ 1 / 2048 := by
  obtain ⟨d, a, b, c⟩ := sub_near hx hy (big' (by grind) (by decide))
  refine ⟨d, a, b, ?_⟩
  unfold Near at c
  rw [q52'] at c
  have := tiny'
  rcases ab_cases (R x - R y) with ⟨_, e⟩ | ⟨_, e⟩ <;> rw [e] at c hc <;> rcases ab_cases (R d) with ⟨_, e2⟩ | ⟨_, e2⟩ <;> rw [e2] <;> grind
end Go.Proofs.YtbakhldjfplbfaaGreat
set_option linter.unusedVariables false
set_option linter.unusedSimpArgs false
namespace Go.Fr
open Ieee Go.Fl Go.Fw
theorem word_lt (neg : Bool) (r : Nat) (h : r < 9223372036854775808) : double.word neg r < 18446744073709551616 := by
  unfold Format.word
  rw [sw]
  cases neg <;> simp <;> omega
theorem write_lt (d : Datum) : double.write d < 18446744073709551616 := by
  cases d with
  | number neg mag place =>
    show double.nearest neg mag place < _
    unfold Format.nearest
    split
    · exact word_lt neg 0 (by decide)
    · simp only [inf]
      exact word_lt _ _ (by omega)
  | infinity neg => exact word_lt _ _ (by rw [inf]; omega)
  | nan neg f =>
    show double.word neg (double.infRung + f % double.binade) < _
    simp only [inf, bin]
    exact word_lt _ _ (by omega)
theorem sub_lt {x y r : Nat} (h : floatBits .sub .f64 x y = some r) : r < 18446744073709551616 := by
  simp only [floatBits, Format.sub, FloatKind.format] at h
  obtain ⟨d, _, rfl⟩ := Option.map_eq_some_iff.1 h
  exact write_lt d
/-- the word without its sign -/
theorem abs_R {x : Nat} (hx : fin x = true) : fin (x % 9223372036854775808) = true ∧ R (x % 9223372036854775808) = ab (R x) := by
  obtain ⟨s, m, e, h⟩ := fin_read hx
  have h' : double.read (x % 9223372036854775808) = .number false m e := by
    unfold Format.read at h ⊢
    simp only [sw, bin, inf, lp] at h ⊢
    have e1 : x % 9223372036854775808 % 9223372036854775808 = x % 9223372036854775808 := Nat.mod_mod _ _
    have e2 : x % 9223372036854775808 / 9223372036854775808 % 2 = 0 := by omega
    simp only [e1, e2]
    split at h
    · rename_i hc
      rw [if_pos hc]
      injection h with _ h2 h3
      subst h2 h3
      rfl
    · rename_i hc
      split at h
      · rename_i hc2
        rw [if_neg hc, if_pos hc2]
        injection h with _ h2 h3
        subst h2 h3
        rfl
      · exfalso; revert h; by_cases hh : x % 9223372036854775808 = 9218868437227405312 <;> simp [hh]
  refine ⟨fin_num h', ?_⟩
  rw [R_num h', R_num h]
  have := mul_nn (nat_nn m) (Rat.le_of_lt (two_pos e))
  rw [(sgn_mul (Rat.le_of_lt (two_pos e)) (rfl : ((sg s m : Int) : Rat) * two e = _)).1, sgR]
  simp
end Go.Fr
namespace Go.Proofs.YtbakhldjfplbfaaGreat
open Go.RowKit Go.Fl Go.Sl Go.Pg Go.Ch Go.Kf Go.Fr
theorem ext_bits (x : Nat) (w : World) : (callFunc 61 #[.float .f64 x]).run Tryz.prog w = .ok (.value (.int .u64 x)) w := by
  rw [run_callFunc_extern (e := Extern.MathFloatBits.float64bits) Tryz.func61 (by kernel_rfl) (by kernel_rfl) (by kernel_rfl) (by kernel_rfl)]
  rfl
theorem ext_from (x : Nat) (w : World) : (callFunc 60 #[.int .u64 x]).run Tryz.prog w = .ok (.value (.float .f64 x)) w := by
  rw [run_callFunc_extern (e := Extern.MathFloatBits.float64frombits) Tryz.func60 (by kernel_rfl) (by kernel_rfl) (by kernel_rfl) (by kernel_rfl)]
  rfl
theorem off_sign (x : Nat) (hx : x < 18446744073709551616) : bits .andNot .u64 (x : Int) 9223372036854775808 = ((x % 9223372036854775808 : Nat) : Int) := by
  rw [u64_andNot _ _ (by omega) (by omega) (by omega) (by omega)]
  have : x &&& 9223372036854775807 = x % 9223372036854775808 := Nat.and_two_pow_sub_one_eq_mod x 63
  simp [this]
set_option maxRecDepth 100000 in
theorem mabs_ (x : Nat) (hx : x < 18446744073709551616) (w : World) : Calls Tryz.prog 33 #[.float .f64 x] w (One w (.float .f64 (x % 9223372036854775808))) := by
  have h1 := ext_bits x
  have h2 : ∀ w, (callFunc 60 #[.int .u64 ((x : Int) % 9223372036854775808)]).run Tryz.prog w = .ok (.value (.float .f64 (x % 9223372036854775808))) w := fun w => by rw [show ((x : Int) % 9223372036854775808) = ((x % 9223372036854775808 : Nat) : Int) by omega]; exact ext_from _ w
  have h3 := off_sign x hx
  go_enter Tryz.func33, Tryz.ntmps33
  go_wp2
  go_ret
  exact ⟨rfl, by with_reducible (repeat (first | exact Kx.r _ | assumption | refine Kx.a ?_ _ | refine Kx.d ?_ | refine Kx.e ?_ _ | (refine Kx.s ?_ ?_ _; focus (first | (simp; done) | (simp; omega))) | refine Kx.t ?_ (by assumption)))⟩
end Go.Proofs.YtbakhldjfplbfaaGreat
set_option linter.unusedVariables false
set_option linter.unusedSimpArgs false
namespace Go.Proofs.YtbakhldjfplbfaaGreat
open Go.RowKit Go.Fl Go.Sl Go.Pg Go.Ch Go.Kf Go.Fr
theorem flat_take {α : Type} (f : α → List Value) (k : Nat) (hf : ∀ a, (f a).length = k) : ∀ (l : List α) (m : Nat), (l.flatMap f).take (m * k) = (l.take m).flatMap f
  | [], m => by simp
  | x :: l, 0 => by simp
  | x :: l, m + 1 => by
    rw [List.take_succ_cons, List.flatMap_cons, List.flatMap_cons, List.take_append, hf, show (m + 1) * k - k = m * k by rw [Nat.add_mul]; omega, flat_take f k hf l m, List.take_of_length_le (by rw [hf, Nat.add_mul]; omega)]
/-- the running lengths' k-th number, where they stand -/
theorem tot_cell {w : World} {fb m : Nat} {tot : Nat → Nat} (h : Sz w (some ⟨fb, 0, none⟩) m m 1 (encN ((List.range m).map fun i => tot (i + 1)))) {i : Nat} (hi : i < m) : w.cell? ⟨fb, i, none⟩ = some (.float .f64 (tot (i + 1))) := by
  obtain ⟨b, off, e, hb, hc⟩ := h.elem hi
  cases e
  have := hc 0 _ (by omega) (encN_get ((List.range m).map fun i => tot (i + 1)) i (by simpa using hi))
  simpa using this
theorem made_row (pts : List (Int × Int)) (h : pts.length ≤ 200) : PgNum 1000 (.node 2 0 (pts.map ptP) []) := .mk _ _ _ _ (by simp [show wid 0 = 2 from rfl]; omega) (by simp) (by simp)
theorem norm_row (pts : List (Int × Int)) : ∀ q ∈ pts.map ptP, q.norm 0 := fun q hq => by obtain ⟨r, _, rfl⟩ := List.mem_map.1 hq; exact ptP_norm r
/-- a row's running lengths, asked from its plain data -/
theorem runOf_ (a : Option Addr) (n cap : Nat) (pts : List (Int × Int)) (w : World) (tot : Nat → Nat) (m : Nat) (hn : pts.length = n) (h : Sz w a n cap 2 (pts.flatMap ptCells)) (h2 : n ≤ 200) (hp : ∀ p ∈ pts, PtOk p) (hm : n = m + 1) (hR : Run (pts.map ptP) tot) :
    Calls Tryz.prog 32 #[.slice a n cap] w (fun e w2 => ∃ k d na nn nc ka kn kc, e = .returned (.agg #[.int .i64 k, .int .i64 d, .slice na nn nc, .slice ka kn kc]) ∧ Stab.Keeps w w2 ∧ ∀ w3, Stab.Keeps w2 w3 → Calls Tryz.prog 31 #[.agg #[.int .i64 k, .int .i64 d, .slice na nn nc, .slice ka kn kc]] w3 (RunPost w3 m tot)) := by
  refine (lineOf_ a n cap pts w hn h h2 hp).mono ?_
  rintro e w2 ⟨cs, rfl, hk, hx⟩
  obtain ⟨zk, zd, zna, znn, znc, zka, zkn, zkc, rfl⟩ := hx.four
  refine ⟨_, _, _, _, _, _, _, _, rfl, hk, fun w3 hk3 => ?_⟩
  exact implRun_ _ _ m tot w3 (gmS.kf hx (KF.keeps hk3)) (made_row pts (by omega)) (norm_row pts) (by rw [List.length_map]; omega) hR
theorem lenOf_ (a : Option Addr) (n cap : Nat) (pts : List (Int × Int)) (w : World) (tot : Nat → Nat) (m : Nat) (hn : pts.length = n) (h : Sz w a n cap 2 (pts.flatMap ptCells)) (h2 : n ≤ 200) (hp : ∀ p ∈ pts, PtOk p) (hm : n = m + 1) (hR : RunB (pts.map ptP) tot) :
    Calls Tryz.prog 32 #[.slice a n cap] w (fun e w2 => ∃ k d na nn nc ka kn kc, e = .returned (.agg #[.int .i64 k, .int .i64 d, .slice na nn nc, .slice ka kn kc]) ∧ Stab.Keeps w w2 ∧ ∀ w3, Stab.Keeps w2 w3 → Calls Tryz.prog 34 #[.agg #[.int .i64 k, .int .i64 d, .slice na nn nc, .slice ka kn kc]] w3 (One w3 (.float .f64 (tot m)))) := by
  refine (lineOf_ a n cap pts w hn h h2 hp).mono ?_
  rintro e w2 ⟨cs, rfl, hk, hx⟩
  obtain ⟨zk, zd, zna, znn, znc, zka, zkn, zkc, rfl⟩ := hx.four
  refine ⟨_, _, _, _, _, _, _, _, rfl, hk, fun w3 hk3 => ?_⟩
  exact implLen_ _ _ m tot w3 (gmS.kf hx (KF.keeps hk3)) (made_row pts (by omega)) (norm_row pts) (by rw [List.length_map]; omega) hR
theorem rd_1024 : Ieee.double.read 4562146422526312448 = .number false 4503599627370496 (-62) := by decide +kernel
theorem R_1024 : fin 4562146422526312448 = true ∧ R 4562146422526312448 = 1 / 1024 := by
  refine ⟨fin_num rd_1024, ?_⟩
  rw [R_num rd_1024]; decide +kernel
set_option maxRecDepth 100000 in
set_option maxHeartbeats 4000000 in
theorem splitLaw_ (a : Option Addr) (n cap : Nat) (pts : List (Int × Int)) (kk : Int) (w : World) (hn : pts.length = n) (h : Sz w a n cap 2 (pts.flatMap ptCells)) : Calls Tryz.prog 7 #[.slice a n cap, .int .i64 kk] w (LawPost w) := by
  have hL := fun w' (hk : Stab.Keeps w w') => lined_ a n cap pts w' hn (h.keep hk)
  have hle := h.le
  have hmx := h.max
  unfold maxLen at hmx
  by_cases c1 : (2147483647 : Int) < n
  · clear h hL
    go_enter Tryz.func7, Tryz.ntmps7
    go_wp2_with fail
    go_ret
    exact ⟨rfl, by with_reducible (repeat (first | exact Kx.r _ | assumption | refine Kx.a ?_ _ | refine Kx.d ?_ | refine Kx.e ?_ _ | (refine Kx.s ?_ ?_ _; focus (first | (simp; done) | (simp; omega))) | refine Kx.t ?_ (by assumption)))⟩
  go_enter Tryz.func7, Tryz.ntmps7
  go_wp2_with fail
  refine (hL _ (by with_reducible (repeat (first | exact Kx.r _ | assumption | refine Kx.a ?_ _ | refine Kx.d ?_ | refine Kx.e ?_ _ | (refine Kx.s ?_ ?_ _; focus (first | (simp; done) | (simp; omega))) | refine Kx.t ?_ (by assumption))))).mono ?_
  clear hL
  rintro e w2 ⟨⟨v, rfl, hv⟩, hk2⟩
  cases v with
  | false =>
    go_wp2_with fail
    go_ret
    exact ⟨rfl, hk2⟩
  | true =>
    obtain ⟨h2, hp⟩ := hv rfl
    by_cases k1 : kk < 1
    · have hd : decide (kk < 1) = true := by simpa using k1
      clear h hp hv
      go_wp2_with fail
      go_ret
      exact ⟨rfl, hk2⟩
    have hd1 : decide (kk < 1) = false := by simpa using k1
    by_cases k2 : (n : Int) < kk
    · have hd : decide ((n : Int) < kk) = true := by simpa using k2
      clear h hp hv
      go_wp2_with fail
      go_ret
      exact ⟨rfl, hk2⟩
    have hd2 : decide ((n : Int) < kk) = false := by simpa using k2
    obtain ⟨k, rfl⟩ : ∃ k : Nat, kk = k := ⟨kk.toNat, by omega⟩
    obtain ⟨m, rfl⟩ : ∃ m, n = m + 1 := ⟨n - 1, by omega⟩
    obtain ⟨j, rfl⟩ : ∃ j, k = j + 1 := ⟨k - 1, by omega⟩
    obtain ⟨tot, tot', hR, hRB, hfin, hmono, hfin', hclose⟩ := runs_ pts m hn (by omega) hp
    obtain ⟨d, hsub, hfd, hd⟩ := near_end (hfin m (by omega)) hfin' hclose
    have hRa := fun w' (hk : Stab.Keeps w w') => runOf_ a (m + 1) cap pts w' tot m hn (h.keep hk) h2 hp rfl hR
    have hLe := fun w' (hk : Stab.Keeps w w') => lenOf_ a (m + 1) cap pts w' tot' m hn (h.keep hk) h2 hp rfl hRB
    have hz2 := h.take (j + 1) (by omega)
    rw [flat_take ptCells 2 ptCells_len] at hz2
    have hRs : ∀ w' (hk : Stab.Keeps w w'), _ := fun w' hk => runOf_ a (j + 1) cap (pts.take (j + 1)) w' tot j (by rw [List.length_take]; omega) (hz2.keep hk) (by omega) (fun p hp' => hp p (List.mem_of_mem_take hp')) rfl (by rw [List.map_take]; exact hR.take _)
    have hAb := mabs_ d (sub_lt hsub)
    obtain ⟨hfa, hRa'⟩ := abs_R hfd
    have hlast : (FloatKind.f64.format.order (d % 9223372036854775808) 4562146422526312448 == some Ordering.lt) = true := by
      have := lt_val hfa R_1024.1
      unfold Fl.lt at this
      rw [this, hRa', R_1024.2]
      simp
      grind
    have ht0 := hR.t0
    have heq0 : FloatKind.f64.format.order (tot 0) 0 = some Ordering.eq := by rw [ht0]; exact order_zero
    have HEQ0 := Lib.hid heq0
    clear heq0 ht0
    clear hz2 h hR hRB hp hn hv hclose hfd hd hRa' hfa
    generalize d % 9223372036854775808 = ad at *
    have hle2 : j ≤ m := by omega
    clear h2 k1 k2
    have HLAST := Lib.hid hlast
    have HSUB := Lib.hid hsub
    have HFIN := Lib.hid hfin
    have HMONO := Lib.hid hmono
    clear c1 hlast hsub hd1 hd2 hfin hmono hfin'
    have hd1 : decide ((j : Int) + 1 < 1) = false := by simp; omega
    have hd2 : decide ((m : Int) + 1 < (j : Int) + 1) = false := by simp; omega
    go_wp2_with fail
    refine (hRa _ hk2).mono ?_
    clear hRa
    rintro e w3 ⟨xk, xd, xna, xnn, xnc, xka, xkn, xkc, rfl, hk3, hC⟩
    go_wp2_with fail
    refine (hC _ (Stab.Keeps.refl _)).mono ?_
    clear hC
    rintro e w4 ⟨fb, rfl, hk4, hz4⟩
    have hkw4 := Stab.Keeps.trans hk2 (Stab.Keeps.trans hk3 hk4)
    clear hk2 hk3 hk4
    go_wp2_with fail
    refine (hRs _ hkw4).mono ?_
    clear hRs
    rintro e w5 ⟨yk, yd, yna, ynn, ync, yka, ykn, ykc, rfl, hk5, hC⟩
    go_wp2_with fail
    refine (hC _ (Stab.Keeps.refl _)).mono ?_
    clear hC
    rintro e w6 ⟨fs, rfl, hk6, hz6⟩
    have hkw6 := Stab.Keeps.trans hkw4 (Stab.Keeps.trans hk5 hk6)
    have hz46 := hz4.keep (Stab.Keeps.trans hk5 hk6)
    clear hz4 hkw4 hk5 hk6
    have hw1 : wrap64 ((m : Int) + 1 - 1) = m := by have := IntWalk.wrap64_in ((m : Int) + 1 - 1) (by omega); rw [this]; omega
    have hw2 : wrap64 ((j : Int) + 1 - 1) = j := by have := IntWalk.wrap64_in ((j : Int) + 1 - 1) (by omega); rw [this]; omega
    go_wp2_with fail
    go_loopw [68] (fun iv wr => ∃ i : Nat, i ≤ j ∧ iv = .int .i64 i ∧ Stab.Keeps w6 wr) (fun iv _ => j - (intOf iv).toNat)
    case atStart => exact ⟨0, by omega, rfl, Stab.Keeps.refl _⟩
    case round =>
      obtain ⟨i, hij, rfl, hK⟩ := hrel
      by_cases hlt : i < j
      · have c4 := tot_cell (hz46.keep hK) (show i < m by omega)
        have c6 := tot_cell (hz6.keep hK) hlt
        have hfi := HFIN.out (i + 1) (by omega)
        have heq : FloatKind.f64.format.order (tot (i + 1)) (tot (i + 1)) = some Ordering.eq := by
          have := eq_val hfi hfi
          unfold Fl.eq at this
          simpa using this
        rcases Nat.eq_zero_or_pos i with h0 | h0
        · subst h0
          rw [Nat.zero_add] at heq c4 c6
          have hg0 : decide ((0 : Int) < ((0 : Nat) : Int)) = false := rfl
          go_wp2_with fail
          exact ⟨⟨0 + 1, by omega, by go_num, hK⟩, by simp [intOf]; omega⟩
        · obtain ⟨q, rfl⟩ : ∃ q, i = q + 1 := ⟨i - 1, by omega⟩
          have c6' := tot_cell (hz6.keep hK) (show q < j by omega)
          have hfq := HFIN.out (q + 1) (by omega)
          have hup : (FloatKind.f64.format.order (tot (q + 1 + 1)) (tot (q + 1)) == some Ordering.lt) = false := by
            have := lt_val hfi hfq
            unfold Fl.lt at this
            rw [this]
            have := HMONO.out (q + 1) (by omega)
            have h3 : ¬ R (tot (q + 1 + 1)) < R (tot (q + 1)) := by grind
            simp [h3]
          have hw3 : wrap64 ((q : Int) + 1 - 1) = q := by have := IntWalk.wrap64_in ((q : Int) + 1 - 1) (by omega); rw [this]; omega
          have hgq : decide ((0 : Int) < (q : Int) + 1) = true := by simp <;> omega
          go_wp2_with fail
          exact ⟨⟨q + 1 + 1, by omega, by go_num, hK⟩, by first | (simp [intOf]; done) | (simp [intOf]; omega)⟩
      · obtain rfl : j = i := by omega
        have hkw := Stab.Keeps.trans hkw6 hK
        clear hz46
        rcases Nat.eq_zero_or_pos j with h0 | h0
        · subst h0
          clear hz6
          have heq0 := HEQ0.out
          go_wp2_with fail
          refine (hLe _ hkw).mono ?_
          clear hLe
          rintro e w7 ⟨vk, vd, vna, vnn, vnc, vka, vkn, vkc, rfl, hk7, hC⟩
          have v1 := fun w => opV_some HSUB.out w
          have n1 := opN_some HSUB.out
          have hz := World.drewN_zero
          have hlast := HLAST.out
          have hkw7 := Stab.Keeps.trans hkw hk7
          clear hkw hk7
          go_wp2_with fail
          refine (hC _ (Stab.Keeps.refl _)).mono ?_
          clear hC
          rintro e w8 ⟨rfl, hk8⟩
          go_wp2_with fail
          refine (hAb _).mono ?_
          clear hAb
          rintro e w9 ⟨rfl, hk9⟩
          go_wp2_with fail
          go_ret
          exact ⟨rfl, Stab.Keeps.trans hkw7 (by with_reducible (repeat (first | exact Kx.r _ | assumption | refine Kx.a ?_ _ | refine Kx.d ?_ | refine Kx.e ?_ _ | (refine Kx.s ?_ ?_ _; focus (first | (simp; done) | (simp; omega))) | refine Kx.t ?_ (by assumption))))⟩
        · obtain ⟨p, rfl⟩ : ∃ p, j = p + 1 := ⟨j - 1, by omega⟩
          have c6 := tot_cell (hz6.keep hK) (show p < p + 1 by omega)
          have hfi := HFIN.out (p + 1) (by omega)
          have heq : FloatKind.f64.format.order (tot (p + 1)) (tot (p + 1)) = some Ordering.eq := by
            have := eq_val hfi hfi
            unfold Fl.eq at this
            simpa using this
          have hw3 : wrap64 ((p : Int) + 1 + 1 - 2) = p := by have := IntWalk.wrap64_in ((p : Int) + 1 + 1 - 2) (by omega); rw [this]; omega
          have hg1 : (((p : Int) + 1 + 1) == 1) = false := by simp; omega
          have hg2 : decide ((1 : Int) < (p : Int) + 1 + 1) = true := by simp; omega
          clear hz6
          go_wp2_with fail
          refine (hLe _ hkw).mono ?_
          clear hLe
          rintro e w7 ⟨vk, vd, vna, vnn, vnc, vka, vkn, vkc, rfl, hk7, hC⟩
          have v1 := fun w => opV_some HSUB.out w
          have n1 := opN_some HSUB.out
          have hz := World.drewN_zero
          have hlast := HLAST.out
          have hkw7 := Stab.Keeps.trans hkw hk7
          clear hkw hk7
          go_wp2_with fail
          refine (hC _ (Stab.Keeps.refl _)).mono ?_
          clear hC
          rintro e w8 ⟨rfl, hk8⟩
          go_wp2_with fail
          refine (hAb _).mono ?_
          clear hAb
          rintro e w9 ⟨rfl, hk9⟩
          go_wp2_with fail
          go_ret
          exact ⟨rfl, Stab.Keeps.trans hkw7 (by with_reducible (repeat (first | exact Kx.r _ | assumption | refine Kx.a ?_ _ | refine Kx.d ?_ | refine Kx.e ?_ _ | (refine Kx.s ?_ ?_ _; focus (first | (simp; done) | (simp; omega))) | refine Kx.t ?_ (by assumption))))⟩
end Go.Proofs.YtbakhldjfplbfaaGreat
set_option linter.unusedVariables false
set_option linter.unusedSimpArgs false
namespace Go.Proofs.YtbakhldjfplbfaaGreat
open Go.ChangeShapes Go.WideShapes Go.ChangeAt Go.Op2 Go.RowKit Go.Sl
set_option maxRecDepth 100000 in
theorem cPtW : Tryz.prog.cellsOf 44 = 2 := by kernel_rfl
theorem list2W {l : List Value} (h : l.length = 2) : ∃ a b, l = [a, b] := by
  match l, h with
  | [a, b], _ => exact ⟨a, b, rfl⟩
set_option maxRecDepth 100000 in
theorem open_ptsV {H : Type} {enc : TypeId × Value → H} {W : World} {base b2 : Nat} {sp : Nat → Bool} {hd : Bool} {r : Reach} {v : Value} {d : DataW H} {p : List MemPlace}
    (o : Value.okWide Tryz.prog W r base 31 v) (h : DataW.Trod enc Tryz.prog W b2 sp hd 31 v d p) : ∃ a n cap, v = .slice a n cap ∧ ∃ l : List (Int × Int), l.length = n ∧ Sz W a n cap 2 (l.flatMap ptCells) := by
  obtain ⟨a, n, cap, rfl⟩ := okWide_slice Tryz.underlying31 o
  obtain ⟨fuel, hf⟩ := h
  obtain ⟨a', n', cap', h1, xs, hS, _, m, _, es, hle, hxe, hm⟩ := trod_rowsS (by decide) Tryz.underlying31 cPtW hf
  simp [Value.cells] at h1
  obtain ⟨rfl, rfl, rfl⟩ := h1
  refine ⟨a, n, cap, rfl, ?_⟩
  obtain ⟨l, h1, h2⟩ := chunks (α := Int × Int) ptCells 2 (fun _ => rfl) n xs hS.len (fun i hi => by
    obtain ⟨y, _, hy⟩ := hm i hi
    obtain ⟨hl, m2, hm2, hf⟩ := trod_structF Tryz.underlying44 cPtW hy
    obtain ⟨c0, c1, e⟩ := list2W hl
    rw [e] at hf
    obtain ⟨y0, g0⟩ := hf 0 _ rfl
    obtain ⟨y1, g1⟩ := hf 1 _ rfl
    simp [cInt] at g0 g1
    obtain ⟨p, e0, _⟩ := trod_int' Tryz.underlying3 g0
    obtain ⟨q, e1, _⟩ := trod_int' Tryz.underlying3 g1
    injection e0 with e0
    injection e1 with e1
    subst e0 e1
    exact ⟨(p, q), e⟩)
  rw [h2] at hS
  exact ⟨l, h1, hS⟩
namespace fnRunSplit
set_option maxRecDepth 100000 in
theorem walkT {H : Type} (enc : TypeId × Value → H) (W : World) (base : Nat) {v0 v1 : Value} {d0 d1 : DataW H} {p0 p1 : List MemPlace}
    (o0 : Value.okWide Tryz.prog W .any base 31 v0) (o1 : Value.okWide Tryz.prog W .any base 3 v1)
    (h0 : DataW.Trod enc Tryz.prog W 0 (fun _ => true) true 31 v0 d0 p0) (h1 : DataW.Trod enc Tryz.prog W 0 (fun _ => true) true 3 v1 d1 p1) :
    Calls Tryz.prog 7 #[v0, v1] W (LawPost W) := by
  obtain ⟨a, n, cap, rfl, l, hl, hS⟩ := open_ptsV o0 h0
  obtain ⟨k, rfl, _⟩ := open_int Tryz.underlying3 o1 h1
  exact splitLaw_ a n cap l k W hl hS
end fnRunSplit
end Go.Proofs.YtbakhldjfplbfaaGreat
