/-
  The laws of trees: what a card of theirs wants. No condition.
  FnTreePlay: the arguments opened, the row's proof out of the walk, the tied card. No condition beyond the row's own.
-/
import Derived.Test.YtokofimfinhnbaaDoorRows
import Derived.Test.YtokofimfinhnbaaDoorCards
import Derived.Test.YtokofimfinhnbaaDoorTie
import Derived.Test.YtokofimfinhnbaaDoorGh
import Derived.Test.YtokofimfinhnbaaDoorOpRows2
import Derived.WalkKit
import Derived.ProofKit
import Derived.OpenShut
import Derived.ShutString
import Derived.ChangeOld
import Derived.Below
import Derived.ChangeSame
import Derived.ChangeVars
import Derived.JoinedOf
import Derived.RowKit
import Derived.RowKitTokens
import Derived.LaidLaws
import Derived.Stop.ErrReads
import Derived.Stop.LaidErr
import Derived.SevenTiedAt
import Derived.Test.YtokofimfinhnbaaDoorGi
namespace Go.Proofs.YtokofimfinhnbaaDoor.tree
open Go.ChangeShapes Go.WideShapes Go.ChangeAt Go.RowKit Go.Op2 Go.Sl

theorem own : ownKnob Tryd.prog.godebug = none := by kernel_rfl
theorem laidOut : laidOutB Tryd.prog = true := by kernel_rfl
theorem gStop : Tryd.prog.globalNamed "pub-eidograph/pub/simplefeatures/rtree.Stop" = some 0 := by kernel_rfl
theorem gType : (Tryd.prog.globals[0]?).map (·.type) = some 62 := by kernel_rfl
theorem cellsF : Tryd.prog.cellsOf 26 = 1 := by kernel_rfl
theorem cellsI : Tryd.prog.cellsOf 3 = 1 := by kernel_rfl
theorem cellsBox : Tryd.prog.cellsOf 28 = 4 := by kernel_rfl
theorem cellsItem : Tryd.prog.cellsOf 32 = 5 := by kernel_rfl
theorem cellsStr : Tryd.prog.cellsOf 9 = 1 := by kernel_rfl
theorem cellsErr : Tryd.prog.cellsOf 157 = 1 := by kernel_rfl
theorem star : "*" ++ "errors.errorString" = "*errors.errorString" := by decide
theorem rowErr (u : TypeId) (h : Tryd.prog.typeName? 3 u = some "*errors.errorString") : u = 132 :=
  typeName_ptr_named (nm := "errors.errorString") (by rw [star]; kernel_rfl) (by kernel_rfl) (by decide) u (by rw [star]; exact h)

/-- the row's list -/
def lst : List (String × DataW Unit) := [("pub-eidograph/pub/simplefeatures/rtree.Stop", Rows.laid_pub_eidograph_pub_simplefeatures_rtree_Stop)]
theorem stop_of_laid {W : World} (h : laidMetH Tryd.prog lst W) : StopAt W := by
  have h' : laidMet Tryd.prog lst W := h
  obtain ⟨a, s, hv, _, _, _⟩ := laid_sentinel h' gStop gType Tryd.underlying62 rowErr Tryd.underlying132 Tryd.underlying157 rfl rfl Tryd.underlying9 cellsErr cellsStr
  exact ⟨_, a, by simpa using World.var?_cell gStop hv 0⟩
theorem stopE_of_laid {W : World} (h : laidMetH Tryd.prog lst W) : ∃ st, StopE st W := by
  have h' : laidMet Tryd.prog lst W := h
  obtain ⟨a, s, hv, _, _, _⟩ := laid_sentinel h' gStop gType Tryd.underlying62 rowErr Tryd.underlying132 Tryd.underlying157 rfl rfl Tryd.underlying9 cellsErr cellsStr
  exact ⟨a, by unfold StopE; simpa using World.var?_cell gStop hv 0⟩
theorem cellsAsk : Tryd.prog.cellsOf 30 = 7 := by kernel_rfl
theorem list7 {α : Type} {l : List α} (h : l.length = 7) : ∃ a b c d e f g, l = [a, b, c, d, e, f, g] := by match l, h with | [a, b, c, d, e, f, g], _ => exact ⟨a, b, c, d, e, f, g, rfl⟩
noncomputable def low : Nat := (World.holding Tryd.prog default ⟨#[], #[], []⟩).heap.size
/-- a world that meets the condition -/
noncomputable def laidWorld (os : Os) : World :=
  let w0 := World.holding Tryd.prog os ⟨#[.cells #[.string { data := #[115, 116, 111, 112] }] 157], #[], []⟩
  { w0 with heap := w0.heap.modify 0 fun
      | .cells _ t frozen => .cells #[.iface 132 (.pointer (some ⟨low, 0, none⟩))] t frozen
      | o => o }
set_option maxRecDepth 100000 in
theorem laidWorld_met (os : Os) (args : Array Value) : laidMetH Tryd.prog lst ((laidWorld os).forCall (fun _ _ => 0) ⟨#[], args, []⟩).memory :=
  show laidMet Tryd.prog lst _ from laidMet_of_run (ps := [.cell 0 0, .cell low 0]) 8 (by kernel_rfl) (by kernel_rfl) (by kernel_rfl)

set_option maxRecDepth 100000 in
theorem open_box {H : Type} {enc : TypeId × Value → H} {W : World} {base b2 : Nat} {sp : Nat → Bool} {hd : Bool} {r : Reach} {v : Value} {d : DataW H} {p : List MemPlace}
    (o : Value.okWide Tryd.prog W r base 28 v) (h : DataW.Trod enc Tryd.prog W b2 sp hd 28 v d p) : ∃ x : B4, v = x.val := by
  obtain ⟨cs, rfl, hl, m, hf⟩ := open_struct Tryd.underlying28 cellsBox o h
  obtain ⟨c0, c1, c2, c3, rfl⟩ := list4 hl
  obtain ⟨y0, g0⟩ := hf 0 _ rfl
  obtain ⟨y1, g1⟩ := hf 1 _ rfl
  obtain ⟨y2, g2⟩ := hf 2 _ rfl
  obtain ⟨y3, g3⟩ := hf 3 _ rfl
  simp [cellsF] at g0 g1 g2 g3
  obtain ⟨a0, e0, _⟩ := trod_float Tryd.underlying26 g0
  obtain ⟨a1, e1, _⟩ := trod_float Tryd.underlying26 g1
  obtain ⟨a2, e2, _⟩ := trod_float Tryd.underlying26 g2
  obtain ⟨a3, e3, _⟩ := trod_float Tryd.underlying26 g3
  injection e0 with e0; injection e1 with e1; injection e2 with e2; injection e3 with e3
  subst e0 e1 e2 e3
  exact ⟨⟨a0, a1, a2, a3⟩, rfl⟩

set_option maxRecDepth 100000 in
theorem open_items {H : Type} {enc : TypeId × Value → H} {W : World} {base b2 : Nat} {sp : Nat → Bool} {hd : Bool} {r : Reach} {v : Value} {d : DataW H} {p : List MemPlace}
    (o : Value.okWide Tryd.prog W r base 22 v) (h : DataW.Trod enc Tryd.prog W b2 sp hd 22 v d p) :
    ∃ a n cap, v = .slice a n cap ∧ ∃ L : List It, L.length = n ∧ Sz W a n cap 5 (Go.Proofs.YtokofimfinhnbaaDoor.enc L) ∧ ∀ t ∈ L, (Lit.int .i64 t.id).wf = true := by
  obtain ⟨a, n, cap, rfl, xs, hS, _, m, hm2⟩ := open_rows (r := r) (b0 := base) (by decide) Tryd.underlying22 cellsItem h (okWide_slice Tryd.underlying22 o)
  obtain ⟨l, h1, h2⟩ := chunks (α := {t : It // (Lit.int .i64 t.id).wf = true}) (fun t => t.1.cells) 5 (fun _ => rfl) n xs hS.len (fun i hi => by
    obtain ⟨y, hy⟩ := hm2 i hi
    obtain ⟨hl, m', hf⟩ := trod_struct' Tryd.underlying32 cellsItem hy
    obtain ⟨u0, u1, u2, u3, u4, hc⟩ := list5 hl
    rw [hc] at hf
    obtain ⟨z0, g0⟩ := hf 0 _ rfl
    obtain ⟨z4, g4⟩ := hf 1 _ rfl
    obtain ⟨hlb, mb, hfb⟩ := trod_struct' Tryd.underlying28 cellsBox g0
    obtain ⟨y0, f0⟩ := hfb 0 _ rfl
    obtain ⟨y1, f1⟩ := hfb 1 _ rfl
    obtain ⟨y2, f2⟩ := hfb 2 _ rfl
    obtain ⟨y3, f3⟩ := hfb 3 _ rfl
    simp [cellsF, cellsI, cellsBox] at g4 f0 f1 f2 f3
    obtain ⟨a0, e0, _⟩ := trod_float Tryd.underlying26 f0
    obtain ⟨a1, e1, _⟩ := trod_float Tryd.underlying26 f1
    obtain ⟨a2, e2, _⟩ := trod_float Tryd.underlying26 f2
    obtain ⟨a3, e3, _⟩ := trod_float Tryd.underlying26 f3
    obtain ⟨k, e4, hk⟩ := trod_int' Tryd.underlying3 g4
    injection e0 with e0; injection e1 with e1; injection e2 with e2; injection e3 with e3; injection e4 with e4
    subst e0 e1 e2 e3 e4
    exact ⟨⟨⟨⟨a0, a1, a2, a3⟩, k⟩, hk⟩, hc⟩)
  refine ⟨a, n, cap, rfl, l.map (·.1), by simp [h1], ?_, fun t ht => ?_⟩
  · have : xs = Go.Proofs.YtokofimfinhnbaaDoor.enc (l.map (·.1)) := by rw [h2]; simp [Go.Proofs.YtokofimfinhnbaaDoor.enc]
    rw [this] at hS
    exact hS
  · obtain ⟨u, _, rfl⟩ := List.mem_map.1 ht
    exact u.2

set_option maxRecDepth 100000 in
theorem open_asks {H : Type} {enc : TypeId × Value → H} {W : World} {base b2 : Nat} {sp : Nat → Bool} {hd : Bool} {r : Reach} {v : Value} {d : DataW H} {p : List MemPlace}
    (o : Value.okWide Tryd.prog W r base 23 v) (h : DataW.Trod enc Tryd.prog W b2 sp hd 23 v d p) :
    ∃ a n cap, v = .slice a n cap ∧ ∃ qs : List Ask, qs.length = n ∧ Sz W a n cap 7 (qs.flatMap Ask.cells) := by
  obtain ⟨a, n, cap, rfl, xs, hS, _, m, hm2⟩ := open_rows (r := r) (b0 := base) (by decide) Tryd.underlying23 cellsAsk h (okWide_slice Tryd.underlying23 o)
  obtain ⟨l, h1, h2⟩ := chunks (α := Ask) Ask.cells 7 (fun _ => rfl) n xs hS.len (fun i hi => by
    obtain ⟨y, hy⟩ := hm2 i hi
    obtain ⟨hl, m', hf⟩ := trod_struct' Tryd.underlying30 cellsAsk hy
    obtain ⟨u0, u1, u2, u3, u4, u5, u6, hc⟩ := list7 hl
    rw [hc] at hf
    obtain ⟨z0, g0⟩ := hf 0 _ rfl
    obtain ⟨z1, g1⟩ := hf 1 _ rfl
    obtain ⟨z5, g5⟩ := hf 2 _ rfl
    obtain ⟨z6, g6⟩ := hf 3 _ rfl
    obtain ⟨hlb, mb, hfb⟩ := trod_struct' Tryd.underlying28 cellsBox g1
    obtain ⟨y0, f0⟩ := hfb 0 _ rfl
    obtain ⟨y1, f1⟩ := hfb 1 _ rfl
    obtain ⟨y2, f2⟩ := hfb 2 _ rfl
    obtain ⟨y3, f3⟩ := hfb 3 _ rfl
    simp [cellsF, cellsI, cellsBox] at g0 g5 g6 f0 f1 f2 f3
    obtain ⟨a0, e0, _⟩ := trod_float Tryd.underlying26 f0
    obtain ⟨a1, e1, _⟩ := trod_float Tryd.underlying26 f1
    obtain ⟨a2, e2, _⟩ := trod_float Tryd.underlying26 f2
    obtain ⟨a3, e3, _⟩ := trod_float Tryd.underlying26 f3
    obtain ⟨k0, e4, _⟩ := trod_int' Tryd.underlying3 g0
    obtain ⟨k5, e5, _⟩ := trod_int' Tryd.underlying3 g5
    obtain ⟨k6, e6, _⟩ := trod_int' Tryd.underlying3 g6
    injection e0 with e0; injection e1 with e1; injection e2 with e2; injection e3 with e3; injection e4 with e4; injection e5 with e5; injection e6 with e6
    subst e0 e1 e2 e3 e4 e5 e6
    exact ⟨⟨k0, ⟨a0, a1, a2, a3⟩, k5, k6⟩, hc⟩)
  refine ⟨a, n, cap, rfl, l, h1, ?_⟩
  rw [h2] at hS
  exact hS
end Go.Proofs.YtokofimfinhnbaaDoor.tree
namespace Go.Proofs.YtokofimfinhnbaaDoor.fnTreePlay
open Go.ChangeShapes Go.WideShapes Go.ChangeAt Go.RowKit Go.Op2 Go.Sl
open Go.Proofs.YtokofimfinhnbaaDoor.tree
set_option maxRecDepth 100000 in
theorem walkT {H : Type} (enc : TypeId × Value → H) (W : World) (base : Nat) (hsa : ∃ st, StopE st W) {v0 v2 : Value} {d0 d2 : DataW H} {p0 p2 : List MemPlace}
    (o0 : Value.okWide Tryd.prog W .any base 22 v0) (o2 : Value.okWide Tryd.prog W .any base 23 v2)
    (h0 : DataW.Trod enc Tryd.prog W 0 (fun _ => true) true 22 v0 d0 p0) (h2 : DataW.Trod enc Tryd.prog W 0 (fun _ => true) true 23 v2 d2 p2) :
    Calls Tryd.prog 4 #[v0, v2] W (LawPost W) := by
  obtain ⟨a, n, cap, rfl, L, hl, hS, hid⟩ := open_items o0 h0
  obtain ⟨a2, m, cap2, rfl, qs, hm, hS2⟩ := open_asks o2 h2
  obtain ⟨st, hst⟩ := hsa
  exact playlaw_ st a n cap L a2 m cap2 qs W hl hS hid hm hS2 hst

set_option maxRecDepth 100000 in
theorem lifted (os : Os) (started : os.Started) (H : Type) (enc : TypeId × Value → H) :
    ReturnsInHanded {} Tryd.checked os 4 .any (fun w args => (Rows.fnTreePlaySpec.pre enc Tryd.prog Tryd.f4 [] false w args ∧ laidMetH Tryd.prog lst w) ∧ sizedMet enc Tryd.prog Tryd.f4 (OpenSpec.ofChange Rows.fnTreePlaySpec) false w args)
      (Rows.fnTreePlaySpec.post enc Tryd.prog Tryd.f4 false true false false) := by
  refine returnsInHanded_of_change_and (C := Tryd.checked) (X := fun w _ => laidMetH Tryd.prog lst w) (fun _ _ _ hh h => h.of_heap hh) own started (by kernel_rfl) Tryd.func4
    (ChangeSpec.witness_at (enc := enc) (C := Tryd.checked) (os := os) (X := fun w _ => laidMetH Tryd.prog lst w) false (laidWorld os) #[.slice none 0 0, .slice none 0 0] 8 rfl (by kernel_rfl) (by kernel_rfl) (by kernel_rfl) (by kernel_rfl) (by kernel_rfl) (laidWorld_met os _)) ?_
  intro W base args ds gs before hval0 hW _ _ hL _
  have hval : ∀ (j : Nat) t v, Tryd.f4.params[j]? = some t → args[j]? = some v → Value.okWide Tryd.prog W .any base t v := hval0
  have hW' := hW
  obtain ⟨p, q, hA0, hV, rfl, hfz, hnd⟩ := hW
  have hA : DataW.TrodAll enc Tryd.prog W 0 (fun _ => true) true Tryd.f4.params.toList args.toList ds p := hA0
  rw [Tryd.params4] at hA hval
  obtain ⟨v0, vs0, d0, ds0, p0, q0, hargs, rfl, rfl, h0, r0⟩ := trodAll_cons hA
  obtain ⟨v2, vs2, d2, ds2, p2, q2, rfl, rfl, rfl, h2, r2⟩ := trodAll_cons r0
  obtain ⟨rfl, rfl, rfl⟩ := trodAll_nil r2
  obtain rfl : args = #[v0, v2] := by cases args; simp_all
  obtain ⟨rfl, rfl⟩ := trodVars_none hV
  have k0 := h0
  have lt0 : ∀ x ∈ p0, x.block < W.heap.size := by obtain ⟨m, hm⟩ := k0; exact DataW.trod_lt m _ _ _ hm
  have k2 := h2
  have lt2 : ∀ x ∈ p2, x.block < W.heap.size := by obtain ⟨m, hm⟩ := k2; exact DataW.trod_lt m _ _ _ hm
  clear hA0 hval0
  refine (walkT enc W base (stopE_of_laid hL) (hval 0 22 v0 rfl rfl) (hval 1 23 v2 rfl rfl) h0 h2).mono fun e W' ⟨he, bel⟩ => ?_
  subst he
  exact ⟨_, rfl, _, _, _, [], _, [], hW', trodAll_mk1 (shut_bool Tryd.underlying4 _), (trodAll_cons_mk (Below.trod laidOut (by kernel_rfl) (of_decide_eq_true (by kernel_rfl)) k0 bel lt0) (trodAll_cons_mk (Below.trod laidOut (by kernel_rfl) (of_decide_eq_true (by kernel_rfl)) k2 bel lt2) trodAll_mk0)), rfl, bel.frame _, fun h => by cases h⟩

theorem over : Rows.fnTreePlayRow.holds Tryd.pinned (OpenSpec.ofChange Rows.fnTreePlaySpec) :=
  OpenClaim.holds_of_wide 4 Tryd.f4 rfl rfl rfl rfl rfl rfl rfl ⟨rfl, rfl, rfl, rfl, rfl⟩ rfl rfl rfl rfl rfl (by kernel_rfl) Tryd.func4 (by kernel_rfl)
    (of_decide_eq_true (by kernel_rfl)) (by unfold Func.isWrapper; first | (rw [if_pos (by decide +kernel)]; kernel_rfl) | (rw [if_neg (by decide +kernel)]; exact ⟨rfl, rfl⟩))
    (fun os started H enc _ => lifted os started H enc)

theorem proved : Rows.FnTreePlayCardSaid :=
  Claim7.holds_tied_plain_at .later [] [.sentinel] true (true, "4682fd3b7b3fb2dddc7b212444363fcefbe50585d163c415d13cbc74431f75f9") true
    over (fun _ h => by cases h) (by kernel_rfl) (fun _ h => by cases h) fnTreePlay_row_tie rfl ⟨rfl, rfl⟩ (by kernel_rfl) rfl
    (fun f fn hf hfn => by
      obtain rfl : f = 4 := Option.some.inj ((show Tryd.prog.funcNamed "pub-eidograph/laws.FnTreePlay" = some 4 by kernel_rfl).symm.trans hf) |>.symm
      obtain rfl : fn = Tryd.f4 := (Option.some.inj (Tryd.func4.symm.trans hfn)).symm
      exact ⟨by kernel_rfl, fun j t ht => by
        rw [Tryd.params4] at ht
        have h3 : t = 22 ∨ t = 23 := by
          rcases j with _ | _ | j
          · exact .inl (by simpa using ht.symm)
          · exact .inr (by simpa using ht.symm)
          · simp at ht
        rcases h3 with rfl | rfl
        · exact (show Tryd.prog.wantsStandIn 22 = false by kernel_rfl)
        · exact (show Tryd.prog.wantsStandIn 23 = false by kernel_rfl)⟩)
    (by kernel_rfl)
#print axioms proved
end Go.Proofs.YtokofimfinhnbaaDoor.fnTreePlay
