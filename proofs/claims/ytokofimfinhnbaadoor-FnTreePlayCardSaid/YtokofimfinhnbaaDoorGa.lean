/-
  The tree of boxes: small functions, walked. No condition.
  The tree of boxes: the closures of the partition, walked. No condition.
  The tree of boxes: the exchange of two items, the partition's own random numbers, walked. No condition.
  The tree of boxes: the partition's own random numbers; the partition, walked. No condition.
  The tree of boxes: the partition, walked: what it leaves is what was there in some order. No condition.
-/
import Derived.Test.YtokofimfinhnbaaDoorProg
import Derived.Test.YtokofimfinhnbaaDoorFl
import Derived.Test.YtokofimfinhnbaaDoorStab
import Derived.Test.YtokofimfinhnbaaDoorSl
import Derived.Test.YtokofimfinhnbaaDoorCh
import Derived.WalkKit
import Derived.WalkSpells
import Derived.WalkLawsBesides
import Derived.Lib.Hide
import Derived.BigQuiet
import Derived.Test.YtokofimfinhnbaaDoorSz
import Derived.RegionTactic
import Derived.BigRegion
import Derived.ChangeAlike
import Derived.Outline
import Derived.IntWalk
set_option linter.unusedVariables false
set_option linter.unusedSimpArgs false
namespace Go.Proofs.YtokofimfinhnbaaDoor
open Go.RowKit Go.Fl Go.Sl Go.Ch

def One (w : World) (v : Value) (e : Ending) (w' : World) : Prop := e = .returned v ∧ Stab.Keeps w w'
/-- a box: its four ends -/
structure B4 where
  a : Nat
  b : Nat
  c : Nat
  d : Nat
def B4.cells (x : B4) : List Value := [.float .f64 x.a, .float .f64 x.b, .float .f64 x.c, .float .f64 x.d]
def B4.val (x : B4) : Value := .agg #[.float .f64 x.a, .float .f64 x.b, .float .f64 x.c, .float .f64 x.d]
/-- an item: a box and a number -/
structure It where
  box : B4
  id : Int
def It.cells (t : It) : List Value := [.float .f64 t.box.a, .float .f64 t.box.b, .float .f64 t.box.c, .float .f64 t.box.d, .int .i64 t.id]
def It.val (t : It) : Value := .agg #[.float .f64 t.box.a, .float .f64 t.box.b, .float .f64 t.box.c, .float .f64 t.box.d, .int .i64 t.id]
theorem It.cells_len (t : It) : t.cells.length = 5 := rfl
def fmn (x y : Nat) : Nat := if lt x y then x else y
def fmx (x y : Nat) : Nat := if gt x y then x else y
def cmb (x y : B4) : B4 := ⟨fmn x.a y.a, fmn x.b y.b, fmx x.c y.c, fmx x.d y.d⟩
theorem fmin_ (x y : Nat) (w : World) : Calls Tryd.prog 44 #[.float .f64 x, .float .f64 y] w fun e w' => e = .returned (.float .f64 (fmn x y)) ∧ w = w' := by
  go_enter Tryd.func44, Tryd.ntmps44
  go_wp2
  all_goals
    go_ret
    refine ⟨?_, rfl⟩
    simp_all [fmn, lt]
theorem fmax_ (x y : Nat) (w : World) : Calls Tryd.prog 45 #[.float .f64 x, .float .f64 y] w fun e w' => e = .returned (.float .f64 (fmx x y)) ∧ w = w' := by
  go_enter Tryd.func45, Tryd.ntmps45
  go_wp2
  all_goals
    go_ret
    refine ⟨?_, rfl⟩
    simp_all [fmx, gt]
theorem box_ (x : B4) (w : World) : Calls Tryd.prog 18 #[x.val] w (One w x.val) := by
  obtain ⟨a, b, c, d⟩ := x
  unfold B4.val
  go_enter Tryd.func18, Tryd.ntmps18
  go_wp2
  refine bodyPost_ret (v := .agg #[.float .f64 a, .float .f64 b, .float .f64 c, .float .f64 d]) (by simp [results, Tryd.results18, go_sem]) rfl ⟨rfl, ?_⟩
  repeat (first | (with_reducible exact Stab.Keeps.refl _) | (with_reducible assumption) | (with_reducible refine Stab.Keeps.alloc ?_ _) | (with_reducible refine Stab.Keeps.drew ?_) | (with_reducible refine Stab.Keeps.drewN ?_ _) | ((with_reducible refine Stab.Keeps.setCell ?_ ?_ _); focus (first | (simp; done) | (simp; omega))) | (with_reducible refine Stab.Keeps.trans ?_ (by with_reducible assumption)))
set_option maxRecDepth 100000 in
set_option maxHeartbeats 1000000 in
theorem combine_ (x y : B4) (w : World) : Calls Tryd.prog 41 #[x.val, y.val] w (One w (cmb x y).val) := by
  obtain ⟨a, b, c, d⟩ := x
  obtain ⟨a', b', c', d'⟩ := y
  unfold cmb B4.val
  go_enter Tryd.func41, Tryd.ntmps41
  go_wp2
  refine Stab.keep_tail 21 (fun _ _ _ => True) (fun _ => false) (fun k => k == 4 || k == 9 || k == 14 || k == 19) Stab.pre_none (by kernel_rfl) (by kernel_rfl) fun hcx => ?_
  simp only [List.take_succ_cons, List.take_zero, List.drop_succ_cons, List.drop_zero]
  repeat (first
    | (refine Stab.quiet rfl rfl rfl (fun K hK => ?_); go_big_quiet_op; refine hK _ ?_; clear hK K)
    | (refine Stab.one rfl rfl rfl ?_
       apply Exists.intro
       refine ⟨fun w1 hw1 => ?_, fun K hK => ?_⟩
       · go_simp
         first | (go_at_call 44; exact Stab.upon_same (fmin_ _ _ _)) | (go_at_call 45; exact Stab.upon_same (fmax_ _ _ _))
       go_simp
       refine hK _ ?_
       clear hK K)
    | (refine Stab.skip rfl (fun K hK => ?_); go_simp; refine hK _ ?_; clear hK K))
  refine Stab.nil fun w' hw' _ => ?_
  clear hcx
  obtain ⟨mc_, mf_⟩ := Stab.own_cell hw' (w.heap.size + 1 + 1) (by first | (simp; done) | (simp; omega) | omega | (apply Stab.cell_lt (a := ⟨w.heap.size + 1 + 1, 0, none⟩); assumption))
  have m0 : w'.cell? ⟨w.heap.size + 1 + 1, 0, none⟩ = some (.float .f64 0) := by rw [mc_]; first | assumption | (go_simp; done)
  have m1 : w'.cell? ⟨w.heap.size + 1 + 1, 1, none⟩ = some (.float .f64 0) := by rw [mc_]; first | assumption | (go_simp; done)
  have m2 : w'.cell? ⟨w.heap.size + 1 + 1, 2, none⟩ = some (.float .f64 0) := by rw [mc_]; first | assumption | (go_simp; done)
  have m3 : w'.cell? ⟨w.heap.size + 1 + 1, 3, none⟩ = some (.float .f64 0) := by rw [mc_]; first | assumption | (go_simp; done)
  have mf : ∀ j, w'.frozen? ⟨w.heap.size + 1 + 1, j, none⟩ = false := fun j => by rw [mf_]; first | (go_simp; done) | (apply_assumption)
  clear mc_ mf_
  go_wp2_with fail
  refine bodyPost_ret (v := .agg #[.float .f64 (fmn a a'), .float .f64 (fmn b b'), .float .f64 (fmx c c'), .float .f64 (fmx d d')]) (by simp [results, Tryd.results41, go_sem, *]) rfl ⟨rfl, ?_⟩
  repeat (first | (with_reducible exact Stab.Keeps.refl _) | (with_reducible assumption) | (with_reducible refine Stab.Keeps.alloc ?_ _) | (with_reducible refine Stab.Keeps.drew ?_) | (with_reducible refine Stab.Keeps.drewN ?_ _) | ((with_reducible refine Stab.Keeps.setCell ?_ ?_ _); focus (first | (simp; done) | (simp; omega))) | (with_reducible refine Stab.Keeps.trans ?_ (by with_reducible assumption)))
end Go.Proofs.YtokofimfinhnbaaDoor
set_option linter.unusedVariables false
set_option linter.unusedSimpArgs false
namespace Go.Proofs.YtokofimfinhnbaaDoor
open Go.RowKit Go.Fl Go.Sl Go.Ch

def enc (L : List It) : List Value := L.flatMap It.cells
theorem enc_len (L : List It) : (enc L).length = L.length * 5 := flat_len It.cells 5 It.cells_len L
theorem enc_get (L : List It) (i j : Nat) (hi : i < L.length) (hj : j < 5) : (enc L)[i * 5 + j]? = (It.cells L[i])[j]? := flat_get It.cells 5 It.cells_len L i j hi hj
/-- one item's cells written anew -/
theorem enc_set (L : List It) (i : Nat) (hi : i < L.length) (t : It) :
    (((((enc L).set (i * 5) (.float .f64 t.box.a)).set (i * 5 + 1) (.float .f64 t.box.b)).set (i * 5 + 2) (.float .f64 t.box.c)).set (i * 5 + 3) (.float .f64 t.box.d)).set (i * 5 + 4) (.int .i64 t.id) = enc (L.set i t) := by
  apply List.ext_getElem?
  intro k
  obtain ⟨q, r, hr, rfl⟩ : ∃ q r, r < 5 ∧ k = q * 5 + r := ⟨k / 5, k % 5, Nat.mod_lt _ (by omega), by omega⟩
  by_cases hq : q < L.length
  · rw [enc_get _ _ _ (by simpa using hq) hr]
    simp only [List.getElem?_set, List.length_set, enc_len]
    by_cases he : i = q
    · subst he
      simp only [List.getElem_set_self]
      have : r = 0 ∨ r = 1 ∨ r = 2 ∨ r = 3 ∨ r = 4 := by omega
      rcases this with rfl | rfl | rfl | rfl | rfl <;> simp [It.cells] <;> omega
    · rw [List.getElem_set_ne he]
      rw [if_neg (by omega), if_neg (by omega), if_neg (by omega), if_neg (by omega), if_neg (by omega), enc_get _ _ _ hq hr]
  · rw [List.getElem?_eq_none (by simp [enc_len]; omega), List.getElem?_eq_none (by simp [enc_len]; omega)]
/-- the items in their block, told by what a slice of them sees -/
structure Row (w : World) (B o5 n : Nat) (L : List It) : Prop where
  blk : Blk w B 59 (enc L)
  off : ∃ off, o5 = off * 5 ∧ off + n ≤ L.length
theorem Row.cell {w : World} {B o5 n : Nat} {L : List It} (h : Row w B o5 n L) {i : Nat} (hi : i < n) : ∃ t, L[o5 / 5 + i]? = some t ∧ w.cell? ⟨B, o5 + i * 5, none⟩ = some (.float .f64 t.box.a) ∧ w.cell? ⟨B, o5 + i * 5 + 1, none⟩ = some (.float .f64 t.box.b) ∧
    w.cell? ⟨B, o5 + i * 5 + 2, none⟩ = some (.float .f64 t.box.c) ∧ w.cell? ⟨B, o5 + i * 5 + 3, none⟩ = some (.float .f64 t.box.d) ∧ w.cell? ⟨B, o5 + i * 5 + 4, none⟩ = some (.int .i64 t.id) := by
  obtain ⟨off, e, hl⟩ := h.off
  have e2 : o5 / 5 = off := by omega
  have hlt : off + i < L.length := by omega
  have k := fun j hj => enc_get L (off + i) j hlt hj
  rw [e2]
  refine ⟨L[off + i], List.getElem?_eq_getElem hlt, ?_, ?_, ?_, ?_, ?_⟩
  · exact h.blk.cell (by rw [show o5 + i * 5 = (off + i) * 5 + 0 by omega, k 0 (by omega)]; rfl)
  · exact h.blk.cell (by rw [show o5 + i * 5 + 1 = (off + i) * 5 + 1 by omega, k 1 (by omega)]; rfl)
  · exact h.blk.cell (by rw [show o5 + i * 5 + 2 = (off + i) * 5 + 2 by omega, k 2 (by omega)]; rfl)
  · exact h.blk.cell (by rw [show o5 + i * 5 + 3 = (off + i) * 5 + 3 by omega, k 3 (by omega)]; rfl)
  · exact h.blk.cell (by rw [show o5 + i * 5 + 4 = (off + i) * 5 + 4 by omega, k 4 (by omega)]; rfl)
/-- some bool, and what was there is kept -/
def SomeB (w : World) (e : Ending) (w' : World) : Prop := ∃ t, e = .returned (.bool t) ∧ Stab.Keeps w w'
set_option maxRecDepth 100000 in
set_option maxHeartbeats 1000000 in
theorem less_ (B o5 n cap p q i j : Nat) (hz : Bool) (L : List It) (w : World) (h : Row w B o5 n L) (hc : n ≤ cap) (hm : cap ≤ maxLen) (hp : Blk w p 55 [.slice (some ⟨B, o5, none⟩) n cap]) (hq : Blk w q 4 [.bool hz]) (hi : i < n) (hj : j < n) :
    Calls Tryd.prog 47 #[.int .i64 i, .int .i64 j, .pointer (some ⟨p, 0, none⟩), .pointer (some ⟨q, 0, none⟩)] w (SomeB w) := by
  obtain ⟨t, _, c0, c1, c2, c3, _⟩ := h.cell hi
  obtain ⟨u, _, d0, d1, d2, d3, _⟩ := h.cell hj
  have hB := h.blk.lt
  have p0 : w.cell? ⟨p, 0, none⟩ = some (.slice (some ⟨B, o5, none⟩) n cap) := hp.cell rfl
  have q0 : w.cell? ⟨q, 0, none⟩ = some (.bool hz) := hq.cell rfl
  have hpl := hp.lt
  have hql := hq.lt
  unfold maxLen at hm
  clear h hp hq
  cases hz
  all_goals
    go_enter Tryd.func47, Tryd.ntmps47
    go_wp2
    go_ret
    refine ⟨_, rfl, ?_⟩
    repeat (first | (with_reducible exact Stab.Keeps.refl _) | (with_reducible assumption) | (with_reducible refine Stab.Keeps.alloc ?_ _) | (with_reducible refine Stab.Keeps.drew ?_) | (with_reducible refine Stab.Keeps.drewN ?_ _) | ((with_reducible refine Stab.Keeps.setCell ?_ ?_ _); focus (first | (simp; done) | (simp; omega))) | (with_reducible refine Stab.Keeps.trans ?_ (by with_reducible assumption)))
end Go.Proofs.YtokofimfinhnbaaDoor
set_option linter.unusedVariables false
set_option linter.unusedSimpArgs false
namespace Go.Proofs.YtokofimfinhnbaaDoor
open Go.RowKit Go.Fl Go.Sl Go.Ch

def swapL (L : List It) (i j : Nat) : List It := match L[i]?, L[j]? with | some a, some b => (L.set i b).set j a | _, _ => L
theorem swapL_len (L : List It) (i j : Nat) : (swapL L i j).length = L.length := by unfold swapL; split <;> simp
/-- an item written into its place -/
def putIt (w : World) (B p : Nat) (t : It) : World := ((((w.setCell ⟨B, p, none⟩ (.float .f64 t.box.a)).setCell ⟨B, p + 1, none⟩ (.float .f64 t.box.b)).setCell ⟨B, p + 2, none⟩ (.float .f64 t.box.c)).setCell ⟨B, p + 3, none⟩ (.float .f64 t.box.d)).setCell ⟨B, p + 4, none⟩ (.int .i64 t.id)
theorem Row.put {w : World} {B o5 n : Nat} {L : List It} (h : Row w B o5 n L) {i : Nat} (hi : i < n) (t : It) : Row (putIt w B (o5 + i * 5) t) B o5 n (L.set (o5 / 5 + i) t) := by
  obtain ⟨off, e, hl⟩ := h.off
  have e2 : o5 / 5 = off := by omega
  have e3 : o5 + i * 5 = (off + i) * 5 := by omega
  rw [e2, e3]
  refine ⟨?_, off, e, by simpa using hl⟩
  unfold putIt
  rw [← enc_set L (off + i) (by omega) t]
  exact ((((h.blk.set _ _).set _ _).set _ _).set _ _).set _ _
theorem Row.drew {w : World} {B o5 n : Nat} {L : List It} (h : Row w B o5 n L) : Row w.drew B o5 n L := ⟨h.blk.drew, h.off⟩
theorem ch_put {X : Nat → Prop} {a w : World} {B : Nat} (h : Ch no X a w) (hX : X B) (p : Nat) (t : It) : Ch no X a (putIt w B p t) :=
  ((((h.setCell (.inl hX) _).setCell (.inl hX) _).setCell (.inl hX) _).setCell (.inl hX) _).setCell (.inl hX) _
theorem swapL_eq {L : List It} {i j : Nat} {t u : It} (h : L[i]? = some t) (h' : L[j]? = some u) : swapL L i j = (L.set i u).set j t := by unfold swapL; rw [h, h']
def SwapPost (w : World) (B o5 n : Nat) (L : List It) (i j : Nat) (e : Ending) (w' : World) : Prop :=
  e = .returned (.tuple #[]) ∧ Row w' B o5 n (swapL L (o5 / 5 + i) (o5 / 5 + j)) ∧ Ch no (· = B) w w'
set_option maxRecDepth 100000 in
set_option maxHeartbeats 1000000 in
theorem swap_ (B o5 n cap p i j : Nat) (L : List It) (w : World) (h : Row w B o5 n L) (hc : n ≤ cap) (hm : cap ≤ maxLen) (hp : Blk w p 55 [.slice (some ⟨B, o5, none⟩) n cap]) (hi : i < n) (hj : j < n) :
    Calls Tryd.prog 48 #[.int .i64 i, .int .i64 j, .pointer (some ⟨p, 0, none⟩)] w (SwapPost w B o5 n L i j) := by
  obtain ⟨t, ht, c0, c1, c2, c3, c4⟩ := h.cell hi
  obtain ⟨u, hu, d0, d1, d2, d3, d4⟩ := h.cell hj
  have hB := h.blk.lt
  have p0 : w.cell? ⟨p, 0, none⟩ = some (.slice (some ⟨B, o5, none⟩) n cap) := hp.cell rfl
  have hpl := hp.lt
  have hfz := h.blk.free
  have hpB : p ≠ B := hp.ne h.blk (by decide)
  have hBp : B ≠ p := hpB.symm
  unfold maxLen at hm
  rcases Nat.lt_trichotomy i j with hij | hij | hij
  · go_enter Tryd.func48, Tryd.ntmps48
    go_wp2
    go_region
    go_end0
    refine ⟨rfl, ?_, ?_⟩
    · rw [swapL_eq ht hu]; exact ((h.put hi u).put hj t).drew
    · exact (ch_put (ch_put (Ch.refl no (· = B) w) rfl (o5 + i * 5) u) rfl (o5 + j * 5) t).drew
  · subst hij
    go_enter Tryd.func48, Tryd.ntmps48
    go_wp2
    go_region
    go_end0
    refine ⟨rfl, ?_, ?_⟩
    · rw [swapL_eq ht ht]; exact ((h.put hi t).put hi t).drew
    · exact (ch_put (ch_put (Ch.refl no (· = B) w) rfl (o5 + i * 5) t) rfl (o5 + i * 5) t).drew
  · go_enter Tryd.func48, Tryd.ntmps48
    go_wp2
    go_region
    go_end0
    refine ⟨rfl, ?_, ?_⟩
    · rw [swapL_eq ht hu]; exact ((h.put hi u).put hj t).drew
    · exact (ch_put (ch_put (Ch.refl no (· = B) w) rfl (o5 + i * 5) u) rfl (o5 + j * 5) t).drew
end Go.Proofs.YtokofimfinhnbaaDoor
set_option linter.unusedVariables false
set_option linter.unusedSimpArgs false
namespace Go.Proofs.YtokofimfinhnbaaDoor
open Go.RowKit Go.Fl Go.Sl Go.Ch
set_option maxHeartbeats 1000000 in
theorem rnd_ (r : Nat) (n q : Int) (w : World) (hr : Blk w r 128 [.int .u32 q]) (hq0 : 0 ≤ q) (hq : q < 4294967296) (hn : 1 ≤ n) (hn2 : n ≤ 2147483647) :
    Calls Tryd.prog 46 #[.int .i64 n, .pointer (some ⟨r, 0, none⟩)] w fun e w' => ∃ x q' : Int, e = .returned (.int .i64 x) ∧ 0 ≤ x ∧ x < n ∧ 0 ≤ q' ∧ q' < 4294967296 ∧ w' = w.setCell ⟨r, 0, none⟩ (.int .u32 q') := by
  have r0 := hr.cell (i := 0) rfl
  have rf := hr.free
  have hrl := hr.lt
  go_enter Tryd.func46, Tryd.ntmps46
  go_wp2
  go_ret
  obtain ⟨q', hq', b1, b2⟩ : ∃ q' : Int, (1664525 * q + 1013904223) % 4294967296 = q' ∧ 0 ≤ q' ∧ q' < 4294967296 := ⟨_, rfl, by omega, by omega⟩
  have hm : q' * n ≤ 4294967295 * n := Int.mul_le_mul_of_nonneg_right (by omega) (by omega)
  have hm0 : 0 ≤ q' * n := Int.mul_nonneg b1 (by omega)
  have hw1 : IntKind.u64.wrap (q' * n) = q' * n := by
    simp only [IntKind.wrap_u64]
    omega
  have hw2 : wrap64 (q' * n / 4294967296) = q' * n / 4294967296 := IntWalk.wrap64_in _ ⟨by omega, by omega⟩
  rw [hq']
  refine ⟨_, q', by simp only [hw1, hw2]; rfl, by omega, by omega, b1, b2, rfl⟩
end Go.Proofs.YtokofimfinhnbaaDoor
set_option linter.unusedVariables false
set_option linter.unusedSimpArgs false
namespace Go.Proofs.YtokofimfinhnbaaDoor
open Go.RowKit Go.Fl Go.Sl Go.Ch
def sub (L : List It) (off n : Nat) : List It := (L.drop off).take n
/-- one part of a list is put into some order, the rest is left -/
structure SubPerm (off n : Nat) (L L' : List It) : Prop where
  len : L'.length = L.length
  out : ∀ i, i < off ∨ off + n ≤ i → L'[i]? = L[i]?
  perm : (sub L' off n).Perm (sub L off n)
theorem SubPerm.refl (off n : Nat) (L : List It) : SubPerm off n L L := ⟨rfl, fun _ _ => rfl, List.Perm.refl _⟩
theorem SubPerm.trans {off n : Nat} {L L' L'' : List It} (h : SubPerm off n L L') (k : SubPerm off n L' L'') : SubPerm off n L L'' :=
  ⟨k.len.trans h.len, fun i hi => (k.out i hi).trans (h.out i hi), k.perm.trans h.perm⟩
theorem set_sub (L : List It) (off n i : Nat) (t : It) : sub (L.set (off + i) t) off n = (sub L off n).set i t := by
  unfold sub
  rw [List.drop_set, if_neg (by omega), List.take_set, show off + i - off = i by omega]
theorem sub_get (L : List It) (off n i : Nat) (hi : i < n) : (sub L off n)[i]? = L[off + i]? := by
  unfold sub
  rw [List.getElem?_take, if_pos hi, List.getElem?_drop]
theorem SubPerm.swap {L : List It} {off n i j : Nat} (hi : i < n) (hj : j < n) (hl : off + n ≤ L.length) : SubPerm off n L (swapL L (off + i) (off + j)) := by
  have h1 := List.getElem?_eq_getElem (show off + i < L.length by omega)
  have h2 := List.getElem?_eq_getElem (show off + j < L.length by omega)
  rw [swapL_eq h1 h2]
  refine ⟨by simp, fun k hk => ?_, ?_⟩
  · rw [List.getElem?_set_ne (by omega), List.getElem?_set_ne (by omega)]
  · rw [set_sub, set_sub]
    have hln : (sub L off n).length = n := by unfold sub; simp; omega
    have g1 : (sub L off n)[i]'(by omega) = L[off + i] := by
      have := sub_get L off n i hi
      rw [h1, List.getElem?_eq_getElem (by omega)] at this
      simpa using this
    have g2 : (sub L off n)[j]'(by omega) = L[off + j] := by
      have := sub_get L off n j hj
      rw [h2, List.getElem?_eq_getElem (by omega)] at this
      simpa using this
    rw [← g1, ← g2]
    exact List.set_set_perm (by omega) (by omega)
/-- how things stand within the partition -/
structure QI (w : World) (B o5 n cap : Nat) (hz : Bool) (L : List It) (wr : World) (L' : List It) : Prop where
  row : Row wr B o5 n L'
  hp : Blk wr w.heap.size 55 [.slice (some ⟨B, o5, none⟩) n cap]
  hq : Blk wr (w.heap.size + 1) 4 [.bool hz]
  hr : ∃ q : Int, Blk wr (w.heap.size + 1 + 1) 128 [.int .u32 q] ∧ 0 ≤ q ∧ q < 4294967296
  ch : Ch no (· = B) w wr
  pm : SubPerm (o5 / 5) n L L'
theorem QI.lt {w : World} {B o5 n cap : Nat} {hz : Bool} {L : List It} {wr : World} {L' : List It} (h : QI w B o5 n cap hz L wr L') : w.heap.size + 2 < wr.heap.size := by obtain ⟨q, h1, _⟩ := h.hr; exact h1.lt
theorem QI.keep {w : World} {B o5 n cap : Nat} {hz : Bool} {L : List It} {wr w' : World} {L' : List It} (h : QI w B o5 n cap hz L wr L') (hk : Stab.Keeps wr w') : QI w B o5 n cap hz L w' L' := by
  obtain ⟨q, h1, h2⟩ := h.hr
  exact ⟨⟨h.row.blk.keep hk, h.row.off⟩, h.hp.keep hk, h.hq.keep hk, ⟨q, h1.keep hk, h2⟩, h.ch.trans (Ch.of_keeps hk), h.pm⟩
theorem QI.swap {w : World} {B o5 n cap i j : Nat} {hz : Bool} {L : List It} {wr w' : World} {L' : List It} {e : Ending} (h : QI w B o5 n cap hz L wr L') (hB : B < w.heap.size) (hi : i < n) (hj : j < n) (hs : SwapPost wr B o5 n L' i j e w') :
    QI w B o5 n cap hz L w' (swapL L' (o5 / 5 + i) (o5 / 5 + j)) := by
  obtain ⟨_, h1, h2⟩ := hs
  obtain ⟨q, h3, h4⟩ := h.hr
  obtain ⟨off, e, hl⟩ := h.row.off
  have e2 : o5 / 5 = off := by omega
  refine ⟨h1, h2.blk h.hp (by omega) (fun e => e), h2.blk h.hq (by omega) (fun e => e), ⟨q, h2.blk h3 (by omega) (fun e => e), h4⟩, h.ch.trans h2, h.pm.trans ?_⟩
  rw [e2]
  exact SubPerm.swap hi hj hl
theorem QI.rnd {w : World} {B o5 n cap : Nat} {hz : Bool} {L : List It} {wr : World} {L' : List It} (h : QI w B o5 n cap hz L wr L') (hB : B < w.heap.size) {q : Int} (h0 : 0 ≤ q) (h1 : q < 4294967296) :
    QI w B o5 n cap hz L (wr.setCell ⟨w.heap.size + 1 + 1, 0, none⟩ (.int .u32 q)) L' := by
  obtain ⟨q', h3, h4⟩ := h.hr
  exact ⟨⟨h.row.blk.past (by simp; omega) _, h.row.off⟩, h.hp.past (by simp; omega) _, h.hq.past (by simp) _, ⟨q, h3.set 0 _, h0, h1⟩, h.ch.setCell (.inr (by simp; omega)) _, h.pm⟩
def QPost (w : World) (B o5 n : Nat) (L : List It) (e : Ending) (w' : World) : Prop := e = .returned (.tuple #[]) ∧ ∃ L', Row w' B o5 n L' ∧ SubPerm (o5 / 5) n L L' ∧ Ch no (· = B) w w'
theorem QI.post {w : World} {B o5 n cap : Nat} {hz : Bool} {L : List It} {wr : World} {L' : List It} (h : QI w B o5 n cap hz L wr L') : QPost w B o5 n L (.returned (.tuple #[])) wr := ⟨rfl, L', h.row, h.pm, h.ch⟩
section
variable {w : World} {B o5 n cap : Nat} {hz : Bool} {L : List It} {wr : World} {L' : List It}
def QLess (w : World) (B o5 n cap : Nat) (hz : Bool) (L L' : List It) (e : Ending) (w' : World) : Prop := ∃ t, e = .returned (.bool t) ∧ QI w B o5 n cap hz L w' L'
def QSwap (w : World) (B o5 n cap : Nat) (hz : Bool) (L : List It) (e : Ending) (w' : World) : Prop := e = .returned (.tuple #[]) ∧ ∃ L', QI w B o5 n cap hz L w' L'
def QRnd (w : World) (B o5 n cap : Nat) (hz : Bool) (L L' : List It) (m : Int) (e : Ending) (w' : World) : Prop := ∃ x : Int, e = .returned (.int .i64 x) ∧ 0 ≤ x ∧ x < m ∧ QI w B o5 n cap hz L w' L'
theorem QI.lessC (h : QI w B o5 n cap hz L wr L') (hc : n ≤ cap) (hm : cap ≤ maxLen) (i j : Int) (i0 : 0 ≤ i) (i1 : i < n) (j0 : 0 ≤ j) (j1 : j < n) :
    Calls Tryd.prog 47 #[.int .i64 i, .int .i64 j, .pointer (some ⟨w.heap.size, 0, none⟩), .pointer (some ⟨w.heap.size + 1, 0, none⟩)] wr (QLess w B o5 n cap hz L L') := by
  obtain ⟨a, rfl⟩ := Int.eq_ofNat_of_zero_le i0
  obtain ⟨b, rfl⟩ := Int.eq_ofNat_of_zero_le j0
  refine (less_ B o5 n cap _ _ a b hz L' wr h.row hc hm h.hp h.hq (by omega) (by omega)).mono ?_
  rintro e w' ⟨t, rfl, hk⟩
  exact ⟨t, rfl, h.keep hk⟩
theorem QI.swapC (h : QI w B o5 n cap hz L wr L') (hB : B < w.heap.size) (hc : n ≤ cap) (hm : cap ≤ maxLen) (i j : Int) (i0 : 0 ≤ i) (i1 : i < n) (j0 : 0 ≤ j) (j1 : j < n) :
    Calls Tryd.prog 48 #[.int .i64 i, .int .i64 j, .pointer (some ⟨w.heap.size, 0, none⟩)] wr (QSwap w B o5 n cap hz L) := by
  obtain ⟨a, rfl⟩ := Int.eq_ofNat_of_zero_le i0
  obtain ⟨b, rfl⟩ := Int.eq_ofNat_of_zero_le j0
  refine (swap_ B o5 n cap _ a b L' wr h.row hc hm h.hp (by omega) (by omega)).mono ?_
  rintro e w' hs
  exact ⟨hs.1, _, h.swap hB (i := a) (j := b) (by omega) (by omega) hs⟩
theorem QI.rndC (h : QI w B o5 n cap hz L wr L') (hB : B < w.heap.size) (m : Int) (m0 : 1 ≤ m) (m1 : m ≤ 2147483647) :
    Calls Tryd.prog 46 #[.int .i64 m, .pointer (some ⟨w.heap.size + 1 + 1, 0, none⟩)] wr (QRnd w B o5 n cap hz L L' m) := by
  obtain ⟨q, h1, h2, h3⟩ := h.hr
  refine (rnd_ _ m q wr h1 h2 h3 m0 m1).mono ?_
  rintro e w' ⟨x, q', rfl, x0, x1, q0, q1, rfl⟩
  exact ⟨x, rfl, x0, x1, h.rnd hB q0 q1⟩
end
theorem int_eq {k : IntKind} {a b : Int} (h : a = b) : Value.int k a = .int k b := by rw [h]
end Go.Proofs.YtokofimfinhnbaaDoor
