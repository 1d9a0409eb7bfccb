/-
  The tree of boxes: the search through a box, never stopped. No condition.
-/
import Derived.Test.YtokofimfinhnbaaDoorTr14
set_option linter.unusedVariables false
set_option linter.unusedSimpArgs false
namespace Go.Proofs.YtokofimfinhnbaaDoor
open Go.RowKit Go.Fl Go.Sl Go.Ch
/-- what a search goes through, in its order -/
def rs (y : B4) : RT → List Int
  | .leaf l => (l.filter fun t => ovl t.box y).map It.id
  | .two a b => (if ovl a.box y then rs y a else []) ++ (if ovl b.box y then rs y b else [])
  | .four a b c d => (if ovl a.box y then rs y a else []) ++ ((if ovl b.box y then rs y b else []) ++ ((if ovl c.box y then rs y c else []) ++ (if ovl d.box y then rs y d else [])))
/-- what a search holds in blocks of its own -/
structure RE (w : World) (bx cb rc o ask : Nat) (y : B4) (q : Ask) : Prop where
  hbx : Blk w bx 56 y.cells
  hcb : Blk w cb 67 [.func (.func 20) #[] #[.pointer (some ⟨o, 0, none⟩), .pointer (some ⟨ask, 0, none⟩)]]
  hrc : Blk w rc 79 [.func (.func 27) #[] #[.pointer (some ⟨bx, 0, none⟩), .pointer (some ⟨cb, 0, none⟩), .pointer (some ⟨rc, 0, none⟩)]]
  hask : Blk w ask 30 q.cells
  hstop : ∃ t a, w.cell? ⟨0, 0, none⟩ = some (.iface t (.pointer (some a)))
theorem Kp.blk {base o : Nat} {w w' : World} (h : Kp base o w w') {b : Nat} {e : TypeId} {vs : List Value} (hb : Blk w b e vs) (ho : ∃ us, Blk w o 39 us) (he : e ≠ 3) (he' : e ≠ 39) : Blk w' b e vs := by
  obtain ⟨us, ho⟩ := ho
  exact h.ch.blk hb (hb.ne ho he') he
theorem OutAt.blk {w : World} {base o : Nat} {ids : List Int} {r : Rest} (h : OutAt w base o ids r) : ∃ us, Blk w o 39 us := by
  obtain ⟨a, cap, h, _⟩ := h
  exact ⟨_, h⟩
theorem OutAt.keep {w w' : World} {base o : Nat} {ids : List Int} {r : Rest} (h : OutAt w base o ids r) (hk : Stab.Keeps w w') : OutAt w' base o ids r := by
  obtain ⟨a, cap, h1, h2⟩ := h
  exact ⟨a, cap, h1.keep hk, owns_keep h2 hk⟩
theorem RE.kp {base : Nat} {w w' : World} {bx cb rc o ask : Nat} {y : B4} {q : Ask} (h : RE w bx cb rc o ask y q) (hk : Kp base o w w') (ho : ∃ us, Blk w o 39 us) (h0 : 0 < base) : RE w' bx cb rc o ask y q := by
  obtain ⟨t, a, hs⟩ := h.hstop
  exact ⟨hk.blk h.hbx ho (by decide) (by decide), hk.blk h.hcb ho (by decide) (by decide), hk.blk h.hrc ho (by decide) (by decide), hk.blk h.hask ho (by decide) (by decide), t, a, by rw [hk.bel.cell (p := ⟨0, 0, none⟩) h0]; exact hs⟩
def RPost (w : World) (base o : Nat) (ids : List Int) (r : Rest) (e : Ending) (w' : World) : Prop := e = .returned .nilIface ∧ OutAt w' base o ids r ∧ Kp base o w w'
set_option maxRecDepth 100000 in
set_option maxHeartbeats 2000000 in
theorem rloop_ (base bx cb rc o ask p : Nat) (y : B4) (q : Ask) (r : Rest) (ids : List Int) (xs : List (Ent × List Int)) (w : World) (h1 : 0 < xs.length) (h4 : xs.length ≤ 4) (hB : Blk w p 84 (nodeC (xs.map (·.1)) xs.length))
    (hE : RE w bx cb rc o ask y q) (ho : OutAt w base o ids r) (hs : q.stop ≤ 0) (hb0 : 0 < base) (hb : base ≤ o) (hbw : base ≤ w.heap.size) (hl : ids.length + (xs.flatMap (·.2)).length < 1000000)
    (hx : ∀ x ∈ xs, (ovl x.1.box y = false → x.2 = []) ∧ (ovl x.1.box y = true → (x.1.child = none ∧ x.2 = [x.1.id]) ∨ ∃ p', x.1.child = some p' ∧
      ∀ w' ids', Kp base o w w' → RE w' bx cb rc o ask y q → OutAt w' base o ids' r → ids'.length + x.2.length < 1000000 → Calls Tryd.prog 27 #[.pointer (some ⟨p', 0, none⟩), .pointer (some ⟨bx, 0, none⟩), .pointer (some ⟨cb, 0, none⟩), .pointer (some ⟨rc, 0, none⟩)] w' (RPost w' base o (ids' ++ x.2) r))) :
    Calls Tryd.prog 27 #[.pointer (some ⟨p, 0, none⟩), .pointer (some ⟨bx, 0, none⟩), .pointer (some ⟨cb, 0, none⟩), .pointer (some ⟨rc, 0, none⟩)] w (RPost w base o (ids ++ xs.flatMap (·.2)) r) := by
  have hob := ho.blk
  have hpl := hB.lt
  have HB := hB
  go_enter Tryd.func27, Tryd.ntmps27
  go_wp2
  go_loopw [6] (fun iv wr => ∃ k : Nat, k ≤ xs.length ∧ iv = .int .i64 k ∧ Kp base o w wr ∧ OutAt wr base o (ids ++ (xs.take k).flatMap (·.2)) r) (fun iv _ => xs.length - (intOf iv).toNat)
  case atStart => exact ⟨0, by omega, rfl, Kp.refl _ _ _, by simpa using ho⟩
  case round =>
    obtain ⟨k, k2, rfl, hK, hO⟩ := hrel
    have hBr := hK.blk hB hob (by decide) (by decide)
    have hEr := hE.kp hK hob hb0
    have hn : wr.cell? ⟨p, 24, none⟩ = some (.int .i64 xs.length) := hBr.cell (nodeC_num _ _ (by simpa using h4))
    have hplr := hBr.lt
    by_cases hlt : k < xs.length
    · obtain ⟨e0, e1, e2, e3, e4, e5⟩ := ent_cells hBr (by simpa using h4) (i := k) (by simpa using hlt)
      rw [List.getElem_map] at e0 e1 e2 e3 e4 e5
      have hxk := hx xs[k] (List.getElem_mem _)
      have hcut : (xs.take (k + 1)).flatMap (·.2) = (xs.take k).flatMap (·.2) ++ xs[k].2 := by
        rw [List.take_succ_eq_append_getElem hlt, List.flatMap_append, List.flatMap_cons, List.flatMap_nil, List.append_nil]
      have hlen : ((xs.take k).flatMap (·.2)).length + xs[k].2.length ≤ (xs.flatMap (·.2)).length := by
        have h1 : xs.flatMap (·.2) = (xs.take (k + 1)).flatMap (·.2) ++ (xs.drop (k + 1)).flatMap (·.2) := by
          rw [← List.flatMap_append, List.take_append_drop]
        rw [h1, hcut]; simp
      have b0 := hEr.hbx.cell (i := 0) rfl
      have b1 := hEr.hbx.cell (i := 1) rfl
      have b2 := hEr.hbx.cell (i := 2) rfl
      have b3 := hEr.hbx.cell (i := 3) rfl
      have hbxl := hEr.hbx.lt
      have HC := Lib.hid hcut
      have HL := Lib.hid hlen
      clear hcut hlen hBr
      generalize xs[k] = x at *
      obtain ⟨⟨bxx, ch, id⟩, add⟩ := x
      have hov := fun w => overlap_ bxx y w
      simp only [B4.val] at hov
      simp only at e0 e1 e2 e3 e4 e5 hxk
      go_wp2_with fail
      refine (hov _).mono ?_
      rintro e w2 ⟨rfl, hk2⟩
      clear hov
      have hkk : Stab.Keeps wr w2 := by repeat (first | (with_reducible exact Stab.Keeps.refl _) | (with_reducible assumption) | (with_reducible refine Stab.Keeps.alloc ?_ _) | (with_reducible refine Stab.Keeps.drew ?_) | (with_reducible refine Stab.Keeps.drewN ?_ _) | ((with_reducible refine Stab.Keeps.setCell ?_ ?_ _); focus (first | (simp; done) | (simp; omega))) | (with_reducible refine Stab.Keeps.trans ?_ (by with_reducible assumption)))
      cases hv : ovl bxx y with
      | false =>
        have hadd := hxk.1 hv
        have hO2 := hO.keep hkk
        have hfin : OutAt w2 base o (ids ++ (xs.take (k + 1)).flatMap (·.2)) r := by rw [HC.out, hadd, List.append_nil]; exact hO2
        have hKf : Kp base o w w2 := hK.trans (Kp.of_keeps hkk (Nat.le_trans hbw hK.ch.size))
        clear hxk hadd hO hO2
        go_wp2_with fail
        go_roundw
        case rel => exact ⟨k + 1, by omega, by go_num, hKf, hfin⟩
        case measure => simp [intOf]; omega
      | true =>
        obtain ⟨mc_, mf_⟩ := Stab.own_cell hk2 (wr.heap.size) (by first | (simp; done) | (simp; omega) | omega | (apply Stab.cell_lt (a := ⟨wr.heap.size, 0, none⟩); assumption))
        have m0 : w2.cell? ⟨wr.heap.size, 0, none⟩ = some (.float .f64 bxx.a) := by rw [mc_]; first | assumption | (go_simp; done)
        have m1 : w2.cell? ⟨wr.heap.size, 1, none⟩ = some (.float .f64 bxx.b) := by rw [mc_]; first | assumption | (go_simp; done)
        have m2 : w2.cell? ⟨wr.heap.size, 2, none⟩ = some (.float .f64 bxx.c) := by rw [mc_]; first | assumption | (go_simp; done)
        have m3 : w2.cell? ⟨wr.heap.size, 3, none⟩ = some (.float .f64 bxx.d) := by rw [mc_]; first | assumption | (go_simp; done)
        have m4 : w2.cell? ⟨wr.heap.size, 4, none⟩ = some (.pointer (ch.map fun p => ⟨p, 0, none⟩)) := by rw [mc_]; first | assumption | (go_simp; done)
        have m5 : w2.cell? ⟨wr.heap.size, 5, none⟩ = some (.int .i64 id) := by rw [mc_]; first | assumption | (go_simp; done)
        have mf : ∀ j, w2.frozen? ⟨wr.heap.size, j, none⟩ = false := fun j => by rw [mf_]; first | (go_simp; done) | (apply_assumption)
        clear mc_ mf_
        have hE2 := hEr.kp (Kp.of_keeps hkk (Nat.le_trans hbw hK.ch.size)) hO.blk hb0
        have hO2 := hO.keep hkk
        have c0 := hE2.hcb.cell (i := 0) rfl
        have hcl := hE2.hcb.lt
        have r0 := hE2.hrc.cell (i := 0) rfl
        have hrl := hE2.hrc.lt
        rcases hxk.2 hv with ⟨hch, hadd⟩ | ⟨p', hch, hrec⟩
        · subst hch
          subst hadd
          have hcall := call0_ base o ask (ids ++ (xs.take k).flatMap (·.2)) r q id w2 hO2 hE2.hask hs hb (by have hL' : ((xs.take k).flatMap (·.2)).length + 1 ≤ (xs.flatMap (·.2)).length := HL.out; rw [List.length_append]; omega)
          clear hxk
          have m4' : w2.cell? ⟨wr.heap.size, 4, none⟩ = some (.pointer none) := m4
          clear m4
          go_wp2_with fail
          refine hcall.mono ?_
          clear hcall
          rintro e w3 ⟨rfl, hO3, hK3⟩
          have hE3 := hE2.kp hK3 hO2.blk hb0
          obtain ⟨st, sa, s0⟩ := hE3.hstop
          have hfin : OutAt w3 base o (ids ++ (xs.take (k + 1)).flatMap (·.2)) r := by rw [HC.out, ← List.append_assoc]; exact hO3
          have hKf : Kp base o w w3 := (hK.trans (Kp.of_keeps hkk (Nat.le_trans hbw hK.ch.size))).trans hK3
          have h0l : 0 < w3.heap.size := Stab.cell_lt s0
          clear hO3 hE3 hO2 hE2 hK3 hO hEr m0 m1 m2 m3 m4' m5 mf
          go_wp2_with fail
          refine (is_nil _ _ _).mono ?_
          rintro e w4 ⟨rfl, rfl⟩
          go_wp2_with fail
          go_roundw
          case rel => exact ⟨k + 1, by omega, by go_num, hKf, hfin⟩
          case measure => simp [intOf]; omega
        · subst hch
          have m4' : w2.cell? ⟨wr.heap.size, 4, none⟩ = some (.pointer (some ⟨p', 0, none⟩)) := m4
          clear m4
          have hcall := hrec w2 (ids ++ (xs.take k).flatMap (·.2)) (hK.trans (Kp.of_keeps hkk (Nat.le_trans hbw hK.ch.size))) hE2 hO2 (by have hL' : ((xs.take k).flatMap (·.2)).length + add.length ≤ (xs.flatMap (·.2)).length := HL.out; rw [List.length_append]; omega)
          clear hxk hrec
          go_wp2_with fail
          refine hcall.mono ?_
          clear hcall
          rintro e w3 ⟨rfl, hO3, hK3⟩
          have hfin : OutAt w3 base o (ids ++ (xs.take (k + 1)).flatMap (·.2)) r := by rw [HC.out, ← List.append_assoc]; exact hO3
          have hKf : Kp base o w w3 := (hK.trans (Kp.of_keeps hkk (Nat.le_trans hbw hK.ch.size))).trans hK3
          clear hO3 hO2 hE2 hK3 hO hEr m0 m1 m2 m3 m4' m5 mf
          go_wp2_with fail
          go_roundw
          case rel => exact ⟨k + 1, by omega, by go_num, hKf, hfin⟩
          case measure => simp [intOf]; omega
    · have hkn : k = xs.length := by omega
      subst hkn
      rw [List.take_length] at hO
      go_wp2_with fail
      go_ret
      exact ⟨rfl, hO, hK⟩
end Go.Proofs.YtokofimfinhnbaaDoor
