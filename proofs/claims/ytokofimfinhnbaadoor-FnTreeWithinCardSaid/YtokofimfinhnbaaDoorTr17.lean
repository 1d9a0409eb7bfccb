/-
  The tree of boxes: a question that is a search through a box, never stopped. No condition.
-/
import Derived.Test.YtokofimfinhnbaaDoorTr16
set_option linter.unusedVariables false
set_option linter.unusedSimpArgs false
namespace Go.Proofs.YtokofimfinhnbaaDoor
open Go.RowKit Go.Fl Go.Sl Go.Ch
theorem assert_w (w : World) : (Instr.typeAssert .nilIface 62 64 true).run Tryd.prog w = .ok (.tuple #[.agg #[.nilIface], .bool false]) w := by kernel_rfl
theorem assert_o (w : World) : (Instr.typeAssert .nilIface 62 66 true).run Tryd.prog w = .ok (.tuple #[.agg #[], .bool false]) w := by kernel_rfl
theorem owns_past {w : World} {base k n b i : Nat} {e : TypeId} {v u : Value} {xs : List Value} (hb : some b ≠ v.ownBlock) (h : w.ownsRow base e k v n xs) : (w.setCell ⟨b, i, none⟩ u).ownsRow base e k v n xs :=
  ownsRow_setCell_other h (fun e => hb e.symm) u
theorem owns_more {w : World} {base k n : Nat} {e : TypeId} {v : Value} {xs : List Value} (o : Obj) (h : w.ownsRow base e k v n xs) : (w.alloc o).ownsRow base e k v n xs := h.alloc o
def toldV (a : Option Addr) (n cap : Nat) (r : Rest) : Value := .agg #[.slice a n cap, .bool r.err, .bool r.own, .bool r.found, .int .i64 r.id, .float .f64 r.box.a, .float .f64 r.box.b, .float .f64 r.box.c, .float .f64 r.box.d, .int .i64 r.count]
/-- an answer, its numbers in a row of its own -/
def ToldPost (w : World) (ids : List Int) (r : Rest) (e : Ending) (w' : World) : Prop := ∃ a cap, e = .returned (toldV a ids.length cap r) ∧ w'.ownsRow w.heap.size 3 1 (.slice a ids.length cap) ids.length (encI ids) ∧ Stab.Keeps w w'
set_option maxRecDepth 100000 in
set_option maxHeartbeats 1000000 in
theorem told0_ (lo p n : Nat) (y : B4) (st hw : Int) (tr : Option RT) (w : World) (hT : TreeAt w lo p n tr) (hstop : ∃ t a, w.cell? ⟨0, 0, none⟩ = some (.iface t (.pointer (some a)))) (hs : st ≤ 0) (hl : (rsO y tr).length < 1000000) :
    Calls Tryd.prog 15 #[.pointer (some ⟨p, 0, none⟩), (Ask.mk 0 y st hw).val] w (ToldPost w (rsO y tr) Rest.zero) := by
  have hmf : ∀ (fn : Fn) (first cap : Array Value) (w : World), (Instr.makeFunc fn first cap).run Tryd.prog w = .ok (.func fn first cap) w := fun _ _ _ _ => rfl
  have h0 : 0 < w.heap.size := by obtain ⟨_, _, s0⟩ := hstop; exact Stab.cell_lt s0
  obtain ⟨y0, y1, y2, y3⟩ := y
  simp only [Ask.val]
  have hbx := fun w => box_ ⟨y0, y1, y2, y3⟩ w
  simp only [B4.val] at hbx
  go_enter Tryd.func15, Tryd.ntmps15
  go_wp2_with fail
  refine (hbx _).mono ?_
  rintro e w2 ⟨rfl, hk2⟩
  go_wp2_with fail
  have hq2 : Blk w2 w.heap.size 30 (Ask.mk 0 ⟨y0, y1, y2, y3⟩ st hw).cells := (((Blk.new w [_, _, _, _, _, _, _] _ _ rfl).alloc _).alloc _).keep hk2
  have hR2 : Blk w2 (w.heap.size + 1) 39 (.slice none 0 0 :: Rest.zero.cells) := ((Blk.new _ [_, _, _, _, _, _, _, _, _, _] _ _ (by simp)).alloc _).keep hk2
  have hO2 : OutAt w2 w.heap.size (w.heap.size + 1 + 1) [] Rest.zero := ⟨none, 0, (Blk.new _ [_, _, _, _, _, _, _, _, _, _] _ _ (by simp)).keep hk2, World.ownsRow_nil _ _ _ _⟩
  have hkw : Stab.Keeps w w2 := by repeat (first | (with_reducible exact Stab.Keeps.refl _) | (with_reducible assumption) | (with_reducible refine Stab.Keeps.alloc ?_ _) | (with_reducible refine Stab.Keeps.drew ?_) | (with_reducible refine Stab.Keeps.drewN ?_ _) | ((with_reducible refine Stab.Keeps.setCell ?_ ?_ _); focus (first | (simp; done) | (simp; omega))) | (with_reducible refine Stab.Keeps.trans ?_ (by with_reducible assumption)))
  have hS := search0_ w.heap.size (w.heap.size + 1 + 1) w.heap.size lo p n ⟨y0, y1, y2, y3⟩ ⟨0, ⟨y0, y1, y2, y3⟩, st, hw⟩ Rest.zero tr [] w2 (hT.keep hkw) hO2 hq2 (by obtain ⟨t, a, s0⟩ := hstop; exact ⟨t, a, by rw [(Stab.own_cell hkw 0 h0).1]; exact s0⟩) hs h0 (by omega) (by simpa using hl)
  simp only [B4.val] at hS
  refine hS.mono ?_
  clear hS hbx hmf hq2
  rintro e w3 ⟨rfl, hO3, hK3⟩
  have hR3 := hK3.ch.blk hR2 (by omega) (by decide)
  obtain ⟨a3, c3, hB3, hown3⟩ := hO3
  simp only [List.nil_append] at hB3 hown3
  have hkw3 : Stab.Keeps w w3 := Below.trans hkw hK3.bel
  have p0 := hB3.cell (i := 0) rfl
  have p1 := hB3.cell (i := 1) rfl
  have p2 := hB3.cell (i := 2) rfl
  have p3 := hB3.cell (i := 3) rfl
  have p4 := hB3.cell (i := 4) rfl
  have p5 := hB3.cell (i := 5) rfl
  have p6 := hB3.cell (i := 6) rfl
  have p7 := hB3.cell (i := 7) rfl
  have p8 := hB3.cell (i := 8) rfl
  have p9 := hB3.cell (i := 9) rfl
  have pf := hB3.free
  have r0 := hR3.cell (i := 0) rfl
  have r1 := hR3.cell (i := 1) rfl
  have r2 := hR3.cell (i := 2) rfl
  have r3 := hR3.cell (i := 3) rfl
  have r4 := hR3.cell (i := 4) rfl
  have r5 := hR3.cell (i := 5) rfl
  have r6 := hR3.cell (i := 6) rfl
  have r7 := hR3.cell (i := 7) rfl
  have r8 := hR3.cell (i := 8) rfl
  have r9 := hR3.cell (i := 9) rfl
  have rf := hR3.free
  have hl3 := hB3.lt
  have hno := owns_ne hown3 hB3 (by decide)
  have hnr := owns_ne hown3 hR3 (by decide)
  clear hB3 hR3 hO2 hR2 hK3 hk2 hkw
  have hl4 : w.heap.size + 1 < w3.heap.size := by omega
  have ta := assert_w
  have tb := assert_o
  go_wp2_with fail
  refine bodyPost_ret (v := toldV a3 (rsO ⟨y0, y1, y2, y3⟩ tr).length c3 Rest.zero) (by simp [results, Tryd.results15, go_sem, toldV, Rest.zero, *]) rfl ⟨a3, c3, rfl, ?_, ?_⟩
  · repeat (first | (with_reducible exact hown3) | (with_reducible refine owns_more _ ?_) | (with_reducible refine owns_past hno ?_) | (with_reducible refine owns_past hnr ?_))
  · repeat (first | (with_reducible exact Stab.Keeps.refl _) | (with_reducible assumption) | (with_reducible refine Stab.Keeps.alloc ?_ _) | (with_reducible refine Stab.Keeps.drew ?_) | (with_reducible refine Stab.Keeps.drewN ?_ _) | ((with_reducible refine Stab.Keeps.setCell ?_ ?_ _); focus (first | (simp; done) | (simp; omega))) | (with_reducible refine Stab.Keeps.trans ?_ (by with_reducible assumption)))
end Go.Proofs.YtokofimfinhnbaaDoor
