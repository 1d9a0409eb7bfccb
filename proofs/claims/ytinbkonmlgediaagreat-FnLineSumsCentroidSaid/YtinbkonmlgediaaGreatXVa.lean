/-
  Shapes: what the law's small functions tell of them. No condition.
  Shapes that are formed. No condition.
  The places of a shape's hull as the law tells them. No condition.
-/
import Derived.Test.YtinbkonmlgediaaGreatXHb
set_option linter.unusedVariables false
set_option linter.unusedSimpArgs false
namespace Go.Proofs.YtinbkonmlgediaaGreat
open Go.RowKit Go.Fl Go.Sl Go.Pg Go.Ch Go.Kf
structure Sm where
  kind : Int
  pa : Option Addr
  pn : Nat
  pc : Nat
  ka : Option Addr
  kn : Nat
  kc : Nat
def Sm.cells (g : Sm) : List Value := [.int .i64 g.kind, .slice g.pa g.pn g.pc, .slice g.ka g.kn g.kc]
def Sm.val (g : Sm) : Value := .agg #[.int .i64 g.kind, .slice g.pa g.pn g.pc, .slice g.ka g.kn g.kc]
inductive ST where
  | node (hd : Sm) (pts : List (Int × Int)) (kids : List ST)
def ST.hd : ST → Sm | .node h _ _ => h
def ST.cells (t : ST) : List Value := t.hd.cells
theorem ST.cells_len (t : ST) : t.cells.length = 3 := rfl
def ptCells (p : Int × Int) : List Value := [.int .i64 p.1, .int .i64 p.2]
theorem ptCells_len (p : Int × Int) : (ptCells p).length = 2 := rfl
inductive ST.At (w : World) : ST → Prop where
  | mk (h : Sm) (pts : List (Int × Int)) (kids : List ST) (hn : pts.length = h.pn) (hk : kids.length = h.kn) (h1 : Sz w h.pa h.pn h.pc 2 (pts.flatMap ptCells)) (h2 : Sz w h.ka h.kn h.kc 3 (kids.flatMap ST.cells)) (h3 : ∀ t ∈ kids, ST.At w t) : ST.At w (.node h pts kids)
theorem ST.At.keep {w w' : World} (hk : Stab.Keeps w w') {t : ST} (h : ST.At w t) : ST.At w' t := by
  induction h with
  | mk h nums kids hn hk' h1 h2 _ ih => exact .mk h nums kids hn hk' (h1.keep hk) (h2.keep hk) ih
theorem skid_cells {w : World} {b off k kn : Nat} {kids : List ST} (hk : k < kids.length) (hc : ∀ (j : Nat) (v : Value), j < 3 → (kids.flatMap ST.cells)[k * 3 + j]? = some v → w.cell? ⟨b, off + k * 3 + j, none⟩ = some v) :
    w.cell? ⟨b, off + k * 3, none⟩ = some (.int .i64 kids[k].hd.kind) ∧ w.cell? ⟨b, off + k * 3 + 1, none⟩ = some (.slice kids[k].hd.pa kids[k].hd.pn kids[k].hd.pc) ∧ w.cell? ⟨b, off + k * 3 + 2, none⟩ = some (.slice kids[k].hd.ka kids[k].hd.kn kids[k].hd.kc) :=
  ⟨hc 0 _ (by omega) (by rw [flat_get ST.cells 3 ST.cells_len kids k 0 hk (by omega)]; rfl), hc 1 _ (by omega) (by rw [flat_get ST.cells 3 ST.cells_len kids k 1 hk (by omega)]; rfl), hc 2 _ (by omega) (by rw [flat_get ST.cells 3 ST.cells_len kids k 2 hk (by omega)]; rfl)⟩
theorem pt_cells {w : World} {b off k : Nat} {pts : List (Int × Int)} (hk : k < pts.length) (hc : ∀ (j : Nat) (v : Value), j < 2 → (pts.flatMap ptCells)[k * 2 + j]? = some v → w.cell? ⟨b, off + k * 2 + j, none⟩ = some v) :
    w.cell? ⟨b, off + k * 2, none⟩ = some (.int .i64 pts[k].1) ∧ w.cell? ⟨b, off + k * 2 + 1, none⟩ = some (.int .i64 pts[k].2) :=
  ⟨hc 0 _ (by omega) (by rw [flat_get ptCells 2 ptCells_len pts k 0 hk (by omega)]; rfl), hc 1 _ (by omega) (by rw [flat_get ptCells 2 ptCells_len pts k 1 hk (by omega)]; rfl)⟩
mutual
/-- how many places and parts -/
def ST.total : ST → Nat
  | .node _ pts kids => 1 + pts.length + ST.totals kids
def ST.totals : List ST → Nat
  | [] => 0
  | t :: r => t.total + ST.totals r
end
theorem stotals_mem {l : List ST} {t : ST} (h : t ∈ l) : t.total ≤ ST.totals l := by
  induction l with
  | nil => simp at h
  | cons a l ih =>
    simp only [ST.totals]
    rcases List.mem_cons.1 h with rfl | h
    · omega
    · have := ih h; omega
theorem stotals_len (l : List ST) : l.length ≤ ST.totals l := by
  induction l with
  | nil => simp [ST.totals]
  | cons a l ih =>
    have : 1 ≤ a.total := by cases a; simp only [ST.total]; omega
    simp only [ST.totals, List.length_cons]; omega
end Go.Proofs.YtinbkonmlgediaaGreat
set_option linter.unusedVariables false
set_option linter.unusedSimpArgs false
namespace Go.Proofs.YtinbkonmlgediaaGreat
open Go.RowKit Go.Fl Go.Sl Go.Pg Go.Ch Go.Kf
def PtOk (p : Int × Int) : Prop := -1048576 ≤ p.1 ∧ p.1 ≤ 1048576 ∧ -1048576 ≤ p.2 ∧ p.2 ≤ 1048576
def goodKid (k c : Int) : Prop := k = 0 ∨ k = 3 ∧ c = 2 ∨ 3 < k ∧ c = k - 3
inductive ST.Formed : ST → Prop where
  | leaf (hd : Sm) (pts : List (Int × Int)) (hk : hd.kind = 1 ∧ pts.length ≤ 1 ∨ hd.kind = 2) (hp : ∀ p ∈ pts, PtOk p) : ST.Formed (.node hd pts [])
  | many (hd : Sm) (kids : List ST) (hk : hd.kind = 0 ∨ 3 ≤ hd.kind ∧ hd.kind ≤ 6) (hg : ∀ k ∈ kids, goodKid hd.kind k.hd.kind) (hf : ∀ k ∈ kids, ST.Formed k) : ST.Formed (.node hd [] kids)
end Go.Proofs.YtinbkonmlgediaaGreat
set_option linter.unusedVariables false
set_option linter.unusedSimpArgs false
namespace Go.Proofs.YtinbkonmlgediaaGreat
open Go.RowKit Go.Fl Go.Sl Go.Pg Go.Ch Go.Kf
theorem infoSpt : (Tryz.prog.info? 55).map (fun i => (i.zero, i.size, i.bytes)) = some (some (.agg #[.int .i64 0, .int .i64 0]), 2, 16) := by kernel_rfl
theorem ptCells_one (l : List (Int × Int)) : ∀ u ∈ l.flatMap ptCells, u.oneCell' = true := by
  intro u hu
  simp only [List.mem_flatMap, ptCells, List.mem_cons, List.not_mem_nil, or_false] at hu
  obtain ⟨x, _, rfl | rfl⟩ := hu <;> rfl
end Go.Proofs.YtinbkonmlgediaaGreat
