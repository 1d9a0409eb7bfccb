/-
  The tree of boxes: what a node stands for; parts of a list in any order. No condition.
-/
import Derived.Test.YtokofimfinhnbaaDoorTr8
set_option linter.unusedVariables false
set_option linter.unusedSimpArgs false
namespace Go.Proofs.YtokofimfinhnbaaDoor
open Go.RowKit Go.Fl Go.Sl Go.Ch
inductive RT where
  | leaf (l : List It)
  | two (a b : RT)
  | four (a b c d : RT)
def RT.box : RT → B4
  | .leaf l => bnd (l.map It.box)
  | .two a b => bnd [a.box, b.box]
  | .four a b c d => bnd [a.box, b.box, c.box, d.box]
def RT.items : RT → List It
  | .leaf l => l
  | .two a b => a.items ++ b.items
  | .four a b c d => a.items ++ (b.items ++ (c.items ++ d.items))
def leafE (l : List It) : List Ent := l.map fun t => ⟨t.box, none, t.id⟩
/-- the node at p stands for t; all its blocks are from lo on -/
def NodeAt (w : World) (lo : Nat) : Nat → RT → Prop
  | p, .leaf l => lo ≤ p ∧ 0 < l.length ∧ l.length ≤ 4 ∧ Blk w p 84 (nodeC (leafE l) l.length)
  | p, .two a b => lo ≤ p ∧ ∃ pa pb, Blk w p 84 (nodeC [⟨a.box, some pa, 0⟩, ⟨b.box, some pb, 0⟩] 2) ∧ NodeAt w lo pa a ∧ NodeAt w lo pb b
  | p, .four a b c d => lo ≤ p ∧ ∃ pa pb pc pd, Blk w p 84 (nodeC [⟨a.box, some pa, 0⟩, ⟨b.box, some pb, 0⟩, ⟨c.box, some pc, 0⟩, ⟨d.box, some pd, 0⟩] 4) ∧ NodeAt w lo pa a ∧ NodeAt w lo pb b ∧ NodeAt w lo pc c ∧ NodeAt w lo pd d
/-- a node's own block -/
theorem NodeAt.blk {w : World} {lo : Nat} : ∀ {p : Nat} {t : RT}, NodeAt w lo p t → ∃ es : List Ent, 0 < es.length ∧ es.length ≤ 4 ∧ Blk w p 84 (nodeC es es.length) ∧ bnd (es.map Ent.box) = t.box
  | p, .leaf l, h => by
    obtain ⟨_, h1, h2, h3⟩ := h
    refine ⟨leafE l, by simpa [leafE] using h1, by simpa [leafE] using h2, by simpa [leafE] using h3, ?_⟩
    simp [leafE, RT.box, Function.comp_def]
  | p, .two a b, h => by
    obtain ⟨_, pa, pb, h1, _⟩ := h
    exact ⟨_, by simp, by simp, h1, rfl⟩
  | p, .four a b c d, h => by
    obtain ⟨_, pa, pb, pc, pd, h1, _⟩ := h
    exact ⟨_, by simp, by simp, h1, rfl⟩
/-- what holds of a node's world holds of each world that changes no node from lo on; the bound may be lowered -/
theorem NodeAt.of {w w' : World} {lo lo' : Nat} (hl : lo' ≤ lo) (hk : ∀ b vs, lo ≤ b → Blk w b 84 vs → Blk w' b 84 vs) : ∀ {t : RT} {p : Nat}, NodeAt w lo p t → NodeAt w' lo' p t
  | .leaf l, p, h => ⟨Nat.le_trans hl h.1, h.2.1, h.2.2.1, hk _ _ h.1 h.2.2.2⟩
  | .two a b, p, h => by
    obtain ⟨h0, pa, pb, h1, ha, hb⟩ := h
    exact ⟨Nat.le_trans hl h0, pa, pb, hk _ _ h0 h1, NodeAt.of hl hk ha, NodeAt.of hl hk hb⟩
  | .four a b c d, p, h => by
    obtain ⟨h0, pa, pb, pc, pd, h1, ha, hb, hc, hd⟩ := h
    exact ⟨Nat.le_trans hl h0, pa, pb, pc, pd, hk _ _ h0 h1, NodeAt.of hl hk ha, NodeAt.of hl hk hb, NodeAt.of hl hk hc, NodeAt.of hl hk hd⟩
theorem NodeAt.ch {B lo : Nat} {vs : List Value} {w w' : World} (hk : Ch no (· = B) w w') (hB : Blk w B 59 vs) {t : RT} {p : Nat} (h : NodeAt w lo p t) : NodeAt w' lo p t :=
  NodeAt.of (Nat.le_refl _) (fun b vs' _ hb => hk.blk hb (hb.ne hB (by decide)) (fun e => e)) h
theorem NodeAt.past {r i lo : Nat} {u : Value} {w : World} {t : RT} {p : Nat} (h : NodeAt w lo p t) (hr : r < lo) : NodeAt (w.setCell ⟨r, i, none⟩ u) lo p t :=
  NodeAt.of (Nat.le_refl _) (fun b vs' hl hb => hb.past (by simp; omega) _) h
theorem NodeAt.keep {w w' : World} {lo : Nat} (hk : Stab.Keeps w w') {t : RT} {p : Nat} (h : NodeAt w lo p t) : NodeAt w' lo p t := NodeAt.of (Nat.le_refl _) (fun b vs _ hb => hb.keep hk) h
theorem NodeAt.low {w : World} {lo lo' : Nat} (hl : lo' ≤ lo) {t : RT} {p : Nat} (h : NodeAt w lo p t) : NodeAt w lo' p t := NodeAt.of hl (fun b vs _ hb => hb) h

theorem sub_append (L : List It) (off a b : Nat) : sub L off (a + b) = sub L off a ++ sub L (off + a) b := by
  unfold sub
  rw [List.take_add, List.drop_drop]
theorem sub_out {L L' : List It} {off n : Nat} (h : L'.length = L.length) (hk : ∀ i, off ≤ i → i < off + n → L'[i]? = L[i]?) : sub L' off n = sub L off n := by
  apply List.ext_getElem?
  intro i
  by_cases hi : i < n
  · rw [sub_get _ _ _ _ hi, sub_get _ _ _ _ hi]; exact hk _ (by omega) (by omega)
  · unfold sub
    rw [List.getElem?_eq_none (by simp; omega), List.getElem?_eq_none (by simp; omega)]
theorem SubPerm.app {off a b : Nat} {L L' L'' : List It} (h : SubPerm off a L L') (k : SubPerm (off + a) b L' L'') : SubPerm off (a + b) L L'' := by
  refine ⟨k.len.trans h.len, fun i hi => (k.out i (by omega)).trans (h.out i (by omega)), ?_⟩
  rw [sub_append, sub_append]
  refine List.Perm.append ?_ ?_
  · rw [sub_out k.len (fun i h1 h2 => k.out i (by omega))]; exact h.perm
  · refine k.perm.trans ?_
    rw [sub_out h.len (fun i h1 h2 => h.out i (by omega))]
theorem SubPerm.widen {off a b n : Nat} {L L' : List It} (h : SubPerm (off + a) b L L') (hn : a + b ≤ n) : SubPerm off n L L' := by
  have h1 := ((SubPerm.refl off a L).app h).app (SubPerm.refl (off + (a + b)) (n - (a + b)) L')
  rwa [show a + b + (n - (a + b)) = n by omega] at h1
theorem Row.part {w : World} {B o5 n : Nat} {L : List It} (h : Row w B o5 n L) (a m : Nat) (hm : a + m ≤ n) : Row w B (o5 + a * 5) m L := by
  obtain ⟨off, e, hl⟩ := h.off
  exact ⟨h.blk, off + a, by omega, by omega⟩
theorem Row.whole {w : World} {B o5 n a m : Nat} {L L' : List It} {w0 : World} (h0 : Row w0 B o5 n L) (h : Row w B (o5 + a * 5) m L') (hl : L'.length = L.length) : Row w B o5 n L' := by
  obtain ⟨off, e, hl0⟩ := h0.off
  exact ⟨h.blk, off, e, by omega⟩
theorem Row.div {w : World} {B o5 n : Nat} {L : List It} (h : Row w B o5 n L) (a : Nat) : (o5 + a * 5) / 5 = o5 / 5 + a := by omega
/-- what 'bulkInsert' leaves -/
def BIPost (w : World) (B o5 n : Nat) (L : List It) (e : Ending) (w' : World) : Prop :=
  ∃ p t L', e = .returned (.pointer (some ⟨p, 0, none⟩)) ∧ Row w' B o5 n L' ∧ SubPerm (o5 / 5) n L L' ∧ Ch no (· = B) w w' ∧ NodeAt w' w.heap.size p t ∧ t.items.Perm (sub L (o5 / 5) n)
def BIC (B o5 n cap : Nat) : Prop := ∀ (L : List It) (w : World), Row w B o5 n L → Calls Tryd.prog 26 #[.slice (some ⟨B, o5, none⟩) n cap] w (BIPost w B o5 n L)
end Go.Proofs.YtokofimfinhnbaaDoor
