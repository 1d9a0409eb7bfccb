/-
  What the hull's law and the other laws both want: small contracts, data that say a geometry. No condition.
-/
import Derived.Test.YtinbkonmlgediaaGreatXS1
import Derived.Test.YtinbkonmlgediaaGreatXGrow2
import Derived.Test.YtinbkonmlgediaaGreatXOpGeo
set_option linter.unusedVariables false
set_option linter.unusedSimpArgs false
namespace Go.Proofs.YtinbkonmlgediaaGreat
open Go.RowKit Go.Fl Go.Sl Go.Pg Go.Ch Go.Kf
theorem encN_app2 (a b : List Nat) : encN (a ++ b) = encN a ++ encN b := by simp [encN]
theorem infoGm4 : (Tryz.prog.info? 35).map (fun i => (i.zero, i.size, i.bytes)) = some (some (.agg #[.int .i64 0, .int .i64 0, .slice none 0 0, .slice none 0 0]), 4, 64) := by kernel_rfl
def LawPost (w : World) (e : Ending) (w' : World) : Prop := e = .returned (.bool true) ∧ Stab.Keeps w w'
/-- plain data that operation idx of a region makes, and the slice of it that the next operation makes -/
structure GmF (B idx : Nat) (p : Pg) (k : Nat) (v : Value) (w : World) : Prop where
  f5 : k = idx → ∃ (zk zd : Nat) (na : Option Addr) (nn nc : Nat) (ka : Option Addr) (kn kc : Nat), v = .agg #[.int .i64 zk, .int .i64 zd, .slice na nn nc, .slice ka kn kc] ∧ GmR w (fun b => B ≤ b) [.int .i64 zk, .int .i64 zd, .slice na nn nc, .slice ka kn kc] p
  f6 : k = idx + 1 → ∃ (g : Nat) (zk zd : Nat) (na : Option Addr) (nn nc : Nat) (ka : Option Addr) (kn kc : Nat), v = .slice (some ⟨g, 0, none⟩) 1 1 ∧ B ≤ g ∧ Blk w g 35 [.int .i64 zk, .int .i64 zd, .slice na nn nc, .slice ka kn kc] ∧ GmR w (fun b => B ≤ b ∧ b < w.heap.size) [.int .i64 zk, .int .i64 zd, .slice na nn nc, .slice ka kn kc] p
theorem gmPre (B idx : Nat) (p : Pg) : Stab.Pre Stab.Keeps (GmF B idx p) :=
  ⟨Stab.Keeps.refl, Stab.Keeps.trans, fun k v w w' hk hF => ⟨fun e => by
    obtain ⟨a1, a2, a3, a4, a5, a6, a7, a8, h1, h2⟩ := hF.f5 e
    exact ⟨a1, a2, a3, a4, a5, a6, a7, a8, h1, gmS.kf h2 (KF.keeps hk)⟩, fun e => by
    obtain ⟨g, a1, a2, a3, a4, a5, a6, a7, a8, h1, h2, h3, h4⟩ := hF.f6 e
    exact ⟨g, a1, a2, a3, a4, a5, a6, a7, a8, h1, h2, h3.keep hk, gmS.mono (gmS.kf h4 (KF.keeps hk)) (fun b _ hb => ⟨hb.1, Nat.lt_of_lt_of_le hb.2 hk.size⟩)⟩⟩⟩
/-- plain data that say a geometry -/
inductive GT.Is : GT → Pg → Prop where
  | mk (h : Gm) (nums : List Nat) (kids : List GT) (k d : Nat) (ps : List Pl) (ks : List Pg) (h1 : h.kind = k) (h2 : h.dim = d) (h3 : nums = numsOf d ps) (h4 : kids.length = ks.length) (h5 : ∀ i (a : i < kids.length) (b : i < ks.length), GT.Is kids[i] ks[i]) : GT.Is (.node h nums kids) (.node k d ps ks)
theorem GmR.gt {w : World} {F : Nat → Prop} {cs : List Value} {p : Pg} (h : GmR w F cs p) : ∃ t : GT, cs = t.cells ∧ t.At w ∧ t.Is p := by
  induction h with
  | mk k d ps kids na ka nn nc kn kc css hn h1 lc lx each sz is ih =>
    obtain ⟨q, hq1, hq2⟩ := choose_list (p := fun (i : Nat) (t : GT) => ∀ (h1 : i < css.length) (h2 : i < kids.length), css[i] = t.cells ∧ t.At w ∧ t.Is kids[i]) (List.range kn) (fun i hi => by
      have hi' : i < kn := by simpa using hi
      obtain ⟨t, ht⟩ := ih i (by omega) (by omega)
      exact ⟨t, fun _ _ => ht⟩)
    simp at hq1
    have hcs : css = q.map GT.cells := by
      refine List.ext_getElem (by simp; omega) fun i a b => ?_
      rw [List.getElem_map]
      have h2 := hq2 i (by simp; omega) (by simp at b; omega)
      simp only [List.getElem_range] at h2
      exact (h2 a (by omega)).1
    refine ⟨.node ⟨k, d, na, nn, nc, ka, kn, kc⟩ (numsOf d ps) q, rfl, .mk _ _ _ hn.symm hq1 h1.sz (by rw [List.flatMap_def, ← hcs]; exact sz.sz) (fun t ht => ?_), .mk _ _ _ _ _ _ _ rfl rfl rfl (by omega) (fun i a b => ?_)⟩
    · obtain ⟨j, hj, rfl⟩ := List.getElem_of_mem ht
      have h2 := hq2 j (by simp; omega) hj
      simp only [List.getElem_range] at h2
      exact (h2 (by omega) (by omega)).2.1
    · have h2 := hq2 i (by simp; omega) a
      simp only [List.getElem_range] at h2
      exact (h2 (by omega) (by omega)).2.2
end Go.Proofs.YtinbkonmlgediaaGreat
