/-
  The ring of some lines: the package's own function. No condition.
-/
import Derived.Test.YtcepbpjdcfkgcaaRing2
import Derived.Defers
import Derived.Recover
set_option linter.unusedVariables false
set_option linter.unusedSimpArgs false
namespace Go.Proofs.Ytcepbpjdcfkgcaa
open Go.RowKit Go.Fl Go.Sl
set_option maxRecDepth 100000 in
theorem doorRing_ (a : Option Addr) (m cap : Nat) (ss : List (Nat × List Nat)) (w : World) (hm : ss.length = m) (h0 : 0 < m) (hm2 : m ≤ 20) (h : Sl w a m cap 2 (ss.flatMap sqCells)) (hs : ∀ s ∈ ss, SqAt w s) :
    Calls Try.prog 18 #[.slice a m cap] w (SeqPost w 0 ((ringN ss).length + 2) (encN (ringN ss ++ (ringN ss).take 2))) := by
  have hP := fun w' (hk : Stab.Keeps w w') => buildRing_ a m cap ss w' hm h0 hm2 (h.keep hk) (fun s hx => ⟨(hs s hx).1.keep hk, (hs s hx).2⟩)
  clear h hs
  go_enter Try.func18, Try.ntmps18
  go_wp2_with fail
  refine (hP _ (by repeat (first | (with_reducible exact Stab.Keeps.refl _) | (with_reducible assumption) | (with_reducible refine Stab.Keeps.alloc ?_ _) | (with_reducible refine Stab.Keeps.drew ?_) | (with_reducible refine Stab.Keeps.drewN ?_ _) | ((with_reducible refine Stab.Keeps.setCell ?_ ?_ _); focus (first | (simp; done) | (simp; omega))) | (with_reducible refine Stab.Keeps.trans ?_ (by with_reducible assumption))))).mono ?_
  clear hP
  rintro e w2 ⟨b, rfl, hk2, hS2⟩
  obtain ⟨mc_, mf_⟩ := Stab.own_cell hk2 (w.heap.size) (by first | (simp; done) | (simp; omega) | omega | (apply Stab.cell_lt (a := ⟨w.heap.size, 0, none⟩); assumption))
  have m0 : w2.cell? ⟨w.heap.size, 0, none⟩ = some (.int .u8 0) := by rw [mc_]; first | assumption | (go_simp; done)
  have m1 : w2.cell? ⟨w.heap.size, 1, none⟩ = some (.slice none 0 0) := by rw [mc_]; first | assumption | (go_simp; done)
  have mf : ∀ j, w2.frozen? ⟨w.heap.size, j, none⟩ = false := fun j => by rw [mf_]; first | (go_simp; done) | (apply_assumption)
  clear mc_ mf_
  go_wp2_with fail
  refine bodyPost_ret (v := .agg #[.int .u8 0, .slice (some ⟨b, 0, none⟩) ((ringN ss).length + 2) ((ringN ss).length + 2)]) (by simp [results, Try.results18, go_sem, *]) rfl ⟨_, rfl, ?_, ?_⟩
  · repeat (first | (with_reducible exact Stab.Keeps.refl _) | (with_reducible assumption) | (with_reducible refine Stab.Keeps.alloc ?_ _) | (with_reducible refine Stab.Keeps.drew ?_) | (with_reducible refine Stab.Keeps.drewN ?_ _) | ((with_reducible refine Stab.Keeps.setCell ?_ ?_ _); focus (first | (simp; done) | (simp; omega))) | (with_reducible refine Stab.Keeps.trans ?_ (by with_reducible assumption)))
  · simp only [World.size_alloc] at hS2
    exact owns_base (owns_set (owns_set hS2 (by omega)) (by omega)) (by omega)
theorem catch_ring (p q : Value) (w : World) :
    CallsD Try.prog 14 #[p, q] .returning w fun e u' w' => e = .returned (.tuple #[]) ∧ u' = .returning ∧ w' = w := by
  refine callsD_of_wpS Try.func14 rfl fun c₀ cs hu => ?_
  apply wpS_seq
  apply wpS_region
  simp [wpOpsS, go_sem, recoverD, hu, Try.ntmps14, Exit.thenS]
  refine wpS_cond (t := false) (by simp [Act.eval, Array.replicate]) ?_
  simp only [Bool.false_eq_true, if_false]
  refine wpS_of_wp (wp_skip ?_)
  cases c₀
  simp_all [bodyPostS, results, Try.results14]
/-- a line of X and Y alone -/
def Leaf (t : GT) : Prop := t.hd.kind = 2 ∧ t.hd.dim = 0 ∧ 4 ≤ t.nums.length ∧ t.nums.length ≤ 100 ∧ t.nums.length % 2 = 0
theorem infoSeq : (Try.prog.info? 48).map (fun i => (i.zero, i.size, i.bytes)) = some (some (.agg #[.int .u8 0, .slice none 0 0]), 2, 32) := by kernel_rfl
theorem at_nums {w : World} {t : GT} (h : t.At w) : t.nums.length = t.hd.nn ∧ Sz w t.hd.na t.hd.nn t.hd.nc 1 (encN t.nums) := by
  cases h with
  | mk h nums kids hn hk h1 h2 h3 => exact ⟨hn, h1⟩
theorem grown_other {w w' : World} {base base' k k' n n' : Nat} {e e' : TypeId} {v v' : Value} {xs xs' : List Value} (h : w.ownsRow base e k v n xs) (h' : w.ownsRow base' e' k' v' n' xs') (he : e ≠ e') (hg : w.grownBy w' v'.ownBlock) : w'.ownsRow base e k v n xs := by
  refine h.kept hg ?_
  rcases h.2 with ⟨rfl, _⟩ | ⟨g, cap, cur, rfl, _, hc, _⟩
  · exact .inl rfl
  · refine .inr fun hh => ?_
    rcases h'.2 with ⟨rfl, _⟩ | ⟨g', cap', cur', rfl, _, hc', _⟩
    · cases hh
    · cases hh
      rw [hc] at hc'
      cases hc'
      exact he rfl
theorem sq_of_owns {w : World} {s : Nat × List Nat} (h : w.ownsRow 0 44 1 (.slice (some ⟨s.1, 0, none⟩) s.2.length s.2.length) s.2.length (encN s.2)) : Sl w (some ⟨s.1, 0, none⟩) s.2.length s.2.length 1 (encN s.2) := by
  obtain ⟨a, c, he, hs, _⟩ := of_owns h
  cases he
  exact hs
def SqO (w : World) (s : Nat × List Nat) : Prop := w.ownsRow 0 44 1 (.slice (some ⟨s.1, 0, none⟩) s.2.length s.2.length) s.2.length (encN s.2) ∧ 4 ≤ s.2.length ∧ s.2.length ≤ 100 ∧ s.2.length % 2 = 0
end Go.Proofs.Ytcepbpjdcfkgcaa
