/-
  A ring put together of sequences. No condition.
-/
import Derived.Test.YtcepbpjdcfkgcaaSeq3
set_option linter.unusedVariables false
set_option linter.unusedSimpArgs false
namespace Go.Proofs.Ytcepbpjdcfkgcaa
open Go.RowKit Go.Fl Go.Sl
set_option maxRecDepth 100000 in
theorem noSpare_ (d : Nat) (a : Option Addr) (n : Nat) (hm : n ≤ 1000000) (w : World) : Calls Try.prog 43 #[.agg #[.int .u8 d, .slice a n n]] w (One w (.tuple #[])) := by
  go_enter Try.func43, Try.ntmps43
  go_wp2
  refine bodyPost_ret (v := .tuple #[]) (by simp [results, Try.results43, go_sem]) rfl ⟨rfl, ?_⟩
  repeat (first | (with_reducible exact Stab.Keeps.refl _) | (with_reducible assumption) | (with_reducible refine Stab.Keeps.alloc ?_ _) | (with_reducible refine Stab.Keeps.drew ?_) | (with_reducible refine Stab.Keeps.drewN ?_ _) | ((with_reducible refine Stab.Keeps.setCell ?_ ?_ _); focus (first | (simp; done) | (simp; omega))) | (with_reducible refine Stab.Keeps.trans ?_ (by with_reducible assumption)))
def AppPost (w : World) (C cnt T : Nat) (xs : List Value) (e : Ending) (w' : World) : Prop :=
  e = .returned (.slice (some ⟨C, 0, none⟩) cnt T) ∧ Below C w w' ∧ w'.ownsRow C 44 1 (.slice (some ⟨C, 0, none⟩) cnt T) cnt xs
set_option maxRecDepth 100000 in
theorem appendAll_ (d b n C cnt T : Nat) (nums : List Nat) (xs : List Value) (w : World) (hn : nums.length = n) (h0 : 0 < n) (hs : T ≤ 1000000) (hr : cnt + n ≤ T) (hb : b < C)
    (h : Sl w (some ⟨b, 0, none⟩) n n 1 (encN nums)) (ho : w.ownsRow C 44 1 (.slice (some ⟨C, 0, none⟩) cnt T) cnt xs) :
    Calls Try.prog 42 #[.agg #[.int .u8 d, .slice (some ⟨b, 0, none⟩) n n], .slice (some ⟨C, 0, none⟩) cnt T] w (AppPost w C (cnt + n) T (xs ++ encN nums)) := by
  obtain ⟨i0, hi, hz0, hz1, hz2⟩ := info_parts infoFloat
  have hlt := (ho.lt C rfl).2
  go_enter Try.func42, Try.ntmps42
  go_wp2_with (at_builtin; (refine append_fits (w0 := w) rfl _ _ 24 rfl C 44 i0 1 Try.underlying24 hi hz1 C cnt T xs rfl (ho.alloc _) ⟨b, 0, none⟩ n n (encN nums) rfl ?c1 ?c2 ?c3 hr ?c4 ?_))
  case c1 => simp [encN, hn]
  case c2 =>
    intro j u hu
    rw [add_none]
    obtain ⟨b', off, e, hb', hc⟩ := h.at_ _ rfl
    cases e
    rw [World.cell?_alloc_past _ _ _ (by omega)]
    exact hc j u hu
  case c3 => intro v hv; simp [encN] at hv; obtain ⟨x, _, rfl⟩ := hv; rfl
  case c4 => exact Below.alloc (Below.refl _ _) (by omega) _
  intro w2 ho2 hk2 hsz _
  go_wp2
  go_ret
  exact ⟨rfl, hk2, ho2⟩
/-- a sequence's two cells, of the block and the numbers -/
def sqCells (s : Nat × List Nat) : List Value := [.int .u8 0, .slice (some ⟨s.1, 0, none⟩) s.2.length s.2.length]
theorem sq_len (s : Nat × List Nat) : (sqCells s).length = 2 := rfl
def SqAt (w : World) (s : Nat × List Nat) : Prop := Sl w (some ⟨s.1, 0, none⟩) s.2.length s.2.length 1 (encN s.2) ∧ 4 ≤ s.2.length ∧ s.2.length ≤ 100 ∧ s.2.length % 2 = 0
/-- the ring's numbers, but for the last place -/
def ringN (ss : List (Nat × List Nat)) : List Nat := ss.flatMap fun s => s.2.take (s.2.length - 2)
def lens (ss : List (Nat × List Nat)) : Nat := (ss.map fun s => s.2.length).sum
theorem lens_snoc (ss : List (Nat × List Nat)) (s : Nat × List Nat) : lens (ss ++ [s]) = lens ss + s.2.length := by simp [lens]
theorem ringN_snoc (ss : List (Nat × List Nat)) (s : Nat × List Nat) : ringN (ss ++ [s]) = ringN ss ++ s.2.take (s.2.length - 2) := by simp [ringN]
theorem ringN_len : ∀ (ss : List (Nat × List Nat)), (∀ s ∈ ss, 4 ≤ s.2.length) → (ringN ss).length + 2 * ss.length = lens ss
  | [], _ => rfl
  | s :: ss, h => by
    have h1 := ringN_len ss (fun t ht => h t (by simp [ht]))
    have h2 := h s (by simp)
    simp only [ringN, lens, List.flatMap_cons, List.length_append, List.length_take, List.map_cons, List.sum_cons, List.length_cons] at *
    omega
theorem lens_le : ∀ (ss : List (Nat × List Nat)), (∀ s ∈ ss, s.2.length ≤ 100) → lens ss ≤ 100 * ss.length
  | [], _ => by simp [lens]
  | s :: ss, h => by
    have h1 := lens_le ss (fun t ht => h t (by simp [ht]))
    have h2 := h s (by simp)
    simp only [lens, List.map_cons, List.sum_cons, List.length_cons] at *
    omega
theorem ringN_mono (ss : List (Nat × List Nat)) (k : Nat) : (ringN (ss.take k)).length ≤ (ringN ss).length := by
  have h : ringN ss = ringN (ss.take k) ++ ringN (ss.drop k) := by
    unfold ringN
    rw [← List.flatMap_append, List.take_append_drop]
  rw [h, List.length_append]; omega
end Go.Proofs.Ytcepbpjdcfkgcaa
