/-
  The tree of boxes: the exchange of two items, the partition's own random numbers, walked. No condition.
-/
import Derived.Test.YtokofimfinhnbaaDoorTr2
import Derived.RegionTactic
import Derived.BigRegion
import Derived.ChangeAlike
import Derived.Outline
set_option linter.unusedVariables false
set_option linter.unusedSimpArgs false
namespace Go.Proofs.YtokofimfinhnbaaDoor
open Go.RowKit Go.Fl Go.Sl Go.Ch

def swapL (L : List It) (i j : Nat) : List It := match L[i]?, L[j]? with | some a, some b => (L.set i b).set j a | _, _ => L
theorem swapL_len (L : List It) (i j : Nat) : (swapL L i j).length = L.length := by unfold swapL; split <;> simp
/-- an item written into its place -/
def putIt (w : World) (B p : Nat) (t : It) : World := ((((w.setCell ⟨B, p, none⟩ (.float .f64 t.box.a)).setCell ⟨B, p + 1, none⟩ (.float .f64 t.box.b)).setCell ⟨B, p + 2, none⟩ (.float .f64 t.box.c)).setCell ⟨B, p + 3, none⟩ (.float .f64 t.box.d)).setCell ⟨B, p + 4, none⟩ (.int .i64 t.id)
theorem Row.put {w : World} {B o5 n : Nat} {L : List It} (h : Row w B o5 n L) {i : Nat} (hi : i < n) (t : It) : Row (putIt w B (o5 + i * 5) t) B o5 n (L.set (o5 / 5 + i) t) := by
  obtain ⟨off, e, hl⟩ := h.off
  have e2 : o5 / 5 = off := by omega
  have e3 : o5 + i * 5 = (off + i) * 5 := by omega
  rw [e2, e3]
  refine ⟨?_, off, e, by simpa using hl⟩
  unfold putIt
  rw [← enc_set L (off + i) (by omega) t]
  exact ((((h.blk.set _ _).set _ _).set _ _).set _ _).set _ _
theorem Row.drew {w : World} {B o5 n : Nat} {L : List It} (h : Row w B o5 n L) : Row w.drew B o5 n L := ⟨h.blk.drew, h.off⟩
theorem ch_put {X : Nat → Prop} {a w : World} {B : Nat} (h : Ch no X a w) (hX : X B) (p : Nat) (t : It) : Ch no X a (putIt w B p t) :=
  ((((h.setCell (.inl hX) _).setCell (.inl hX) _).setCell (.inl hX) _).setCell (.inl hX) _).setCell (.inl hX) _
theorem swapL_eq {L : List It} {i j : Nat} {t u : It} (h : L[i]? = some t) (h' : L[j]? = some u) : swapL L i j = (L.set i u).set j t := by unfold swapL; rw [h, h']
def SwapPost (w : World) (B o5 n : Nat) (L : List It) (i j : Nat) (e : Ending) (w' : World) : Prop :=
  e = .returned (.tuple #[]) ∧ Row w' B o5 n (swapL L (o5 / 5 + i) (o5 / 5 + j)) ∧ Ch no (· = B) w w'
set_option maxRecDepth 100000 in
set_option maxHeartbeats 1000000 in
theorem swap_ (B o5 n cap p i j : Nat) (L : List It) (w : World) (h : Row w B o5 n L) (hc : n ≤ cap) (hm : cap ≤ maxLen) (hp : Blk w p 55 [.slice (some ⟨B, o5, none⟩) n cap]) (hi : i < n) (hj : j < n) :
    Calls Tryd.prog 48 #[.int .i64 i, .int .i64 j, .pointer (some ⟨p, 0, none⟩)] w (SwapPost w B o5 n L i j) := by
  obtain ⟨t, ht, c0, c1, c2, c3, c4⟩ := h.cell hi
  obtain ⟨u, hu, d0, d1, d2, d3, d4⟩ := h.cell hj
  have hB := h.blk.lt
  have p0 : w.cell? ⟨p, 0, none⟩ = some (.slice (some ⟨B, o5, none⟩) n cap) := hp.cell rfl
  have hpl := hp.lt
  have hfz := h.blk.free
  have hpB : p ≠ B := hp.ne h.blk (by decide)
  have hBp : B ≠ p := hpB.symm
  unfold maxLen at hm
  rcases Nat.lt_trichotomy i j with hij | hij | hij
  · go_enter Tryd.func48, Tryd.ntmps48
    go_wp2
    go_region
    go_end0
    refine ⟨rfl, ?_, ?_⟩
    · rw [swapL_eq ht hu]; exact ((h.put hi u).put hj t).drew
    · exact (ch_put (ch_put (Ch.refl no (· = B) w) rfl (o5 + i * 5) u) rfl (o5 + j * 5) t).drew
  · subst hij
    go_enter Tryd.func48, Tryd.ntmps48
    go_wp2
    go_region
    go_end0
    refine ⟨rfl, ?_, ?_⟩
    · rw [swapL_eq ht ht]; exact ((h.put hi t).put hi t).drew
    · exact (ch_put (ch_put (Ch.refl no (· = B) w) rfl (o5 + i * 5) t) rfl (o5 + i * 5) t).drew
  · go_enter Tryd.func48, Tryd.ntmps48
    go_wp2
    go_region
    go_end0
    refine ⟨rfl, ?_, ?_⟩
    · rw [swapL_eq ht hu]; exact ((h.put hi u).put hj t).drew
    · exact (ch_put (ch_put (Ch.refl no (· = B) w) rfl (o5 + i * 5) u) rfl (o5 + j * 5) t).drew
end Go.Proofs.YtokofimfinhnbaaDoor
