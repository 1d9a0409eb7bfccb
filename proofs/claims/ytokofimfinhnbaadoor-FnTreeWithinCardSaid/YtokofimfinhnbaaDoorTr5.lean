/-
  The tree of boxes: the partition, walked: what it leaves is what was there in some order. No condition.
-/
import Derived.Test.YtokofimfinhnbaaDoorTr4
set_option linter.unusedVariables false
set_option linter.unusedSimpArgs false
namespace Go.Proofs.YtokofimfinhnbaaDoor
open Go.RowKit Go.Fl Go.Sl Go.Ch
def sub (L : List It) (off n : Nat) : List It := (L.drop off).take n
/-- one part of a list is put into some order, the rest is left -/
structure SubPerm (off n : Nat) (L L' : List It) : Prop where
  len : L'.length = L.length
  out : ∀ i, i < off ∨ off + n ≤ i → L'[i]? = L[i]?
  perm : (sub L' off n).Perm (sub L off n)
theorem SubPerm.refl (off n : Nat) (L : List It) : SubPerm off n L L := ⟨rfl, fun _ _ => rfl, List.Perm.refl _⟩
theorem SubPerm.trans {off n : Nat} {L L' L'' : List It} (h : SubPerm off n L L') (k : SubPerm off n L' L'') : SubPerm off n L L'' :=
  ⟨k.len.trans h.len, fun i hi => (k.out i hi).trans (h.out i hi), k.perm.trans h.perm⟩
theorem set_sub (L : List It) (off n i : Nat) (t : It) : sub (L.set (off + i) t) off n = (sub L off n).set i t := by
  unfold sub
  rw [List.drop_set, if_neg (by omega), List.take_set, show off + i - off = i by omega]
theorem sub_get (L : List It) (off n i : Nat) (hi : i < n) : (sub L off n)[i]? = L[off + i]? := by
  unfold sub
  rw [List.getElem?_take, if_pos hi, List.getElem?_drop]
theorem SubPerm.swap {L : List It} {off n i j : Nat} (hi : i < n) (hj : j < n) (hl : off + n ≤ L.length) : SubPerm off n L (swapL L (off + i) (off + j)) := by
  have h1 := List.getElem?_eq_getElem (show off + i < L.length by omega)
  have h2 := List.getElem?_eq_getElem (show off + j < L.length by omega)
  rw [swapL_eq h1 h2]
  refine ⟨by simp, fun k hk => ?_, ?_⟩
  · rw [List.getElem?_set_ne (by omega), List.getElem?_set_ne (by omega)]
  · rw [set_sub, set_sub]
    have hln : (sub L off n).length = n := by unfold sub; simp; omega
    have g1 : (sub L off n)[i]'(by omega) = L[off + i] := by
      have := sub_get L off n i hi
      rw [h1, List.getElem?_eq_getElem (by omega)] at this
      simpa using this
    have g2 : (sub L off n)[j]'(by omega) = L[off + j] := by
      have := sub_get L off n j hj
      rw [h2, List.getElem?_eq_getElem (by omega)] at this
      simpa using this
    rw [← g1, ← g2]
    exact List.set_set_perm (by omega) (by omega)
/-- how things stand within the partition -/
structure QI (w : World) (B o5 n cap : Nat) (hz : Bool) (L : List It) (wr : World) (L' : List It) : Prop where
  row : Row wr B o5 n L'
  hp : Blk wr w.heap.size 55 [.slice (some ⟨B, o5, none⟩) n cap]
  hq : Blk wr (w.heap.size + 1) 4 [.bool hz]
  hr : ∃ q : Int, Blk wr (w.heap.size + 1 + 1) 128 [.int .u32 q] ∧ 0 ≤ q ∧ q < 4294967296
  ch : Ch no (· = B) w wr
  pm : SubPerm (o5 / 5) n L L'
theorem QI.lt {w : World} {B o5 n cap : Nat} {hz : Bool} {L : List It} {wr : World} {L' : List It} (h : QI w B o5 n cap hz L wr L') : w.heap.size + 2 < wr.heap.size := by obtain ⟨q, h1, _⟩ := h.hr; exact h1.lt
theorem QI.keep {w : World} {B o5 n cap : Nat} {hz : Bool} {L : List It} {wr w' : World} {L' : List It} (h : QI w B o5 n cap hz L wr L') (hk : Stab.Keeps wr w') : QI w B o5 n cap hz L w' L' := by
  obtain ⟨q, h1, h2⟩ := h.hr
  exact ⟨⟨h.row.blk.keep hk, h.row.off⟩, h.hp.keep hk, h.hq.keep hk, ⟨q, h1.keep hk, h2⟩, h.ch.trans (Ch.of_keeps hk), h.pm⟩
theorem QI.swap {w : World} {B o5 n cap i j : Nat} {hz : Bool} {L : List It} {wr w' : World} {L' : List It} {e : Ending} (h : QI w B o5 n cap hz L wr L') (hB : B < w.heap.size) (hi : i < n) (hj : j < n) (hs : SwapPost wr B o5 n L' i j e w') :
    QI w B o5 n cap hz L w' (swapL L' (o5 / 5 + i) (o5 / 5 + j)) := by
  obtain ⟨_, h1, h2⟩ := hs
  obtain ⟨q, h3, h4⟩ := h.hr
  obtain ⟨off, e, hl⟩ := h.row.off
  have e2 : o5 / 5 = off := by omega
  refine ⟨h1, h2.blk h.hp (by omega) (fun e => e), h2.blk h.hq (by omega) (fun e => e), ⟨q, h2.blk h3 (by omega) (fun e => e), h4⟩, h.ch.trans h2, h.pm.trans ?_⟩
  rw [e2]
  exact SubPerm.swap hi hj hl
theorem QI.rnd {w : World} {B o5 n cap : Nat} {hz : Bool} {L : List It} {wr : World} {L' : List It} (h : QI w B o5 n cap hz L wr L') (hB : B < w.heap.size) {q : Int} (h0 : 0 ≤ q) (h1 : q < 4294967296) :
    QI w B o5 n cap hz L (wr.setCell ⟨w.heap.size + 1 + 1, 0, none⟩ (.int .u32 q)) L' := by
  obtain ⟨q', h3, h4⟩ := h.hr
  exact ⟨⟨h.row.blk.past (by simp; omega) _, h.row.off⟩, h.hp.past (by simp; omega) _, h.hq.past (by simp) _, ⟨q, h3.set 0 _, h0, h1⟩, h.ch.setCell (.inr (by simp; omega)) _, h.pm⟩
def QPost (w : World) (B o5 n : Nat) (L : List It) (e : Ending) (w' : World) : Prop := e = .returned (.tuple #[]) ∧ ∃ L', Row w' B o5 n L' ∧ SubPerm (o5 / 5) n L L' ∧ Ch no (· = B) w w'
theorem QI.post {w : World} {B o5 n cap : Nat} {hz : Bool} {L : List It} {wr : World} {L' : List It} (h : QI w B o5 n cap hz L wr L') : QPost w B o5 n L (.returned (.tuple #[])) wr := ⟨rfl, L', h.row, h.pm, h.ch⟩
section
variable {w : World} {B o5 n cap : Nat} {hz : Bool} {L : List It} {wr : World} {L' : List It}
def QLess (w : World) (B o5 n cap : Nat) (hz : Bool) (L L' : List It) (e : Ending) (w' : World) : Prop := ∃ t, e = .returned (.bool t) ∧ QI w B o5 n cap hz L w' L'
def QSwap (w : World) (B o5 n cap : Nat) (hz : Bool) (L : List It) (e : Ending) (w' : World) : Prop := e = .returned (.tuple #[]) ∧ ∃ L', QI w B o5 n cap hz L w' L'
def QRnd (w : World) (B o5 n cap : Nat) (hz : Bool) (L L' : List It) (m : Int) (e : Ending) (w' : World) : Prop := ∃ x : Int, e = .returned (.int .i64 x) ∧ 0 ≤ x ∧ x < m ∧ QI w B o5 n cap hz L w' L'
theorem QI.lessC (h : QI w B o5 n cap hz L wr L') (hc : n ≤ cap) (hm : cap ≤ maxLen) (i j : Int) (i0 : 0 ≤ i) (i1 : i < n) (j0 : 0 ≤ j) (j1 : j < n) :
    Calls Tryd.prog 47 #[.int .i64 i, .int .i64 j, .pointer (some ⟨w.heap.size, 0, none⟩), .pointer (some ⟨w.heap.size + 1, 0, none⟩)] wr (QLess w B o5 n cap hz L L') := by
  obtain ⟨a, rfl⟩ := Int.eq_ofNat_of_zero_le i0
  obtain ⟨b, rfl⟩ := Int.eq_ofNat_of_zero_le j0
  refine (less_ B o5 n cap _ _ a b hz L' wr h.row hc hm h.hp h.hq (by omega) (by omega)).mono ?_
  rintro e w' ⟨t, rfl, hk⟩
  exact ⟨t, rfl, h.keep hk⟩
theorem QI.swapC (h : QI w B o5 n cap hz L wr L') (hB : B < w.heap.size) (hc : n ≤ cap) (hm : cap ≤ maxLen) (i j : Int) (i0 : 0 ≤ i) (i1 : i < n) (j0 : 0 ≤ j) (j1 : j < n) :
    Calls Tryd.prog 48 #[.int .i64 i, .int .i64 j, .pointer (some ⟨w.heap.size, 0, none⟩)] wr (QSwap w B o5 n cap hz L) := by
  obtain ⟨a, rfl⟩ := Int.eq_ofNat_of_zero_le i0
  obtain ⟨b, rfl⟩ := Int.eq_ofNat_of_zero_le j0
  refine (swap_ B o5 n cap _ a b L' wr h.row hc hm h.hp (by omega) (by omega)).mono ?_
  rintro e w' hs
  exact ⟨hs.1, _, h.swap hB (i := a) (j := b) (by omega) (by omega) hs⟩
theorem QI.rndC (h : QI w B o5 n cap hz L wr L') (hB : B < w.heap.size) (m : Int) (m0 : 1 ≤ m) (m1 : m ≤ 2147483647) :
    Calls Tryd.prog 46 #[.int .i64 m, .pointer (some ⟨w.heap.size + 1 + 1, 0, none⟩)] wr (QRnd w B o5 n cap hz L L' m) := by
  obtain ⟨q, h1, h2, h3⟩ := h.hr
  refine (rnd_ _ m q wr h1 h2 h3 m0 m1).mono ?_
  rintro e w' ⟨x, q', rfl, x0, x1, q0, q1, rfl⟩
  exact ⟨x, rfl, x0, x1, h.rnd hB q0 q1⟩
end
theorem int_eq {k : IntKind} {a b : Int} (h : a = b) : Value.int k a = .int k b := by rw [h]
end Go.Proofs.YtokofimfinhnbaaDoor
