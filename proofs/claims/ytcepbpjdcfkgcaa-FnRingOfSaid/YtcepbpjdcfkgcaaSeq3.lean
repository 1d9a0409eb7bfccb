/-
  A sequence told as plain numbers. No condition.
-/
import Derived.Test.YtcepbpjdcfkgcaaSeq2
set_option linter.unusedVariables false
set_option linter.unusedSimpArgs false
namespace Go.Proofs.Ytcepbpjdcfkgcaa
open Go.RowKit Go.Fl Go.Sl
def GeoPost (w : World) (kind dim : Int) (n : Nat) (xs : List Value) (e : Ending) (w' : World) : Prop :=
  ∃ a cap, e = .returned (.agg #[.int .i64 kind, .int .i64 dim, .slice a n cap, .slice none 0 0]) ∧ Stab.Keeps w w' ∧ Sl w' a n cap 1 xs ∧ ∀ x, a = some x → w.heap.size ≤ x.block
/-- between two rounds: the sequence's copy, the result's block, the geometry that is being made at B, its numbers -/
structure PlainI (w : World) (B : Nat) (d : Nat) (a : Option Addr) (n cap : Nat) (m : Nat) (xs : List Value) (wr : World) : Prop where
  keeps : Stab.Keeps w wr
  lt : B < wr.heap.size
  g0 : wr.cell? ⟨B, 0, none⟩ = some (.int .i64 2)
  g1 : wr.cell? ⟨B, 1, none⟩ = some (.int .i64 d)
  g3 : wr.cell? ⟨B, 3, none⟩ = some (.slice none 0 0)
  s0 : wr.cell? ⟨w.heap.size, 0, none⟩ = some (.int .u8 d)
  s1 : wr.cell? ⟨w.heap.size, 1, none⟩ = some (.slice a n cap)
  r0 : wr.cell? ⟨w.heap.size + 1, 0, none⟩ = some (.int .i64 0)
  r1 : wr.cell? ⟨w.heap.size + 1, 1, none⟩ = some (.int .i64 0)
  r2 : wr.cell? ⟨w.heap.size + 1, 2, none⟩ = some (.slice none 0 0)
  r3 : wr.cell? ⟨w.heap.size + 1, 3, none⟩ = some (.slice none 0 0)
  gf : ∀ j, wr.frozen? ⟨B, j, none⟩ = false
  rf : ∀ j, wr.frozen? ⟨w.heap.size + 1, j, none⟩ = false
  own : ∃ al c, wr.cell? ⟨B, 2, none⟩ = some (.slice al m c) ∧ wr.ownsRow (B + 1) 44 1 (.slice al m c) m xs
theorem PlainI.keep {w : World} {B d : Nat} {a : Option Addr} {n cap m : Nat} {xs : List Value} {wr w' : World} (h : PlainI w B d a n cap m xs wr) (hk : Stab.Keeps wr w') (hB : w.heap.size + 1 < B) : PlainI w B d a n cap m xs w' := by
  obtain ⟨iK, iB, g0, g1, g3, s0, s1, r0, r1, r2, r3, gf, rf, al, c, g2, iO⟩ := h
  obtain ⟨c1, f1⟩ := Stab.own_cell hk B iB
  obtain ⟨c2, _⟩ := Stab.own_cell hk w.heap.size (by omega)
  obtain ⟨c3, f3⟩ := Stab.own_cell hk (w.heap.size + 1) (by omega)
  exact ⟨Stab.Keeps.trans iK hk, Nat.lt_of_lt_of_le iB hk.size, by rw [c1]; exact g0, by rw [c1]; exact g1, by rw [c1]; exact g3, by rw [c2]; exact s0, by rw [c2]; exact s1, by rw [c3]; exact r0, by rw [c3]; exact r1, by rw [c3]; exact r2, by rw [c3]; exact r3,
    fun j => by rw [f1]; exact gf j, fun j => by rw [f3]; exact rf j, al, c, by rw [c1]; exact g2, owns_keep iO hk⟩
set_option maxRecDepth 100000 in
set_option maxHeartbeats 2000000 in
theorem plain2_ (a : Option Addr) (n cap q : Nat) (l : List Nat) (w : World) (hn : l.length = n) (hq : q * 2 = n) (hs : n ≤ 1000000) (h : Sz w a n cap 1 (encN l)) :
    Calls Try.prog 17 #[.agg #[.int .u8 0, .slice a n cap]] w (GeoPost w 2 0 n (encN l)) := by
  obtain ⟨i0, hi, hz0, hz1, hz2⟩ := info_parts infoFloat
  have hle := h.le
  have hm := h.max
  have hL := fun w' => length_ 0 (by omega) a n cap hle hm w'
  rw [show n / dimN 0 = q by rw [show dimN 0 = 2 from rfl]; omega] at hL
  have hT := fun w' => seqType_ 0 a n cap w'
  have hG := get2_
  unfold maxLen at hm
  simp only [Int.natCast_zero, Int.natCast_one, Int.cast_ofNat_Int] at hL hT
  go_enter Try.func17, Try.ntmps17
  go_wp2_with fail
  refine (hT _).mono ?_
  rintro e w2 ⟨rfl, hk2⟩
  clear hT
  obtain ⟨mc_, mf_⟩ := Stab.own_cell hk2 (w.heap.size) (by first | (simp; done) | (simp; omega) | omega | (apply Stab.cell_lt (a := ⟨w.heap.size, 0, none⟩); assumption))
  have m0 : w2.cell? ⟨w.heap.size, 0, none⟩ = some (.int .u8 0) := by rw [mc_]; first | assumption | (go_simp; done)
  have m1 : w2.cell? ⟨w.heap.size, 1, none⟩ = some (.slice a n cap) := by rw [mc_]; first | assumption | (go_simp; done)
  have mf : ∀ j, w2.frozen? ⟨w.heap.size, j, none⟩ = false := fun j => by rw [mf_]; first | (go_simp; done) | (apply_assumption)
  clear mc_ mf_
  obtain ⟨rc_, rf_⟩ := Stab.own_cell hk2 (w.heap.size + 1) (by first | (simp; done) | (simp; omega) | omega | (apply Stab.cell_lt (a := ⟨w.heap.size + 1, 0, none⟩); assumption))
  have r0 : w2.cell? ⟨w.heap.size + 1, 0, none⟩ = some (.int .i64 0) := by rw [rc_]; first | assumption | (go_simp; done)
  have r1 : w2.cell? ⟨w.heap.size + 1, 1, none⟩ = some (.int .i64 0) := by rw [rc_]; first | assumption | (go_simp; done)
  have r2 : w2.cell? ⟨w.heap.size + 1, 2, none⟩ = some (.slice none 0 0) := by rw [rc_]; first | assumption | (go_simp; done)
  have r3 : w2.cell? ⟨w.heap.size + 1, 3, none⟩ = some (.slice none 0 0) := by rw [rc_]; first | assumption | (go_simp; done)
  have rf : ∀ j, w2.frozen? ⟨w.heap.size + 1, j, none⟩ = false := fun j => by rw [rf_]; first | (go_simp; done) | (apply_assumption)
  clear rc_ rf_
  have hw2 : Stab.Keeps w w2 := by repeat (first | (with_reducible exact Stab.Keeps.refl _) | (with_reducible assumption) | (with_reducible refine Stab.Keeps.alloc ?_ _) | (with_reducible refine Stab.Keeps.drew ?_) | (with_reducible refine Stab.Keeps.drewN ?_ _) | ((with_reducible refine Stab.Keeps.setCell ?_ ?_ _); focus (first | (simp; done) | (simp; omega))) | (with_reducible refine Stab.Keeps.trans ?_ (by with_reducible assumption)))
  go_wp2_with fail
  have hl0 := Stab.cell_lt m0
  have hl1 := Stab.cell_lt r0
  simp only at hl0 hl1
  have I0 : PlainI w w2.heap.size 0 a n cap 0 [] (w2.alloc (.cells #[.int .i64 2, .int .i64 0, .slice none 0 0, .slice none 0 0] 26)) :=
    ⟨by repeat (first | (with_reducible exact Stab.Keeps.refl _) | (with_reducible assumption) | (with_reducible refine Stab.Keeps.alloc ?_ _) | (with_reducible refine Stab.Keeps.drew ?_) | (with_reducible refine Stab.Keeps.drewN ?_ _) | ((with_reducible refine Stab.Keeps.setCell ?_ ?_ _); focus (first | (simp; done) | (simp; omega))) | (with_reducible refine Stab.Keeps.trans ?_ (by with_reducible assumption))), by simp, by go_simp, by go_simp, by go_simp, by go_simp, by go_simp, by go_simp, by go_simp, by go_simp, by go_simp, fun j => by go_simp, fun j => by go_simp, ⟨none, 0, by go_simp, World.ownsRow_nil _ _ _ _⟩⟩
  have hB1 : w.heap.size + 1 < w2.heap.size := hl1
  generalize hBe : w2.heap.size = B at *
  replace hBe : Go.RowKit.Hid _ := hBe
  generalize (w2.alloc (.cells #[.int .i64 2, .int .i64 0, .slice none 0 0, .slice none 0 0] 26)) = W at *
  clear m0 m1 mf r0 r1 r2 r3 rf hk2 hw2 hl0 hl1
  go_loopw [4] (fun i wr => ∃ k : Nat, k ≤ q ∧ i = .int .i64 k ∧ PlainI w B 0 a n cap (k * 2) (encN (l.take (k * 2))) wr) (fun i _ => q - (intOf i).toNat)
  case atStart => exact ⟨0, Nat.zero_le _, rfl, by simpa [encN] using I0⟩
  case round =>
    obtain ⟨k, hk, rfl, hI⟩ := hrel
    have hS := h.keep hI.keeps
    have hlt := hI.lt
    obtain ⟨iK, iB, g0, g1, g3, s0, s1, r0, r1, r2, r3, gf, rf, al, c, g2, iO⟩ := hI
    have hI : PlainI w B 0 a n cap (k * 2) (encN (l.take (k * 2))) wr := ⟨iK, iB, g0, g1, g3, s0, s1, r0, r1, r2, r3, gf, rf, al, c, g2, iO⟩
    go_wp2_with fail
    refine (hL _).mono ?_
    rintro e w3 ⟨rfl, hk3⟩
    have hI3 := hI.keep hk3 hB1
    have hS3 := hS.keep hk3
    clear hS hI iK iB g0 g1 g3 s0 s1 r0 r1 r2 r3 gf rf g2 iO hlt
    obtain ⟨iK, iB, g0, g1, g3, s0, s1, r0, r1, r2, r3, gf, rf, al, c, g2, iO⟩ := hI3
    by_cases hlt : k < q
    · have hI3 : PlainI w B 0 a n cap (k * 2) (encN (l.take (k * 2))) w3 := ⟨iK, iB, g0, g1, g3, s0, s1, r0, r1, r2, r3, gf, rf, al, c, g2, iO⟩
      obtain ⟨b, off, ha, hb, hc⟩ := hS3.elem (i := k * 2) (by omega)
      obtain ⟨b', off', ha', hb', hc'⟩ := hS3.elem (i := k * 2 + 1) (by omega)
      subst ha
      cases ha'
      have c0 : w3.cell? ⟨b, off + k * 2, none⟩ = some (.float .f64 (l[k * 2])) := by have := hc 0 _ (by omega) (encN_get l (k * 2) (by omega)); simpa using this
      have c1 : w3.cell? ⟨b, off + (k * 2 + 1), none⟩ = some (.float .f64 (l[k * 2 + 1])) := by have := hc' 0 _ (by omega) (encN_get l (k * 2 + 1) (by omega)); simpa using this
      have hgt := hG b off n cap k (l[k * 2]) (l[k * 2 + 1]) w3 hle (by unfold maxLen; omega) hs (by omega) hb c0 c1
      clear hc hc' c0 c1
      go_wp2_with fail
      refine hgt.mono ?_
      rintro e w4 ⟨rfl, hk4⟩
      clear hgt
      have hI4 := hI3.keep hk4 hB1
      clear hI3 iK iB g0 g1 g3 s0 s1 r0 r1 r2 r3 gf rf g2 iO hS3
      obtain ⟨iK, iB, g0, g1, g3, s0, s1, r0, r1, r2, r3, gf, rf, al, c, g2, iO⟩ := hI4
      have hsz := iK.size
      go_wp2_with (at_builtin; (refine Sl.append_own (w0 := w4) rfl _ _ 24 rfl (B + 1) 44 i0 _ 1 8 Try.underlying24 hi hz0 hz1 hz2 rfl (by decide) _ (k * 2) _ rfl ((iO.alloc _).alloc _) ⟨w4.heap.size + 1, 0, none⟩ 2 2 [.float .f64 (l[k * 2]), .float .f64 (l[k * 2 + 1])] rfl rfl ?c1 ?c2 ?c3 ?c4 ?c5 ?c6 ?_))
      case c1 => exact new_cells _ _ _ _ (by simp)
      case c2 => intro u hu; simp at hu; rcases hu with rfl | rfl <;> rfl
      case c3 => unfold maxLen; omega
      case c4 => omega
      case c5 => simp; omega
      case c6 => exact Below.alloc (Below.alloc (Below.refl _ _) (by omega) _) (by first | omega | (simp; omega)) _
      intro al' c' w5 hown' hk5 hsz5 hgr
      have hlts := iO.lt
      have z4 : w5.cell? ⟨w4.heap.size, 4, none⟩ = some (.int .u8 0) := by
        refine World.grownBy.cell hgr ?_ ?_
        · go_simp
        · intro h
          have := (hlts _ h.symm).2
          simp at this
      obtain ⟨nc_, nf_⟩ := own_cellB hk5 (B) (by first | (simp; done) | (simp; omega) | omega | (apply Stab.cell_lt (a := ⟨B, 0, none⟩); assumption))
      have n0 : w5.cell? ⟨B, 0, none⟩ = some (.int .i64 2) := by rw [nc_]; first | assumption | (go_simp; done)
      have n1 : w5.cell? ⟨B, 1, none⟩ = some (.int .i64 0) := by rw [nc_]; first | assumption | (go_simp; done)
      have n2 : w5.cell? ⟨B, 2, none⟩ = some (.slice al (k * 2) c) := by rw [nc_]; first | assumption | (go_simp; done)
      have n3 : w5.cell? ⟨B, 3, none⟩ = some (.slice none 0 0) := by rw [nc_]; first | assumption | (go_simp; done)
      have nf : ∀ j, w5.frozen? ⟨B, j, none⟩ = false := fun j => by rw [nf_]; first | (go_simp; done) | (apply_assumption)
      clear nc_ nf_
      obtain ⟨oc_, of_⟩ := own_cellB hk5 (w.heap.size) (by first | (simp; done) | (simp; omega) | omega | (apply Stab.cell_lt (a := ⟨w.heap.size, 0, none⟩); assumption))
      have o0 : w5.cell? ⟨w.heap.size, 0, none⟩ = some (.int .u8 0) := by rw [oc_]; first | assumption | (go_simp; done)
      have o1 : w5.cell? ⟨w.heap.size, 1, none⟩ = some (.slice (some ⟨b, off, none⟩) n cap) := by rw [oc_]; first | assumption | (go_simp; done)
      clear oc_ of_
      obtain ⟨pc_, pf_⟩ := own_cellB hk5 (w.heap.size + 1) (by first | (simp; done) | (simp; omega) | omega | (apply Stab.cell_lt (a := ⟨w.heap.size + 1, 0, none⟩); assumption))
      have p0 : w5.cell? ⟨w.heap.size + 1, 0, none⟩ = some (.int .i64 0) := by rw [pc_]; first | assumption | (go_simp; done)
      have p1 : w5.cell? ⟨w.heap.size + 1, 1, none⟩ = some (.int .i64 0) := by rw [pc_]; first | assumption | (go_simp; done)
      have p2 : w5.cell? ⟨w.heap.size + 1, 2, none⟩ = some (.slice none 0 0) := by rw [pc_]; first | assumption | (go_simp; done)
      have p3 : w5.cell? ⟨w.heap.size + 1, 3, none⟩ = some (.slice none 0 0) := by rw [pc_]; first | assumption | (go_simp; done)
      have pf : ∀ j, w5.frozen? ⟨w.heap.size + 1, j, none⟩ = false := fun j => by rw [pf_]; first | (go_simp; done) | (apply_assumption)
      clear pc_ pf_
      have hk5' : Stab.Keeps w w5 := Below.trans iK (Below.mono hk5 (by omega))
      have hxs : encN (l.take (k * 2)) ++ [.float .f64 (l[k * 2]), .float .f64 (l[k * 2 + 1])] = encN (l.take ((k + 1) * 2)) := by
        rw [show (k + 1) * 2 = k * 2 + 1 + 1 by omega, List.take_succ_eq_append_getElem (by omega), List.take_succ_eq_append_getElem (by omega)]
        unfold encN
        rw [List.map_append, List.map_append, List.append_assoc]
        rfl
      rw [hxs] at hown'
      clear hgr hk4 hk3 iK iB g0 g1 g3 s0 s1 r0 r1 r2 r3 gf rf g2 iO hxs
      have hlB := Stab.cell_lt n0
      simp only at hlB
      go_wp2
      refine ⟨⟨k + 1, by omega, by go_num, ⟨?_, by simpa using hlB, by go_simp, by go_simp, by go_simp, by go_simp, by go_simp, by go_simp, by go_simp, by go_simp, by go_simp, fun j => by go_simp, fun j => by go_simp, al', c', ?_, ?_⟩⟩, by simp [intOf]; omega⟩
      · repeat (first | (with_reducible exact Stab.Keeps.refl _) | (with_reducible assumption) | (with_reducible refine Stab.Keeps.alloc ?_ _) | (with_reducible refine Stab.Keeps.drew ?_) | (with_reducible refine Stab.Keeps.drewN ?_ _) | ((with_reducible refine Stab.Keeps.setCell ?_ ?_ _); focus (first | (simp; done) | (simp; omega))) | (with_reducible refine Stab.Keeps.trans ?_ (by with_reducible assumption)))
      · rw [show (k + 1) * 2 = k * 2 + 2 by omega]
        go_simp
      · rw [show (k + 1) * 2 = k * 2 + 2 by omega] at *
        exact owns_set hown' (by omega)
    · have hkq : k = q := by omega
      subst hkq
      go_wp2_with fail
      rw [List.take_of_length_le (by omega)] at iO
      simp only [hq] at iO g2
      have hB2 : w.heap.size + 1 < B + 1 := by omega
      obtain ⟨al', c', he, hSl, _, hfr⟩ := of_owns (owns_set (u := .slice none 0 0) (i := 3) (owns_set (u := .slice al n c) (i := 2) (owns_set (u := .int .i64 0) (i := 1) (owns_set (u := .int .i64 2) (i := 0) iO hB2) hB2) hB2) hB2)
      cases he
      refine bodyPost_ret (v := .agg #[.int .i64 2, .int .i64 0, .slice al n c, .slice none 0 0]) (by simp [results, Try.results17, go_sem, *]) rfl ⟨al, c, rfl, ?_, ?_, fun x hx => ?_⟩
      · repeat (first | (with_reducible exact Stab.Keeps.refl _) | (with_reducible assumption) | (with_reducible refine Stab.Keeps.alloc ?_ _) | (with_reducible refine Stab.Keeps.drew ?_) | (with_reducible refine Stab.Keeps.drewN ?_ _) | ((with_reducible refine Stab.Keeps.setCell ?_ ?_ _); focus (first | (simp; done) | (simp; omega))) | (with_reducible refine Stab.Keeps.trans ?_ (by with_reducible assumption)))
      · exact hSl
      · have := hfr x hx
        omega
end Go.Proofs.Ytcepbpjdcfkgcaa
