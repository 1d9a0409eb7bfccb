/-
  All numbers of plain data. No condition.
-/
import Derived.Test.YtbakhldjfplbfaaGreatK1
set_option linter.unusedVariables false
set_option linter.unusedSimpArgs false
namespace Go.Proofs.YtbakhldjfplbfaaGreat
open Go.RowKit Go.Fl Go.Sl Go.Pg Go.Ch Go.Kf
mutual
def GT.allN : GT → List Nat
  | .node _ nums kids => nums ++ GT.allNs kids
def GT.allNs : List GT → List Nat
  | [] => []
  | t :: r => t.allN ++ GT.allNs r
end
theorem allNs_snoc (l : List GT) (t : GT) : GT.allNs (l ++ [t]) = GT.allNs l ++ t.allN := by
  induction l with
  | nil => simp [GT.allNs]
  | cons a l ih => simp only [List.cons_append, GT.allNs, ih, List.append_assoc]
theorem allNs_take (l : List GT) (k : Nat) (hk : k < l.length) : (GT.allNs (l.take k)).length + l[k].allN.length ≤ (GT.allNs l).length := by
  induction l generalizing k with
  | nil => simp at hk
  | cons a l ih =>
    cases k with
    | zero => simp [GT.allNs]
    | succ k =>
      have := ih k (by simpa using hk)
      simp only [List.take_succ_cons, GT.allNs, List.length_append, List.getElem_cons_succ]
      omega
/-- a new slice of numbers -/
def NumsPost (w : World) (xs : List Nat) (e : Ending) (w' : World) : Prop := ∃ a cap, e = .returned (.slice a xs.length cap) ∧ Stab.Keeps w w' ∧ SzF w' (fun b => w.heap.size ≤ b) a xs.length cap 1 (encN xs)
theorem encN_one (l : List Nat) : ∀ u ∈ encN l, u.oneCell' = true := by
  intro u hu
  simp only [encN, List.mem_map] at hu
  obtain ⟨x, _, rfl⟩ := hu
  rfl
set_option maxRecDepth 100000 in
set_option maxHeartbeats 2000000 in
theorem allNums_ (w0 : World) (t : GT) (h : GT.At w0 t) : ∀ (w : World), t.allN.length ≤ 1000000 → Stab.Keeps w0 w → Calls Tryz.prog 40 #[t.hd.val] w (NumsPost w t.allN) := by
  obtain ⟨i0, hi, hz0, hz1, hz2⟩ := info_parts infoF
  have HI := Lib.hid hi
  have HZ0 := Lib.hid hz0
  have HZ1 := Lib.hid hz1
  have HZ2 := Lib.hid hz2
  clear hi hz0 hz1 hz2
  induction h with
  | mk hd nums kids hn hkn h1 h2 h3 ih =>
  intro w hb hK0
  have s1 := h1.keep hK0
  have s2 := h2.keep hK0
  clear h1 h2 h3
  obtain ⟨kind, dim, na, nn, nc, ka, kn, kc⟩ := hd
  simp only at hn hkn s1 s2
  have hle1 := s1.le
  have hm1 := s1.max
  have hle2 := s2.le
  have hm2 := s2.max
  unfold maxLen at hm2 hm1
  simp only [GT.allN, List.length_append] at hb
  have hnb : nn ≤ 1000000 := by omega
  simp only [GT.hd, Gm.val, GT.allN]
  have HB := Lib.hid hb
  have HN := Lib.hid hn
  clear hb hn
  go_enter Tryz.func40, Tryz.ntmps40
  have hkA : Stab.Keeps w ((w.alloc (.cells #[.int .i64 kind, .int .i64 dim, .slice na nn nc, .slice ka kn kc] 25)).alloc (.cells #[] 45)) := by with_reducible (repeat (first | exact Kx.r _ | assumption | refine Kx.a ?_ _ | refine Kx.d ?_ | refine Kx.e ?_ _ | (refine Kx.s ?_ ?_ _; focus (first | (simp; done) | (simp; omega))) | refine Kx.t ?_ (by assumption)))
  have hBA : Blk ((w.alloc (.cells #[.int .i64 kind, .int .i64 dim, .slice na nn nc, .slice ka kn kc] 25)).alloc (.cells #[] 45)) w.heap.size 25 [.int .i64 kind, .int .i64 dim, .slice na nn nc, .slice ka kn kc] := by with_reducible (repeat (first | assumption | ((refine Bx.n ⟨?_, ?_⟩) <;> focus (first | rfl | (simp; done) | omega)) | refine Bx.a ?_ _ | refine Bx.d ?_ | refine Bx.e ?_ _ | (refine Bx.p ?_ ?_; focus (first | (simp; done) | (simp; omega) | omega))))
  have hOA : ((w.alloc (.cells #[.int .i64 kind, .int .i64 dim, .slice na nn nc, .slice ka kn kc] 25)).alloc (.cells #[] 45)).ownsRow w.heap.size 45 1 (.slice (some ⟨(w.alloc (.cells #[.int .i64 kind, .int .i64 dim, .slice na nn nc, .slice ka kn kc] 25)).heap.size, 0, none⟩) 0 0) 0 [] := World.ownsRow_lit _ #[] 0 (by simp) (by unfold maxLen; omega) rfl
  have hsA : (w.alloc (.cells #[.int .i64 kind, .int .i64 dim, .slice na nn nc, .slice ka kn kc] 25)).heap.size = w.heap.size + 1 := by simp
  rw [hsA] at hOA
  have s1A := s1.keep hkA
  go_wp2_with (at_builtin; (refine append_sz (w0 := w) rfl _ _ 22 rfl w.heap.size 45 i0 _ 1 8 Tryz.underlying22 HI.out HZ0.out HZ1.out HZ2.out rfl (by decide) _ 0 [] rfl hOA _ nn _ (encN nums) rfl s1A (encN_one _) ?a2 ?a3 ?a4 hkA ?_))
  case a2 => unfold maxLen; omega
  case a3 => omega
  case a4 => simp; omega
  intro al cap w2 hown hbel hsz hgr
  try simp only [Nat.zero_add, List.nil_append] at hown
  have hB2 := Go.Kf.Blk.grown hBA hgr (fun e => by simp only [Value.ownBlock, Option.some.injEq] at e; omega)
  have hk2 : Stab.Keeps w w2 := hbel
  have s22 := s2.keep hk2
  clear hBA hOA s1A hkA hgr hbel s1 hsA
  have t0 := hB2.cell (i := 0) rfl
  have t1 := hB2.cell (i := 1) rfl
  have t2 := hB2.cell (i := 2) rfl
  have t3 := hB2.cell (i := 3) rfl
  have tf := hB2.free
  have tl := hB2.lt
  go_wp2_with fail
  clear t0 t1 t2 t3 tf tl hB2
  go_loopw [3, 13] (fun v iv wr => ∃ (k : Nat) (al : Option Addr) (c : Nat), k ≤ kn ∧ iv = .int .i64 k ∧ Stab.Keeps w wr ∧ v = .slice al (nums ++ GT.allNs (kids.take k)).length c ∧ wr.ownsRow w.heap.size 45 1 v (nums ++ GT.allNs (kids.take k)).length (encN (nums ++ GT.allNs (kids.take k)))) (fun _ i _ => kn - (intOf i).toNat)
  case atStart => exact ⟨0, al, cap, Nat.zero_le _, rfl, hk2, by simp [GT.allNs, HN.out], by simpa [GT.allNs, HN.out] using hown⟩
  case round =>
    clear hown hk2 s22 hsz
    obtain ⟨k, al, c, hk, rfl, hK, rfl, hown⟩ := hrel
    by_cases hlt : k < kn
    · obtain ⟨b, off, ha, hb, hc⟩ := (s2.keep hK).elem hlt
      subst ha
      have hki : k < kids.length := by omega
      obtain ⟨c0, c1, c2, c3⟩ := kid_cells (T := []) hki hkn hc
      have hs : GT.allNs (kids.take (k + 1)) = GT.allNs (kids.take k) ++ kids[k].allN := by rw [List.take_succ_eq_append_getElem hki, allNs_snoc]
      have hlen := allNs_take kids k hki
      have hb2 := HB.out
      have hI := fun w' => ih kids[k] (List.getElem_mem _) w' (by omega)
      have hbd : (nums ++ GT.allNs (kids.take k)).length + kids[k].allN.length ≤ 1000000 := by rw [List.length_append]; omega
      have HS := Lib.hid hs
      clear hc hs hlen hb2
      generalize kids[k] = x at *
      obtain ⟨⟨xk, xd, xna, xnn, xnc, xka, xkn, xkc⟩, xnums, xkids⟩ := x
      simp only [GT.hd, Gm.val] at c0 c1 c2 c3 hI
      generalize hxe : (GT.node ⟨xk, xd, xna, xnn, xnc, xka, xkn, xkc⟩ xnums xkids) = X at *
      clear hxe
      generalize hYS : (nums ++ GT.allNs (kids.take k)) = ys at *
      have HYS := Lib.hid hYS
      clear hYS
      go_wp2_with fail
      refine (hI _ ?_).mono ?_
      · with_reducible (repeat (first | exact Kx.r _ | assumption | refine Kx.a ?_ _ | refine Kx.d ?_ | refine Kx.e ?_ _ | (refine Kx.s ?_ ?_ _; focus (first | (simp; done) | (simp; omega))) | refine Kx.t ?_ (by assumption)))
      rintro e w3 ⟨a3, cap3, rfl, hk3, hz3⟩
      clear hI
      have hkr3 : Stab.Keeps wr w3 := by with_reducible (repeat (first | exact Kx.r _ | assumption | refine Kx.a ?_ _ | refine Kx.d ?_ | refine Kx.e ?_ _ | (refine Kx.s ?_ ?_ _; focus (first | (simp; done) | (simp; omega))) | refine Kx.t ?_ (by assumption)))
      have hkw3 := Stab.Keeps.trans hK hkr3
      have hown3 := owns_keep hown hkr3
      have HBD := Lib.hid hbd
      clear hown hk3 hbd c0 c1 c2 c3
      go_wp2_with (at_builtin; (refine append_sz (w0 := w) rfl _ _ 22 rfl w.heap.size 45 i0 _ 1 8 Tryz.underlying22 HI.out HZ0.out HZ1.out HZ2.out rfl (by decide) _ ys.length (encN ys) rfl hown3 _ X.allN.length _ (encN X.allN) rfl hz3.sz (encN_one _) ?b2 ?b3 ?b4 hkw3 ?_))
      case b2 => have := HBD.out; unfold maxLen; omega
      case b3 => have := HBD.out; omega
      case b4 => exact hkw3.size
      intro al' cap' w4 hown4 hk4 _ _
      have hsum : (ys ++ X.allN).length = ys.length + X.allN.length := List.length_append
      go_wp2_with fail
      have hys : nums ++ GT.allNs (kids.take (k + 1)) = ys ++ X.allN := by rw [HS.out, ← List.append_assoc, HYS.out]
      refine ⟨⟨k + 1, al', cap', by omega, by simp, hk4, by rw [hys, hsum], by rw [hys, hsum, encN_append]; exact hown4⟩, by simp [intOf]; omega⟩
    · have hkn2 : k = kn := by omega
      subst hkn2
      go_wp2
      go_ret
      rw [List.take_of_length_le (by omega)] at hown ⊢
      exact ⟨al, c, rfl, hK, SzF.of_owns hown (fun b hb => hb)⟩
end Go.Proofs.YtbakhldjfplbfaaGreat
