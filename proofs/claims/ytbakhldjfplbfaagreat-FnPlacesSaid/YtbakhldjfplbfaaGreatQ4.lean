/-
  A list of sequences as plain data. No condition.
-/
import Derived.Test.YtbakhldjfplbfaaGreatQ3
set_option linter.unusedVariables false
set_option linter.unusedSimpArgs false
namespace Go.Proofs.YtbakhldjfplbfaaGreat
open Go.RowKit Go.Fl Go.Sl Go.Pg Go.Ch Go.Kf
set_option maxRecDepth 100000 in
set_option maxHeartbeats 2000000 in
theorem sequences_ {F : Nat → Prop} (a : Option Addr) (n cap : Nat) (css : List (List Value)) (kids : List Pg) (w : World) (hn : n ≤ 250000) (hR : Go.Kf.Rows w F LsR a n cap 2 css kids) : Calls Tryz.prog 69 #[.slice a n cap] w (RetS w no GmR 4 n kids) := by
  obtain ⟨i0, hi, hz0, hz1, hz2⟩ := info_parts infoGm
  have HI := Lib.hid hi
  have HZ0 := Lib.hid hz0
  have HZ1 := Lib.hid hz1
  have HZ2 := Lib.hid hz2
  clear hi hz0 hz1 hz2
  have hle := hR.sz.sz.le
  have hmx := hR.sz.sz.max
  unfold maxLen at hmx
  have HLK := Lib.hid hR.lx
  go_enter Tryz.func69, Tryz.ntmps69
  go_wp2_with fail
  have hG0 : GrowB w.heap.size w GmR 25 4 0 (.slice none 0 0) (kids.take 0) := by simpa using GrowB.nil w.heap.size w GmR 25 4 (Nat.le_refl _)
  go_loopw [3, 8] (fun v iv wr => ∃ (k : Nat) (al : Option Addr) (c : Nat), k ≤ n ∧ iv = .int .i64 k ∧ v = .slice al k c ∧ Stab.Keeps w wr ∧ GrowB w.heap.size wr GmR 25 4 k (.slice al k c) (kids.take k)) (fun _ iv _ => n - (intOf iv).toNat)
  case atStart => exact ⟨0, none, 0, by omega, rfl, rfl, Stab.Keeps.refl _, hG0⟩
  case round =>
    clear hG0
    obtain ⟨k, al, c, hk, rfl, rfl, hkw, hG⟩ := hrel
    by_cases hlt : k < n
    · obtain ⟨b, off, cc, ha, hb, _, _, hc6, hcc, hx⟩ := (hR.kf (KF.keeps hkw) (fun _ _ h => lsS.kf h (KF.keeps hkw))).elem hlt
      have hkk : k < kids.length := by have := HLK.out; omega
      have htk : kids.take (k + 1) = kids.take k ++ [kids[k]] := List.take_succ_eq_append_getElem hkk
      generalize hke : kids[k]'hkk = kid at *
      have HTK := Lib.hid htk
      clear htk hke
      obtain ⟨d, ps, qa, qn, qc, rfl, rfl, hS⟩ := hx
      subst ha
      have e0 : wr.cell? ⟨b, off + k * 2, none⟩ = some (.int .u8 d) := by have := hcc 0 _ rfl; simpa using this
      have e1 : wr.cell? ⟨b, off + k * 2 + 1, none⟩ = some (.slice qa qn qc) := hcc 1 _ rfl
      have hP := fun w' (hk' : Stab.Keeps wr w') => plain_ d ps qa qn qc w' (hS.keep hk')
      clear hcc hS
      generalize hyse : kids.take k = ys at *
      have hown : ∀ g, (Value.slice al k c).ownBlock = some g → g < wr.heap.size := fun g hg => (hG.own hg).2
      have hgl : w.heap.size ≤ wr.heap.size := hG.size
      go_wp2_with fail
      refine (hP _ (by repeat (first | (with_reducible exact Stab.Keeps.refl _) | (with_reducible assumption) | (with_reducible refine Stab.Keeps.alloc ?_ _) | (with_reducible refine Stab.Keeps.drew ?_) | (with_reducible refine Stab.Keeps.drewN ?_ _) | ((with_reducible refine Stab.Keeps.setCell ?_ ?_ _); focus (first | (simp; done) | (simp; omega))) | (with_reducible refine Stab.Keeps.trans ?_ (by with_reducible assumption))))).mono ?_
      clear hP
      rintro e w4 ⟨cs4, rfl, hk4, hx4⟩
      obtain ⟨zk, zd, zna, znn, znc, zka, zkn, zkc, rfl⟩ := hx4.four
      have hk5 : Stab.Keeps wr w4 := by repeat (first | (with_reducible exact Stab.Keeps.refl _) | (with_reducible assumption) | (with_reducible refine Stab.Keeps.alloc ?_ _) | (with_reducible refine Stab.Keeps.drew ?_) | (with_reducible refine Stab.Keeps.drewN ?_ _) | ((with_reducible refine Stab.Keeps.setCell ?_ ?_ _); focus (first | (simp; done) | (simp; omega))) | (with_reducible refine Stab.Keeps.trans ?_ (by with_reducible assumption)))
      have hG5 : GrowB w.heap.size (w4.alloc (.cells #[.int .i64 zk, .int .i64 zd, .slice zna znn znc, .slice zka zkn zkc] 25)) GmR 25 4 k (.slice al k c) ys := hG.keep gmS (hk5.alloc _)
      have hx5 : GmR (w4.alloc (.cells #[.int .i64 zk, .int .i64 zd, .slice zna znn znc, .slice zka zkn zkc] 25)) (fun b => wr.heap.size + 1 ≤ b ∧ b < w4.heap.size) [.int .i64 zk, .int .i64 zd, .slice zna znn znc, .slice zka zkn zkc] (.node 2 d ps []) := gmS.kf (gmS.mono hx4 (fun b hb hf => hf.elim (fun h => h.elim) (fun h => ⟨by simpa using h, hb⟩))) ((KF.refl _ _).alloc _)
      have hone : ∀ u ∈ ([.int .i64 zk, .int .i64 zd, .slice zna znn znc, .slice zka zkn zkc] : List Value), u.oneCell' = true := hx5.ones
      have hkw4 := Stab.Keeps.trans hkw hk5
      have hs4 : wr.heap.size + 1 ≤ w4.heap.size := by have := hk4.size; simp at this; omega
      have HG5 := Lib.hid hG5
      clear hG hG5 hx4 hk4 hk5 e0 e1
      go_wp2_with (at_builtin; (refine append_growB (B := w.heap.size) gmS rfl _ _ 23 rfl 25 i0 _ 4 64 Tryz.underlying23 HI.out HZ0.out HZ1.out HZ2.out rfl (by decide) _ k ys rfl HG5.out ⟨w4.heap.size, 0, none⟩ 1 [.int .i64 zk, .int .i64 zd, .slice zna znn znc, .slice zka zkn zkc] rfl rfl ?c1 hone ?c2 ?c3 _ _ hx5 ?c4 ?c5 ?_))
      case c1 => exact new_cells _ _ _ _ rfl
      case c2 => unfold maxLen; omega
      case c3 => omega
      case c4 => exact fun b hb => ⟨by omega, by simp; omega⟩
      case c5 => exact fun g hg hb => by have := hown g hg; omega
      intro al' c' w7 hG7 hB7 hgr
      have hk7 : Stab.Keeps w w7 := Below.trans (Stab.Keeps.alloc hkw4 _) hB7
      rw [← HTK.out] at hG7
      clear HG5 hown hgr hB7 hkw4 hx5
      go_wp2_with fail
      exact ⟨⟨k + 1, al', c', by omega, by simp, rfl, hk7, hG7⟩, by simp [intOf]; omega⟩
    · obtain rfl : n = k := by omega
      rw [List.take_of_length_le (by rw [HLK.out]; exact Nat.le_refl _)] at hG
      obtain ⟨css', hR'⟩ := hG.toRows gmS
      go_wp2
      go_ret
      exact ⟨al, c, css', rfl, hkw, hR'.mono (fun b _ hb => .inr hb) (fun _ _ h => gmS.mono h (fun b _ hb => .inr hb))⟩
end Go.Proofs.YtbakhldjfplbfaaGreat
