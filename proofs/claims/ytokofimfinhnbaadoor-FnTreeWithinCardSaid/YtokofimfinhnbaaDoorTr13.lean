/-
  The tree of boxes: loaded with items. No condition.
-/
import Derived.Test.YtokofimfinhnbaaDoorTr12
import Derived.Laws.MakeOwn
set_option linter.unusedVariables false
set_option linter.unusedSimpArgs false
namespace Go.Proofs.YtokofimfinhnbaaDoor
open Go.RowKit Go.Fl Go.Sl Go.Ch
def It.zero : It := ⟨⟨0, 0, 0, 0⟩, 0⟩
/-- an index of boxes: its one block, and the tree below it -/
def TreeAt (w : World) (lo p n : Nat) : Option RT → Prop
  | none => lo ≤ p ∧ n = 0 ∧ Blk w p 77 [.pointer none, .int .i64 0]
  | some t => lo ≤ p ∧ ∃ r, Blk w p 77 [.pointer (some ⟨r, 0, none⟩), .int .i64 n] ∧ NodeAt w lo r t
def itemsO : Option RT → List It
  | none => []
  | some t => t.items
theorem TreeAt.keep {w w' : World} {lo p n : Nat} {o : Option RT} (hk : Stab.Keeps w w') (h : TreeAt w lo p n o) : TreeAt w' lo p n o := by
  cases o with
  | none => exact ⟨h.1, h.2.1, h.2.2.keep hk⟩
  | some t =>
    obtain ⟨h0, r, h1, h2⟩ := h
    exact ⟨h0, r, h1.keep hk, h2.keep hk⟩
def LoadPost (w : World) (B n : Nat) (L : List It) (e : Ending) (w' : World) : Prop := ∃ p o, e = .returned (.pointer (some ⟨p, 0, none⟩)) ∧ TreeAt w' w.heap.size p n o ∧ (itemsO o).Perm L ∧ Ch no (· = B) w w'
set_option maxRecDepth 100000 in
set_option maxHeartbeats 1000000 in
theorem load_ (B n : Nat) (L : List It) (hl : L.length = n) (hn : n ≤ 2147483647) (w : World) (h : Blk w B 59 (enc L)) :
    Calls Tryd.prog 19 #[.slice (some ⟨B, 0, none⟩) n n] w (LoadPost w B n L) := by
  have hB := h.lt
  by_cases h0 : n = 0
  · subst h0
    go_enter Tryd.func19, Tryd.ntmps19
    go_wp2
    go_ret
    refine ⟨w.heap.size, none, rfl, ⟨Nat.le_refl _, rfl, Blk.new w [_, _] _ _ rfl⟩, ?_, (Ch.refl _ _ w).alloc _⟩
    cases L with
    | nil => exact List.Perm.refl _
    | cons x l => simp at hl
  · have g2 : ((n : Int) == 0) = false := by simp; omega
    have hC := insert_ n B 0 n n (Nat.le_refl _) (Nat.le_refl _) (by unfold maxLen; omega) (by omega) hn L w ⟨h, 0, rfl, by omega⟩
    have HL := Lib.hid hl
    clear hl
    go_enter Tryd.func19, Tryd.ntmps19
    go_wp2_with fail
    refine hC.mono ?_
    rintro e w2 ⟨p, t, L', rfl, hr, hp, hk, hN, hi⟩
    go_wp2_with fail
    go_ret
    have hsz := hk.size
    have hkk : Stab.Keeps w2 (w2.alloc (.cells #[.pointer (some ⟨p, 0, none⟩), .int .i64 n] 77)) := by repeat (first | (with_reducible exact Stab.Keeps.refl _) | (with_reducible assumption) | (with_reducible refine Stab.Keeps.alloc ?_ _) | (with_reducible refine Stab.Keeps.drew ?_) | (with_reducible refine Stab.Keeps.drewN ?_ _) | ((with_reducible refine Stab.Keeps.setCell ?_ ?_ _); focus (first | (simp; done) | (simp; omega))) | (with_reducible refine Stab.Keeps.trans ?_ (by with_reducible assumption)))
    refine ⟨w2.heap.size, some t, rfl, ⟨hsz, p, Blk.new w2 [_, _] _ _ rfl, hN.keep hkk⟩, ?_, hk.trans (Ch.of_keeps hkk)⟩
    have hsub : sub L (0 / 5) n = L := by
      unfold sub
      rw [Nat.zero_div, List.drop_zero, List.take_of_length_le (by rw [HL.out]; exact Nat.le_refl _)]
    rw [hsub] at hi
    exact hi
theorem madeZero (n : Nat) : (madeCells #[.float .f64 0, .float .f64 0, .float .f64 0, .float .f64 0, .int .i64 0] (n * 5)).toList = enc (List.replicate n It.zero) := by
  apply List.ext_getElem?
  intro k
  by_cases hk : k < n * 5
  · obtain ⟨q, r, hr, rfl⟩ : ∃ q r, r < 5 ∧ k = q * 5 + r := ⟨k / 5, k % 5, Nat.mod_lt _ (by omega), by omega⟩
    rw [enc_get _ _ _ (by simp; omega) hr]
    simp only [madeCells, Array.toList_map, Array.toList_range, List.getElem?_map, List.getElem_replicate]
    rw [List.getElem?_range hk]
    have e : (q * 5 + r) % 5 = r := by omega
    simp only [Option.map_some, List.size_toArray, List.length_cons, List.length_nil, e]
    have : r = 0 ∨ r = 1 ∨ r = 2 ∨ r = 3 ∨ r = 4 := by omega
    rcases this with rfl | rfl | rfl | rfl | rfl <;> simp [It.cells, It.zero, e]
  · rw [List.getElem?_eq_none (by simp [size_madeCells]; omega), List.getElem?_eq_none (by simp [enc_len]; omega)]
theorem infoBulk : (Tryd.prog.info? 59).map (fun i => (i.zero, i.size, i.bytes)) = some (some (.agg #[.float .f64 0, .float .f64 0, .float .f64 0, .float .f64 0, .int .i64 0]), 5, 40) := by kernel_rfl
def TreePost (w : World) (n : Nat) (L : List It) (e : Ending) (w' : World) : Prop := ∃ p o, e = .returned (.pointer (some ⟨p, 0, none⟩)) ∧ TreeAt w' w.heap.size p n o ∧ (itemsO o).Perm L ∧ Stab.Keeps w w'
theorem TreeAt.low {w : World} {lo lo' p n : Nat} {o : Option RT} (hl : lo' ≤ lo) (h : TreeAt w lo p n o) : TreeAt w lo' p n o := by
  cases o with
  | none => exact ⟨Nat.le_trans hl h.1, h.2⟩
  | some t =>
    obtain ⟨h0, r, h1, h2⟩ := h
    exact ⟨Nat.le_trans hl h0, r, h1, h2.low hl⟩
set_option maxRecDepth 100000 in
set_option maxHeartbeats 1000000 in
theorem tree_ (a : Option Addr) (n cap : Nat) (L : List It) (w : World) (hl : L.length = n) (hn : n ≤ 1000000) (h : Sz w a n cap 5 (enc L)) :
    Calls Tryd.prog 14 #[.slice a n cap] w (TreePost w n L) := by
  obtain ⟨i0, hi, hz0, hz1, hz2⟩ := info_parts infoBulk
  have hle := h.le
  have hm := h.max
  unfold maxLen at hm
  have hmk : ∀ w : World, (Instr.makeSlice 55 (.int .i64 n) (.int .i64 n)).run Tryd.prog w = .ok (.slice (some ⟨w.heap.size, 0, none⟩) n n) (w.alloc (.cells (enc (List.replicate n It.zero)).toArray 59)) := fun w => by
    have := run_make (P := Tryd.prog) w 55 59 i0 _ Tryd.underlying55 hi hz0 .i64 .i64 n n (by omega) (Int.le_refl _) (by rw [hz2]; omega) (by omega)
    rw [hz1] at this
    rw [← madeZero n]
    simpa [Value.cells] using this
  clear hz0 hz1 hz2 hi
  have HL := Lib.hid hl
  clear hl
  go_enter Tryd.func14, Tryd.ntmps14
  go_wp2
  have hX : Blk (w.alloc (.cells (enc (List.replicate n It.zero)).toArray 59)) w.heap.size 59 (enc (L.take 0 ++ List.replicate (n - 0) It.zero)) := Blk.new w _ _ _ rfl
  have hK : Stab.Keeps w (w.alloc (.cells (enc (List.replicate n It.zero)).toArray 59)) := by repeat (first | (with_reducible exact Stab.Keeps.refl _) | (with_reducible assumption) | (with_reducible refine Stab.Keeps.alloc ?_ _) | (with_reducible refine Stab.Keeps.drew ?_) | (with_reducible refine Stab.Keeps.drewN ?_ _) | ((with_reducible refine Stab.Keeps.setCell ?_ ?_ _); focus (first | (simp; done) | (simp; omega))) | (with_reducible refine Stab.Keeps.trans ?_ (by with_reducible assumption)))
  generalize (w.alloc (.cells (enc (List.replicate n It.zero)).toArray 59)) = W at hX hK ⊢
  clear hmk
  go_loopw [11] (fun iv wr => ∃ k : Nat, k ≤ n ∧ iv = .int .i64 k ∧ Stab.Keeps w wr ∧ Blk wr w.heap.size 59 (enc (L.take k ++ List.replicate (n - k) It.zero))) (fun iv _ => n - (intOf iv).toNat)
  case atStart => exact ⟨0, by omega, rfl, hK, hX⟩
  case round =>
    clear hX hK
    obtain ⟨k, k2, rfl, hK, hX⟩ := hrel
    have hXl := hX.lt
    by_cases hlt : k < n
    · have hS := h.keep hK
      obtain ⟨b, off, ha, hb, hc⟩ := hS.elem hlt
      subst ha
      have hkL : k < L.length := by have := HL.out; omega
      have eg := fun j hj => enc_get L k j hkL hj
      have c0 : wr.cell? ⟨b, off + k * 5, none⟩ = some (.float .f64 L[k].box.a) := hc 0 _ (by omega) (by rw [eg 0 (by omega)]; rfl)
      have c1 : wr.cell? ⟨b, off + k * 5 + 1, none⟩ = some (.float .f64 L[k].box.b) := hc 1 _ (by omega) (by rw [eg 1 (by omega)]; rfl)
      have c2 : wr.cell? ⟨b, off + k * 5 + 2, none⟩ = some (.float .f64 L[k].box.c) := hc 2 _ (by omega) (by rw [eg 2 (by omega)]; rfl)
      have c3 : wr.cell? ⟨b, off + k * 5 + 3, none⟩ = some (.float .f64 L[k].box.d) := hc 3 _ (by omega) (by rw [eg 3 (by omega)]; rfl)
      have c4 : wr.cell? ⟨b, off + k * 5 + 4, none⟩ = some (.int .i64 L[k].id) := hc 4 _ (by omega) (by rw [eg 4 (by omega)]; rfl)
      have hln : (L.take k ++ List.replicate (n - k) It.zero).length = n := by simp; omega
      have hnx : (L.take k ++ List.replicate (n - k) It.zero).set k L[k] = L.take (k + 1) ++ List.replicate (n - (k + 1)) It.zero := by
        rw [List.set_append_right _ _ (by simp; omega), List.take_succ_eq_append_getElem hkL]
        have : n - k = (n - (k + 1)) + 1 := by omega
        have e : k - (L.take k).length = 0 := by simp; omega
        rw [this, List.replicate_succ, e, List.set_cons_zero, List.append_assoc, List.singleton_append]
      have hset := enc_set (L.take k ++ List.replicate (n - k) It.zero) k (by omega) L[k]
      rw [hnx] at hset
      generalize L.take k ++ List.replicate (n - k) It.zero = M at *
      have hel : (enc M).length = n * 5 := by rw [enc_len, hln]
      have hbx := fun w => box_ L[k].box w
      simp only [B4.val] at hbx
      generalize L[k] = t at *
      have HS := Lib.hid hset
      have HE := Lib.hid hel
      clear hset hel hln hnx eg hc hS
      go_wp2_with fail
      have k0 : (0 : Int) ≤ k := by omega
      have kn : (k : Int) < n := by omega
      have kk : ((k : Int)).toNat = k := by omega
      refine Stab.keep_tail 9 (fun _ _ _ => True) (fun _ => false) (fun k => k == 4) Stab.pre_none (by kernel_rfl) (by kernel_rfl) fun hcx => ?_
      simp only [List.take_succ_cons, List.take_zero, List.drop_succ_cons, List.drop_zero]
      repeat (first
        | (refine Stab.quiet rfl rfl rfl (fun K hK => ?_); go_big_quiet_op; refine hK _ ?_; clear hK K)
        | (refine Stab.one rfl rfl rfl ?_
           apply Exists.intro
           refine ⟨fun w1 hw1 => ?_, fun K hK => ?_⟩
           · go_simp
             first | (go_at_call 18; exact hbx _)
           go_simp
           refine hK _ ?_
           clear hK K)
        | (refine Stab.skip rfl (fun K hK => ?_); go_simp; refine hK _ ?_; clear hK K))
      refine Stab.nil fun w' hw' _ => ?_
      clear hcx hbx
      have hk : Stab.Keeps wr w' := by repeat (first | (with_reducible exact Stab.Keeps.refl _) | (with_reducible assumption) | (with_reducible refine Stab.Keeps.alloc ?_ _) | (with_reducible refine Stab.Keeps.drew ?_) | (with_reducible refine Stab.Keeps.drewN ?_ _) | ((with_reducible refine Stab.Keeps.setCell ?_ ?_ _); focus (first | (simp; done) | (simp; omega))) | (with_reducible refine Stab.Keeps.trans ?_ (by with_reducible assumption)))
      have hX' := hX.keep hk
      have hel := HE.out
      obtain ⟨u0, r0⟩ := hX'.some (i := k * 5) (by omega)
      obtain ⟨u1, r1⟩ := hX'.some (i := k * 5 + 1) (by omega)
      obtain ⟨u2, r2⟩ := hX'.some (i := k * 5 + 2) (by omega)
      obtain ⟨u3, r3⟩ := hX'.some (i := k * 5 + 3) (by omega)
      obtain ⟨u4, r4⟩ := hX'.some (i := k * 5 + 4) (by omega)
      have rf := hX'.free
      have hXl' := hX'.lt
      have hnew : Blk (((((w'.setCell ⟨w.heap.size, k * 5, none⟩ (.float .f64 t.box.a)).setCell ⟨w.heap.size, k * 5 + 1, none⟩ (.float .f64 t.box.b)).setCell ⟨w.heap.size, k * 5 + 2, none⟩ (.float .f64 t.box.c)).setCell ⟨w.heap.size, k * 5 + 3, none⟩ (.float .f64 t.box.d)).setCell ⟨w.heap.size, k * 5 + 4, none⟩ (.int .i64 t.id)) w.heap.size 59 (enc (L.take (k + 1) ++ List.replicate (n - (k + 1)) It.zero)) := by
        rw [← HS.out]
        exact ((((hX'.set _ _).set _ _).set _ _).set _ _).set _ _
      have hKw := Stab.Keeps.trans hK hk
      clear hX' hX hel hw' hk hK c0 c1 c2 c3 c4
      go_wp2_with fail
      go_roundw
      case rel => exact ⟨k + 1, by omega, by go_num, by repeat (first | (with_reducible exact Stab.Keeps.refl _) | (with_reducible assumption) | (with_reducible refine Stab.Keeps.alloc ?_ _) | (with_reducible refine Stab.Keeps.drew ?_) | (with_reducible refine Stab.Keeps.drewN ?_ _) | ((with_reducible refine Stab.Keeps.setCell ?_ ?_ _); focus (first | (simp; done) | (simp; omega))) | (with_reducible refine Stab.Keeps.trans ?_ (by with_reducible assumption))), hnew⟩
      case measure => simp [intOf]; omega
    · have hkn : k = n := by omega
      subst hkn
      rw [Nat.sub_self, List.replicate_zero, List.append_nil, List.take_of_length_le (by rw [HL.out]; exact Nat.le_refl _)] at hX
      go_wp2_with fail
      refine (load_ w.heap.size k L HL.out (by omega) wr hX).mono ?_
      rintro e w2 ⟨p, o, rfl, hT, hp, hk2⟩
      go_wp2_with fail
      go_ret
      have hsz := hK.size
      exact ⟨p, o, rfl, hT.low hsz, hp, (Ch.since (Ch.of_keeps hK : Ch no no w wr) hk2 (fun _ e => e) (fun i e => .inr (by rw [e]; exact Nat.le_refl _)) (fun _ e => e)).keeps⟩
end Go.Proofs.YtokofimfinhnbaaDoor
