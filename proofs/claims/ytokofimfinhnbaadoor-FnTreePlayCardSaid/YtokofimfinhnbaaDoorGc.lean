/-
  The tree of boxes: loaded with items. No condition.
  The tree of boxes: whether boxes overlap; the callback that is never stopped. No condition.
  The tree of boxes: the search through a box, never stopped. No condition.
  The tree of boxes: the search through a box, never stopped, down the tree. No condition.
  The tree of boxes: a question that is a search through a box, never stopped. No condition.
  The tree of boxes: questions asked one behind another. No condition.
  The tree of boxes: questions asked one behind another, walked. No condition.
-/
import Derived.Test.YtokofimfinhnbaaDoorGb
import Derived.Laws.MakeOwn
import Derived.LaidEql
import Derived.Laws.EntriesVeiled
import Derived.Defers
import Derived.Recover
set_option linter.unusedVariables false
set_option linter.unusedSimpArgs false
namespace Go.Proofs.YtokofimfinhnbaaDoor
open Go.RowKit Go.Fl Go.Sl Go.Ch
def It.zero : It := ⟨⟨0, 0, 0, 0⟩, 0⟩
/-- an index of boxes: its one block, and the tree below it -/
def TreeAt (w : World) (lo p n : Nat) : Option RT → Prop
  | none => lo ≤ p ∧ n = 0 ∧ Blk w p 77 [.pointer none, .int .i64 0]
  | some t => lo ≤ p ∧ ∃ r, Blk w p 77 [.pointer (some ⟨r, 0, none⟩), .int .i64 n] ∧ NodeAt w lo r t
def itemsO : Option RT → List It
  | none => []
  | some t => t.items
theorem TreeAt.keep {w w' : World} {lo p n : Nat} {o : Option RT} (hk : Stab.Keeps w w') (h : TreeAt w lo p n o) : TreeAt w' lo p n o := by
  cases o with
  | none => exact ⟨h.1, h.2.1, h.2.2.keep hk⟩
  | some t =>
    obtain ⟨h0, r, h1, h2⟩ := h
    exact ⟨h0, r, h1.keep hk, h2.keep hk⟩
def LoadPost (w : World) (B n : Nat) (L : List It) (e : Ending) (w' : World) : Prop := ∃ p o, e = .returned (.pointer (some ⟨p, 0, none⟩)) ∧ TreeAt w' w.heap.size p n o ∧ (itemsO o).Perm L ∧ Ch no (· = B) w w'
set_option maxRecDepth 100000 in
set_option maxHeartbeats 1000000 in
theorem load_ (B n : Nat) (L : List It) (hl : L.length = n) (hn : n ≤ 2147483647) (w : World) (h : Blk w B 59 (enc L)) :
    Calls Tryd.prog 19 #[.slice (some ⟨B, 0, none⟩) n n] w (LoadPost w B n L) := by
  have hB := h.lt
  by_cases h0 : n = 0
  · subst h0
    go_enter Tryd.func19, Tryd.ntmps19
    go_wp2
    go_ret
    refine ⟨w.heap.size, none, rfl, ⟨Nat.le_refl _, rfl, Blk.new w [_, _] _ _ rfl⟩, ?_, (Ch.refl _ _ w).alloc _⟩
    cases L with
    | nil => exact List.Perm.refl _
    | cons x l => simp at hl
  · have g2 : ((n : Int) == 0) = false := by simp; omega
    have hC := insert_ n B 0 n n (Nat.le_refl _) (Nat.le_refl _) (by unfold maxLen; omega) (by omega) hn L w ⟨h, 0, rfl, by omega⟩
    have HL := Lib.hid hl
    clear hl
    go_enter Tryd.func19, Tryd.ntmps19
    go_wp2_with fail
    refine hC.mono ?_
    rintro e w2 ⟨p, t, L', rfl, hr, hp, hk, hN, hi⟩
    go_wp2_with fail
    go_ret
    have hsz := hk.size
    have hkk : Stab.Keeps w2 (w2.alloc (.cells #[.pointer (some ⟨p, 0, none⟩), .int .i64 n] 77)) := by repeat (first | (with_reducible exact Stab.Keeps.refl _) | (with_reducible assumption) | (with_reducible refine Stab.Keeps.alloc ?_ _) | (with_reducible refine Stab.Keeps.drew ?_) | (with_reducible refine Stab.Keeps.drewN ?_ _) | ((with_reducible refine Stab.Keeps.setCell ?_ ?_ _); focus (first | (simp; done) | (simp; omega))) | (with_reducible refine Stab.Keeps.trans ?_ (by with_reducible assumption)))
    refine ⟨w2.heap.size, some t, rfl, ⟨hsz, p, Blk.new w2 [_, _] _ _ rfl, hN.keep hkk⟩, ?_, hk.trans (Ch.of_keeps hkk)⟩
    have hsub : sub L (0 / 5) n = L := by
      unfold sub
      rw [Nat.zero_div, List.drop_zero, List.take_of_length_le (by rw [HL.out]; exact Nat.le_refl _)]
    rw [hsub] at hi
    exact hi
theorem madeZero (n : Nat) : (madeCells #[.float .f64 0, .float .f64 0, .float .f64 0, .float .f64 0, .int .i64 0] (n * 5)).toList = enc (List.replicate n It.zero) := by
  apply List.ext_getElem?
  intro k
  by_cases hk : k < n * 5
  · obtain ⟨q, r, hr, rfl⟩ : ∃ q r, r < 5 ∧ k = q * 5 + r := ⟨k / 5, k % 5, Nat.mod_lt _ (by omega), by omega⟩
    rw [enc_get _ _ _ (by simp; omega) hr]
    simp only [madeCells, Array.toList_map, Array.toList_range, List.getElem?_map, List.getElem_replicate]
    rw [List.getElem?_range hk]
    have e : (q * 5 + r) % 5 = r := by omega
    simp only [Option.map_some, List.size_toArray, List.length_cons, List.length_nil, e]
    have : r = 0 ∨ r = 1 ∨ r = 2 ∨ r = 3 ∨ r = 4 := by omega
    rcases this with rfl | rfl | rfl | rfl | rfl <;> simp [It.cells, It.zero, e]
  · rw [List.getElem?_eq_none (by simp [size_madeCells]; omega), List.getElem?_eq_none (by simp [enc_len]; omega)]
theorem infoBulk : (Tryd.prog.info? 59).map (fun i => (i.zero, i.size, i.bytes)) = some (some (.agg #[.float .f64 0, .float .f64 0, .float .f64 0, .float .f64 0, .int .i64 0]), 5, 40) := by kernel_rfl
def TreePost (w : World) (n : Nat) (L : List It) (e : Ending) (w' : World) : Prop := ∃ p o, e = .returned (.pointer (some ⟨p, 0, none⟩)) ∧ TreeAt w' w.heap.size p n o ∧ (itemsO o).Perm L ∧ Stab.Keeps w w'
theorem TreeAt.low {w : World} {lo lo' p n : Nat} {o : Option RT} (hl : lo' ≤ lo) (h : TreeAt w lo p n o) : TreeAt w lo' p n o := by
  cases o with
  | none => exact ⟨Nat.le_trans hl h.1, h.2⟩
  | some t =>
    obtain ⟨h0, r, h1, h2⟩ := h
    exact ⟨Nat.le_trans hl h0, r, h1, h2.low hl⟩
set_option maxRecDepth 100000 in
set_option maxHeartbeats 1000000 in
theorem tree_ (a : Option Addr) (n cap : Nat) (L : List It) (w : World) (hl : L.length = n) (hn : n ≤ 1000000) (h : Sz w a n cap 5 (enc L)) :
    Calls Tryd.prog 14 #[.slice a n cap] w (TreePost w n L) := by
  obtain ⟨i0, hi, hz0, hz1, hz2⟩ := info_parts infoBulk
  have hle := h.le
  have hm := h.max
  unfold maxLen at hm
  have hmk : ∀ w : World, (Instr.makeSlice 55 (.int .i64 n) (.int .i64 n)).run Tryd.prog w = .ok (.slice (some ⟨w.heap.size, 0, none⟩) n n) (w.alloc (.cells (enc (List.replicate n It.zero)).toArray 59)) := fun w => by
    have := run_make (P := Tryd.prog) w 55 59 i0 _ Tryd.underlying55 hi hz0 .i64 .i64 n n (by omega) (Int.le_refl _) (by rw [hz2]; omega) (by omega)
    rw [hz1] at this
    rw [← madeZero n]
    simpa [Value.cells] using this
  clear hz0 hz1 hz2 hi
  have HL := Lib.hid hl
  clear hl
  go_enter Tryd.func14, Tryd.ntmps14
  go_wp2
  have hX : Blk (w.alloc (.cells (enc (List.replicate n It.zero)).toArray 59)) w.heap.size 59 (enc (L.take 0 ++ List.replicate (n - 0) It.zero)) := Blk.new w _ _ _ rfl
  have hK : Stab.Keeps w (w.alloc (.cells (enc (List.replicate n It.zero)).toArray 59)) := by repeat (first | (with_reducible exact Stab.Keeps.refl _) | (with_reducible assumption) | (with_reducible refine Stab.Keeps.alloc ?_ _) | (with_reducible refine Stab.Keeps.drew ?_) | (with_reducible refine Stab.Keeps.drewN ?_ _) | ((with_reducible refine Stab.Keeps.setCell ?_ ?_ _); focus (first | (simp; done) | (simp; omega))) | (with_reducible refine Stab.Keeps.trans ?_ (by with_reducible assumption)))
  generalize (w.alloc (.cells (enc (List.replicate n It.zero)).toArray 59)) = W at hX hK ⊢
  clear hmk
  go_loopw [11] (fun iv wr => ∃ k : Nat, k ≤ n ∧ iv = .int .i64 k ∧ Stab.Keeps w wr ∧ Blk wr w.heap.size 59 (enc (L.take k ++ List.replicate (n - k) It.zero))) (fun iv _ => n - (intOf iv).toNat)
  case atStart => exact ⟨0, by omega, rfl, hK, hX⟩
  case round =>
    clear hX hK
    obtain ⟨k, k2, rfl, hK, hX⟩ := hrel
    have hXl := hX.lt
    by_cases hlt : k < n
    · have hS := h.keep hK
      obtain ⟨b, off, ha, hb, hc⟩ := hS.elem hlt
      subst ha
      have hkL : k < L.length := by have := HL.out; omega
      have eg := fun j hj => enc_get L k j hkL hj
      have c0 : wr.cell? ⟨b, off + k * 5, none⟩ = some (.float .f64 L[k].box.a) := hc 0 _ (by omega) (by rw [eg 0 (by omega)]; rfl)
      have c1 : wr.cell? ⟨b, off + k * 5 + 1, none⟩ = some (.float .f64 L[k].box.b) := hc 1 _ (by omega) (by rw [eg 1 (by omega)]; rfl)
      have c2 : wr.cell? ⟨b, off + k * 5 + 2, none⟩ = some (.float .f64 L[k].box.c) := hc 2 _ (by omega) (by rw [eg 2 (by omega)]; rfl)
      have c3 : wr.cell? ⟨b, off + k * 5 + 3, none⟩ = some (.float .f64 L[k].box.d) := hc 3 _ (by omega) (by rw [eg 3 (by omega)]; rfl)
      have c4 : wr.cell? ⟨b, off + k * 5 + 4, none⟩ = some (.int .i64 L[k].id) := hc 4 _ (by omega) (by rw [eg 4 (by omega)]; rfl)
      have hln : (L.take k ++ List.replicate (n - k) It.zero).length = n := by simp; omega
      have hnx : (L.take k ++ List.replicate (n - k) It.zero).set k L[k] = L.take (k + 1) ++ List.replicate (n - (k + 1)) It.zero := by
        rw [List.set_append_right _ _ (by simp; omega), List.take_succ_eq_append_getElem hkL]
        have : n - k = (n - (k + 1)) + 1 := by omega
        have e : k - (L.take k).length = 0 := by simp; omega
        rw [this, List.replicate_succ, e, List.set_cons_zero, List.append_assoc, List.singleton_append]
      have hset := enc_set (L.take k ++ List.replicate (n - k) It.zero) k (by omega) L[k]
      rw [hnx] at hset
      generalize L.take k ++ List.replicate (n - k) It.zero = M at *
      have hel : (enc M).length = n * 5 := by rw [enc_len, hln]
      have hbx := fun w => box_ L[k].box w
      simp only [B4.val] at hbx
      generalize L[k] = t at *
      have HS := Lib.hid hset
      have HE := Lib.hid hel
      clear hset hel hln hnx eg hc hS
      go_wp2_with fail
      have k0 : (0 : Int) ≤ k := by omega
      have kn : (k : Int) < n := by omega
      have kk : ((k : Int)).toNat = k := by omega
      refine Stab.keep_tail 9 (fun _ _ _ => True) (fun _ => false) (fun k => k == 4) Stab.pre_none (by kernel_rfl) (by kernel_rfl) fun hcx => ?_
      simp only [List.take_succ_cons, List.take_zero, List.drop_succ_cons, List.drop_zero]
      repeat (first
        | (refine Stab.quiet rfl rfl rfl (fun K hK => ?_); go_big_quiet_op; refine hK _ ?_; clear hK K)
        | (refine Stab.one rfl rfl rfl ?_
           apply Exists.intro
           refine ⟨fun w1 hw1 => ?_, fun K hK => ?_⟩
           · go_simp
             first | (go_at_call 18; exact hbx _)
           go_simp
           refine hK _ ?_
           clear hK K)
        | (refine Stab.skip rfl (fun K hK => ?_); go_simp; refine hK _ ?_; clear hK K))
      refine Stab.nil fun w' hw' _ => ?_
      clear hcx hbx
      have hk : Stab.Keeps wr w' := by repeat (first | (with_reducible exact Stab.Keeps.refl _) | (with_reducible assumption) | (with_reducible refine Stab.Keeps.alloc ?_ _) | (with_reducible refine Stab.Keeps.drew ?_) | (with_reducible refine Stab.Keeps.drewN ?_ _) | ((with_reducible refine Stab.Keeps.setCell ?_ ?_ _); focus (first | (simp; done) | (simp; omega))) | (with_reducible refine Stab.Keeps.trans ?_ (by with_reducible assumption)))
      have hX' := hX.keep hk
      have hel := HE.out
      obtain ⟨u0, r0⟩ := hX'.some (i := k * 5) (by omega)
      obtain ⟨u1, r1⟩ := hX'.some (i := k * 5 + 1) (by omega)
      obtain ⟨u2, r2⟩ := hX'.some (i := k * 5 + 2) (by omega)
      obtain ⟨u3, r3⟩ := hX'.some (i := k * 5 + 3) (by omega)
      obtain ⟨u4, r4⟩ := hX'.some (i := k * 5 + 4) (by omega)
      have rf := hX'.free
      have hXl' := hX'.lt
      have hnew : Blk (((((w'.setCell ⟨w.heap.size, k * 5, none⟩ (.float .f64 t.box.a)).setCell ⟨w.heap.size, k * 5 + 1, none⟩ (.float .f64 t.box.b)).setCell ⟨w.heap.size, k * 5 + 2, none⟩ (.float .f64 t.box.c)).setCell ⟨w.heap.size, k * 5 + 3, none⟩ (.float .f64 t.box.d)).setCell ⟨w.heap.size, k * 5 + 4, none⟩ (.int .i64 t.id)) w.heap.size 59 (enc (L.take (k + 1) ++ List.replicate (n - (k + 1)) It.zero)) := by
        rw [← HS.out]
        exact ((((hX'.set _ _).set _ _).set _ _).set _ _).set _ _
      have hKw := Stab.Keeps.trans hK hk
      clear hX' hX hel hw' hk hK c0 c1 c2 c3 c4
      go_wp2_with fail
      go_roundw
      case rel => exact ⟨k + 1, by omega, by go_num, by repeat (first | (with_reducible exact Stab.Keeps.refl _) | (with_reducible assumption) | (with_reducible refine Stab.Keeps.alloc ?_ _) | (with_reducible refine Stab.Keeps.drew ?_) | (with_reducible refine Stab.Keeps.drewN ?_ _) | ((with_reducible refine Stab.Keeps.setCell ?_ ?_ _); focus (first | (simp; done) | (simp; omega))) | (with_reducible refine Stab.Keeps.trans ?_ (by with_reducible assumption))), hnew⟩
      case measure => simp [intOf]; omega
    · have hkn : k = n := by omega
      subst hkn
      rw [Nat.sub_self, List.replicate_zero, List.append_nil, List.take_of_length_le (by rw [HL.out]; exact Nat.le_refl _)] at hX
      go_wp2_with fail
      refine (load_ w.heap.size k L HL.out (by omega) wr hX).mono ?_
      rintro e w2 ⟨p, o, rfl, hT, hp, hk2⟩
      go_wp2_with fail
      go_ret
      have hsz := hK.size
      exact ⟨p, o, rfl, hT.low hsz, hp, (Ch.since (Ch.of_keeps hK : Ch no no w wr) hk2 (fun _ e => e) (fun i e => .inr (by rw [e]; exact Nat.le_refl _)) (fun _ e => e)).keeps⟩
end Go.Proofs.YtokofimfinhnbaaDoor
set_option linter.unusedVariables false
set_option linter.unusedSimpArgs false
namespace Go.Proofs.YtokofimfinhnbaaDoor
open Go.RowKit Go.Fl Go.Sl Go.Ch
def ovl (x y : B4) : Bool := (lt x.a y.c || eq x.a y.c) && (gt x.c y.a || eq x.c y.a) && (lt x.b y.d || eq x.b y.d) && (gt x.d y.b || eq x.d y.b)
set_option maxHeartbeats 1000000 in
theorem overlap_ (x y : B4) (w : World) : Calls Tryd.prog 28 #[x.val, y.val] w (One w (.bool (ovl x y))) := by
  obtain ⟨a, b, c, d⟩ := x
  obtain ⟨a', b', c', d'⟩ := y
  unfold ovl B4.val
  simp only
  cases h1 : (lt a c' || eq a c') with
  | false =>
    unfold lt eq at h1
    go_enter Tryd.func28, Tryd.ntmps28
    go_wp2
    go_ret
    refine ⟨by simp, ?_⟩
    repeat (first | (with_reducible exact Stab.Keeps.refl _) | (with_reducible assumption) | (with_reducible refine Stab.Keeps.alloc ?_ _) | (with_reducible refine Stab.Keeps.drew ?_) | (with_reducible refine Stab.Keeps.drewN ?_ _) | ((with_reducible refine Stab.Keeps.setCell ?_ ?_ _); focus (first | (simp; done) | (simp; omega))) | (with_reducible refine Stab.Keeps.trans ?_ (by with_reducible assumption)))
  | true =>
    cases h2 : (gt c a' || eq c a') with
    | false =>
      unfold lt eq at h1
      unfold gt eq at h2
      go_enter Tryd.func28, Tryd.ntmps28
      go_wp2
      go_ret
      refine ⟨by simp, ?_⟩
      repeat (first | (with_reducible exact Stab.Keeps.refl _) | (with_reducible assumption) | (with_reducible refine Stab.Keeps.alloc ?_ _) | (with_reducible refine Stab.Keeps.drew ?_) | (with_reducible refine Stab.Keeps.drewN ?_ _) | ((with_reducible refine Stab.Keeps.setCell ?_ ?_ _); focus (first | (simp; done) | (simp; omega))) | (with_reducible refine Stab.Keeps.trans ?_ (by with_reducible assumption)))
    | true =>
      cases h3 : (lt b d' || eq b d') with
      | false =>
        unfold lt eq at h1 h3
        unfold gt eq at h2
        go_enter Tryd.func28, Tryd.ntmps28
        go_wp2
        go_ret
        refine ⟨by simp, ?_⟩
        repeat (first | (with_reducible exact Stab.Keeps.refl _) | (with_reducible assumption) | (with_reducible refine Stab.Keeps.alloc ?_ _) | (with_reducible refine Stab.Keeps.drew ?_) | (with_reducible refine Stab.Keeps.drewN ?_ _) | ((with_reducible refine Stab.Keeps.setCell ?_ ?_ _); focus (first | (simp; done) | (simp; omega))) | (with_reducible refine Stab.Keeps.trans ?_ (by with_reducible assumption)))
      | true =>
        have h4 : (FloatKind.f64.format.order d b' == some .gt || FloatKind.f64.format.order d b' == some .eq) = (gt d b' || eq d b') := rfl
        unfold lt eq at h1 h3
        unfold gt eq at h2
        generalize (gt d b' || eq d b') = q at h4 ⊢
        go_enter Tryd.func28, Tryd.ntmps28
        go_wp2
        go_ret
        refine ⟨by simp, ?_⟩
        repeat (first | (with_reducible exact Stab.Keeps.refl _) | (with_reducible assumption) | (with_reducible refine Stab.Keeps.alloc ?_ _) | (with_reducible refine Stab.Keeps.drew ?_) | (with_reducible refine Stab.Keeps.drewN ?_ _) | ((with_reducible refine Stab.Keeps.setCell ?_ ?_ _); focus (first | (simp; done) | (simp; omega))) | (with_reducible refine Stab.Keeps.trans ?_ (by with_reducible assumption)))
theorem is_nil (t : TypeId) (v : Value) (w : World) : Calls Tryd.prog 29 #[.nilIface, .iface t v] w fun e w' => e = .returned (.bool false) ∧ w = w' := by
  have h1 := fun w => run_eql_iface_nil_left (P := Tryd.prog) (w := w) (ti := 62) t v Tryd.underlying62
  go_enter Tryd.func29, Tryd.ntmps29
  go_wp2
  go_ret
  exact ⟨rfl, rfl⟩
/-- a question -/
structure Ask where
  dO : Int
  box : B4
  stop : Int
  how : Int
def Ask.cells (q : Ask) : List Value := [.int .i64 q.dO, .float .f64 q.box.a, .float .f64 q.box.b, .float .f64 q.box.c, .float .f64 q.box.d, .int .i64 q.stop, .int .i64 q.how]
def Ask.val (q : Ask) : Value := .agg #[.int .i64 q.dO, .float .f64 q.box.a, .float .f64 q.box.b, .float .f64 q.box.c, .float .f64 q.box.d, .int .i64 q.stop, .int .i64 q.how]
def encI (l : List Int) : List Value := l.map (.int .i64)
/-- an answer but for its numbers -/
structure Rest where
  err : Bool
  own : Bool
  found : Bool
  id : Int
  box : B4
  count : Int
def Rest.cells (r : Rest) : List Value := [.bool r.err, .bool r.own, .bool r.found, .int .i64 r.id, .float .f64 r.box.a, .float .f64 r.box.b, .float .f64 r.box.c, .float .f64 r.box.d, .int .i64 r.count]
def Rest.zero : Rest := ⟨false, false, false, 0, ⟨0, 0, 0, 0⟩, 0⟩
/-- an answer in its block, its numbers so far -/
def OutAt (w : World) (base o : Nat) (ids : List Int) (r : Rest) : Prop := ∃ a cap, Blk w o 39 (.slice a ids.length cap :: r.cells) ∧ w.ownsRow base 3 1 (.slice a ids.length cap) ids.length (encI ids)
/-- what a search may change: the answer, and rows of numbers -/
structure Kp (base o : Nat) (w w' : World) : Prop where
  ch : Ch (· = 3) (· = o) w w'
  bel : Below base w w'
theorem Kp.refl (base o : Nat) (w : World) : Kp base o w w := ⟨Ch.refl _ _ _, Below.refl _ _⟩
theorem Kp.trans {base o : Nat} {a b c : World} (h : Kp base o a b) (k : Kp base o b c) : Kp base o a c := ⟨h.ch.trans k.ch, h.bel.trans k.bel⟩
theorem Kp.of_keeps {base o : Nat} {a b : World} (h : Stab.Keeps a b) (hb : base ≤ a.heap.size) : Kp base o a b := ⟨Ch.of_keeps h, Below.mono h hb⟩
theorem owns_ne {w : World} {base k n b : Nat} {e e' : TypeId} {v : Value} {xs vs : List Value} (h : w.ownsRow base e k v n xs) (hb : Blk w b e' vs) (he : e' ≠ e) : some b ≠ v.ownBlock := by
  obtain ⟨_, h2⟩ := h
  rcases h2 with ⟨rfl, _⟩ | ⟨g, cap, cur, rfl, _, hg, _⟩
  · simp [Value.ownBlock]
  · intro heq
    simp only [Value.ownBlock, Option.some.injEq] at heq
    subst heq
    unfold Blk at hb
    rw [hb] at hg
    injection hg with hg
    injection hg with _ hg
    exact he hg
theorem owns_row {w : World} {base k n : Nat} {e : TypeId} {v : Value} {xs : List Value} (h : w.ownsRow base e k v n xs) : ∀ g, v.ownBlock = some g → ∃ cs e' z, w.heap[g]? = some (.cells cs e' z) ∧ e' = e := by
  intro g hg
  obtain ⟨_, h2⟩ := h
  rcases h2 with ⟨rfl, _⟩ | ⟨g', cap, cur, rfl, _, hg', _⟩
  · simp [Value.ownBlock] at hg
  · simp only [Value.ownBlock, Option.some.injEq] at hg
    subst hg
    exact ⟨_, _, _, hg', rfl⟩
theorem infoInt : (Tryd.prog.info? 3).map (fun i => (i.zero, i.size, i.bytes)) = some (some (.int .i64 0), 1, 8) := by kernel_rfl
def CallPost (w : World) (base o : Nat) (ids : List Int) (r : Rest) (e : Ending) (w' : World) : Prop := e = .returned .nilIface ∧ OutAt w' base o ids r ∧ Kp base o w w'
set_option maxRecDepth 100000 in
set_option maxHeartbeats 1000000 in
theorem call0_ (base o ask : Nat) (ids : List Int) (r : Rest) (q : Ask) (id : Int) (w : World) (ho : OutAt w base o ids r) (hq : Blk w ask 30 q.cells) (hs : q.stop ≤ 0) (hb : base ≤ o) (hl : ids.length < 1000000) :
    Calls Tryd.prog 20 #[.int .i64 id, .pointer (some ⟨o, 0, none⟩), .pointer (some ⟨ask, 0, none⟩)] w (CallPost w base o (ids ++ [id]) r) := by
  obtain ⟨i0, hi, hz0, hz1, hz2⟩ := info_parts infoInt
  obtain ⟨a, cap, hB, hown⟩ := ho
  have o0 := hB.cell (i := 0) rfl
  have of := hB.free
  have hol := hB.lt
  have hql := hq.lt
  have hqo : ask ≠ o := hq.ne hB (by decide)
  have hown1 := hown.alloc (.cells #[.int .i64 id] 3)
  go_enter Tryd.func20, Tryd.ntmps20
  go_wp2_with (at_builtin; (refine Sl.append_own (w0 := w) rfl _ _ 37 rfl base 3 i0 _ 1 8 Tryd.underlying37 hi hz0 hz1 hz2 rfl (by decide) _ ids.length _ rfl hown1 ⟨w.heap.size, 0, none⟩ 1 1 [.int .i64 id] rfl rfl ?c1 ?c2 ?c3 ?c4 ?c5 ?c6 ?_))
  case c1 => exact new_cells _ _ _ _ (by simp)
  case c2 => intro u hu; simp at hu; subst hu; rfl
  case c3 => unfold maxLen; omega
  case c4 => omega
  case c5 => simp; omega
  case c6 => exact Below.alloc (Below.refl _ _) (by omega) _
  intro al' c' w5 hown' hk5 hsz5 hgr
  have hB5 := (hB.alloc (.cells #[.int .i64 id] 3)).grown hgr (owns_ne hown1 (hB.alloc _) (by decide))
  have hq5 := (hq.alloc (.cells #[.int .i64 id] 3)).grown hgr (owns_ne hown1 (hq.alloc _) (by decide))
  have hch : Ch (· = 3) (· = o) w w5 := ((Ch.refl _ _ w).alloc _).grown hgr (fun g hg => .inr (.inr (owns_row hown1 g hg)))
  have hne := owns_ne hown' hB5 (by decide)
  have p0 := hB5.cell (i := 0) rfl
  have pf := hB5.free
  have hol5 := hB5.lt
  have q5 := hq5.cell (i := 5) rfl
  have hfin : OutAt (w5.setCell ⟨o, 0, none⟩ (.slice al' (ids.length + 1) c')) base o (ids ++ [id]) r := by
    refine ⟨al', c', ?_, ?_⟩
    · have := hB5.set 0 (.slice al' (ids.length + 1) c')
      simpa using this
    · have := ownsRow_setCell_other hown' (a := ⟨o, 0, none⟩) (fun e => hne e.symm) (.slice al' (ids.length + 1) c')
      simpa [encI] using this
  clear hB hown hown1 o0 of hgr hq hB5 hq5 hown' hne hi hz0 hz1 hz2
  go_wp2_with fail
  go_ret
  exact ⟨rfl, hfin, hch.setCell (.inl rfl) _, hk5.setCell hb _⟩
end Go.Proofs.YtokofimfinhnbaaDoor
set_option linter.unusedVariables false
set_option linter.unusedSimpArgs false
namespace Go.Proofs.YtokofimfinhnbaaDoor
open Go.RowKit Go.Fl Go.Sl Go.Ch
/-- what a search goes through, in its order -/
def rs (y : B4) : RT → List Int
  | .leaf l => (l.filter fun t => ovl t.box y).map It.id
  | .two a b => (if ovl a.box y then rs y a else []) ++ (if ovl b.box y then rs y b else [])
  | .four a b c d => (if ovl a.box y then rs y a else []) ++ ((if ovl b.box y then rs y b else []) ++ ((if ovl c.box y then rs y c else []) ++ (if ovl d.box y then rs y d else [])))
/-- what a search holds in blocks of its own -/
structure RE (w : World) (bx cb rc o ask : Nat) (y : B4) (q : Ask) : Prop where
  hbx : Blk w bx 56 y.cells
  hcb : Blk w cb 67 [.func (.func 20) #[] #[.pointer (some ⟨o, 0, none⟩), .pointer (some ⟨ask, 0, none⟩)]]
  hrc : Blk w rc 79 [.func (.func 27) #[] #[.pointer (some ⟨bx, 0, none⟩), .pointer (some ⟨cb, 0, none⟩), .pointer (some ⟨rc, 0, none⟩)]]
  hask : Blk w ask 30 q.cells
  hstop : ∃ t a, w.cell? ⟨0, 0, none⟩ = some (.iface t (.pointer (some a)))
theorem Kp.blk {base o : Nat} {w w' : World} (h : Kp base o w w') {b : Nat} {e : TypeId} {vs : List Value} (hb : Blk w b e vs) (ho : ∃ us, Blk w o 39 us) (he : e ≠ 3) (he' : e ≠ 39) : Blk w' b e vs := by
  obtain ⟨us, ho⟩ := ho
  exact h.ch.blk hb (hb.ne ho he') he
theorem OutAt.blk {w : World} {base o : Nat} {ids : List Int} {r : Rest} (h : OutAt w base o ids r) : ∃ us, Blk w o 39 us := by
  obtain ⟨a, cap, h, _⟩ := h
  exact ⟨_, h⟩
theorem OutAt.keep {w w' : World} {base o : Nat} {ids : List Int} {r : Rest} (h : OutAt w base o ids r) (hk : Stab.Keeps w w') : OutAt w' base o ids r := by
  obtain ⟨a, cap, h1, h2⟩ := h
  exact ⟨a, cap, h1.keep hk, owns_keep h2 hk⟩
theorem RE.kp {base : Nat} {w w' : World} {bx cb rc o ask : Nat} {y : B4} {q : Ask} (h : RE w bx cb rc o ask y q) (hk : Kp base o w w') (ho : ∃ us, Blk w o 39 us) (h0 : 0 < base) : RE w' bx cb rc o ask y q := by
  obtain ⟨t, a, hs⟩ := h.hstop
  exact ⟨hk.blk h.hbx ho (by decide) (by decide), hk.blk h.hcb ho (by decide) (by decide), hk.blk h.hrc ho (by decide) (by decide), hk.blk h.hask ho (by decide) (by decide), t, a, by rw [hk.bel.cell (p := ⟨0, 0, none⟩) h0]; exact hs⟩
def RPost (w : World) (base o : Nat) (ids : List Int) (r : Rest) (e : Ending) (w' : World) : Prop := e = .returned .nilIface ∧ OutAt w' base o ids r ∧ Kp base o w w'
set_option maxRecDepth 100000 in
set_option maxHeartbeats 2000000 in
theorem rloop_ (base bx cb rc o ask p : Nat) (y : B4) (q : Ask) (r : Rest) (ids : List Int) (xs : List (Ent × List Int)) (w : World) (h1 : 0 < xs.length) (h4 : xs.length ≤ 4) (hB : Blk w p 84 (nodeC (xs.map (·.1)) xs.length))
    (hE : RE w bx cb rc o ask y q) (ho : OutAt w base o ids r) (hs : q.stop ≤ 0) (hb0 : 0 < base) (hb : base ≤ o) (hbw : base ≤ w.heap.size) (hl : ids.length + (xs.flatMap (·.2)).length < 1000000)
    (hx : ∀ x ∈ xs, (ovl x.1.box y = false → x.2 = []) ∧ (ovl x.1.box y = true → (x.1.child = none ∧ x.2 = [x.1.id]) ∨ ∃ p', x.1.child = some p' ∧
      ∀ w' ids', Kp base o w w' → RE w' bx cb rc o ask y q → OutAt w' base o ids' r → ids'.length + x.2.length < 1000000 → Calls Tryd.prog 27 #[.pointer (some ⟨p', 0, none⟩), .pointer (some ⟨bx, 0, none⟩), .pointer (some ⟨cb, 0, none⟩), .pointer (some ⟨rc, 0, none⟩)] w' (RPost w' base o (ids' ++ x.2) r))) :
    Calls Tryd.prog 27 #[.pointer (some ⟨p, 0, none⟩), .pointer (some ⟨bx, 0, none⟩), .pointer (some ⟨cb, 0, none⟩), .pointer (some ⟨rc, 0, none⟩)] w (RPost w base o (ids ++ xs.flatMap (·.2)) r) := by
  have hob := ho.blk
  have hpl := hB.lt
  have HB := hB
  go_enter Tryd.func27, Tryd.ntmps27
  go_wp2
  go_loopw [6] (fun iv wr => ∃ k : Nat, k ≤ xs.length ∧ iv = .int .i64 k ∧ Kp base o w wr ∧ OutAt wr base o (ids ++ (xs.take k).flatMap (·.2)) r) (fun iv _ => xs.length - (intOf iv).toNat)
  case atStart => exact ⟨0, by omega, rfl, Kp.refl _ _ _, by simpa using ho⟩
  case round =>
    obtain ⟨k, k2, rfl, hK, hO⟩ := hrel
    have hBr := hK.blk hB hob (by decide) (by decide)
    have hEr := hE.kp hK hob hb0
    have hn : wr.cell? ⟨p, 24, none⟩ = some (.int .i64 xs.length) := hBr.cell (nodeC_num _ _ (by simpa using h4))
    have hplr := hBr.lt
    by_cases hlt : k < xs.length
    · obtain ⟨e0, e1, e2, e3, e4, e5⟩ := ent_cells hBr (by simpa using h4) (i := k) (by simpa using hlt)
      rw [List.getElem_map] at e0 e1 e2 e3 e4 e5
      have hxk := hx xs[k] (List.getElem_mem _)
      have hcut : (xs.take (k + 1)).flatMap (·.2) = (xs.take k).flatMap (·.2) ++ xs[k].2 := by
        rw [List.take_succ_eq_append_getElem hlt, List.flatMap_append, List.flatMap_cons, List.flatMap_nil, List.append_nil]
      have hlen : ((xs.take k).flatMap (·.2)).length + xs[k].2.length ≤ (xs.flatMap (·.2)).length := by
        have h1 : xs.flatMap (·.2) = (xs.take (k + 1)).flatMap (·.2) ++ (xs.drop (k + 1)).flatMap (·.2) := by
          rw [← List.flatMap_append, List.take_append_drop]
        rw [h1, hcut]; simp
      have b0 := hEr.hbx.cell (i := 0) rfl
      have b1 := hEr.hbx.cell (i := 1) rfl
      have b2 := hEr.hbx.cell (i := 2) rfl
      have b3 := hEr.hbx.cell (i := 3) rfl
      have hbxl := hEr.hbx.lt
      have HC := Lib.hid hcut
      have HL := Lib.hid hlen
      clear hcut hlen hBr
      generalize xs[k] = x at *
      obtain ⟨⟨bxx, ch, id⟩, add⟩ := x
      have hov := fun w => overlap_ bxx y w
      simp only [B4.val] at hov
      simp only at e0 e1 e2 e3 e4 e5 hxk
      go_wp2_with fail
      refine (hov _).mono ?_
      rintro e w2 ⟨rfl, hk2⟩
      clear hov
      have hkk : Stab.Keeps wr w2 := by repeat (first | (with_reducible exact Stab.Keeps.refl _) | (with_reducible assumption) | (with_reducible refine Stab.Keeps.alloc ?_ _) | (with_reducible refine Stab.Keeps.drew ?_) | (with_reducible refine Stab.Keeps.drewN ?_ _) | ((with_reducible refine Stab.Keeps.setCell ?_ ?_ _); focus (first | (simp; done) | (simp; omega))) | (with_reducible refine Stab.Keeps.trans ?_ (by with_reducible assumption)))
      cases hv : ovl bxx y with
      | false =>
        have hadd := hxk.1 hv
        have hO2 := hO.keep hkk
        have hfin : OutAt w2 base o (ids ++ (xs.take (k + 1)).flatMap (·.2)) r := by rw [HC.out, hadd, List.append_nil]; exact hO2
        have hKf : Kp base o w w2 := hK.trans (Kp.of_keeps hkk (Nat.le_trans hbw hK.ch.size))
        clear hxk hadd hO hO2
        go_wp2_with fail
        go_roundw
        case rel => exact ⟨k + 1, by omega, by go_num, hKf, hfin⟩
        case measure => simp [intOf]; omega
      | true =>
        obtain ⟨mc_, mf_⟩ := Stab.own_cell hk2 (wr.heap.size) (by first | (simp; done) | (simp; omega) | omega | (apply Stab.cell_lt (a := ⟨wr.heap.size, 0, none⟩); assumption))
        have m0 : w2.cell? ⟨wr.heap.size, 0, none⟩ = some (.float .f64 bxx.a) := by rw [mc_]; first | assumption | (go_simp; done)
        have m1 : w2.cell? ⟨wr.heap.size, 1, none⟩ = some (.float .f64 bxx.b) := by rw [mc_]; first | assumption | (go_simp; done)
        have m2 : w2.cell? ⟨wr.heap.size, 2, none⟩ = some (.float .f64 bxx.c) := by rw [mc_]; first | assumption | (go_simp; done)
        have m3 : w2.cell? ⟨wr.heap.size, 3, none⟩ = some (.float .f64 bxx.d) := by rw [mc_]; first | assumption | (go_simp; done)
        have m4 : w2.cell? ⟨wr.heap.size, 4, none⟩ = some (.pointer (ch.map fun p => ⟨p, 0, none⟩)) := by rw [mc_]; first | assumption | (go_simp; done)
        have m5 : w2.cell? ⟨wr.heap.size, 5, none⟩ = some (.int .i64 id) := by rw [mc_]; first | assumption | (go_simp; done)
        have mf : ∀ j, w2.frozen? ⟨wr.heap.size, j, none⟩ = false := fun j => by rw [mf_]; first | (go_simp; done) | (apply_assumption)
        clear mc_ mf_
        have hE2 := hEr.kp (Kp.of_keeps hkk (Nat.le_trans hbw hK.ch.size)) hO.blk hb0
        have hO2 := hO.keep hkk
        have c0 := hE2.hcb.cell (i := 0) rfl
        have hcl := hE2.hcb.lt
        have r0 := hE2.hrc.cell (i := 0) rfl
        have hrl := hE2.hrc.lt
        rcases hxk.2 hv with ⟨hch, hadd⟩ | ⟨p', hch, hrec⟩
        · subst hch
          subst hadd
          have hcall := call0_ base o ask (ids ++ (xs.take k).flatMap (·.2)) r q id w2 hO2 hE2.hask hs hb (by have hL' : ((xs.take k).flatMap (·.2)).length + 1 ≤ (xs.flatMap (·.2)).length := HL.out; rw [List.length_append]; omega)
          clear hxk
          have m4' : w2.cell? ⟨wr.heap.size, 4, none⟩ = some (.pointer none) := m4
          clear m4
          go_wp2_with fail
          refine hcall.mono ?_
          clear hcall
          rintro e w3 ⟨rfl, hO3, hK3⟩
          have hE3 := hE2.kp hK3 hO2.blk hb0
          obtain ⟨st, sa, s0⟩ := hE3.hstop
          have hfin : OutAt w3 base o (ids ++ (xs.take (k + 1)).flatMap (·.2)) r := by rw [HC.out, ← List.append_assoc]; exact hO3
          have hKf : Kp base o w w3 := (hK.trans (Kp.of_keeps hkk (Nat.le_trans hbw hK.ch.size))).trans hK3
          have h0l : 0 < w3.heap.size := Stab.cell_lt s0
          clear hO3 hE3 hO2 hE2 hK3 hO hEr m0 m1 m2 m3 m4' m5 mf
          go_wp2_with fail
          refine (is_nil _ _ _).mono ?_
          rintro e w4 ⟨rfl, rfl⟩
          go_wp2_with fail
          go_roundw
          case rel => exact ⟨k + 1, by omega, by go_num, hKf, hfin⟩
          case measure => simp [intOf]; omega
        · subst hch
          have m4' : w2.cell? ⟨wr.heap.size, 4, none⟩ = some (.pointer (some ⟨p', 0, none⟩)) := m4
          clear m4
          have hcall := hrec w2 (ids ++ (xs.take k).flatMap (·.2)) (hK.trans (Kp.of_keeps hkk (Nat.le_trans hbw hK.ch.size))) hE2 hO2 (by have hL' : ((xs.take k).flatMap (·.2)).length + add.length ≤ (xs.flatMap (·.2)).length := HL.out; rw [List.length_append]; omega)
          clear hxk hrec
          go_wp2_with fail
          refine hcall.mono ?_
          clear hcall
          rintro e w3 ⟨rfl, hO3, hK3⟩
          have hfin : OutAt w3 base o (ids ++ (xs.take (k + 1)).flatMap (·.2)) r := by rw [HC.out, ← List.append_assoc]; exact hO3
          have hKf : Kp base o w w3 := (hK.trans (Kp.of_keeps hkk (Nat.le_trans hbw hK.ch.size))).trans hK3
          clear hO3 hO2 hE2 hK3 hO hEr m0 m1 m2 m3 m4' m5 mf
          go_wp2_with fail
          go_roundw
          case rel => exact ⟨k + 1, by omega, by go_num, hKf, hfin⟩
          case measure => simp [intOf]; omega
    · have hkn : k = xs.length := by omega
      subst hkn
      rw [List.take_length] at hO
      go_wp2_with fail
      go_ret
      exact ⟨rfl, hO, hK⟩
end Go.Proofs.YtokofimfinhnbaaDoor
set_option linter.unusedVariables false
set_option linter.unusedSimpArgs false
namespace Go.Proofs.YtokofimfinhnbaaDoor
open Go.RowKit Go.Fl Go.Sl Go.Ch
theorem rs_leaf (y : B4) : ∀ l : List It, (l.map fun t => ((⟨t.box, none, t.id⟩ : Ent), if ovl t.box y then [t.id] else [])).flatMap (·.2) = rs y (.leaf l)
  | [] => rfl
  | t :: l => by
    have ih := rs_leaf y l
    simp only [rs] at ih
    simp only [List.map_cons, List.flatMap_cons, rs, ih]
    cases h : ovl t.box y <;> simp [h]
theorem rs_le (y : B4) : ∀ t : RT, (rs y t).length ≤ t.items.length
  | .leaf l => by simp only [rs, RT.items, List.length_map]; exact List.length_filter_le _ _
  | .two a b => by
    have h1 := rs_le y a
    have h2 := rs_le y b
    simp only [rs, RT.items, List.length_append]
    split <;> split <;> simp <;> omega
  | .four a b c d => by
    have h1 := rs_le y a
    have h2 := rs_le y b
    have h3 := rs_le y c
    have h4 := rs_le y d
    simp only [rs, RT.items, List.length_append]
    split <;> split <;> split <;> split <;> simp <;> omega
theorem NodeAt.kp {base o lo : Nat} {w w' : World} (hk : Kp base o w w') (ho : ∃ us, Blk w o 39 us) {t : RT} {p : Nat} (h : NodeAt w lo p t) : NodeAt w' lo p t :=
  NodeAt.of (Nat.le_refl _) (fun b vs _ hb => hk.blk hb ho (by decide) (by decide)) h
def REnt (y : B4) (x : Nat × RT) : Ent × List Int := (⟨x.2.box, some x.1, 0⟩, if ovl x.2.box y then rs y x.2 else [])
def RngC (base bx cb rc o ask lo : Nat) (y : B4) (q : Ask) (r : Rest) (t : RT) : Prop := ∀ (p : Nat) (ids : List Int) (w : World), NodeAt w lo p t → RE w bx cb rc o ask y q → OutAt w base o ids r →
    base ≤ w.heap.size → ids.length + (rs y t).length < 1000000 →
    Calls Tryd.prog 27 #[.pointer (some ⟨p, 0, none⟩), .pointer (some ⟨bx, 0, none⟩), .pointer (some ⟨cb, 0, none⟩), .pointer (some ⟨rc, 0, none⟩)] w (RPost w base o (ids ++ rs y t) r)
theorem kid_ {base bx cb rc o ask lo : Nat} {y : B4} {q : Ask} {r : Rest} {w : World} {ids : List Int} (hO : OutAt w base o ids r) (hbw : base ≤ w.heap.size) {p : Nat} {t : RT} (ih : RngC base bx cb rc o ask lo y q r t) (ha : NodeAt w lo p t) :
    (ovl (REnt y (p, t)).1.box y = false → (REnt y (p, t)).2 = []) ∧ (ovl (REnt y (p, t)).1.box y = true → ((REnt y (p, t)).1.child = none ∧ (REnt y (p, t)).2 = [(REnt y (p, t)).1.id]) ∨ ∃ p', (REnt y (p, t)).1.child = some p' ∧
      ∀ w' ids', Kp base o w w' → RE w' bx cb rc o ask y q → OutAt w' base o ids' r → ids'.length + (REnt y (p, t)).2.length < 1000000 → Calls Tryd.prog 27 #[.pointer (some ⟨p', 0, none⟩), .pointer (some ⟨bx, 0, none⟩), .pointer (some ⟨cb, 0, none⟩), .pointer (some ⟨rc, 0, none⟩)] w' (RPost w' base o (ids' ++ (REnt y (p, t)).2) r)) := by
  refine ⟨fun h => by simp only [REnt] at h ⊢; rw [h]; rfl, fun h => .inr ⟨p, rfl, fun w' ids' hk hE' hO' hl' => ?_⟩⟩
  have h2 : (REnt y (p, t)).2 = rs y t := by simp only [REnt] at h ⊢; rw [h]; rfl
  rw [h2] at hl' ⊢
  exact ih p ids' w' (ha.kp hk hO.blk) hE' hO' (Nat.le_trans hbw hk.ch.size) hl'
theorem range_ (base bx cb rc o ask lo : Nat) (y : B4) (q : Ask) (r : Rest) (hs : q.stop ≤ 0) (hb0 : 0 < base) (hb : base ≤ o) : ∀ (t : RT), RngC base bx cb rc o ask lo y q r t := by
  intro t
  induction t with
  | leaf l =>
    intro p ids w hN hE hO hbw hl
    obtain ⟨_, l1, l4, hB⟩ := hN
    rw [← rs_leaf y l] at hl ⊢
    refine rloop_ base bx cb rc o ask p y q r ids _ w (by simpa using l1) (by simpa using l4) ?_ hE hO hs hb0 hb hbw hl ?_
    · simpa [leafE, Function.comp_def] using hB
    · intro x hx
      simp only [List.mem_map] at hx
      obtain ⟨t, ht, rfl⟩ := hx
      refine ⟨fun h => by simp only at h ⊢; rw [h]; rfl, fun h => .inl ⟨rfl, by simp only at h ⊢; rw [h]; rfl⟩⟩
  | two a b iha ihb =>
    intro p ids w hN hE hO hbw hl
    obtain ⟨_, pa, pb, hB, ha, hb'⟩ := hN
    have e : rs y (.two a b) = [REnt y (pa, a), REnt y (pb, b)].flatMap (·.2) := by simp [rs, REnt]
    rw [e] at hl ⊢
    refine rloop_ base bx cb rc o ask p y q r ids _ w (by simp) (by simp) hB hE hO hs hb0 hb hbw hl ?_
    intro x hx
    simp only [List.mem_cons, List.not_mem_nil, or_false] at hx
    rcases hx with rfl | rfl
    · exact kid_ hO hbw iha ha
    · exact kid_ hO hbw ihb hb'
  | four a b c d iha ihb ihc ihd =>
    intro p ids w hN hE hO hbw hl
    obtain ⟨_, pa, pb, pc, pd, hB, ha, hb', hc, hd⟩ := hN
    have e : rs y (.four a b c d) = [REnt y (pa, a), REnt y (pb, b), REnt y (pc, c), REnt y (pd, d)].flatMap (·.2) := by simp [rs, REnt]
    rw [e] at hl ⊢
    refine rloop_ base bx cb rc o ask p y q r ids _ w (by simp) (by simp) hB hE hO hs hb0 hb hbw hl ?_
    intro x hx
    simp only [List.mem_cons, List.not_mem_nil, or_false] at hx
    rcases hx with rfl | rfl | rfl | rfl
    · exact kid_ hO hbw iha ha
    · exact kid_ hO hbw ihb hb'
    · exact kid_ hO hbw ihc hc
    · exact kid_ hO hbw ihd hd
def rsO (y : B4) : Option RT → List Int
  | none => []
  | some t => rs y t
set_option maxRecDepth 100000 in
set_option maxHeartbeats 1000000 in
theorem search0_ (base o ask lo p n : Nat) (y : B4) (q : Ask) (r : Rest) (tr : Option RT) (ids : List Int) (w : World) (hT : TreeAt w lo p n tr) (hO : OutAt w base o ids r) (hq : Blk w ask 30 q.cells) (hstop : ∃ t a, w.cell? ⟨0, 0, none⟩ = some (.iface t (.pointer (some a))))
    (hs : q.stop ≤ 0) (hb0 : 0 < base) (hb : base ≤ o) (hl : ids.length + (rsO y tr).length < 1000000) :
    Calls Tryd.prog 21 #[.pointer (some ⟨p, 0, none⟩), y.val, .func (.func 20) #[] #[.pointer (some ⟨o, 0, none⟩), .pointer (some ⟨ask, 0, none⟩)]] w (RPost w base o (ids ++ rsO y tr) r) := by
  have hmf : ∀ (fn : Fn) (first cap : Array Value) (w : World), (Instr.makeFunc fn first cap).run Tryd.prog w = .ok (.func fn first cap) w := fun _ _ _ _ => rfl
  obtain ⟨y0, y1, y2, y3⟩ := y
  simp only [B4.val]
  obtain ⟨us, hob⟩ := hO.blk
  have hbw : base ≤ w.heap.size := Nat.le_trans hb (Nat.le_of_lt hob.lt)
  cases tr with
  | none =>
    obtain ⟨_, _, hp⟩ := hT
    have p0 := hp.cell (i := 0) rfl
    have hpl := hp.lt
    go_enter Tryd.func21, Tryd.ntmps21
    go_wp2
    go_ret
    have hk : Stab.Keeps w ((w.alloc (.cells #[.float .f64 y0, .float .f64 y1, .float .f64 y2, .float .f64 y3] 56)).alloc (.cells #[.func (.func 20) #[] #[.pointer (some ⟨o, 0, none⟩), .pointer (some ⟨ask, 0, none⟩)]] 67)) := by repeat (first | (with_reducible exact Stab.Keeps.refl _) | (with_reducible assumption) | (with_reducible refine Stab.Keeps.alloc ?_ _) | (with_reducible refine Stab.Keeps.drew ?_) | (with_reducible refine Stab.Keeps.drewN ?_ _) | ((with_reducible refine Stab.Keeps.setCell ?_ ?_ _); focus (first | (simp; done) | (simp; omega))) | (with_reducible refine Stab.Keeps.trans ?_ (by with_reducible assumption)))
    exact ⟨rfl, by simpa [rsO] using hO.keep hk, Kp.of_keeps hk hbw⟩
  | some t =>
    obtain ⟨_, rt, hp, hN⟩ := hT
    have p0 := hp.cell (i := 0) rfl
    have hpl := hp.lt
    go_enter Tryd.func21, Tryd.ntmps21
    go_wp2_with fail
    have hk : Stab.Keeps w (((w.alloc (.cells #[.float .f64 y0, .float .f64 y1, .float .f64 y2, .float .f64 y3] 56)).alloc (.cells #[.func (.func 20) #[] #[.pointer (some ⟨o, 0, none⟩), .pointer (some ⟨ask, 0, none⟩)]] 67)).alloc (.cells #[.func (.func 27) #[] #[.pointer (some ⟨w.heap.size, 0, none⟩), .pointer (some ⟨w.heap.size + 1, 0, none⟩), .pointer (some ⟨w.heap.size + 1 + 1, 0, none⟩)]] 79)) := by repeat (first | (with_reducible exact Stab.Keeps.refl _) | (with_reducible assumption) | (with_reducible refine Stab.Keeps.alloc ?_ _) | (with_reducible refine Stab.Keeps.drew ?_) | (with_reducible refine Stab.Keeps.drewN ?_ _) | ((with_reducible refine Stab.Keeps.setCell ?_ ?_ _); focus (first | (simp; done) | (simp; omega))) | (with_reducible refine Stab.Keeps.trans ?_ (by with_reducible assumption)))
    have hE : RE (((w.alloc (.cells #[.float .f64 y0, .float .f64 y1, .float .f64 y2, .float .f64 y3] 56)).alloc (.cells #[.func (.func 20) #[] #[.pointer (some ⟨o, 0, none⟩), .pointer (some ⟨ask, 0, none⟩)]] 67)).alloc (.cells #[.func (.func 27) #[] #[.pointer (some ⟨w.heap.size, 0, none⟩), .pointer (some ⟨w.heap.size + 1, 0, none⟩), .pointer (some ⟨w.heap.size + 1 + 1, 0, none⟩)]] 79)) w.heap.size (w.heap.size + 1) (w.heap.size + 1 + 1) o ask ⟨y0, y1, y2, y3⟩ q := by
      obtain ⟨st, sa, s0⟩ := hstop
      refine ⟨((Blk.new w [_, _, _, _] _ _ rfl).alloc _).alloc _, (Blk.new _ [_] _ _ (by simp)).alloc _, Blk.new _ [_] _ _ (by simp), ((hq.alloc _).alloc _).alloc _, st, sa, ?_⟩
      rw [(Stab.own_cell hk 0 (Stab.cell_lt s0)).1]; exact s0
    generalize (((w.alloc (.cells #[.float .f64 y0, .float .f64 y1, .float .f64 y2, .float .f64 y3] 56)).alloc (.cells #[.func (.func 20) #[] #[.pointer (some ⟨o, 0, none⟩), .pointer (some ⟨ask, 0, none⟩)]] 67)).alloc (.cells #[.func (.func 27) #[] #[.pointer (some ⟨w.heap.size, 0, none⟩), .pointer (some ⟨w.heap.size + 1, 0, none⟩), .pointer (some ⟨w.heap.size + 1 + 1, 0, none⟩)]] 79)) = W at *
    have e0 := hE.hrc.cell (i := 0) rfl
    have hel := hE.hrc.lt
    have p0' := (hp.keep hk).cell (i := 0) rfl
    have hpl' := (hp.keep hk).lt
    have hsz := hk.size
    have hR := fun w' (hk' : Stab.Keeps W w') => range_ base w.heap.size (w.heap.size + 1) (w.heap.size + 1 + 1) o ask lo ⟨y0, y1, y2, y3⟩ q r hs hb0 hb t rt ids w' (hN.keep (Stab.Keeps.trans hk hk')) (hE.kp (Kp.of_keeps hk' (Nat.le_trans hbw hsz)) (hO.keep hk).blk hb0) (hO.keep (Stab.Keeps.trans hk hk')) (Nat.le_trans hbw (Nat.le_trans hsz hk'.size)) hl
    clear hmf
    refine Stab.keep_tail 5 (fun _ _ _ => True) (fun _ => false) (fun k => false) Stab.pre_none (by kernel_rfl) (by kernel_rfl) fun hcx => ?_
    simp only [List.take_succ_cons, List.take_zero, List.drop_succ_cons, List.drop_zero]
    repeat (first
      | (refine Stab.quiet rfl rfl rfl (fun K hK => ?_); go_big_quiet_op; refine hK _ ?_; clear hK K)
      | (refine Stab.one rfl rfl rfl ?_
         apply Exists.intro
         refine ⟨fun w1 hw1 => ?_, fun K hK => ?_⟩
         · go_simp
           first | fail
         go_simp
         refine hK _ ?_
         clear hK K)
      | (refine Stab.skip rfl (fun K hK => ?_); go_simp; refine hK _ ?_; clear hK K))
    refine Stab.nil fun w' hw' _ => ?_
    clear hcx
    go_wp2_with fail
    refine (hR w' hw').mono ?_
    rintro e w3 ⟨rfl, hO3, hK3⟩
    clear hR
    go_wp2_with fail
    go_ret
    exact ⟨rfl, hO3, (Kp.of_keeps (Stab.Keeps.trans hk hw') hbw).trans hK3⟩
end Go.Proofs.YtokofimfinhnbaaDoor
set_option linter.unusedVariables false
set_option linter.unusedSimpArgs false
namespace Go.Proofs.YtokofimfinhnbaaDoor
open Go.RowKit Go.Fl Go.Sl Go.Ch
theorem assert_w (w : World) : (Instr.typeAssert .nilIface 62 64 true).run Tryd.prog w = .ok (.tuple #[.agg #[.nilIface], .bool false]) w := by kernel_rfl
theorem assert_o (w : World) : (Instr.typeAssert .nilIface 62 66 true).run Tryd.prog w = .ok (.tuple #[.agg #[], .bool false]) w := by kernel_rfl
theorem owns_past {w : World} {base k n b i : Nat} {e : TypeId} {v u : Value} {xs : List Value} (hb : some b ≠ v.ownBlock) (h : w.ownsRow base e k v n xs) : (w.setCell ⟨b, i, none⟩ u).ownsRow base e k v n xs :=
  ownsRow_setCell_other h (fun e => hb e.symm) u
theorem owns_more {w : World} {base k n : Nat} {e : TypeId} {v : Value} {xs : List Value} (o : Obj) (h : w.ownsRow base e k v n xs) : (w.alloc o).ownsRow base e k v n xs := h.alloc o
def toldV (a : Option Addr) (n cap : Nat) (r : Rest) : Value := .agg #[.slice a n cap, .bool r.err, .bool r.own, .bool r.found, .int .i64 r.id, .float .f64 r.box.a, .float .f64 r.box.b, .float .f64 r.box.c, .float .f64 r.box.d, .int .i64 r.count]
/-- an answer, its numbers in a row of its own -/
def ToldPost (w : World) (ids : List Int) (r : Rest) (e : Ending) (w' : World) : Prop := ∃ a cap, e = .returned (toldV a ids.length cap r) ∧ w'.ownsRow w.heap.size 3 1 (.slice a ids.length cap) ids.length (encI ids) ∧ Stab.Keeps w w'
set_option maxRecDepth 100000 in
set_option maxHeartbeats 1000000 in
theorem told0_ (lo p n : Nat) (y : B4) (st hw : Int) (tr : Option RT) (w : World) (hT : TreeAt w lo p n tr) (hstop : ∃ t a, w.cell? ⟨0, 0, none⟩ = some (.iface t (.pointer (some a)))) (hs : st ≤ 0) (hl : (rsO y tr).length < 1000000) :
    Calls Tryd.prog 15 #[.pointer (some ⟨p, 0, none⟩), (Ask.mk 0 y st hw).val] w (ToldPost w (rsO y tr) Rest.zero) := by
  have hmf : ∀ (fn : Fn) (first cap : Array Value) (w : World), (Instr.makeFunc fn first cap).run Tryd.prog w = .ok (.func fn first cap) w := fun _ _ _ _ => rfl
  have h0 : 0 < w.heap.size := by obtain ⟨_, _, s0⟩ := hstop; exact Stab.cell_lt s0
  obtain ⟨y0, y1, y2, y3⟩ := y
  simp only [Ask.val]
  have hbx := fun w => box_ ⟨y0, y1, y2, y3⟩ w
  simp only [B4.val] at hbx
  go_enter Tryd.func15, Tryd.ntmps15
  go_wp2_with fail
  refine (hbx _).mono ?_
  rintro e w2 ⟨rfl, hk2⟩
  go_wp2_with fail
  have hq2 : Blk w2 w.heap.size 30 (Ask.mk 0 ⟨y0, y1, y2, y3⟩ st hw).cells := (((Blk.new w [_, _, _, _, _, _, _] _ _ rfl).alloc _).alloc _).keep hk2
  have hR2 : Blk w2 (w.heap.size + 1) 39 (.slice none 0 0 :: Rest.zero.cells) := ((Blk.new _ [_, _, _, _, _, _, _, _, _, _] _ _ (by simp)).alloc _).keep hk2
  have hO2 : OutAt w2 w.heap.size (w.heap.size + 1 + 1) [] Rest.zero := ⟨none, 0, (Blk.new _ [_, _, _, _, _, _, _, _, _, _] _ _ (by simp)).keep hk2, World.ownsRow_nil _ _ _ _⟩
  have hkw : Stab.Keeps w w2 := by repeat (first | (with_reducible exact Stab.Keeps.refl _) | (with_reducible assumption) | (with_reducible refine Stab.Keeps.alloc ?_ _) | (with_reducible refine Stab.Keeps.drew ?_) | (with_reducible refine Stab.Keeps.drewN ?_ _) | ((with_reducible refine Stab.Keeps.setCell ?_ ?_ _); focus (first | (simp; done) | (simp; omega))) | (with_reducible refine Stab.Keeps.trans ?_ (by with_reducible assumption)))
  have hS := search0_ w.heap.size (w.heap.size + 1 + 1) w.heap.size lo p n ⟨y0, y1, y2, y3⟩ ⟨0, ⟨y0, y1, y2, y3⟩, st, hw⟩ Rest.zero tr [] w2 (hT.keep hkw) hO2 hq2 (by obtain ⟨t, a, s0⟩ := hstop; exact ⟨t, a, by rw [(Stab.own_cell hkw 0 h0).1]; exact s0⟩) hs h0 (by omega) (by simpa using hl)
  simp only [B4.val] at hS
  refine hS.mono ?_
  clear hS hbx hmf hq2
  rintro e w3 ⟨rfl, hO3, hK3⟩
  have hR3 := hK3.ch.blk hR2 (by omega) (by decide)
  obtain ⟨a3, c3, hB3, hown3⟩ := hO3
  simp only [List.nil_append] at hB3 hown3
  have hkw3 : Stab.Keeps w w3 := Below.trans hkw hK3.bel
  have p0 := hB3.cell (i := 0) rfl
  have p1 := hB3.cell (i := 1) rfl
  have p2 := hB3.cell (i := 2) rfl
  have p3 := hB3.cell (i := 3) rfl
  have p4 := hB3.cell (i := 4) rfl
  have p5 := hB3.cell (i := 5) rfl
  have p6 := hB3.cell (i := 6) rfl
  have p7 := hB3.cell (i := 7) rfl
  have p8 := hB3.cell (i := 8) rfl
  have p9 := hB3.cell (i := 9) rfl
  have pf := hB3.free
  have r0 := hR3.cell (i := 0) rfl
  have r1 := hR3.cell (i := 1) rfl
  have r2 := hR3.cell (i := 2) rfl
  have r3 := hR3.cell (i := 3) rfl
  have r4 := hR3.cell (i := 4) rfl
  have r5 := hR3.cell (i := 5) rfl
  have r6 := hR3.cell (i := 6) rfl
  have r7 := hR3.cell (i := 7) rfl
  have r8 := hR3.cell (i := 8) rfl
  have r9 := hR3.cell (i := 9) rfl
  have rf := hR3.free
  have hl3 := hB3.lt
  have hno := owns_ne hown3 hB3 (by decide)
  have hnr := owns_ne hown3 hR3 (by decide)
  clear hB3 hR3 hO2 hR2 hK3 hk2 hkw
  have hl4 : w.heap.size + 1 < w3.heap.size := by omega
  have ta := assert_w
  have tb := assert_o
  go_wp2_with fail
  refine bodyPost_ret (v := toldV a3 (rsO ⟨y0, y1, y2, y3⟩ tr).length c3 Rest.zero) (by simp [results, Tryd.results15, go_sem, toldV, Rest.zero, *]) rfl ⟨a3, c3, rfl, ?_, ?_⟩
  · repeat (first | (with_reducible exact hown3) | (with_reducible refine owns_more _ ?_) | (with_reducible refine owns_past hno ?_) | (with_reducible refine owns_past hnr ?_))
  · repeat (first | (with_reducible exact Stab.Keeps.refl _) | (with_reducible assumption) | (with_reducible refine Stab.Keeps.alloc ?_ _) | (with_reducible refine Stab.Keeps.drew ?_) | (with_reducible refine Stab.Keeps.drewN ?_ _) | ((with_reducible refine Stab.Keeps.setCell ?_ ?_ _); focus (first | (simp; done) | (simp; omega))) | (with_reducible refine Stab.Keeps.trans ?_ (by with_reducible assumption)))
end Go.Proofs.YtokofimfinhnbaaDoor
set_option linter.unusedVariables false
set_option linter.unusedSimpArgs false
namespace Go.Proofs.YtokofimfinhnbaaDoor
open Go.RowKit Go.Fl Go.Sl Go.Ch
theorem catch_play (p q : Value) (w : World) :
    CallsD Tryd.prog 13 #[p, q] .returning w fun e u' w' => e = .returned (.tuple #[]) ∧ u' = .returning ∧ w' = w := by
  refine callsD_of_wpS Tryd.func13 rfl fun c₀ cs hu => ?_
  apply wpS_seq
  apply wpS_region
  simp [wpOpsS, go_sem, recoverD, hu, Tryd.ntmps13, Exit.thenS]
  refine wpS_cond (t := false) (by simp [Act.eval, Array.replicate]) ?_
  simp only [Bool.false_eq_true, if_false]
  refine wpS_of_wp (wp_skip ?_)
  cases c₀
  simp_all [bodyPostS, results, Tryd.results13]
theorem Ask.cells_len (q : Ask) : q.cells.length = 7 := rfl
/-- an answer as it lies in memory -/
structure Ans where
  a : Option Addr
  cap : Nat
  ids : List Int
  r : Rest
def Ans.cells (x : Ans) : List Value := .slice x.a x.ids.length x.cap :: x.r.cells
theorem Ans.cells_len (x : Ans) : x.cells.length = 10 := rfl
def Ans.ok (w : World) (x : Ans) : Prop := w.ownsRow 0 3 1 (.slice x.a x.ids.length x.cap) x.ids.length (encI x.ids)
theorem infoTold : (Tryd.prog.info? 39).map (fun i => (i.zero, i.size, i.bytes)) = some (some (.agg #[.slice none 0 0, .bool false, .bool false, .bool false, .int .i64 0, .float .f64 0, .float .f64 0, .float .f64 0, .float .f64 0, .int .i64 0]), 10, 80) := by kernel_rfl
end Go.Proofs.YtokofimfinhnbaaDoor
set_option linter.unusedVariables false
set_option linter.unusedSimpArgs false
namespace Go.Proofs.YtokofimfinhnbaaDoor
open Go.RowKit Go.Fl Go.Sl Go.Ch
theorem grown_other {w w' : World} {base base' k k' n n' : Nat} {e e' : TypeId} {v v' : Value} {xs xs' : List Value} (h : w.ownsRow base e k v n xs) (h' : w.ownsRow base' e' k' v' n' xs') (he : e ≠ e') (hg : w.grownBy w' v'.ownBlock) : w'.ownsRow base e k v n xs := by
  refine h.kept hg ?_
  rcases h.2 with ⟨rfl, _⟩ | ⟨g, cap, cur, rfl, _, hc, _⟩
  · exact .inl rfl
  · refine .inr fun hh => ?_
    rcases h'.2 with ⟨rfl, _⟩ | ⟨g', cap', cur', rfl, _, hc', _⟩
    · cases hh
    · cases hh
      rw [hc] at hc'
      cases hc'
      exact he rfl
theorem owns_base {w : World} {base base' k n : Nat} {e : TypeId} {v : Value} {xs : List Value} (h : w.ownsRow base e k v n xs) (hB : base' ≤ base) : w.ownsRow base' e k v n xs := by
  obtain ⟨h1, h2⟩ := h
  refine ⟨h1, ?_⟩
  rcases h2 with h2 | ⟨g, cap, cur, hv, hg, r⟩
  · exact .inl h2
  · exact .inr ⟨g, cap, cur, hv, Nat.le_trans hB hg, r⟩
theorem Ans.ok.keep {w w' : World} {x : Ans} (h : x.ok w) (hk : Stab.Keeps w w') : x.ok w' := owns_keep h hk
theorem TreeAt.of {w w' : World} {lo p n : Nat} {o : Option RT} (hk : ∀ b e vs, lo ≤ b → e ≠ 39 → Blk w b e vs → Blk w' b e vs) (h : TreeAt w lo p n o) : TreeAt w' lo p n o := by
  cases o with
  | none => exact ⟨h.1, h.2.1, hk _ _ _ h.1 (by decide) h.2.2⟩
  | some t =>
    obtain ⟨h0, r, h1, h2⟩ := h
    exact ⟨h0, r, hk _ _ _ h0 (by decide) h1, NodeAt.of (Nat.le_refl _) (fun b vs hl hb => hk _ _ _ hl (by decide) hb) h2⟩
def RT.full : RT → Prop
  | .leaf l => 0 < l.length
  | .two a b => a.full ∧ b.full
  | .four a b c d => a.full ∧ b.full ∧ c.full ∧ d.full
theorem NodeAt.full {w : World} {lo : Nat} : ∀ {t : RT} {p : Nat}, NodeAt w lo p t → t.full
  | .leaf l, p, h => h.2.1
  | .two a b, p, h => by
    obtain ⟨_, pa, pb, _, ha, hb⟩ := h
    exact ⟨ha.full, hb.full⟩
  | .four a b c d, p, h => by
    obtain ⟨_, pa, pb, pc, pd, _, ha, hb, hc, hd⟩ := h
    exact ⟨ha.full, hb.full, hc.full, hd.full⟩
/-- what one question is answered with -/
def TP (R : List Int → Rest → Prop) (w : World) (e : Ending) (w' : World) : Prop := ∃ ids r, R ids r ∧ ToldPost w ids r e w'
/-- the told answer, and the row that holds it, while the region's order is open -/
def PlayF (R : List Int → Rest → Prop) (B : Nat) (k : Nat) (v : Value) (w : World) : Prop :=
  (k = 3 → ∃ x : Ans, R x.ids x.r ∧ v = toldV x.a x.ids.length x.cap x.r ∧ x.ok w) ∧
  (k = 4 → ∃ (x : Ans) (g : Nat), R x.ids x.r ∧ x.ok w ∧ v = .slice (some ⟨g, 0, none⟩) 1 1 ∧ Blk w g 39 x.cells ∧ B ≤ g)
theorem playPre (R : List Int → Rest → Prop) (B : Nat) : Stab.Pre Stab.Keeps (PlayF R B) :=
  ⟨Stab.Keeps.refl, Stab.Keeps.trans, fun k v w w' hk hF => ⟨fun e => by
      obtain ⟨x, h1, h2, h3⟩ := hF.1 e
      exact ⟨x, h1, h2, h3.keep hk⟩, fun e => by
      obtain ⟨x, g, h1, h2, h3, h4, h5⟩ := hF.2 e
      exact ⟨x, g, h1, h2.keep hk, h3, h4.keep hk, h5⟩⟩⟩
def PlayPost (w : World) (m : Nat) (Rs : Nat → List Int → Rest → Prop) (e : Ending) (w' : World) : Prop := ∃ (a : Option Addr) (cap : Nat) (xs : List Ans), e = .returned (.tuple #[.slice a m cap, .bool true]) ∧ xs.length = m ∧ (∀ i (h : i < xs.length), Rs i xs[i].ids xs[i].r) ∧ (∀ x ∈ xs, x.ok w') ∧ Sl w' a m cap 10 (xs.flatMap Ans.cells) ∧ Stab.Keeps w w'
set_option maxRecDepth 100000 in
set_option maxHeartbeats 2000000 in
theorem play_ (a : Option Addr) (n cap : Nat) (L : List It) (a2 : Option Addr) (m cap2 : Nat) (qs : List Ask) (w : World) (SA : World → Prop) (hSA : ∀ w w', Stab.Keeps w w' → SA w → SA w') (hsa : SA w)
    (hl : L.length = n) (hn : n ≤ 1000000) (h : Sz w a n cap 5 (enc L)) (hm : qs.length = m) (hm2 : m ≤ 1000000) (h2 : Sz w a2 m cap2 7 (qs.flatMap Ask.cells)) (Rs : Option RT → Nat → List Int → Rest → Prop)
    (hT : ∀ (tr : Option RT), (itemsO tr).Perm L → ∀ i (hi : i < qs.length) (p lo : Nat) (w' : World), SA w' → TreeAt w' lo p n tr → Calls Tryd.prog 15 #[.pointer (some ⟨p, 0, none⟩), qs[i].val] w' (TP (Rs tr i) w')) :
    Calls Tryd.prog 8 #[.slice a n cap, .slice a2 m cap2] w (fun e w' => ∃ tr : Option RT, (itemsO tr).Perm L ∧ (∀ t, tr = some t → t.full) ∧ PlayPost w m (Rs tr) e w') := by
  have hmf : ∀ (fn : Fn) (first cap : Array Value) (w : World), (Instr.makeFunc fn first cap).run Tryd.prog w = .ok (.func fn first cap) w := fun _ _ _ _ => rfl
  obtain ⟨i0, hi, hz0, hz1, hz2⟩ := info_parts infoTold
  have hle2 := h2.le
  have hmx2 := h2.max
  unfold maxLen at hmx2
  have HM := Lib.hid hm
  clear hm
  go_enter_defers Tryd.func8, Tryd.ntmps8
  go_wp2_with fail
  have hk0 : Stab.Keeps w ((w.alloc (.cells #[.slice none 0 0] 33)).alloc (.cells #[.bool false] 4)) := by repeat (first | (with_reducible exact Stab.Keeps.refl _) | (with_reducible assumption) | (with_reducible refine Stab.Keeps.alloc ?_ _) | (with_reducible refine Stab.Keeps.drew ?_) | (with_reducible refine Stab.Keeps.drewN ?_ _) | ((with_reducible refine Stab.Keeps.setCell ?_ ?_ _); focus (first | (simp; done) | (simp; omega))) | (with_reducible refine Stab.Keeps.trans ?_ (by with_reducible assumption)))
  have hb0 : Blk ((w.alloc (.cells #[.slice none 0 0] 33)).alloc (.cells #[.bool false] 4)) w.heap.size 33 [.slice none 0 0] := (Blk.new w [_] _ _ rfl).alloc _
  have hb1 : Blk ((w.alloc (.cells #[.slice none 0 0] 33)).alloc (.cells #[.bool false] 4)) (w.heap.size + 1) 4 [.bool false] := Blk.new _ [_] _ _ (by simp)
  have hWl : w.heap.size < ((w.alloc (.cells #[.slice none 0 0] 33)).alloc (.cells #[.bool false] 4)).heap.size := by simp; omega
  generalize ((w.alloc (.cells #[.slice none 0 0] 33)).alloc (.cells #[.bool false] 4)) = W at *
  refine (tree_ a n cap L W hl hn (h.keep hk0)).mono ?_
  rintro e w2 ⟨p, tr, rfl, hTr, hperm, hk2⟩
  have hk02 := Stab.Keeps.trans hk0 hk2
  have hb02 := hb0.keep hk2
  have hb12 := hb1.keep hk2
  have HF : Hid (∀ t, tr = some t → t.full) := Lib.hid (fun t e => by subst e; exact hTr.2.choose_spec.2.full)
  have hqc := hT tr hperm
  clear hT hb0 hb1 h
  go_wp2_with fail
  go_loopw [14] (fun iv wr => ∃ (k : Nat) (xs : List Ans) (al : Option Addr) (c : Nat), k ≤ m ∧ iv = .int .i64 k ∧ xs.length = k ∧ Stab.Keeps w wr ∧ TreeAt wr W.heap.size p n tr ∧ Blk wr w.heap.size 33 [.slice al k c] ∧ Blk wr (w.heap.size + 1) 4 [.bool false] ∧
    wr.ownsRow (w.heap.size + 1 + 1) 39 10 (.slice al k c) k (xs.flatMap Ans.cells) ∧ (∀ i (h : i < xs.length), Rs tr i xs[i].ids xs[i].r) ∧ (∀ x ∈ xs, x.ok wr)) (fun iv _ => m - (intOf iv).toNat)
  case atStart => exact ⟨0, [], none, 0, by omega, rfl, rfl, hk02, hTr, hb02, hb12, World.ownsRow_nil _ _ _ _, fun i h => by simp at h, fun x hx => by simp at hx⟩
  case round =>
    clear hTr hb02 hb12 hk02
    obtain ⟨k, xs, al, c, k2, rfl, hxl, hK, hTr, hb0, hb1, hown, hRs, hok⟩ := hrel
    have HX := Lib.hid hxl
    clear hxl
    by_cases hlt : k < m
    · have hkq : k < qs.length := by have := HM.out; omega
      obtain ⟨b, off, ha, hb, hc⟩ := (h2.keep hK).elem hlt
      subst ha
      have eg := fun j hj => flat_get Ask.cells 7 Ask.cells_len qs k j hkq hj
      have c0 : wr.cell? ⟨b, off + k * 7, none⟩ = some (.int .i64 qs[k].dO) := hc 0 _ (by omega) (by rw [eg 0 (by omega)]; rfl)
      have c1 : wr.cell? ⟨b, off + k * 7 + 1, none⟩ = some (.float .f64 qs[k].box.a) := hc 1 _ (by omega) (by rw [eg 1 (by omega)]; rfl)
      have c2 : wr.cell? ⟨b, off + k * 7 + 2, none⟩ = some (.float .f64 qs[k].box.b) := hc 2 _ (by omega) (by rw [eg 2 (by omega)]; rfl)
      have c3 : wr.cell? ⟨b, off + k * 7 + 3, none⟩ = some (.float .f64 qs[k].box.c) := hc 3 _ (by omega) (by rw [eg 3 (by omega)]; rfl)
      have c4 : wr.cell? ⟨b, off + k * 7 + 4, none⟩ = some (.float .f64 qs[k].box.d) := hc 4 _ (by omega) (by rw [eg 4 (by omega)]; rfl)
      have c5 : wr.cell? ⟨b, off + k * 7 + 5, none⟩ = some (.int .i64 qs[k].stop) := hc 5 _ (by omega) (by rw [eg 5 (by omega)]; rfl)
      have c6 : wr.cell? ⟨b, off + k * 7 + 6, none⟩ = some (.int .i64 qs[k].how) := hc 6 _ (by omega) (by rw [eg 6 (by omega)]; rfl)
      have hcl := fun w' (hs : SA w') hT => hqc k hkq p W.heap.size w' hs hT
      clear eg hc
      generalize qs[k] = q at *
      simp only [Ask.val] at hcl
      have l0 := hb0.cell (i := 0) rfl
      have hll := hb0.lt
      have hsr := hSA _ _ hK hsa
      go_wp2_with fail
      refine Stab.keep_tail 5 (PlayF (Rs tr k) wr.heap.size) (fun k => k == 3 || k == 4) (fun k => false) (playPre _ _) (by kernel_rfl) (by kernel_rfl) fun hcx => ?_
      simp only [List.take_succ_cons, List.take_zero, List.drop_succ_cons, List.drop_zero]
      repeat (first
        | (refine Stab.quiet rfl rfl rfl (fun K hK => ?_); go_big_quiet_op; refine hK _ ?_; clear hK K)
        | (refine Stab.one rfl rfl rfl ?_
           apply Exists.intro
           refine ⟨fun w1 hw1 => ?_, fun K hK => ?_⟩
           · go_simp
             first | fail
           go_simp
           refine hK _ ?_
           clear hK K)
        | (refine Stab.skip rfl (fun K hK => ?_); go_simp; refine hK _ ?_; clear hK K))
      refine Stab.made rfl rfl (fun w1 hk1 => ?_) (fun v hv K hK => ?_)
      · have hkr1 : Stab.Keeps wr w1 := by have := hk1.1; repeat (first | (with_reducible exact Stab.Keeps.refl _) | (with_reducible assumption) | (with_reducible refine Stab.Keeps.alloc ?_ _) | (with_reducible refine Stab.Keeps.drew ?_) | (with_reducible refine Stab.Keeps.drewN ?_ _) | ((with_reducible refine Stab.Keeps.setCell ?_ ?_ _); focus (first | (simp; done) | (simp; omega))) | (with_reducible refine Stab.Keeps.trans ?_ (by with_reducible assumption)))
        go_simp
        refine (hcl w1 (hSA _ _ hkr1 hsr) (hTr.keep hkr1)).mono ?_
        rintro e w2 ⟨ids, r, hR, ax, cx, rfl, hox, hkx⟩
        exact ⟨_, rfl, hkx, fun _ => ⟨⟨ax, cx, ids, r⟩, hR, rfl, owns_base hox (Nat.zero_le _)⟩, fun h => by cases h⟩
      obtain ⟨wv, _, _, hv⟩ := hv
      obtain ⟨x, hxR, rfl, _⟩ := hv.1 rfl
      clear hv
      go_simp
      refine hK _ ?_
      clear hK
      refine Stab.made rfl rfl (fun w1 hk1 => ?_) (fun v hv K hK => ?_)
      · have hkr1 : Stab.Keeps wr w1 := by have := hk1.1; repeat (first | (with_reducible exact Stab.Keeps.refl _) | (with_reducible assumption) | (with_reducible refine Stab.Keeps.alloc ?_ _) | (with_reducible refine Stab.Keeps.drew ?_) | (with_reducible refine Stab.Keeps.drewN ?_ _) | ((with_reducible refine Stab.Keeps.setCell ?_ ?_ _); focus (first | (simp; done) | (simp; omega))) | (with_reducible refine Stab.Keeps.trans ?_ (by with_reducible assumption)))
        obtain ⟨x', hxR', hxe, hxo⟩ := (Stab.setF_new (hk1.2 3 (by kernel_rfl))).1 rfl
        simp only [toldV]
        go_simp
        refine ⟨by repeat (first | (with_reducible exact Stab.Keeps.refl _) | (with_reducible assumption) | (with_reducible refine Stab.Keeps.alloc ?_ _) | (with_reducible refine Stab.Keeps.drew ?_) | (with_reducible refine Stab.Keeps.drewN ?_ _) | ((with_reducible refine Stab.Keeps.setCell ?_ ?_ _); focus (first | (simp; done) | (simp; omega))) | (with_reducible refine Stab.Keeps.trans ?_ (by with_reducible assumption))), (fun h => by cases h), fun _ => ⟨x', w1.heap.size, hxR', hxo.keep (by repeat (first | (with_reducible exact Stab.Keeps.refl _) | (with_reducible assumption) | (with_reducible refine Stab.Keeps.alloc ?_ _) | (with_reducible refine Stab.Keeps.drew ?_) | (with_reducible refine Stab.Keeps.drewN ?_ _) | ((with_reducible refine Stab.Keeps.setCell ?_ ?_ _); focus (first | (simp; done) | (simp; omega))) | (with_reducible refine Stab.Keeps.trans ?_ (by with_reducible assumption)))), rfl, ?_, hkr1.size⟩⟩
        have hce : x.cells = x'.cells := by
          unfold toldV at hxe
          injection hxe with hxe
          have := congrArg Array.toList hxe
          simpa [Ans.cells, Rest.cells] using this
        rw [← hce]
        exact Blk.new w1 x.cells _ _ rfl
      obtain ⟨wv4, _, _, hv4⟩ := hv
      obtain ⟨x4, g, _, _, rfl, _, _⟩ := hv4.2 rfl
      clear hv4
      go_simp
      refine hK _ ?_
      clear hK
      refine Stab.nil fun w' hw' hfs => ?_
      obtain ⟨x5, g', hR5, hok5, he, hB5, hg5⟩ := (Stab.setF_new (hfs 4)).2 rfl
      cases he
      clear hcx hfs hcl c0 c1 c2 c3 c4 c5 c6 l0 hll hsr
      have hkr : Stab.Keeps wr w' := by repeat (first | (with_reducible exact Stab.Keeps.refl _) | (with_reducible assumption) | (with_reducible refine Stab.Keeps.alloc ?_ _) | (with_reducible refine Stab.Keeps.drew ?_) | (with_reducible refine Stab.Keeps.drewN ?_ _) | ((with_reducible refine Stab.Keeps.setCell ?_ ?_ _); focus (first | (simp; done) | (simp; omega))) | (with_reducible refine Stab.Keeps.trans ?_ (by with_reducible assumption)))
      have hown' := owns_keep hown hkr
      have hb0' := hb0.keep hkr
      have hb1' := hb1.keep hkr
      have hTr' := hTr.keep hkr
      have hK' := Stab.Keeps.trans hK hkr
      have hok' : ∀ x ∈ xs ++ [x5], x.ok w' := fun y hy => by
        rcases List.mem_append.1 hy with hy | hy
        · exact (hok y hy).keep hkr
        · simp at hy; subst hy; exact hok5
      have hRs' : ∀ i (h : i < (xs ++ [x5]).length), Rs tr i (xs ++ [x5])[i].ids (xs ++ [x5])[i].r := fun i hi => by
        by_cases h : i < xs.length
        · rw [List.getElem_append_left h]; exact hRs i h
        · have : i = xs.length := by simp at hi; omega
          subst this
          rw [List.getElem_append_right (Nat.le_refl _)]
          simp only [Nat.sub_self, List.getElem_cons_zero]
          rw [HX.out]; exact hR5
      have l0 := hb0'.cell (i := 0) rfl
      have lf := hb0'.free
      have hll := hb0'.lt
      have hll1 := hb1'.lt
      have hw'sz : w.heap.size + 1 + 1 ≤ w'.heap.size := by omega
      clear hown hb0 hb1 hTr hK hok hok5 hRs hw'
      go_wp2_with (at_builtin; (refine Sl.append_own (w0 := w') rfl _ _ 33 rfl (w.heap.size + 1 + 1) 39 i0 _ 10 80 Tryd.underlying33 hi hz0 hz1 hz2 rfl (by decide) _ k _ rfl hown' ⟨g, 0, none⟩ 1 1 x5.cells rfl rfl ?c1 ?c2 ?c3 ?c4 ?c5 ?c6 ?_))
      case c1 => intro j u hj; rw [add_none, Nat.zero_add]; exact hB5.cell hj
      case c2 => intro u hu; simp [Ans.cells, Rest.cells] at hu; rcases hu with rfl | rfl | rfl | rfl | rfl | rfl | rfl | rfl | rfl | rfl <;> rfl
      case c3 => unfold maxLen; omega
      case c4 => omega
      case c5 => omega
      case c6 => exact Below.refl _ _
      intro al' c' w5 hown5 hk5 hsz5 hgr
      have hne : 39 ≠ 3 := by decide
      have hb05 := hb0'.grown hgr (owns_ne hown' hb0' (by decide))
      have hb15 := hb1'.grown hgr (owns_ne hown' hb1' (by decide))
      have hlast : ∀ x ∈ xs ++ [x5], x.ok w5 := fun y hy => grown_other (hok' y hy) hown' (Ne.symm hne) hgr
      have hTr5 : TreeAt w5 W.heap.size p n tr := hTr'.of (fun b e vs _ he hb => hb.grown hgr (owns_ne hown' hb he))
      have hKf : Stab.Keeps w w5 := Below.trans hK' (Below.mono hk5 (by omega))
      have hTr6 : TreeAt (w5.setCell ⟨w.heap.size, 0, none⟩ (.slice al' (k + 1) c')) W.heap.size p n tr := hTr5.of (fun b e vs hl _ hb => hb.past (by simp; omega) _)
      have hown6 := owns_past (i := 0) (u := .slice al' (k + 1) c') (owns_ne hown5 hb05 (by decide)) hown5
      have hlast6 : ∀ x ∈ xs ++ [x5], x.ok (w5.setCell ⟨w.heap.size, 0, none⟩ (.slice al' (k + 1) c')) := fun y hy => owns_past (owns_ne (hlast y hy) hb05 (by decide)) (hlast y hy)
      have hb06 := hb05.set 0 (.slice al' (k + 1) c')
      have hb16 := hb15.past (a := ⟨w.heap.size, 0, none⟩) (by simp) (.slice al' (k + 1) c')
      have l5 := hb05.cell (i := 0) rfl
      have lf5 := hb05.free
      have hll5 := hb05.lt
      have hcat : xs.flatMap Ans.cells ++ x5.cells = (xs ++ [x5]).flatMap Ans.cells := by simp
      rw [hcat] at hown6
      clear hTr5 hown5 hlast hb05 hb15 hTr' hown' hb0' hb1' hok' hgr hK' hkr hB5 hcat l0 lf hll hll1 hi hz0 hz1 hz2
      go_wp2_with fail
      go_roundw
      case rel =>
        refine ⟨k + 1, xs ++ [x5], al', c', by omega, by go_num, by have := HX.out; simp; omega, ?_, hTr6, hb06, hb16, hown6, hRs', hlast6⟩
        repeat (first | (with_reducible exact Stab.Keeps.refl _) | (with_reducible assumption) | (with_reducible refine Stab.Keeps.alloc ?_ _) | (with_reducible refine Stab.Keeps.drew ?_) | (with_reducible refine Stab.Keeps.drewN ?_ _) | ((with_reducible refine Stab.Keeps.setCell ?_ ?_ _); focus (first | (simp; done) | (simp; omega))) | (with_reducible refine Stab.Keeps.trans ?_ (by with_reducible assumption)))
      case measure => simp [intOf]; omega
    · have hkm : k = m := by omega
      subst hkm
      have l0 := hb0.cell (i := 0) rfl
      have l1 := hb1.cell (i := 0) rfl
      have lf0 := hb0.free
      have lf1 := hb1.free
      have hll := hb1.lt
      obtain ⟨al2, c2, he, hSl, _⟩ := of_owns hown
      cases he
      have hnr := owns_ne hown hb0 (by decide)
      have hnr1 := owns_ne hown hb1 (by decide)
      have hokf : ∀ x ∈ xs, x.ok ((wr.setCell ⟨w.heap.size, 0, none⟩ (.slice al k c)).setCell ⟨w.heap.size + 1, 0, none⟩ (.bool true)) := fun y hy =>
        owns_past (owns_ne (hok y hy) hb1 (by decide)) (owns_past (owns_ne (hok y hy) hb0 (by decide)) (hok y hy))
      have hownf := owns_past (i := 0) (u := .bool true) hnr1 (owns_past (i := 0) (u := .slice al k c) hnr hown)
      clear hmf hb0 hb1 hTr hok hown hSl hqc
      go_wp2_with fail
      refine leaves_cons (f := 13) (args := #[.pointer (some ⟨w.heap.size, 0, none⟩), .pointer (some ⟨w.heap.size + 1, 0, none⟩)]) (by simp) (by simp [go_sem]) ?_
      refine (catch_play _ _ _).mono ?_
      rintro e u' w'' ⟨rfl, rfl, rfl⟩
      obtain ⟨al3, c3, he3, hSl3, _⟩ := of_owns hownf
      cases he3
      refine ⟨.tuple #[.slice al k c, .bool true], by simp [results, Tryd.results8, go_sem, *], tr, hperm, HF.out, al, c, xs, rfl, HX.out, hRs, hokf, hSl3, ?_⟩
      repeat (first | (with_reducible exact Stab.Keeps.refl _) | (with_reducible assumption) | (with_reducible refine Stab.Keeps.alloc ?_ _) | (with_reducible refine Stab.Keeps.drew ?_) | (with_reducible refine Stab.Keeps.drewN ?_ _) | ((with_reducible refine Stab.Keeps.setCell ?_ ?_ _); focus (first | (simp; done) | (simp; omega))) | (with_reducible refine Stab.Keeps.trans ?_ (by with_reducible assumption)))
end Go.Proofs.YtokofimfinhnbaaDoor
