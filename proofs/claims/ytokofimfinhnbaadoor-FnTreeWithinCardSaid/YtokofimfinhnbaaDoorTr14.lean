/-
  The tree of boxes: whether boxes overlap; the callback that is never stopped. No condition.
-/
import Derived.Test.YtokofimfinhnbaaDoorTr13
import Derived.LaidEql
set_option linter.unusedVariables false
set_option linter.unusedSimpArgs false
namespace Go.Proofs.YtokofimfinhnbaaDoor
open Go.RowKit Go.Fl Go.Sl Go.Ch
def ovl (x y : B4) : Bool := (lt x.a y.c || eq x.a y.c) && (gt x.c y.a || eq x.c y.a) && (lt x.b y.d || eq x.b y.d) && (gt x.d y.b || eq x.d y.b)
set_option maxHeartbeats 1000000 in
theorem overlap_ (x y : B4) (w : World) : Calls Tryd.prog 28 #[x.val, y.val] w (One w (.bool (ovl x y))) := by
  obtain ⟨a, b, c, d⟩ := x
  obtain ⟨a', b', c', d'⟩ := y
  unfold ovl B4.val
  simp only
  cases h1 : (lt a c' || eq a c') with
  | false =>
    unfold lt eq at h1
    go_enter Tryd.func28, Tryd.ntmps28
    go_wp2
    go_ret
    refine ⟨by simp, ?_⟩
    repeat (first | (with_reducible exact Stab.Keeps.refl _) | (with_reducible assumption) | (with_reducible refine Stab.Keeps.alloc ?_ _) | (with_reducible refine Stab.Keeps.drew ?_) | (with_reducible refine Stab.Keeps.drewN ?_ _) | ((with_reducible refine Stab.Keeps.setCell ?_ ?_ _); focus (first | (simp; done) | (simp; omega))) | (with_reducible refine Stab.Keeps.trans ?_ (by with_reducible assumption)))
  | true =>
    cases h2 : (gt c a' || eq c a') with
    | false =>
      unfold lt eq at h1
      unfold gt eq at h2
      go_enter Tryd.func28, Tryd.ntmps28
      go_wp2
      go_ret
      refine ⟨by simp, ?_⟩
      repeat (first | (with_reducible exact Stab.Keeps.refl _) | (with_reducible assumption) | (with_reducible refine Stab.Keeps.alloc ?_ _) | (with_reducible refine Stab.Keeps.drew ?_) | (with_reducible refine Stab.Keeps.drewN ?_ _) | ((with_reducible refine Stab.Keeps.setCell ?_ ?_ _); focus (first | (simp; done) | (simp; omega))) | (with_reducible refine Stab.Keeps.trans ?_ (by with_reducible assumption)))
    | true =>
      cases h3 : (lt b d' || eq b d') with
      | false =>
        unfold lt eq at h1 h3
        unfold gt eq at h2
        go_enter Tryd.func28, Tryd.ntmps28
        go_wp2
        go_ret
        refine ⟨by simp, ?_⟩
        repeat (first | (with_reducible exact Stab.Keeps.refl _) | (with_reducible assumption) | (with_reducible refine Stab.Keeps.alloc ?_ _) | (with_reducible refine Stab.Keeps.drew ?_) | (with_reducible refine Stab.Keeps.drewN ?_ _) | ((with_reducible refine Stab.Keeps.setCell ?_ ?_ _); focus (first | (simp; done) | (simp; omega))) | (with_reducible refine Stab.Keeps.trans ?_ (by with_reducible assumption)))
      | true =>
        have h4 : (FloatKind.f64.format.order d b' == some .gt || FloatKind.f64.format.order d b' == some .eq) = (gt d b' || eq d b') := rfl
        unfold lt eq at h1 h3
        unfold gt eq at h2
        generalize (gt d b' || eq d b') = q at h4 ⊢
        go_enter Tryd.func28, Tryd.ntmps28
        go_wp2
        go_ret
        refine ⟨by simp, ?_⟩
        repeat (first | (with_reducible exact Stab.Keeps.refl _) | (with_reducible assumption) | (with_reducible refine Stab.Keeps.alloc ?_ _) | (with_reducible refine Stab.Keeps.drew ?_) | (with_reducible refine Stab.Keeps.drewN ?_ _) | ((with_reducible refine Stab.Keeps.setCell ?_ ?_ _); focus (first | (simp; done) | (simp; omega))) | (with_reducible refine Stab.Keeps.trans ?_ (by with_reducible assumption)))
theorem is_nil (t : TypeId) (v : Value) (w : World) : Calls Tryd.prog 29 #[.nilIface, .iface t v] w fun e w' => e = .returned (.bool false) ∧ w = w' := by
  have h1 := fun w => run_eql_iface_nil_left (P := Tryd.prog) (w := w) (ti := 62) t v Tryd.underlying62
  go_enter Tryd.func29, Tryd.ntmps29
  go_wp2
  go_ret
  exact ⟨rfl, rfl⟩
/-- a question -/
structure Ask where
  dO : Int
  box : B4
  stop : Int
  how : Int
def Ask.cells (q : Ask) : List Value := [.int .i64 q.dO, .float .f64 q.box.a, .float .f64 q.box.b, .float .f64 q.box.c, .float .f64 q.box.d, .int .i64 q.stop, .int .i64 q.how]
def Ask.val (q : Ask) : Value := .agg #[.int .i64 q.dO, .float .f64 q.box.a, .float .f64 q.box.b, .float .f64 q.box.c, .float .f64 q.box.d, .int .i64 q.stop, .int .i64 q.how]
def encI (l : List Int) : List Value := l.map (.int .i64)
/-- an answer but for its numbers -/
structure Rest where
  err : Bool
  own : Bool
  found : Bool
  id : Int
  box : B4
  count : Int
def Rest.cells (r : Rest) : List Value := [.bool r.err, .bool r.own, .bool r.found, .int .i64 r.id, .float .f64 r.box.a, .float .f64 r.box.b, .float .f64 r.box.c, .float .f64 r.box.d, .int .i64 r.count]
def Rest.zero : Rest := ⟨false, false, false, 0, ⟨0, 0, 0, 0⟩, 0⟩
/-- an answer in its block, its numbers so far -/
def OutAt (w : World) (base o : Nat) (ids : List Int) (r : Rest) : Prop := ∃ a cap, Blk w o 39 (.slice a ids.length cap :: r.cells) ∧ w.ownsRow base 3 1 (.slice a ids.length cap) ids.length (encI ids)
/-- what a search may change: the answer, and rows of numbers -/
structure Kp (base o : Nat) (w w' : World) : Prop where
  ch : Ch (· = 3) (· = o) w w'
  bel : Below base w w'
theorem Kp.refl (base o : Nat) (w : World) : Kp base o w w := ⟨Ch.refl _ _ _, Below.refl _ _⟩
theorem Kp.trans {base o : Nat} {a b c : World} (h : Kp base o a b) (k : Kp base o b c) : Kp base o a c := ⟨h.ch.trans k.ch, h.bel.trans k.bel⟩
theorem Kp.of_keeps {base o : Nat} {a b : World} (h : Stab.Keeps a b) (hb : base ≤ a.heap.size) : Kp base o a b := ⟨Ch.of_keeps h, Below.mono h hb⟩
theorem owns_ne {w : World} {base k n b : Nat} {e e' : TypeId} {v : Value} {xs vs : List Value} (h : w.ownsRow base e k v n xs) (hb : Blk w b e' vs) (he : e' ≠ e) : some b ≠ v.ownBlock := by
  obtain ⟨_, h2⟩ := h
  rcases h2 with ⟨rfl, _⟩ | ⟨g, cap, cur, rfl, _, hg, _⟩
  · simp [Value.ownBlock]
  · intro heq
    simp only [Value.ownBlock, Option.some.injEq] at heq
    subst heq
    unfold Blk at hb
    rw [hb] at hg
    injection hg with hg
    injection hg with _ hg
    exact he hg
theorem owns_row {w : World} {base k n : Nat} {e : TypeId} {v : Value} {xs : List Value} (h : w.ownsRow base e k v n xs) : ∀ g, v.ownBlock = some g → ∃ cs e' z, w.heap[g]? = some (.cells cs e' z) ∧ e' = e := by
  intro g hg
  obtain ⟨_, h2⟩ := h
  rcases h2 with ⟨rfl, _⟩ | ⟨g', cap, cur, rfl, _, hg', _⟩
  · simp [Value.ownBlock] at hg
  · simp only [Value.ownBlock, Option.some.injEq] at hg
    subst hg
    exact ⟨_, _, _, hg', rfl⟩
theorem infoInt : (Tryd.prog.info? 3).map (fun i => (i.zero, i.size, i.bytes)) = some (some (.int .i64 0), 1, 8) := by kernel_rfl
def CallPost (w : World) (base o : Nat) (ids : List Int) (r : Rest) (e : Ending) (w' : World) : Prop := e = .returned .nilIface ∧ OutAt w' base o ids r ∧ Kp base o w w'
set_option maxRecDepth 100000 in
set_option maxHeartbeats 1000000 in
theorem call0_ (base o ask : Nat) (ids : List Int) (r : Rest) (q : Ask) (id : Int) (w : World) (ho : OutAt w base o ids r) (hq : Blk w ask 30 q.cells) (hs : q.stop ≤ 0) (hb : base ≤ o) (hl : ids.length < 1000000) :
    Calls Tryd.prog 20 #[.int .i64 id, .pointer (some ⟨o, 0, none⟩), .pointer (some ⟨ask, 0, none⟩)] w (CallPost w base o (ids ++ [id]) r) := by
  obtain ⟨i0, hi, hz0, hz1, hz2⟩ := info_parts infoInt
  obtain ⟨a, cap, hB, hown⟩ := ho
  have o0 := hB.cell (i := 0) rfl
  have of := hB.free
  have hol := hB.lt
  have hql := hq.lt
  have hqo : ask ≠ o := hq.ne hB (by decide)
  have hown1 := hown.alloc (.cells #[.int .i64 id] 3)
  go_enter Tryd.func20, Tryd.ntmps20
  go_wp2_with (at_builtin; (refine Sl.append_own (w0 := w) rfl _ _ 37 rfl base 3 i0 _ 1 8 Tryd.underlying37 hi hz0 hz1 hz2 rfl (by decide) _ ids.length _ rfl hown1 ⟨w.heap.size, 0, none⟩ 1 1 [.int .i64 id] rfl rfl ?c1 ?c2 ?c3 ?c4 ?c5 ?c6 ?_))
  case c1 => exact new_cells _ _ _ _ (by simp)
  case c2 => intro u hu; simp at hu; subst hu; rfl
  case c3 => unfold maxLen; omega
  case c4 => omega
  case c5 => simp; omega
  case c6 => exact Below.alloc (Below.refl _ _) (by omega) _
  intro al' c' w5 hown' hk5 hsz5 hgr
  have hB5 := (hB.alloc (.cells #[.int .i64 id] 3)).grown hgr (owns_ne hown1 (hB.alloc _) (by decide))
  have hq5 := (hq.alloc (.cells #[.int .i64 id] 3)).grown hgr (owns_ne hown1 (hq.alloc _) (by decide))
  have hch : Ch (· = 3) (· = o) w w5 := ((Ch.refl _ _ w).alloc _).grown hgr (fun g hg => .inr (.inr (owns_row hown1 g hg)))
  have hne := owns_ne hown' hB5 (by decide)
  have p0 := hB5.cell (i := 0) rfl
  have pf := hB5.free
  have hol5 := hB5.lt
  have q5 := hq5.cell (i := 5) rfl
  have hfin : OutAt (w5.setCell ⟨o, 0, none⟩ (.slice al' (ids.length + 1) c')) base o (ids ++ [id]) r := by
    refine ⟨al', c', ?_, ?_⟩
    · have := hB5.set 0 (.slice al' (ids.length + 1) c')
      simpa using this
    · have := ownsRow_setCell_other hown' (a := ⟨o, 0, none⟩) (fun e => hne e.symm) (.slice al' (ids.length + 1) c')
      simpa [encI] using this
  clear hB hown hown1 o0 of hgr hq hB5 hq5 hown' hne hi hz0 hz1 hz2
  go_wp2_with fail
  go_ret
  exact ⟨rfl, hfin, hch.setCell (.inl rfl) _, hk5.setCell hb _⟩
end Go.Proofs.YtokofimfinhnbaaDoor
