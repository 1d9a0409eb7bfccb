/-
  Slices: a slice that reads as a row of cells; appends and makes on slices of the call's own, told with what they keep. No condition.
-/
import Derived.Laws.AppendOwn
import Derived.Laws.MakeOwn
import Derived.Laws.OwnMore
import Derived.WalkKit
set_option linter.unusedVariables false
set_option linter.unusedSimpArgs false
namespace Go.Sl
open Go.RowKit

/-- the slice of n elements of k cells each, at a, reads as xs -/
structure Sl (w : World) (a : Option Addr) (n cap k : Nat) (xs : List Value) : Prop where
  len : xs.length = n * k
  le : n ≤ cap
  max : cap ≤ maxLen
  nil : a = none → cap = 0
  at_ : ∀ x, a = some x → ∃ b off, x = ⟨b, off, none⟩ ∧ b < w.heap.size ∧ ∀ j u, xs[j]? = some u → w.cell? ⟨b, off + j, none⟩ = some u

theorem Sl.keep {w w' : World} {a : Option Addr} {n cap k : Nat} {xs : List Value} (h : Sl w a n cap k xs) (hk : Below w.heap.size w w') : Sl w' a n cap k xs :=
  ⟨h.len, h.le, h.max, h.nil, fun x hx => by
    obtain ⟨b, off, e, hb, hc⟩ := h.at_ x hx
    exact ⟨b, off, e, Nat.lt_of_lt_of_le hb hk.size, fun j u hu => by rw [hk.cell (p := ⟨b, off + j, none⟩) hb]; exact hc j u hu⟩⟩
/-- an element's cells -/
theorem Sl.elem {w : World} {a : Option Addr} {n cap k : Nat} {xs : List Value} (h : Sl w a n cap k xs) {i : Nat} (hi : i < n) :
    ∃ b off, a = some ⟨b, off, none⟩ ∧ b < w.heap.size ∧ ∀ j u, j < k → xs[i * k + j]? = some u → w.cell? ⟨b, off + i * k + j, none⟩ = some u := by
  have hle := h.le
  cases ha : a with
  | none => have := h.nil ha; omega
  | some x =>
    obtain ⟨b, off, e, hb, hc⟩ := h.at_ x ha
    subst e
    exact ⟨b, off, rfl, hb, fun j u hj hu => by rw [Nat.add_assoc]; exact hc _ _ hu⟩

/-- what was appended to reads as its row -/
theorem of_owns {w : World} {base k n : Nat} {e : TypeId} {v : Value} {xs : List Value} (h : w.ownsRow base e k v n xs) : ∃ a cap, v = .slice a n cap ∧ Sl w a n cap k xs ∧ (a = none → n = 0) ∧ ∀ x, a = some x → base ≤ x.block := by
  have hl := h.1
  rcases h.2 with ⟨rfl, rfl⟩ | ⟨g, cap, cur, rfl, hb, hg, hn, hm, hs, ht⟩
  · exact ⟨none, 0, rfl, ⟨hl, Nat.le_refl _, by simp [maxLen], fun _ => rfl, fun x hx => by cases hx⟩, fun _ => rfl, fun x hx => by cases hx⟩
  · refine ⟨some ⟨g, 0, none⟩, cap, rfl, ⟨hl, hn, hm, (fun hx => by cases hx), fun x hx => ?_⟩, (fun hx => by cases hx), fun x hx => by cases hx; exact hb⟩
    cases hx
    have hlt : g < w.heap.size := by
      rcases Nat.lt_or_ge g w.heap.size with h' | h'
      · exact h'
      · simp [Array.getElem?_eq_none h'] at hg
    refine ⟨g, 0, rfl, hlt, fun j u hu => ?_⟩
    have := h.cells (g := g) rfl j u hu
    simp only [Addr.add] at this
    by_cases hj : j = 0
    · subst hj; simpa using this
    · simpa [hj] using this

/-- the cells of the block that was made last -/
theorem new_cells (w : World) (c : List Value) (t : TypeId) (n : Nat) (hn : n = w.heap.size) : ∀ j u, c[j]? = some u → (w.alloc (.cells c.toArray t)).cell? ((⟨n, 0, none⟩ : Addr).add j) = some u := by
  intro j u hu
  subst hn
  have : ((⟨w.heap.size, 0, none⟩ : Addr).add j) = ⟨w.heap.size, j, none⟩ := by
    simp only [Addr.add]
    by_cases hj : j = 0
    · subst hj; rfl
    · simp [hj]
  rw [this, World.cell?_alloc_new]
  simpa using hu
/-- append, told with what it keeps -/
theorem append_own {P : Program} {w w0 : World} {ops : Array Oper} {rest : List Oper} {o : Oper} {a : Act} {Q : Exit → Act → World → Prop} (hgd : o.guard = none) (s x : Operand) (t : TypeId)
    (ho : o.op = .call { callee := .builtin .append, args := #[s, x], argTypes := #[t, t] })
    (base : Nat) (e : TypeId) (i : TypeInfo) (z : Value) (size bytes : Nat) (ht : P.underlying t = some (.slice e)) (hi : P.info? e = some i) (hz : i.zero = some z)
    (hsize : i.size = size) (hby : i.bytes = bytes) (hzs : z.cells.size = size) (hsz : 0 < size)
    (v : Value) (n : Nat) (xs : List Value) (hs : a.eval s = v) (hown : w.ownsRow base e size v n xs)
    (ad : Addr) (m c : Nat) (news : List Value) (hx : a.eval x = .slice (some ad) m c) (hl : news.length = m * size) (hnews : ∀ j u, news[j]? = some u → w.cell? (ad.add j) = some u) (h1 : ∀ u ∈ news, u.oneCell' = true)
    (h63 : n + m ≤ maxLen) (hbytes : (n + m) * bytes ≤ 140737488355328) (hbase : base ≤ w.heap.size) (hk : Below base w0 w)
    (h : ∀ al cap w', w'.ownsRow base e size (.slice al (n + m) cap) (n + m) (xs ++ news) → Below base w0 w' → w.heap.size ≤ w'.heap.size → w.grownBy w' v.ownBlock → wpList P ops Q rest (a.put o.dst (.slice al (n + m) cap)) w') : wpList P ops Q (o :: rest) a w := by
  refine wpList_append_own w hgd s x t ho base e i z size bytes ht hi hz hsize hby hzs hsz v n xs hs hown ad m c news hx hl hnews h1 h63 hbytes hbase fun v' w' h2 h3 _ => ?_
  obtain ⟨al, cap, rfl, _, _, _⟩ := of_owns h2
  exact h al cap w' h2 (hk.grown h3 hbase fun k hk' => (hown.lt k hk').1) h3.size h3

/-- a block's first m cells can be written -/
structure Room (w : World) (b m : Nat) : Prop where
  cell : ∀ j, j < m → ∃ u, w.cell? ⟨b, j, none⟩ = some u
  free : ∀ j, w.frozen? ⟨b, j, none⟩ = false
/-- a block's first m cells are xs' -/
def Filled (w : World) (b m : Nat) (xs : List Value) : Prop := ∀ j u, j < m → xs[j]? = some u → w.cell? ⟨b, j, none⟩ = some u

theorem Room.keep {w w' : World} {b m : Nat} (h : Room w b m) (hk : Below w.heap.size w w') (hb : b < w.heap.size) : Room w' b m :=
  ⟨fun j hj => by obtain ⟨u, hu⟩ := h.cell j hj; exact ⟨u, by rw [hk.cell (p := ⟨b, j, none⟩) hb]; exact hu⟩, fun j => by rw [hk.frozen (p := ⟨b, j, none⟩) hb]; exact h.free j⟩
theorem Filled.keep {w w' : World} {b m : Nat} {xs : List Value} (h : Filled w b m xs) (hk : Below w.heap.size w w') (hb : b < w.heap.size) : Filled w' b m xs :=
  fun j u hj hu => by rw [hk.cell (p := ⟨b, j, none⟩) hb]; exact h j u hj hu
theorem Room.set {w : World} {b m : Nat} (h : Room w b m) (c i : Nat) (v : Value) : Room (w.setCell ⟨c, i, none⟩ v) b m := by
  refine ⟨fun j hj => ?_, fun j => by rw [World.frozen?_setCell]; exact h.free j⟩
  obtain ⟨u, hu⟩ := h.cell j hj
  by_cases he : (⟨c, i, none⟩ : Addr) = ⟨b, j, none⟩
  · rw [he]; exact ⟨v, World.cell?_setCell_same _ _ _ hu⟩
  · exact ⟨u, by rw [World.cell?_setCell_other _ _ _ _ he]; exact hu⟩
theorem Filled.set {w : World} {b m r : Nat} {xs : List Value} (h : Filled w b m xs) (hr : Room w b r) (hm : m < r) {v : Value} (hv : xs[m]? = some v) : Filled (w.setCell ⟨b, m, none⟩ v) b (m + 1) xs := by
  intro j u hj hu
  by_cases he : m = j
  · subst he
    rw [hv] at hu; cases hu
    obtain ⟨x, hx⟩ := hr.cell m hm
    exact World.cell?_setCell_same _ _ _ hx
  · rw [World.cell?_setCell_other _ _ _ _ (fun e => he (by injection e))]
    exact h j u (by omega) hu
theorem Filled.sl {w : World} {b n k : Nat} {xs : List Value} (h : Filled w b (n * k) xs) (hl : xs.length = n * k) (hn : n ≤ maxLen) (hb : b < w.heap.size) : Sl w (some ⟨b, 0, none⟩) n n k xs :=
  ⟨hl, Nat.le_refl _, hn, (fun hx => by cases hx), fun x hx => by
    cases hx
    refine ⟨b, 0, rfl, hb, fun j u hu => ?_⟩
    rw [Nat.zero_add]
    have hj : j < xs.length := by
      rcases Nat.lt_or_ge j xs.length with h | h
      · exact h
      · simp [List.getElem?_eq_none h] at hu
    exact h j u (by omega) hu⟩
theorem room_new (w : World) (c : Array Value) (t : TypeId) (n m : Nat) (hn : n = w.heap.size) (hm : m = c.size) : Room (w.alloc (.cells c t)) n m := by
  subst hn hm
  refine ⟨fun j hj => ⟨c[j], ?_⟩, fun j => World.frozen?_alloc_new ..⟩
  rw [World.cell?_alloc_new]
  simp
end Go.Sl
