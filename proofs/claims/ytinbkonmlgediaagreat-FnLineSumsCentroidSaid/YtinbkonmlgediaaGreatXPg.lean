/-
  Geometries as plain data of places: forced to a type, joined out of parts. No condition.
-/
import Derived.WalkKit
set_option linter.unusedVariables false
set_option linter.unusedSimpArgs false
namespace Go.Pg
open Go.RowKit
/-- a place with all its numbers -/
structure Pl where
  x : Nat
  y : Nat
  z : Nat
  m : Nat
def has3 (d : Nat) : Bool := d % 2 == 1
def hasM (d : Nat) : Bool := d / 2 % 2 == 1
def wid (d : Nat) : Nat := 2 + (if has3 d then 1 else 0) + (if hasM d then 1 else 0)
def Pl.nums (d : Nat) (p : Pl) : List Nat := p.x :: p.y :: ((if has3 d then [p.z] else []) ++ (if hasM d then [p.m] else []))
/-- numbers that a type has not are 0 -/
structure Pl.norm (d : Nat) (p : Pl) : Prop where
  z : has3 d = false → p.z = 0
  m : hasM d = false → p.m = 0
def Pl.force (d : Nat) (p : Pl) : Pl := ⟨p.x, p.y, if has3 d then p.z else 0, if hasM d then p.m else 0⟩
def numsOf (d : Nat) (ps : List Pl) : List Nat := ps.flatMap (Pl.nums d)
theorem nums_len (d : Nat) (p : Pl) : (p.nums d).length = wid d := by
  unfold Pl.nums wid
  cases has3 d <;> cases hasM d <;> rfl
theorem wid_pos (d : Nat) : 2 ≤ wid d := by unfold wid; omega
theorem wid_le (d : Nat) : wid d ≤ 4 := by unfold wid; split <;> split <;> omega
theorem flat_len' {α β : Type} (f : α → List β) (k : Nat) (hf : ∀ a, (f a).length = k) (l : List α) : (l.flatMap f).length = l.length * k := by
  induction l with
  | nil => simp
  | cons p l ih => rw [List.flatMap_cons, List.length_append, hf, ih, List.length_cons, Nat.add_mul]; omega
theorem flat_get' {α β : Type} (f : α → List β) (k : Nat) (hf : ∀ a, (f a).length = k) : ∀ (l : List α) (i j : Nat) (hi : i < l.length), j < k → (l.flatMap f)[i * k + j]? = (f l[i])[j]?
  | p :: l, 0, j, _, hj => by
    rw [List.flatMap_cons, List.getElem?_append_left (by rw [hf]; omega)]; simp
  | p :: l, i + 1, j, hi, hj => by
    have := flat_get' f k hf l i j (by simpa using hi) hj
    rw [List.flatMap_cons, List.getElem?_append_right (by rw [hf, Nat.add_mul]; omega), hf, show (i + 1) * k + j - k = i * k + j by rw [Nat.add_mul]; omega, this]
    simp
theorem numsOf_len (d : Nat) (ps : List Pl) : (numsOf d ps).length = ps.length * wid d := flat_len' _ _ (nums_len d) ps
theorem numsOf_append (d : Nat) (ps qs : List Pl) : numsOf d (ps ++ qs) = numsOf d ps ++ numsOf d qs := by simp [numsOf]
theorem numsOf_get (d : Nat) (ps : List Pl) (i j : Nat) (hi : i < ps.length) (hj : j < wid d) : (numsOf d ps)[i * wid d + j]? = (ps[i].nums d)[j]? := flat_get' _ _ (nums_len d) ps i j hi hj
theorem force_norm (d : Nat) (p : Pl) : (p.force d).norm d := ⟨fun h => by simp [Pl.force, h], fun h => by simp [Pl.force, h]⟩
theorem force_id {d : Nat} {p : Pl} (h : p.norm d) : p.force d = p := by
  obtain ⟨x, y, z, m⟩ := p
  obtain ⟨h1, h2⟩ := h
  simp only at h1 h2
  unfold Pl.force
  cases hz : has3 d <;> cases hm : hasM d <;> simp [hz, hm] at h1 h2 ⊢ <;> simp [h1, h2]
theorem map_force_id {d : Nat} {ps : List Pl} (h : ∀ p ∈ ps, p.norm d) : ps.map (Pl.force d) = ps := by
  induction ps with
  | nil => rfl
  | cons p ps ih => rw [List.map_cons, force_id (h p (by simp)), ih (fun q hq => h q (by simp [hq]))]
/-- a geometry -/
inductive Pg where
  | node (kind dim : Nat) (ps : List Pl) (kids : List Pg)
def Pg.kind : Pg → Nat | .node k _ _ _ => k
def Pg.dim : Pg → Nat | .node _ d _ _ => d
def Pg.kids : Pg → List Pg | .node _ _ _ k => k
mutual
def forceP (d : Nat) : Pg → Pg
  | .node k _ ps kids => .node k d (ps.map (Pl.force d)) (forcePs d kids)
def forcePs (d : Nat) : List Pg → List Pg
  | [] => []
  | p :: r => forceP d p :: forcePs d r
end
theorem forcePs_eq (d : Nat) (l : List Pg) : forcePs d l = l.map (forceP d) := by
  induction l with
  | nil => simp [forcePs]
  | cons p l ih => simp [forcePs, ih]
theorem forceP_eq (d k d0 : Nat) (ps : List Pl) (kids : List Pg) : forceP d (.node k d0 ps kids) = .node k d (ps.map (Pl.force d)) (kids.map (forceP d)) := by rw [forceP, forcePs_eq]
theorem forceP_dim (d : Nat) (p : Pg) : (forceP d p).dim = d := by cases p; rw [forceP_eq]; rfl
/-- the lowest type that all have -/
def andD (l : List Pg) : Nat := l.foldl (fun a m => a &&& m.dim) 3
theorem and_lt {a b : Nat} (h : a < 4) : a &&& b < 4 := Nat.lt_of_le_of_lt Nat.and_le_left h
theorem andD_lt (l : List Pg) : andD l < 4 := by
  unfold andD
  have : ∀ (l : List Pg) (a : Nat), a < 4 → l.foldl (fun a m => a &&& m.dim) a < 4 := by
    intro l
    induction l with
    | nil => exact fun a h => h
    | cons p l ih => exact fun a h => ih _ (and_lt h)
  exact this l 3 (by omega)
theorem andD_snoc (l : List Pg) (p : Pg) : andD (l ++ [p]) = andD l &&& p.dim := by simp [andD]
/-- a whole of parts -/
def wholeP (k d : Nat) (l : List Pg) : Pg := if l.isEmpty then .node k d [] [] else .node k (andD l) [] (l.map (forceP (andD l)))
theorem whole_kind (k d : Nat) (l : List Pg) : (wholeP k d l).kind = k := by unfold wholeP; split <;> rfl
/-- the places of a leaf's numbers -/
def plAt (d : Nat) (nums : List Nat) (i : Nat) : Pl :=
  ⟨nums.getD (i * wid d) 0, nums.getD (i * wid d + 1) 0, if has3 d then nums.getD (i * wid d + 2) 0 else 0, if hasM d then nums.getD (i * wid d + (wid d - 1)) 0 else 0⟩
def placesOf (d : Nat) (nums : List Nat) : List Pl := (List.range (nums.length / wid d)).map (plAt d nums)
theorem plAt_norm (d : Nat) (nums : List Nat) (i : Nat) : (plAt d nums i).norm d := ⟨fun h => by simp [plAt, h], fun h => by simp [plAt, h]⟩
theorem placesOf_len (d : Nat) (nums : List Nat) : (placesOf d nums).length = nums.length / wid d := by simp [placesOf]
theorem placesOf_norm (d : Nat) (nums : List Nat) : ∀ p ∈ placesOf d nums, p.norm d := fun p hp => by
  obtain ⟨i, _, rfl⟩ := List.mem_map.1 hp
  exact plAt_norm d nums i
theorem plAt_nums (d : Nat) (nums : List Nat) (i j : Nat) (hj : j < wid d) (hi : i * wid d + j < nums.length) : ((plAt d nums i).nums d)[j]? = nums[i * wid d + j]? := by
  have hw : wid d = 2 + (if has3 d then 1 else 0) + (if hasM d then 1 else 0) := rfl
  have e : ∀ k, k < nums.length → nums[k]? = some (nums.getD k 0) := fun k hk => by
    rw [List.getD_eq_getElem?_getD, List.getElem?_eq_getElem hk]; rfl
  rw [e _ hi]
  unfold plAt Pl.nums
  cases h1 : has3 d <;> cases h2 : hasM d <;> simp only [h1, h2, if_true, if_false, Bool.false_eq_true] at hw ⊢
  · have : j = 0 ∨ j = 1 := by omega
    rcases this with rfl | rfl <;> simp
  · have : j = 0 ∨ j = 1 ∨ j = 2 := by omega
    rcases this with rfl | rfl | rfl <;> simp [hw]
  · have : j = 0 ∨ j = 1 ∨ j = 2 := by omega
    rcases this with rfl | rfl | rfl <;> simp [hw]
  · have : j = 0 ∨ j = 1 ∨ j = 2 ∨ j = 3 := by omega
    rcases this with rfl | rfl | rfl | rfl <;> simp [hw]
theorem numsOf_placesOf (d : Nat) (nums : List Nat) : numsOf d (placesOf d nums) = nums.take (nums.length - nums.length % wid d) := by
  have hw := wid_pos d
  have hq : nums.length - nums.length % wid d = nums.length / wid d * wid d := by
    have := Nat.div_add_mod nums.length (wid d)
    rw [Nat.mul_comm] at this
    omega
  have hle : nums.length / wid d * wid d ≤ nums.length := Nat.div_mul_le_self _ _
  refine List.ext_getElem? fun n => ?_
  rw [hq, List.getElem?_take]
  by_cases hn : n < nums.length / wid d * wid d
  · rw [if_pos hn]
    have h1 : n / wid d < nums.length / wid d := by rw [Nat.div_lt_iff_lt_mul (by omega)]; exact hn
    have h2 : n % wid d < wid d := Nat.mod_lt _ (by omega)
    have h3 : n / wid d * wid d + n % wid d = n := by rw [Nat.mul_comm]; exact Nat.div_add_mod n _
    have := numsOf_get d (placesOf d nums) (n / wid d) (n % wid d) (by rw [placesOf_len]; exact h1) h2
    rw [h3] at this
    rw [this]
    have e : (placesOf d nums)[n / wid d]'(by rw [placesOf_len]; exact h1) = plAt d nums (n / wid d) := by simp [placesOf]
    rw [e, plAt_nums d nums _ _ h2 (by omega), h3]
  · rw [if_neg hn, List.getElem?_eq_none]
    rw [numsOf_len, placesOf_len]
    omega
/-- of a norm list of places nothing is lost -/
theorem placesOf_numsOf (d : Nat) (ps : List Pl) (h : ∀ p ∈ ps, p.norm d) : placesOf d (numsOf d ps) = ps := by
  have hw := wid_pos d
  have hl : (placesOf d (numsOf d ps)).length = ps.length := by rw [placesOf_len, numsOf_len, Nat.mul_div_cancel _ (by omega)]
  refine List.ext_getElem hl fun i h1 h2 => ?_
  have e : (placesOf d (numsOf d ps))[i] = plAt d (numsOf d ps) i := by simp [placesOf]
  rw [e]
  have hg : ∀ j, j < wid d → (numsOf d ps).getD (i * wid d + j) 0 = (ps[i].nums d).getD j 0 := fun j hj => by
    rw [List.getD_eq_getElem?_getD, numsOf_get d ps i j h2 hj, List.getD_eq_getElem?_getD]
  have hn := h ps[i] (List.getElem_mem _)
  generalize ps[i] = p at *
  obtain ⟨x, y, z, m⟩ := p
  obtain ⟨n1, n2⟩ := hn
  simp only at n1 n2
  have g0 := hg 0 (by omega)
  have g1 := hg 1 (by omega)
  unfold plAt
  rw [Nat.add_zero] at g0
  rw [g0, g1]
  have hw : wid d = 2 + (if has3 d then 1 else 0) + (if hasM d then 1 else 0) := rfl
  unfold Pl.nums at hg ⊢
  cases h1 : has3 d <;> cases h2 : hasM d <;> simp only [h1, h2, if_true, if_false, Bool.false_eq_true] at hw hg n1 n2 ⊢
  · simp [n1, n2]
  · rw [hg (wid d - 1) (by omega), hw]; simp [n1]
  · rw [hg 2 (by omega)]; simp [n2]
  · rw [hg (wid d - 1) (by omega), hg 2 (by omega), hw]; simp
end Go.Pg
