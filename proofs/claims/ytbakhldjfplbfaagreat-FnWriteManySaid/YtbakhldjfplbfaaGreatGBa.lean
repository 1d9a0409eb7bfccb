/-
  Numbers as bytes; a number put into bytes that are there. No condition.
  The writer of binary forms: its methods append bytes to its own row. No condition.
  The writer of binary forms: counts, numbers. No condition.
  The writer of binary forms: a geometry's type. No condition.
  The writer of binary forms: a place. No condition.
  The writer of binary forms: sequences. No condition.
  The writer of binary forms: a sequence written. No condition.
  Binary forms of points and lines, appended to a row. No condition.
  Binary forms of points, appended to a row. No condition.
  Binary forms of polygons, appended to a row. No condition.
  Binary forms of geometries made of parts, appended to a row. No condition.
  Binary forms of geometries, appended to a row. No condition.
-/
import Derived.Test.YtbakhldjfplbfaaGreatRl
import Derived.Laws.BitsAllLaws
import Derived.Test.YtbakhldjfplbfaaGreatAp
import Derived.Deep.RegionLaw
import Derived.BigQuiet
import Derived.Lib.Hide
import Derived.Laws.Externs
import Derived.Test.YtbakhldjfplbfaaGreatH1
import Derived.Test.YtbakhldjfplbfaaGreatHb
import Derived.Test.YtbakhldjfplbfaaGreatH5
set_option linter.unusedVariables false
set_option linter.unusedSimpArgs false
namespace Go.By
open Go.RowKit
/-- the n lowest bytes of a number, the least first -/
def leB : Nat → Nat → List Nat
  | 0, _ => []
  | n + 1, x => x % 256 :: leB n (x / 256)
theorem leB_len (n x : Nat) : (leB n x).length = n := by
  induction n generalizing x with
  | zero => rfl
  | succ n ih => simp [leB, ih]
def byteV (b : Nat) : Value := .int .u8 (b : Int)
theorem byte_eq (a : Int) (b : Nat) (h : a = (b : Int)) : Value.int .u8 a = byteV b := by subst h; rfl
def bytesV (l : List Nat) : List Value := l.map byteV
theorem bytesV_len (l : List Nat) : (bytesV l).length = l.length := List.length_map ..
theorem bytesV_app (a b : List Nat) : bytesV (a ++ b) = bytesV a ++ bytesV b := List.map_append
theorem bytesV_one (l : List Nat) : ∀ u ∈ bytesV l, u.oneCell' = true := by
  intro u hu
  obtain ⟨b, _, rfl⟩ := List.mem_map.1 hu
  rfl
/-- the list vs with the values us from k on -/
def over (vs : List Value) (k : Nat) : List Value → List Value
  | [] => vs
  | u :: us => over (vs.set k u) (k + 1) us
theorem over_len (us : List Value) : ∀ (vs : List Value) (k : Nat), (over vs k us).length = vs.length := by
  induction us with
  | nil => intros; rfl
  | cons u us ih => intro vs k; simp [over, ih]
end Go.By
namespace Go.Proofs.YtbakhldjfplbfaaGreat
open Go.RowKit Go.Fl Go.Sl Go.Pg Go.Ch Go.Kf Go.By
set_option maxRecDepth 100000 in
theorem putU32_ (b off n cap x : Nat) (T : TypeId) (vs : List Value) (w : World) (hB : Blk w b T vs) (ho : off + 4 ≤ vs.length) (hn : 4 ≤ n) (hx : x < 4294967296) :
    Calls Tryz.prog 202 #[.agg #[], .slice (some ⟨b, off, none⟩) n cap, .int .u32 x] w
      (fun e w' => e = .returned (.tuple #[]) ∧ Blk w' b T (over vs off (bytesV (leB 4 x))) ∧ Ch no (· = b) w w') := by
  obtain ⟨u0, h0⟩ : ∃ u, vs[off]? = some u := ⟨_, List.getElem?_eq_getElem (by omega)⟩
  obtain ⟨u1, h1⟩ : ∃ u, vs[off + 1]? = some u := ⟨_, List.getElem?_eq_getElem (by omega)⟩
  obtain ⟨u2, h2⟩ : ∃ u, vs[off + 2]? = some u := ⟨_, List.getElem?_eq_getElem (by omega)⟩
  obtain ⟨u3, h3⟩ : ∃ u, vs[off + 3]? = some u := ⟨_, List.getElem?_eq_getElem (by omega)⟩
  have c0 := hB.cell h0
  have c1 := hB.cell h1
  have c2 := hB.cell h2
  have c3 := hB.cell h3
  have cf := hB.free
  have cl := hB.lt
  have hb := ((((hB.set (off) (byteV (x % 256))).set (off + 1) (byteV (x / 256 % 256))).set (off + 2) (byteV (x / 256 / 256 % 256))).set (off + 3) (byteV (x / 256 / 256 / 256 % 256)))
  have hov : over vs off (bytesV (leB 4 x)) = ((((vs.set (off) (byteV (x % 256))).set (off + 1) (byteV (x / 256 % 256))).set (off + 2) (byteV (x / 256 / 256 % 256))).set (off + 3) (byteV (x / 256 / 256 / 256 % 256))) := rfl
  rw [← hov] at hb
  clear hB hov
  go_enter Tryz.func202, Tryz.ntmps202
  go_wp2_with fail
  clear c0 c1 c2 c3 cf cl
  have e0 : Value.int .u8 ((x : Int) % 256) = byteV (x % 256) := byte_eq _ _ (by omega)
  have e1 : Value.int .u8 ((x : Int) / 256 % 256) = byteV (x / 256 % 256) := byte_eq _ _ (by omega)
  have e2 : Value.int .u8 ((x : Int) / 65536 % 256) = byteV (x / 256 / 256 % 256) := byte_eq _ _ (by omega)
  have e3 : Value.int .u8 ((x : Int) / 16777216) = byteV (x / 256 / 256 / 256 % 256) := byte_eq _ _ (by omega)
  rw [e0, e1, e2, e3]
  go_end0
  refine ⟨rfl, hb.alloc _, ?_⟩
  refine Ch.alloc ?_ _
  refine Ch.setCell (X := (· = b)) (p := ⟨b, _, none⟩) ?_ (Or.inl rfl) _
  refine Ch.setCell (X := (· = b)) (p := ⟨b, _, none⟩) ?_ (Or.inl rfl) _
  refine Ch.setCell (X := (· = b)) (p := ⟨b, _, none⟩) ?_ (Or.inl rfl) _
  refine Ch.setCell (X := (· = b)) (p := ⟨b, _, none⟩) ?_ (Or.inl rfl) _
  exact Ch.refl _ _ _
set_option maxRecDepth 100000 in
theorem putU64_ (b off n cap x : Nat) (T : TypeId) (vs : List Value) (w : World) (hB : Blk w b T vs) (ho : off + 8 ≤ vs.length) (hn : 8 ≤ n) (hx : x < 18446744073709551616) :
    Calls Tryz.prog 217 #[.agg #[], .slice (some ⟨b, off, none⟩) n cap, .int .u64 x] w
      (fun e w' => e = .returned (.tuple #[]) ∧ Blk w' b T (over vs off (bytesV (leB 8 x))) ∧ Ch no (· = b) w w') := by
  obtain ⟨u0, h0⟩ : ∃ u, vs[off]? = some u := ⟨_, List.getElem?_eq_getElem (by omega)⟩
  obtain ⟨u1, h1⟩ : ∃ u, vs[off + 1]? = some u := ⟨_, List.getElem?_eq_getElem (by omega)⟩
  obtain ⟨u2, h2⟩ : ∃ u, vs[off + 2]? = some u := ⟨_, List.getElem?_eq_getElem (by omega)⟩
  obtain ⟨u3, h3⟩ : ∃ u, vs[off + 3]? = some u := ⟨_, List.getElem?_eq_getElem (by omega)⟩
  obtain ⟨u4, h4⟩ : ∃ u, vs[off + 4]? = some u := ⟨_, List.getElem?_eq_getElem (by omega)⟩
  obtain ⟨u5, h5⟩ : ∃ u, vs[off + 5]? = some u := ⟨_, List.getElem?_eq_getElem (by omega)⟩
  obtain ⟨u6, h6⟩ : ∃ u, vs[off + 6]? = some u := ⟨_, List.getElem?_eq_getElem (by omega)⟩
  obtain ⟨u7, h7⟩ : ∃ u, vs[off + 7]? = some u := ⟨_, List.getElem?_eq_getElem (by omega)⟩
  have c0 := hB.cell h0
  have c1 := hB.cell h1
  have c2 := hB.cell h2
  have c3 := hB.cell h3
  have c4 := hB.cell h4
  have c5 := hB.cell h5
  have c6 := hB.cell h6
  have c7 := hB.cell h7
  have cf := hB.free
  have cl := hB.lt
  have hb := ((((((((hB.set (off) (byteV (x % 256))).set (off + 1) (byteV (x / 256 % 256))).set (off + 2) (byteV (x / 256 / 256 % 256))).set (off + 3) (byteV (x / 256 / 256 / 256 % 256))).set (off + 4) (byteV (x / 256 / 256 / 256 / 256 % 256))).set (off + 5) (byteV (x / 256 / 256 / 256 / 256 / 256 % 256))).set (off + 6) (byteV (x / 256 / 256 / 256 / 256 / 256 / 256 % 256))).set (off + 7) (byteV (x / 256 / 256 / 256 / 256 / 256 / 256 / 256 % 256)))
  have hov : over vs off (bytesV (leB 8 x)) = ((((((((vs.set (off) (byteV (x % 256))).set (off + 1) (byteV (x / 256 % 256))).set (off + 2) (byteV (x / 256 / 256 % 256))).set (off + 3) (byteV (x / 256 / 256 / 256 % 256))).set (off + 4) (byteV (x / 256 / 256 / 256 / 256 % 256))).set (off + 5) (byteV (x / 256 / 256 / 256 / 256 / 256 % 256))).set (off + 6) (byteV (x / 256 / 256 / 256 / 256 / 256 / 256 % 256))).set (off + 7) (byteV (x / 256 / 256 / 256 / 256 / 256 / 256 / 256 % 256))) := rfl
  rw [← hov] at hb
  clear hB hov
  go_enter Tryz.func217, Tryz.ntmps217
  go_wp2_with fail
  clear c0 c1 c2 c3 c4 c5 c6 c7 cf cl
  have e0 : Value.int .u8 ((x : Int) % 256) = byteV (x % 256) := byte_eq _ _ (by omega)
  have e1 : Value.int .u8 ((x : Int) / 256 % 256) = byteV (x / 256 % 256) := byte_eq _ _ (by omega)
  have e2 : Value.int .u8 ((x : Int) / 65536 % 256) = byteV (x / 256 / 256 % 256) := byte_eq _ _ (by omega)
  have e3 : Value.int .u8 ((x : Int) / 16777216 % 256) = byteV (x / 256 / 256 / 256 % 256) := byte_eq _ _ (by omega)
  have e4 : Value.int .u8 ((x : Int) / 4294967296 % 256) = byteV (x / 256 / 256 / 256 / 256 % 256) := byte_eq _ _ (by omega)
  have e5 : Value.int .u8 ((x : Int) / 1099511627776 % 256) = byteV (x / 256 / 256 / 256 / 256 / 256 % 256) := byte_eq _ _ (by omega)
  have e6 : Value.int .u8 ((x : Int) / 281474976710656 % 256) = byteV (x / 256 / 256 / 256 / 256 / 256 / 256 % 256) := byte_eq _ _ (by omega)
  have e7 : Value.int .u8 ((x : Int) / 72057594037927936) = byteV (x / 256 / 256 / 256 / 256 / 256 / 256 / 256 % 256) := byte_eq _ _ (by omega)
  rw [e0, e1, e2, e3, e4, e5, e6, e7]
  go_end0
  refine ⟨rfl, hb.alloc _, ?_⟩
  refine Ch.alloc ?_ _
  refine Ch.setCell (X := (· = b)) (p := ⟨b, _, none⟩) ?_ (Or.inl rfl) _
  refine Ch.setCell (X := (· = b)) (p := ⟨b, _, none⟩) ?_ (Or.inl rfl) _
  refine Ch.setCell (X := (· = b)) (p := ⟨b, _, none⟩) ?_ (Or.inl rfl) _
  refine Ch.setCell (X := (· = b)) (p := ⟨b, _, none⟩) ?_ (Or.inl rfl) _
  refine Ch.setCell (X := (· = b)) (p := ⟨b, _, none⟩) ?_ (Or.inl rfl) _
  refine Ch.setCell (X := (· = b)) (p := ⟨b, _, none⟩) ?_ (Or.inl rfl) _
  refine Ch.setCell (X := (· = b)) (p := ⟨b, _, none⟩) ?_ (Or.inl rfl) _
  refine Ch.setCell (X := (· = b)) (p := ⟨b, _, none⟩) ?_ (Or.inl rfl) _
  exact Ch.refl _ _ _
end Go.Proofs.YtbakhldjfplbfaaGreat
set_option linter.unusedVariables false
set_option linter.unusedSimpArgs false
namespace Go.Proofs.YtbakhldjfplbfaaGreat
open Go.RowKit Go.Fl Go.Sl Go.Pg Go.Ch Go.Kf Go.By
theorem infoU8 : (Tryz.prog.info? 5).map (fun i => (i.zero, i.size, i.bytes)) = some (some (.int .u8 0), 1, 1) := by kernel_rfl
theorem run_append_szat {P : Program} (w : World) (base : Nat) (t ty e : TypeId) (i : TypeInfo) (z : Value) (size bytes : Nat) (ht : P.underlying t = some (.slice e)) (hi : P.info? e = some i) (hz : i.zero = some z)
    (hsize : i.size = size) (hby : i.bytes = bytes) (hzs : z.cells.size = size) (hsz : 0 < size)
    (v : Value) (n : Nat) (xs : List Value) (hown : w.ownsRow base e size v n xs)
    (A : Option Addr) (m c : Nat) (news : List Value) (hr : Sz w A m c size news) (h1 : ∀ u ∈ news, u.oneCell' = true)
    (h63 : n + m ≤ maxLen) (hbytes : (n + m) * bytes ≤ 140737488355328) (hbase : base ≤ w.heap.size) :
    ∃ al cap w', (Builtin.append_ #[t, t] ty #[v, .slice A m c]).run P w = .ok (.slice al (n + m) cap) w' ∧ w'.ownsRow base e size (.slice al (n + m) cap) (n + m) (xs ++ news) ∧ w.grownBy w' v.ownBlock ∧
      ((Value.slice al (n + m) cap).ownBlock = v.ownBlock ∨ (Value.slice al (n + m) cap).ownBlock = some w.heap.size) := by
  cases A with
  | some ad =>
    obtain ⟨v', w', hr, h2, h3, _, hat⟩ := run_append_own_at (P := P) w base t ty e i z size bytes ht hi hz hsize hby hzs hsz v n xs hown ad m c news hr.len (fun j u hj => by
      rcases Nat.eq_zero_or_pos m with h0 | h0
      · subst h0
        have hn : news = [] := List.eq_nil_of_length_eq_zero (by simpa using hr.len)
        subst hn
        simp at hj
      · obtain ⟨b, off, e, _, hc⟩ := (hr.some_ h0).at_ ad rfl
        subst e
        rw [add_none]
        exact hc j u hj) h1 h63 hbytes hbase
    obtain ⟨al, cap, rfl, _, _, _⟩ := of_owns h2
    exact ⟨al, cap, w', hr, h2, h3, hat⟩
  | none =>
    have hm : m = 0 := by
      rcases Nat.eq_zero_or_pos m with h0 | h0
      · exact h0
      · have h2 := hr.some_ h0
        have h3 := h2.nil rfl
        have h4 := h2.le
        omega
    subst hm
    have hn : news = [] := List.eq_nil_of_length_eq_zero (by simpa using hr.len)
    subst hn
    obtain ⟨al, cap, rfl, _, _, _⟩ := of_owns hown
    exact ⟨al, cap, w, run_append_nil0 w base t ty e i size ht hi _ n xs hown c, by simpa using hown, World.grownBy.refl w _, .inl rfl⟩
theorem step_append_sz {P : Program} {ops : Array Oper} {o : Oper} {a : Act} {w : World} {K : Act → World → Prop} {Q : Exit → Act → World → Prop} {E : Prop}
    (hg : o.guard = none) (s x : Operand) (t : TypeId) (hop : o.op = Op.call { callee := Callee.builtin Builtin.append, args := #[s, x], argTypes := #[t, t] })
    (base : Nat) (e : TypeId) (i : TypeInfo) (z : Value) (size bytes : Nat) (h1 : P.underlying t = some (.slice e)) (h2 : P.info? e = some i) (h3 : i.zero = some z) (h4 : i.size = size) (h5 : i.bytes = bytes) (h6 : z.cells.size = size) (h7 : 0 < size)
    (v : Value) (n : Nat) (xs : List Value) (hs : a.eval s = v) (hown : w.ownsRow base e size v n xs)
    (ad : Option Addr) (m c : Nat) (news : List Value) (hx : a.eval x = .slice ad m c) (hr : Sz w ad m c size news) (h1c : ∀ u ∈ news, u.oneCell' = true)
    (b1 : n + m ≤ maxLen) (b2 : (n + m) * bytes ≤ 140737488355328) (hbase : base ≤ w.heap.size)
    (hK : ∀ al cap w', w'.ownsRow base e size (.slice al (n + m) cap) (n + m) (xs ++ news) → w.grownBy w' v.ownBlock → ((Value.slice al (n + m) cap).ownBlock = v.ownBlock ∨ (Value.slice al (n + m) cap).ownBlock = some w.heap.size) → K (a.put o.dst (.slice al (n + m) cap)) w') :
    if Region.wanted o (yielded ops a.tmps) = true then Oper.wp P o a w K Q else E := by
  have hw : Region.wanted o (yielded ops a.tmps) = true := by simp [Region.wanted, hg]
  rw [if_pos hw]
  obtain ⟨al, cap, w', hrun, r1, r2, r3⟩ := run_append_szat (P := P) w base t o.type e i z size bytes h1 h2 h3 h4 h5 h6 h7 v n xs hown ad m c news hr h1c b1 b2 hbase
  unfold Oper.wp
  simp [execOp, hop, resolve, invoke, builtin, hs, hx, hrun, Result.andThen]
  exact hK al cap w' r1 r2 r3
theorem append_szat {P : Program} {w : World} {ops : Array Oper} {rest : List Oper} {o : Oper} {a : Act} {Q : Exit → Act → World → Prop} (hgd : o.guard = none) (s x : Operand) (t : TypeId)
    (ho : o.op = .call { callee := .builtin .append, args := #[s, x], argTypes := #[t, t] })
    (base : Nat) (e : TypeId) (i : TypeInfo) (z : Value) (size bytes : Nat) (ht : P.underlying t = some (.slice e)) (hi : P.info? e = some i) (hz : i.zero = some z)
    (hsize : i.size = size) (hby : i.bytes = bytes) (hzs : z.cells.size = size) (hsz : 0 < size)
    (v : Value) (n : Nat) (xs : List Value) (hs : a.eval s = v) (hown : w.ownsRow base e size v n xs)
    (A : Option Addr) (m c : Nat) (news : List Value) (hx : a.eval x = .slice A m c) (hr : Sz w A m c size news) (h1 : ∀ u ∈ news, u.oneCell' = true)
    (h63 : n + m ≤ maxLen) (hbytes : (n + m) * bytes ≤ 140737488355328) (hbase : base ≤ w.heap.size)
    (h : ∀ al cap w', w'.ownsRow base e size (.slice al (n + m) cap) (n + m) (xs ++ news) → w.grownBy w' v.ownBlock → ((Value.slice al (n + m) cap).ownBlock = v.ownBlock ∨ (Value.slice al (n + m) cap).ownBlock = some w.heap.size) → wpList P ops Q rest (a.put o.dst (.slice al (n + m) cap)) w') : wpList P ops Q (o :: rest) a w := by
  refine wpList_plain hgd fun K hK => ?_
  obtain ⟨al, cap, w', hrun, r1, r2, r3⟩ := run_append_szat (P := P) w base t o.type e i z size bytes ht hi hz hsize hby hzs hsz v n xs hown A m c news hr h1 h63 hbytes hbase
  unfold Oper.wp execOp
  simp only [ho, resolve, invoke, builtin, Sem.run_bind, Sem.run_pure, Result.andThen_ok, List.map_toArray, List.map_cons, List.map_nil, hs, hx, hrun]
  exact hK _ _ (h al cap w' r1 r2 r3)
theorem sz_blk {w : World} {b n : Nat} {T : TypeId} {vs : List Value} (hB : Blk w b T vs) (hn : vs.length = n) (hm : n ≤ maxLen) : Sz w (some ⟨b, 0, none⟩) n n 1 vs := by
  refine ⟨by omega, Nat.le_refl _, hm, fun _ => ⟨by omega, Nat.le_refl _, hm, (fun h => by cases h), fun x hx => ?_⟩⟩
  cases hx
  exact ⟨b, 0, rfl, hB.lt, fun j u hu => by rw [Nat.zero_add]; exact hB.cell hu⟩
/-- a row's block is of its own type -/
theorem row_apart {w : World} {base k n b : Nat} {e e' : TypeId} {v : Value} {xs vs : List Value} (h : w.ownsRow base e k v n xs) (hb : Blk w b e' vs) (he : e' ≠ e) : some b ≠ v.ownBlock := by
  obtain ⟨_, h2⟩ := h
  rcases h2 with ⟨rfl, _⟩ | ⟨g, cap, cur, rfl, _, hg, _⟩
  · simp [Value.ownBlock]
  · intro heq
    simp only [Value.ownBlock, Option.some.injEq] at heq
    subst heq
    unfold Blk at hb
    rw [hb] at hg
    injection hg with hg
    injection hg with h3 h4
    exact he h4
theorem row_same {w w' : World} {base k n : Nat} {e : TypeId} {v : Value} {xs : List Value} (h : w.ownsRow base e k v n xs) (hk : ∀ g, v.ownBlock = some g → w'.heap[g]? = w.heap[g]?) : w'.ownsRow base e k v n xs := by
  refine ⟨h.1, ?_⟩
  rcases h.2 with hn | ⟨g, cap, cur, hv, hb, hg, rest⟩
  · exact .inl hn
  · exact .inr ⟨g, cap, cur, hv, hb, by rw [hk g (by rw [hv]; rfl)]; exact hg, rest⟩
/-- the writer at mb, with its row v -/
structure MO (w : World) (base mb : Nat) (v : Value) (bs : List Nat) : Prop where
  blk : Blk w mb 227 [v]
  own : w.ownsRow base 5 1 v bs.length (bytesV bs)
  ge : base ≤ mb
/-- a row's block is still it, or a new one -/
def Nx (w : World) (v v' : Value) : Prop := v'.ownBlock = v.ownBlock ∨ ∃ k, v'.ownBlock = some k ∧ w.heap.size ≤ k
/-- what the writer's methods may change -/
def mX (mb : Nat) (v : Value) : Nat → Prop := fun b => b = mb ∨ some b = v.ownBlock
theorem mX_ge {w : World} {base mb : Nat} {v : Value} {bs : List Nat} (h : MO w base mb v bs) : ∀ i, mX mb v i → base ≤ i := by
  rintro i (rfl | h1)
  · exact h.ge
  · exact (h.own.lt i h1.symm).1
theorem MO.keep {w w' : World} {base mb : Nat} {v : Value} {bs : List Nat} (h : MO w base mb v bs) (hk : Stab.Keeps w w') : MO w' base mb v bs := ⟨h.blk.keep hk, owns_keep h.own hk, h.ge⟩
/-- what changes but one block leaves the writer alone -/
theorem MO.ch {w w' : World} {base mb b : Nat} {v : Value} {bs : List Nat} {T : TypeId} {vs : List Value} (h : MO w base mb v bs) (hc : Ch no (· = b) w w') (hb : Blk w b T vs) (h1 : T ≠ 227) (h2 : T ≠ 5) : MO w' base mb v bs := by
  have n1 : b ≠ mb := hb.ne h.blk h1
  have n2 := row_apart h.own hb h2
  refine ⟨hc.blk h.blk (fun e => n1 e.symm) (fun e => e), row_same h.own fun g hg => ?_, h.ge⟩
  have hl := (h.own.lt g hg).2
  exact hc.block g hl (fun e => n2 (by rw [← e, hg])) (fun _ _ _ _ e => e)
def MPost (w : World) (base mb : Nat) (v : Value) (bs : List Nat) (e : Ending) (w' : World) : Prop := e = .returned (.tuple #[]) ∧ ∃ v', MO w' base mb v' bs ∧ Ch no (mX mb v) w w' ∧ Nx w v v'
/-- one step behind another -/
theorem MPost.after {w w1 : World} {base mb : Nat} {v v1 : Value} {bs : List Nat} {e : Ending} {w' : World} (hc : Ch no (mX mb v) w w1) (hn : Nx w v v1) (h : MPost w1 base mb v1 bs e w') : MPost w base mb v bs e w' := by
  obtain ⟨rfl, v', h1, h2, h3⟩ := h
  refine ⟨rfl, v', h1, hc.since h2 (fun _ h => h) (fun i hi => ?_) (fun _ h => h), ?_⟩
  · rcases hi with rfl | hi
    · exact .inl (.inl rfl)
    · rcases hn with hn | ⟨k, hk, hge⟩
      · exact .inl (.inr (by rw [hi, hn]))
      · rw [hk] at hi; cases hi; exact .inr hge
  · rcases h3 with h3 | ⟨k, hk, hge⟩
    · rcases hn with hn | ⟨k, hk, hge⟩
      · exact .inl (h3.trans hn)
      · exact .inr ⟨k, h3.trans hk, hge⟩
    · exact .inr ⟨k, hk, Nat.le_trans hc.size hge⟩
/-- behind the append and the store -/
theorem mo_fin {w w1 w2 : World} {base mb : Nat} {v : Value} {bs news : List Nat} {al : Option Addr} {cap m : Nat} (hc : Ch no (mX mb v) w w1) (h : MO w1 base mb v bs) (hm : news.length = m)
    (hown : w2.ownsRow base 5 1 (.slice al (bs.length + m) cap) (bs.length + m) (bytesV bs ++ bytesV news)) (hgr : w1.grownBy w2 v.ownBlock) (hat : (Value.slice al (bs.length + m) cap).ownBlock = v.ownBlock ∨ (Value.slice al (bs.length + m) cap).ownBlock = some w1.heap.size) :
    MPost w base mb v (bs ++ news) (.returned (.tuple #[])) (w2.setCell ⟨mb, 0, none⟩ (.slice al (bs.length + m) cap)) := by
  have hne : some mb ≠ v.ownBlock := row_apart h.own h.blk (by decide)
  have hb2 : Blk w2 mb 227 [v] := h.blk.grown hgr hne
  have hne2 := row_apart hown hb2 (by decide)
  have hb3 := hb2.set 0 (.slice al (bs.length + m) cap)
  simp only [List.set] at hb3
  rw [← bytesV_app] at hown
  have hl : bs.length + m = (bs ++ news).length := by rw [List.length_append, hm]
  refine ⟨rfl, .slice al (bs.length + m) cap, ⟨hb3, ?_, h.ge⟩, ?_, ?_⟩
  · rw [← hl]
    exact row_same hown fun g hg => Below.heap_setCell _ _ _ _ (fun e => hne2 (by rw [hg]; exact congrArg some e.symm))
  · have h2 : Ch no (mX mb v) w w2 := hc.grown hgr fun k hk => .inl (.inr hk.symm)
    exact h2.setCell (p := ⟨mb, 0, none⟩) (.inl (.inl rfl)) _
  · rcases hat with hat | hat
    · exact .inl hat
    · exact .inr ⟨_, hat, hc.size⟩
set_option maxRecDepth 100000 in
theorem mOrder_ (base mb : Nat) (v : Value) (bs : List Nat) (w : World) (h : MO w base mb v bs) (hb : base ≤ w.heap.size) (hl : bs.length + 1 ≤ 1000000000) :
    Calls Tryz.prog 180 #[.pointer (some ⟨mb, 0, none⟩)] w (MPost w base mb v (bs ++ [1])) := by
  obtain ⟨i0, hi, hz0, hz1, hz2⟩ := info_parts infoU8
  obtain ⟨hB, hown, hge⟩ := h
  obtain ⟨al, cap, rfl, _, _, _⟩ := of_owns hown
  have m0 := hB.cell (i := 0) rfl
  have mf := hB.free
  have ml := hB.lt
  have hk1 : Stab.Keeps w (w.alloc (.cells #[.int .u8 1] 5)) := by with_reducible (repeat (first | exact Kx.r _ | assumption | refine Kx.a ?_ _ | refine Kx.d ?_ | refine Kx.e ?_ _ | (refine Kx.s ?_ ?_ _; focus (first | (simp; done) | (simp; omega))) | refine Kx.t ?_ (by assumption)))
  have hM1 : MO (w.alloc (.cells #[.int .u8 1] 5)) base mb _ bs := MO.keep ⟨hB, hown, hge⟩ hk1
  have HI := Lib.hid hi
  have HZ := Lib.hid hz0
  have HZ1 := Lib.hid hz1
  have HZ2 := Lib.hid hz2
  have HM1 := Lib.hid hM1
  clear hi hz0 hz1 hz2 hM1 hown hB
  go_enter Tryz.func180, Tryz.ntmps180
  go_wp2_with (at_builtin; (refine append_szat rfl _ _ 54 rfl base 5 i0 _ 1 1 Tryz.underlying54 HI.out HZ.out HZ1.out HZ2.out rfl (by decide) _ bs.length (bytesV bs) rfl HM1.out.own _ 1 1 (bytesV [1]) rfl ?c1 (bytesV_one _) ?c2 ?c3 ?c4 ?_))
  case c1 => exact sz_blk (show Blk _ _ 5 [.int .u8 1] from by with_reducible (repeat (first | assumption | ((refine Bx.n ⟨?_, ?_⟩) <;> focus (first | rfl | (simp; done) | omega)) | refine Bx.a ?_ _ | refine Bx.d ?_ | refine Bx.e ?_ _ | (refine Bx.p ?_ ?_; focus (first | (simp; done) | (simp; omega) | omega))))) rfl (by decide)
  case c2 => unfold maxLen; omega
  case c3 => omega
  case c4 => simp; omega
  intro al' cap' w2 hown' hgr hat
  have hb2 := HM1.out.blk.grown hgr (row_apart HM1.out.own HM1.out.blk (by decide))
  have hfin := mo_fin (m := 1) (Ch.of_keeps hk1) HM1.out rfl hown' hgr (hat.imp id fun h => h.trans (by simp))
  have n0 := hb2.cell (i := 0) rfl
  have nf := hb2.free
  have nl := hb2.lt
  clear HM1 hown' hgr hat hb2 m0 mf ml
  go_wp2_with fail
  go_end0
  exact hfin
end Go.Proofs.YtbakhldjfplbfaaGreat
set_option linter.unusedVariables false
set_option linter.unusedSimpArgs false
namespace Go.Proofs.YtbakhldjfplbfaaGreat
open Go.RowKit Go.Fl Go.Sl Go.Pg Go.Ch Go.Kf Go.By
theorem ext_bits (x : Nat) (w : World) : (callFunc 61 #[.float .f64 x]).run Tryz.prog w = .ok (.value (.int .u64 x)) w := by
  rw [run_callFunc_extern (e := Extern.MathFloatBits.float64bits) Tryz.func61 (by kernel_rfl) (by kernel_rfl) (by kernel_rfl) (by kernel_rfl)]
  rfl
set_option maxRecDepth 100000 in
theorem mCount_ (base mb n : Nat) (v : Value) (bs : List Nat) (w : World) (h : MO w base mb v bs) (hb : base ≤ w.heap.size) (hn : n < 4294967296) (hl : bs.length + 4 ≤ 1000000000) :
    Calls Tryz.prog 182 #[.pointer (some ⟨mb, 0, none⟩), .int .i64 n] w (MPost w base mb v (bs ++ leB 4 n)) := by
  obtain ⟨i0, hi, hz0, hz1, hz2⟩ := info_parts infoU8
  obtain ⟨al, cap, rfl, _, _, _⟩ := of_owns h.own
  have hk1 : Stab.Keeps w (w.alloc (.cells #[.int .u8 0, .int .u8 0, .int .u8 0, .int .u8 0] 241)) := by with_reducible (repeat (first | exact Kx.r _ | assumption | refine Kx.a ?_ _ | refine Kx.d ?_ | refine Kx.e ?_ _ | (refine Kx.s ?_ ?_ _; focus (first | (simp; done) | (simp; omega))) | refine Kx.t ?_ (by assumption)))
  have hM1 := h.keep hk1
  have hB1 : Blk (w.alloc (.cells #[.int .u8 0, .int .u8 0, .int .u8 0, .int .u8 0] 241)) w.heap.size 241 [.int .u8 0, .int .u8 0, .int .u8 0, .int .u8 0] := by with_reducible (repeat (first | assumption | ((refine Bx.n ⟨?_, ?_⟩) <;> focus (first | rfl | (simp; done) | omega)) | refine Bx.a ?_ _ | refine Bx.d ?_ | refine Bx.e ?_ _ | (refine Bx.p ?_ ?_; focus (first | (simp; done) | (simp; omega) | omega))))
  have hwn : IntKind.u32.wrap (n : Int) = n := IntWalk.u32_in _ ⟨by omega, by omega⟩
  go_enter Tryz.func182, Tryz.ntmps182
  go_wp2_with fail
  go_upto_region 1 with (fail)
  generalize (w.alloc (.cells #[.int .u8 0, .int .u8 0, .int .u8 0, .int .u8 0] 241)) = w1 at *
  refine Stab.keep_tail 4 (fun _ _ _ => True) (fun _ => false) (fun _ => false) Stab.pre_none (by kernel_rfl) (by kernel_rfl) fun hcx => ?_
  simp only [List.take_succ_cons, List.take_zero, List.drop_succ_cons, List.drop_zero]
  (with_reducible refine Stab.quiet ?_ ?_ ?_ ?_); rfl; rfl; rfl; intro K hK; go_big_quiet_op; refine hK _ ?_; clear hK K
  (with_reducible refine Stab.quiet ?_ ?_ ?_ ?_); rfl; rfl; rfl; intro K hK; go_big_quiet_op; refine hK _ ?_; clear hK K
  (with_reducible refine Stab.quiet ?_ ?_ ?_ ?_); rfl; rfl; rfl; intro K hK; go_big_quiet_op; refine hK _ ?_; clear hK K
  (with_reducible refine Stab.quiet ?_ ?_ ?_ ?_); rfl; rfl; rfl; intro K hK; go_big_quiet_op; refine hK _ ?_; clear hK K
  refine Stab.nil fun w2 hk2 _ => ?_
  have hM2 := hM1.keep hk2
  have hB2 := hB1.keep hk2
  have hk2' := Stab.Keeps.trans hk1 hk2
  clear hcx hM1 hB1 hk1 hk2
  go_wp2_with fail
  refine (putU32_ w.heap.size 0 4 4 n _ _ w2 hB2 (by simp) (by omega) hn).mono ?_
  rintro e w3 ⟨rfl, hB3, hc3⟩
  have hM3 := hM2.ch hc3 hB2 (by decide) (by decide)
  have hch : Ch no (mX mb (.slice al bs.length cap)) w w3 := (Ch.of_keeps hk2').since hc3 (fun _ h => h) (fun i hi => .inr (by omega)) (fun _ h => h)
  clear hM2 hB2 hk2' hc3 hwn
  simp only [over, bytesV, leB, List.map, List.set] at hB3
  have m0 := hM3.blk.cell (i := 0) rfl
  have mf := hM3.blk.free
  have ml := hM3.blk.lt
  have hkd : Stab.Keeps w3 w3.drew := Stab.Keeps.drew (Stab.Keeps.refl _)
  have HM := Lib.hid (hM3.keep hkd)
  have HI := Lib.hid hi
  have HZ := Lib.hid hz0
  have HZ1 := Lib.hid hz1
  have HZ2 := Lib.hid hz2
  have HS := Lib.hid (sz_blk (n := 4) (hB3.keep hkd) rfl (by decide))
  have HC := Lib.hid hch.drew
  have hbw : base ≤ w3.drew.heap.size := by have := hch.size; simp; omega
  clear hi hz0 hz1 hz2 hM3 hB3 hch h hkd
  go_wp2_with fail
  go_region_law (refine step_append_sz rfl (.tmp 14) (.tmp 15) 54 rfl base 5 i0 _ 1 1 Tryz.underlying54 HI.out HZ.out HZ1.out HZ2.out rfl (by decide) (.slice al bs.length cap) bs.length (bytesV bs) (by simp [Act.eval, Act.put]) HM.out.own _ 4 4 (bytesV (leB 4 n)) (by simp [Act.eval, Act.put]) HS.out (bytesV_one _) (by unfold maxLen; omega) (by omega) hbw ?_; intro al' c' w' hown' hgr hat; have hfin := mo_fin (m := 4) (news := leB 4 n) HC.out HM.out rfl hown' hgr hat; have hb2 := HM.out.blk.grown hgr (row_apart HM.out.own HM.out.blk (by decide)); have n0 := hb2.cell (i := 0) rfl; have nf := hb2.free; have nl := hb2.lt)
  all_goals
    go_end0
    exact hfin
set_option maxRecDepth 100000 in
theorem mFloat_ (base mb n : Nat) (v : Value) (bs : List Nat) (w : World) (h : MO w base mb v bs) (hb : base ≤ w.heap.size) (hn : n < 18446744073709551616) (hl : bs.length + 8 ≤ 1000000000) :
    Calls Tryz.prog 203 #[.pointer (some ⟨mb, 0, none⟩), .float .f64 n] w (MPost w base mb v (bs ++ leB 8 n)) := by
  obtain ⟨i0, hi, hz0, hz1, hz2⟩ := info_parts infoU8
  obtain ⟨al, cap, rfl, _, _, _⟩ := of_owns h.own
  have hk1 : Stab.Keeps w (w.alloc (.cells #[.int .u8 0, .int .u8 0, .int .u8 0, .int .u8 0, .int .u8 0, .int .u8 0, .int .u8 0, .int .u8 0] 268)) := by with_reducible (repeat (first | exact Kx.r _ | assumption | refine Kx.a ?_ _ | refine Kx.d ?_ | refine Kx.e ?_ _ | (refine Kx.s ?_ ?_ _; focus (first | (simp; done) | (simp; omega))) | refine Kx.t ?_ (by assumption)))
  have hM1 := h.keep hk1
  have hB1 : Blk (w.alloc (.cells #[.int .u8 0, .int .u8 0, .int .u8 0, .int .u8 0, .int .u8 0, .int .u8 0, .int .u8 0, .int .u8 0] 268)) w.heap.size 268 [.int .u8 0, .int .u8 0, .int .u8 0, .int .u8 0, .int .u8 0, .int .u8 0, .int .u8 0, .int .u8 0] := by with_reducible (repeat (first | assumption | ((refine Bx.n ⟨?_, ?_⟩) <;> focus (first | rfl | (simp; done) | omega)) | refine Bx.a ?_ _ | refine Bx.d ?_ | refine Bx.e ?_ _ | (refine Bx.p ?_ ?_; focus (first | (simp; done) | (simp; omega) | omega))))
  have hbits := ext_bits n
  go_enter Tryz.func203, Tryz.ntmps203
  go_wp2_with fail
  go_upto_region 1 with (fail)
  generalize (w.alloc (.cells #[.int .u8 0, .int .u8 0, .int .u8 0, .int .u8 0, .int .u8 0, .int .u8 0, .int .u8 0, .int .u8 0] 268)) = w1 at *
  refine Stab.keep_tail 4 (fun _ _ _ => True) (fun _ => false) (fun k => k == 3) Stab.pre_none (by kernel_rfl) (by kernel_rfl) fun hcx => ?_
  simp only [List.take_succ_cons, List.take_zero, List.drop_succ_cons, List.drop_zero]
  (with_reducible refine Stab.quiet ?_ ?_ ?_ ?_); rfl; rfl; rfl; intro K hK; go_big_quiet_op; refine hK _ ?_; clear hK K
  (with_reducible refine Stab.quiet ?_ ?_ ?_ ?_); rfl; rfl; rfl; intro K hK; go_big_quiet_op; refine hK _ ?_; clear hK K
  (with_reducible refine Stab.quiet ?_ ?_ ?_ ?_); rfl; rfl; rfl; intro K hK; go_big_quiet_op; refine hK _ ?_; clear hK K
  (with_reducible refine Stab.one ?_ ?_ ?_ ?_); rfl; rfl; rfl
  apply Exists.intro
  refine ⟨fun w1 hw1 => ?_, fun K hK => ?_⟩
  · go_simp
    exact ⟨Stab.Keeps.refl _, rfl⟩
  go_simp
  refine hK _ ?_
  clear hK K
  refine Stab.nil fun w2 hk2 _ => ?_
  have hM2 := hM1.keep hk2
  have hB2 := hB1.keep hk2
  have hk2' := Stab.Keeps.trans hk1 hk2
  clear hcx hM1 hB1 hk1 hk2
  go_wp2_with fail
  refine (putU64_ w.heap.size 0 8 8 n _ _ w2 hB2 (by simp) (by omega) hn).mono ?_
  rintro e w3 ⟨rfl, hB3, hc3⟩
  have hM3 := hM2.ch hc3 hB2 (by decide) (by decide)
  have hch : Ch no (mX mb (.slice al bs.length cap)) w w3 := (Ch.of_keeps hk2').since hc3 (fun _ h => h) (fun i hi => .inr (by omega)) (fun _ h => h)
  clear hM2 hB2 hk2' hc3
  simp only [over, bytesV, leB, List.map, List.set] at hB3
  have m0 := hM3.blk.cell (i := 0) rfl
  have mf := hM3.blk.free
  have ml := hM3.blk.lt
  have hkd : Stab.Keeps w3 w3.drew := Stab.Keeps.drew (Stab.Keeps.refl _)
  have HM := Lib.hid (hM3.keep hkd)
  have HI := Lib.hid hi
  have HZ := Lib.hid hz0
  have HZ1 := Lib.hid hz1
  have HZ2 := Lib.hid hz2
  have HS := Lib.hid (sz_blk (n := 8) (hB3.keep hkd) rfl (by decide))
  have HC := Lib.hid hch.drew
  have hbw : base ≤ w3.drew.heap.size := by have := hch.size; simp; omega
  clear hi hz0 hz1 hz2 hM3 hB3 hch h hkd
  go_wp2_with fail
  go_region_law (refine step_append_sz rfl (.tmp 14) (.tmp 15) 54 rfl base 5 i0 _ 1 1 Tryz.underlying54 HI.out HZ.out HZ1.out HZ2.out rfl (by decide) (.slice al bs.length cap) bs.length (bytesV bs) (by simp [Act.eval, Act.put]) HM.out.own _ 8 8 (bytesV (leB 8 n)) (by simp [Act.eval, Act.put]) HS.out (bytesV_one _) (by unfold maxLen; omega) (by omega) hbw ?_; intro al' c' w' hown' hgr hat; have hfin := mo_fin (m := 8) (news := leB 8 n) HC.out HM.out rfl hown' hgr hat; have hb2 := HM.out.blk.grown hgr (row_apart HM.out.own HM.out.blk (by decide)); have n0 := hb2.cell (i := 0) rfl; have nf := hb2.free; have nl := hb2.lt)
  all_goals
    go_end0
    exact hfin
end Go.Proofs.YtbakhldjfplbfaaGreat
set_option linter.unusedVariables false
set_option linter.unusedSimpArgs false
namespace Go.Proofs.YtbakhldjfplbfaaGreat
open Go.RowKit Go.Fl Go.Sl Go.Pg Go.Ch Go.Kf Go.By
/-- a kind's number in binary forms -/
def codeN (k : Nat) : Nat := if k = 0 then 7 else k
set_option maxRecDepth 100000 in
theorem ix_code (k : Nat) (hk : k < 7) (w : World) : (Instr.index 240 (.agg #[.int .u32 7, .int .u32 1, .int .u32 2, .int .u32 3, .int .u32 4, .int .u32 5, .int .u32 6]) (.int .i64 k)).run Tryz.prog w = .ok (.int .u32 (codeN k)) w := by
  have h : k = 0 ∨ k = 1 ∨ k = 2 ∨ k = 3 ∨ k = 4 ∨ k = 5 ∨ k = 6 := by omega
  have hs : ∀ w, (sizeOf 239).run Tryz.prog w = .ok 1 w := fun w => by rfl
  rcases h with rfl | rfl | rfl | rfl | rfl | rfl | rfl
  all_goals
    simp [Instr.index, run_underlying Tryz.underlying240, asIntOf, go_sem, hs, codeN]
set_option maxRecDepth 100000 in
theorem mType_ (base mb k d : Nat) (v : Value) (bs : List Nat) (w : World) (h : MO w base mb v bs) (hb : base ≤ w.heap.size) (hk : k < 7) (hd : d < 4) (hl : bs.length + 4 ≤ 1000000000) :
    Calls Tryz.prog 181 #[.pointer (some ⟨mb, 0, none⟩), .int .i64 k, .int .u8 d] w (MPost w base mb v (bs ++ leB 4 (d * 1000 + codeN k))) := by
  obtain ⟨i0, hi, hz0, hz1, hz2⟩ := info_parts infoU8
  obtain ⟨al, cap, rfl, _, _, _⟩ := of_owns h.own
  have hk1 : Stab.Keeps w (w.alloc (.cells #[.int .u8 0, .int .u8 0, .int .u8 0, .int .u8 0] 241)) := by with_reducible (repeat (first | exact Kx.r _ | assumption | refine Kx.a ?_ _ | refine Kx.d ?_ | refine Kx.e ?_ _ | (refine Kx.s ?_ ?_ _; focus (first | (simp; done) | (simp; omega))) | refine Kx.t ?_ (by assumption)))
  have hM1 := h.keep hk1
  have hB1 : Blk (w.alloc (.cells #[.int .u8 0, .int .u8 0, .int .u8 0, .int .u8 0] 241)) w.heap.size 241 [.int .u8 0, .int .u8 0, .int .u8 0, .int .u8 0] := by with_reducible (repeat (first | assumption | ((refine Bx.n ⟨?_, ?_⟩) <;> focus (first | rfl | (simp; done) | omega)) | refine Bx.a ?_ _ | refine Bx.d ?_ | refine Bx.e ?_ _ | (refine Bx.p ?_ ?_; focus (first | (simp; done) | (simp; omega) | omega))))
  have hI := ix_code k hk
  have hck : codeN k ≤ 7 := by unfold codeN; split <;> omega
  have hw1 : IntKind.u32.wrap (d : Int) = d := IntWalk.u32_in _ ⟨by omega, by omega⟩
  have hw2 : IntKind.u32.wrap ((d : Int) * 1000) = (d : Int) * 1000 := IntWalk.u32_in _ ⟨by omega, by omega⟩
  have hw3 : IntKind.u32.wrap ((d : Int) * 1000 + (codeN k : Int)) = (d : Int) * 1000 + (codeN k : Int) := IntWalk.u32_in _ ⟨by omega, by omega⟩
  have hPU := fun (b off n cap : Nat) (T : TypeId) (vs : List Value) (w : World) (hB : Blk w b T vs) (ho : off + 4 ≤ vs.length) (hn : 4 ≤ n) => putU32_ b off n cap (d * 1000 + codeN k) T vs w hB ho hn (by omega)
  have ecast : ((d * 1000 + codeN k : Nat) : Int) = (d : Int) * 1000 + (codeN k : Int) := by omega
  rw [ecast] at hPU
  have HPU := Lib.hid hPU
  clear hPU ecast
  go_enter Tryz.func181, Tryz.ntmps181
  go_wp2_with fail
  go_upto_region 2 with (fail)
  generalize (w.alloc (.cells #[.int .u8 0, .int .u8 0, .int .u8 0, .int .u8 0] 241)) = w1 at *
  refine Stab.keep_tail 7 (fun _ _ _ => True) (fun _ => false) (fun _ => false) Stab.pre_none (by kernel_rfl) (by kernel_rfl) fun hcx => ?_
  simp only [List.take_succ_cons, List.take_zero, List.drop_succ_cons, List.drop_zero]
  (with_reducible refine Stab.quiet ?_ ?_ ?_ ?_); rfl; rfl; rfl; intro K hK; go_big_quiet_op; refine hK _ ?_; clear hK K
  (with_reducible refine Stab.quiet ?_ ?_ ?_ ?_); rfl; rfl; rfl; intro K hK; go_big_quiet_op; refine hK _ ?_; clear hK K
  (with_reducible refine Stab.quiet ?_ ?_ ?_ ?_); rfl; rfl; rfl; intro K hK; go_big_quiet_op; refine hK _ ?_; clear hK K
  (with_reducible refine Stab.quiet ?_ ?_ ?_ ?_); rfl; rfl; rfl; intro K hK; go_big_quiet_op; refine hK _ ?_; clear hK K
  (with_reducible refine Stab.quiet ?_ ?_ ?_ ?_); rfl; rfl; rfl; intro K hK; go_big_quiet_op; refine hK _ ?_; clear hK K
  (with_reducible refine Stab.quiet ?_ ?_ ?_ ?_); rfl; rfl; rfl; intro K hK; go_big_quiet_op; refine hK _ ?_; clear hK K
  (with_reducible refine Stab.quiet ?_ ?_ ?_ ?_); rfl; rfl; rfl; intro K hK; go_big_quiet_op; refine hK _ ?_; clear hK K
  refine Stab.nil fun w2 hk2 _ => ?_
  have hM2 := hM1.keep hk2
  have hB2 := hB1.keep hk2
  have hk2' := Stab.Keeps.trans hk1 hk2
  clear hcx hM1 hB1 hk1 hk2
  go_wp2_with fail
  refine (HPU.out w.heap.size 0 4 4 _ _ w2 hB2 (by simp) (by omega)).mono ?_
  rintro e w3 ⟨rfl, hB3, hc3⟩
  have hM3 := hM2.ch hc3 hB2 (by decide) (by decide)
  have hch : Ch no (mX mb (.slice al bs.length cap)) w w3 := (Ch.of_keeps hk2').since hc3 (fun _ h => h) (fun i hi => .inr (by omega)) (fun _ h => h)
  clear hM2 hB2 hk2' hc3
  simp only [over, bytesV, leB, List.map, List.set] at hB3
  have m0 := hM3.blk.cell (i := 0) rfl
  have mf := hM3.blk.free
  have ml := hM3.blk.lt
  have hkd : Stab.Keeps w3 w3.drew := Stab.Keeps.drew (Stab.Keeps.refl _)
  have HM := Lib.hid (hM3.keep hkd)
  have HI := Lib.hid hi
  have HZ := Lib.hid hz0
  have HZ1 := Lib.hid hz1
  have HZ2 := Lib.hid hz2
  have HS := Lib.hid (sz_blk (n := 4) (hB3.keep hkd) rfl (by decide))
  have HC := Lib.hid hch.drew
  have hbw : base ≤ w3.drew.heap.size := by have := hch.size; simp; omega
  clear hi hz0 hz1 hz2 hM3 hB3 hch h hkd
  go_wp2_with fail
  go_region_law (refine step_append_sz rfl (.tmp 23) (.tmp 24) 54 rfl base 5 i0 _ 1 1 Tryz.underlying54 HI.out HZ.out HZ1.out HZ2.out rfl (by decide) (.slice al bs.length cap) bs.length (bytesV bs) (by simp [Act.eval, Act.put]) HM.out.own _ 4 4 (bytesV (leB 4 (d * 1000 + codeN k))) (by simp [Act.eval, Act.put]) HS.out (bytesV_one _) (by unfold maxLen; omega) (by omega) hbw ?_; intro al' c' w' hown' hgr hat; have hfin := mo_fin (m := 4) (news := leB 4 (d * 1000 + codeN k)) HC.out HM.out rfl hown' hgr hat; have hb2 := HM.out.blk.grown hgr (row_apart HM.out.own HM.out.blk (by decide)); have n0 := hb2.cell (i := 0) rfl; have nf := hb2.free; have nl := hb2.lt)
  all_goals
    go_end0
    exact hfin
end Go.Proofs.YtbakhldjfplbfaaGreat
set_option linter.unusedVariables false
set_option linter.unusedSimpArgs false
namespace Go.By
open Go.Pg
def natB (x : Nat) : Prop := x < 18446744073709551616
structure PlB (p : Pl) : Prop where
  x : natB p.x
  y : natB p.y
  z : natB p.z
  m : natB p.m
/-- the bytes of numbers, the least byte first -/
def leN (l : List Nat) : List Nat := l.flatMap (leB 8)
theorem leN_len (l : List Nat) : (leN l).length = l.length * 8 := flat_len' _ 8 (leB_len 8) l
theorem leN_app (a b : List Nat) : leN (a ++ b) = leN a ++ leN b := by simp [leN]
theorem leN_cons (x : Nat) (l : List Nat) : leN (x :: l) = leB 8 x ++ leN l := by simp [leN]
theorem leN_nil : leN [] = [] := rfl
theorem plB_nums {d : Nat} {p : Pl} (h : PlB p) : ∀ x ∈ p.nums d, natB x := by
  intro x hx
  unfold Pl.nums at hx
  simp only [List.mem_cons, List.mem_append] at hx
  rcases hx with rfl | rfl | hx | hx
  · exact h.x
  · exact h.y
  · split at hx
    · simp at hx; rw [hx]; exact h.z
    · simp at hx
  · split at hx
    · simp at hx; rw [hx]; exact h.m
    · simp at hx
theorem numsOf_B {d : Nat} {ps : List Pl} (h : ∀ p ∈ ps, PlB p) : ∀ x ∈ numsOf d ps, natB x := by
  intro x hx
  obtain ⟨p, hp, hx⟩ := List.mem_flatMap.1 hx
  exact plB_nums (h p hp) x hx
end Go.By
namespace Go.Proofs.YtbakhldjfplbfaaGreat
open Go.RowKit Go.Fl Go.Sl Go.Pg Go.Ch Go.Kf Go.By
theorem MO.blkCh {w w' : World} {base mb b : Nat} {v : Value} {bs : List Nat} {T : TypeId} {vs : List Value} (h : MO w base mb v bs) (hc : Ch no (mX mb v) w w') (hb : Blk w b T vs) (h1 : T ≠ 227) (h2 : T ≠ 5) : Blk w' b T vs :=
  hc.blk hb (fun hx => hx.elim (hb.ne h.blk h1) (row_apart h.own hb h2)) (fun e => e)
theorem MPost.here {w : World} {base mb : Nat} {v : Value} {bs : List Nat} (h : MO w base mb v bs) : MPost w base mb v bs (.returned (.tuple #[])) w := ⟨rfl, v, h, Ch.refl _ _ _, .inl rfl⟩
set_option maxRecDepth 100000 in
theorem mCoords_ (base mb d : Nat) (p : Pl) (v : Value) (bs : List Nat) (w : World) (h : MO w base mb v bs) (hb : base ≤ w.heap.size) (hd : d < 4) (hp : PlB p) (hl : bs.length + 32 ≤ 1000000000) :
    Calls Tryz.prog 184 #[.pointer (some ⟨mb, 0, none⟩), .agg #[.float .f64 p.x, .float .f64 p.y, .float .f64 p.z, .float .f64 p.m, .int .u8 d]] w (MPost w base mb v (bs ++ leN (p.nums d))) := by
  obtain ⟨x, y, z, m⟩ := p
  obtain ⟨px, py, pz, pm⟩ := hp
  unfold natB at px py pz pm
  simp only at px py pz pm
  have hk1 : Stab.Keeps w (w.alloc (.cells #[.float .f64 x, .float .f64 y, .float .f64 z, .float .f64 m, .int .u8 d] 139)) := by with_reducible (repeat (first | exact Kx.r _ | assumption | refine Kx.a ?_ _ | refine Kx.d ?_ | refine Kx.e ?_ _ | (refine Kx.s ?_ ?_ _; focus (first | (simp; done) | (simp; omega))) | refine Kx.t ?_ (by assumption)))
  have hB1 : Blk (w.alloc (.cells #[.float .f64 x, .float .f64 y, .float .f64 z, .float .f64 m, .int .u8 d] 139)) w.heap.size 139 [.float .f64 x, .float .f64 y, .float .f64 z, .float .f64 m, .int .u8 d] := by with_reducible (repeat (first | assumption | ((refine Bx.n ⟨?_, ?_⟩) <;> focus (first | rfl | (simp; done) | omega)) | refine Bx.a ?_ _ | refine Bx.d ?_ | refine Bx.e ?_ _ | (refine Bx.p ?_ ?_; focus (first | (simp; done) | (simp; omega) | omega))))
  have hM1 := h.keep hk1
  have T1 : ∀ bs' e w', MPost _ base mb v bs' e w' → MPost w base mb v bs' e w' := fun _ _ _ => MPost.after (Ch.of_keeps hk1) (.inl rfl)
  have hb1 : base ≤ (w.alloc (.cells #[.float .f64 x, .float .f64 y, .float .f64 z, .float .f64 m, .int .u8 d] 139)).heap.size := Nat.le_trans hb hk1.size
  have h3 := is3D_ d hd
  have h4 := isM_ d hd
  have e0 : leN ((⟨x, y, z, m⟩ : Pl).nums d) = leB 8 x ++ (leB 8 y ++ ((if has3 d then leB 8 z else []) ++ (if hasM d then leB 8 m else []))) := by
    unfold Pl.nums
    simp only [leN_cons, leN_app]
    cases has3 d <;> cases hasM d <;> simp [leN]
  rw [e0, ← List.append_assoc, ← List.append_assoc, ← List.append_assoc]
  generalize hZ : (if has3 d then leB 8 z else []) = Z3
  generalize hW : (if hasM d then leB 8 m else []) = Z4
  clear e0 hk1 h
  go_enter Tryz.func184, Tryz.ntmps184
  go_upto_region 1 with (fail)
  generalize (w.alloc (.cells #[.float .f64 x, .float .f64 y, .float .f64 z, .float .f64 m, .int .u8 d] 139)) = w1 at *
  have g0 := hB1.cell (i := 0) rfl
  have g1 := hB1.cell (i := 1) rfl
  have g2 := hB1.cell (i := 2) rfl
  have g3 := hB1.cell (i := 3) rfl
  have g4 := hB1.cell (i := 4) rfl
  have gf := hB1.free
  have gl := hB1.lt
  go_wp2_with fail
  refine (mFloat_ base mb x v bs w1 hM1 hb1 px (by omega)).mono ?_
  rintro e w2 ⟨rfl, v2, hM2, hc2, hn2⟩
  have hB2 := hM1.blkCh hc2 hB1 (by decide) (by decide)
  have T2 : ∀ bs' e w', MPost w2 base mb v2 bs' e w' → MPost w base mb v bs' e w' := fun _ _ _ h => T1 _ _ _ (MPost.after hc2 hn2 h)
  have hb2 := Nat.le_trans hb1 hc2.size
  clear g0 g1 g2 g3 g4 gf gl hM1 hB1 hc2 hn2 T1 hb1
  have g0 := hB2.cell (i := 0) rfl
  have g1 := hB2.cell (i := 1) rfl
  have g2 := hB2.cell (i := 2) rfl
  have g3 := hB2.cell (i := 3) rfl
  have g4 := hB2.cell (i := 4) rfl
  have gf := hB2.free
  have gl := hB2.lt
  go_wp2_with fail
  refine (mFloat_ base mb y v2 (bs ++ leB 8 x) w2 hM2 hb2 py (by rw [List.length_append, leB_len]; omega)).mono ?_
  rintro e w3 ⟨rfl, v3, hM3, hc3, hn3⟩
  have hB3 := hM2.blkCh hc3 hB2 (by decide) (by decide)
  have T3 : ∀ bs' e w', MPost w3 base mb v3 bs' e w' → MPost w base mb v bs' e w' := fun _ _ _ h => T2 _ _ _ (MPost.after hc3 hn3 h)
  have hb3 := Nat.le_trans hb2 hc3.size
  clear g0 g1 g2 g3 g4 gf gl hM2 hB2 hc3 hn3 T2 hb2
  have g0 := hB3.cell (i := 0) rfl
  have g1 := hB3.cell (i := 1) rfl
  have g2 := hB3.cell (i := 2) rfl
  have g3 := hB3.cell (i := 3) rfl
  have g4 := hB3.cell (i := 4) rfl
  have gf := hB3.free
  have gl := hB3.lt
  go_wp2_with fail
  refine (h3 _).mono ?_
  rintro e w4 ⟨rfl, hk4⟩
  have hM4 := hM3.keep hk4
  have hB4 := hB3.keep hk4
  have T4 : ∀ bs' e w', MPost w4 base mb v3 bs' e w' → MPost w base mb v bs' e w' := fun _ _ _ h => T3 _ _ _ (MPost.after (Ch.of_keeps hk4) (.inl rfl) h)
  have hb4 := Nat.le_trans hb3 hk4.size
  clear g0 g1 g2 g3 g4 gf gl hM3 hB3 hk4 T3 hb3 h3
  have g0 := hB4.cell (i := 0) rfl
  have g1 := hB4.cell (i := 1) rfl
  have g2 := hB4.cell (i := 2) rfl
  have g3 := hB4.cell (i := 3) rfl
  have g4 := hB4.cell (i := 4) rfl
  have gf := hB4.free
  have gl := hB4.lt
  -- WAYS
  cases hh3 : has3 d with
  | false =>
    rw [hh3] at hZ
    subst hZ
    go_wp2_with fail
    refine (h4 _).mono ?_
    rintro e w5 ⟨rfl, hk5⟩
    have hM5 := hM4.keep hk5
    have hB5 := hB4.keep hk5
    have T5 : ∀ bs' e w', MPost w5 base mb v3 bs' e w' → MPost w base mb v bs' e w' := fun _ _ _ h => T4 _ _ _ (MPost.after (Ch.of_keeps hk5) (.inl rfl) h)
    have hb5 := Nat.le_trans hb4 hk5.size
    clear g0 g1 g2 g3 g4 gf gl hM4 hB4 hk5 T4 hb4
    have g0 := hB5.cell (i := 0) rfl
    have g1 := hB5.cell (i := 1) rfl
    have g2 := hB5.cell (i := 2) rfl
    have g3 := hB5.cell (i := 3) rfl
    have g4 := hB5.cell (i := 4) rfl
    have gf := hB5.free
    have gl := hB5.lt
    cases hh4 : hasM d with
    | false =>
      rw [hh4] at hW
      subst hW
      have hfin := T5 _ _ _ (MPost.here hM5)
      clear hM5 hB5 T5 hb5
      go_wp2_with fail
      go_end0
      simpa using hfin
    | true =>
      rw [hh4] at hW
      subst hW
      go_wp2_with fail
      refine (mFloat_ base mb m v3 _ w5 hM5 hb5 pm (by simp only [List.length_append, leB_len]; omega)).mono ?_
      rintro e w6 ⟨rfl, v6, hM6, hc6, hn6⟩
      have hfin := T5 _ _ _ (MPost.after hc6 hn6 (MPost.here hM6))
      clear hM5 hB5 T5 hb5 hM6 hc6 hn6 g0 g1 g2 g3 g4 gf gl
      go_wp2_with fail
      go_end0
      simpa using hfin
  | true =>
    rw [hh3] at hZ
    subst hZ
    go_wp2_with fail
    refine (mFloat_ base mb z v3 _ w4 hM4 hb4 pz (by simp only [List.length_append, leB_len]; omega)).mono ?_
    rintro e w5 ⟨rfl, v5, hM5, hc5, hn5⟩
    have hB5 := hM4.blkCh hc5 hB4 (by decide) (by decide)
    have T5 : ∀ bs' e w', MPost w5 base mb v5 bs' e w' → MPost w base mb v bs' e w' := fun _ _ _ h => T4 _ _ _ (MPost.after hc5 hn5 h)
    have hb5 := Nat.le_trans hb4 hc5.size
    clear g0 g1 g2 g3 g4 gf gl hM4 hB4 hc5 hn5 T4 hb4
    have g0 := hB5.cell (i := 0) rfl
    have g1 := hB5.cell (i := 1) rfl
    have g2 := hB5.cell (i := 2) rfl
    have g3 := hB5.cell (i := 3) rfl
    have g4 := hB5.cell (i := 4) rfl
    have gf := hB5.free
    have gl := hB5.lt
    go_wp2_with fail
    refine (h4 _).mono ?_
    rintro e w6 ⟨rfl, hk6⟩
    have hM6 := hM5.keep hk6
    have hB6 := hB5.keep hk6
    have T6 : ∀ bs' e w', MPost w6 base mb v5 bs' e w' → MPost w base mb v bs' e w' := fun _ _ _ h => T5 _ _ _ (MPost.after (Ch.of_keeps hk6) (.inl rfl) h)
    have hb6 := Nat.le_trans hb5 hk6.size
    clear g0 g1 g2 g3 g4 gf gl hM5 hB5 hk6 T5 hb5
    have g0 := hB6.cell (i := 0) rfl
    have g1 := hB6.cell (i := 1) rfl
    have g2 := hB6.cell (i := 2) rfl
    have g3 := hB6.cell (i := 3) rfl
    have g4 := hB6.cell (i := 4) rfl
    have gf := hB6.free
    have gl := hB6.lt
    cases hh4 : hasM d with
    | false =>
      rw [hh4] at hW
      subst hW
      have hfin := T6 _ _ _ (MPost.here hM6)
      clear hM6 hB6 T6 hb6
      go_wp2_with fail
      go_end0
      simpa using hfin
    | true =>
      rw [hh4] at hW
      subst hW
      go_wp2_with fail
      refine (mFloat_ base mb m v5 _ w6 hM6 hb6 pm (by simp only [List.length_append, leB_len]; omega)).mono ?_
      rintro e w7 ⟨rfl, v7, hM7, hc7, hn7⟩
      have hfin := T6 _ _ _ (MPost.after hc7 hn7 (MPost.here hM7))
      clear hM6 hB6 T6 hb6 hM7 hc7 hn7 g0 g1 g2 g3 g4 gf gl
      go_wp2_with fail
      go_end0
      simpa using hfin
end Go.Proofs.YtbakhldjfplbfaaGreat
set_option linter.unusedVariables false
set_option linter.unusedSimpArgs false
namespace Go.By
open Go.RowKit
theorem over_mid (us : List Value) : ∀ (pre mid post : List Value), mid.length = us.length → over (pre ++ (mid ++ post)) pre.length us = pre ++ (us ++ post) := by
  induction us with
  | nil => intro pre mid post h; have : mid = [] := List.eq_nil_of_length_eq_zero h
           subst this; rfl
  | cons u us ih =>
    intro pre mid post h
    cases mid with
    | nil => simp at h
    | cons x mid =>
      have h' : mid.length = us.length := by simpa using h
      show over ((pre ++ ((x :: mid) ++ post)).set pre.length u) (pre.length + 1) us = _
      have e : (pre ++ ((x :: mid) ++ post)).set pre.length u = (pre ++ [u]) ++ (mid ++ post) := by
        rw [List.set_append_right _ _ (Nat.le_refl _)]; simp
      rw [e]
      have := ih (pre ++ [u]) mid post h'
      rw [List.length_append] at this
      rw [show pre.length + 1 = pre.length + [u].length from rfl, this]
      simp
end Go.By
namespace Go.Proofs.YtbakhldjfplbfaaGreat
open Go.RowKit Go.Fl Go.Sl Go.Pg Go.Ch Go.Kf Go.By
theorem made_u8 (N : Nat) : madeCells (Value.int .u8 0).cells (N * 1) = Array.replicate N (Value.int .u8 0) := by
  apply Array.ext
  · rw [size_madeCells]; simp
  · intro i h1 h2
    simp [madeCells, Value.cells, Nat.mod_one]
theorem blk_rep (w : World) (N : Nat) (v : Value) (T : TypeId) : Blk (w.alloc (.cells (Array.replicate N v) T)) w.heap.size T (List.replicate N v) := by
  have := Blk.new w (List.replicate N v) T _ rfl
  simpa using this
def FabPost (w : World) (l : List Nat) (e : Ending) (w' : World) : Prop := ∃ A N C, e = .returned (.slice A N C) ∧ N = l.length * 8 ∧ Stab.Keeps w w' ∧ Sz w' A N C 1 (bytesV (leN l))
set_option maxRecDepth 100000 in
theorem fab_ (a : Option Addr) (n cap : Nat) (l : List Nat) (w : World) (hn : l.length = n) (h : Sz w a n cap 1 (encN l)) (hm : n ≤ 1000000) (hb : ∀ x ∈ l, natB x) :
    Calls Tryz.prog 204 #[.slice a n cap] w (FabPost w l) := by
  rcases Nat.eq_zero_or_pos n with h0 | h0
  · subst h0
    have hl : l = [] := List.eq_nil_of_length_eq_zero hn
    subst hl
    go_enter Tryz.func204, Tryz.ntmps204
    go_wp2_with fail
    go_ret
    exact ⟨none, 0, 0, rfl, rfl, by with_reducible (repeat (first | exact Kx.r _ | assumption | refine Kx.a ?_ _ | refine Kx.d ?_ | refine Kx.e ?_ _ | (refine Kx.s ?_ ?_ _; focus (first | (simp; done) | (simp; omega))) | refine Kx.t ?_ (by assumption))), Sz.nil _ _⟩
  have hne : ((n : Int) == 0) = false := by simp; omega
  obtain ⟨N, hN⟩ : ∃ N, N = 8 * n := ⟨_, rfl⟩
  have hmk : ∀ w : World, (Instr.makeSlice 54 (.int .i64 (8 * (n : Int))) (.int .i64 (8 * (n : Int)))).run Tryz.prog w = .ok (.slice (some ⟨w.heap.size, 0, none⟩) N N) (w.alloc (.cells (Array.replicate N (.int .u8 0)) 5)) := fun w => by
    have := run_makeN (P := Tryz.prog) 54 5 _ 1 1 N Tryz.underlying54 infoU8 (by omega) (by omega) w
    rw [made_u8] at this
    rw [show (8 * (n : Int)) = (N : Int) by omega]
    exact this
  go_enter Tryz.func204, Tryz.ntmps204
  have HN := Lib.hid hN
  have HLN := Lib.hid hn
  have hkA := Stab.Keeps.alloc (Stab.Keeps.refl w) (.cells (Array.replicate N (.int .u8 0)) 5)
  have hBA := blk_rep w N (.int .u8 0) 5
  have hNm : N ≤ 8000000 := by omega
  clear hN hn
  go_wp2_with fail
  generalize (w.alloc (.cells (Array.replicate N (.int .u8 0)) 5)) = w1 at *
  clear hmk
  go_loopw [15] (fun iv wr => ∃ k : Nat, k ≤ n ∧ iv = .int .i64 k ∧ Stab.Keeps w wr ∧ Blk wr w.heap.size 5 (bytesV (leN (l.take k)) ++ List.replicate (8 * (n - k)) (.int .u8 0))) (fun iv _ => n - (intOf iv).toNat)
  case atStart =>
    refine ⟨0, by omega, rfl, hkA, ?_⟩
    rw [HN.out] at hBA
    simpa [leN, bytesV] using hBA
  case round =>
    clear hkA hBA
    obtain ⟨k, hk, rfl, hK, hB⟩ := hrel
    by_cases hlt : k < n
    · obtain ⟨b, off, ha, hbw, hc⟩ := (h.keep hK).elem hlt
      subst ha
      have hkl : k < l.length := by have := HLN.out; omega
      have c0 : wr.cell? ⟨b, off + k, none⟩ = some (.float .f64 l[k]) := by have := hc 0 _ (by omega) (encN_get l k hkl); simpa using this
      have hbx := hb l[k] (List.getElem_mem hkl)
      unfold natB at hbx
      have htk : leN (l.take (k + 1)) = leN (l.take k) ++ leB 8 l[k] := by
        rw [List.take_succ_eq_append_getElem hkl, leN_app]; simp [leN]
      have hbits := ext_bits l[k]
      generalize l[k] = x at *
      have hNN := HN.out
      have hg1 : (0 : Int) ≤ 8 * (k : Int) := by omega
      have hg2 : 8 * (k : Int) ≤ (N : Int) := by omega
      have hg3 : ¬ N = 8 * k := by omega
      have hg4 : 8 ≤ N - 8 * k := by omega
      clear hNN
      clear hc
      go_upto_region 7 with (fail)
      refine Stab.keep_tail 7 (fun _ _ _ => True) (fun _ => false) (fun k => k == 6) Stab.pre_none (by kernel_rfl) (by kernel_rfl) fun hcx => ?_
      simp only [List.take_succ_cons, List.take_zero, List.drop_succ_cons, List.drop_zero]
      (with_reducible refine Stab.quiet ?_ ?_ ?_ ?_); rfl; rfl; rfl; intro K hK; go_big_quiet_op; refine hK _ ?_; clear hK K
      (with_reducible refine Stab.quiet ?_ ?_ ?_ ?_); rfl; rfl; rfl; intro K hK; go_big_quiet_op; refine hK _ ?_; clear hK K
      (with_reducible refine Stab.quiet ?_ ?_ ?_ ?_); rfl; rfl; rfl; intro K hK; go_big_quiet_op; refine hK _ ?_; clear hK K
      (with_reducible refine Stab.quiet ?_ ?_ ?_ ?_); rfl; rfl; rfl; intro K hK; go_big_quiet_op; refine hK _ ?_; clear hK K
      (with_reducible refine Stab.quiet ?_ ?_ ?_ ?_); rfl; rfl; rfl; intro K hK; go_big_quiet_op; refine hK _ ?_; clear hK K
      (with_reducible refine Stab.quiet ?_ ?_ ?_ ?_); rfl; rfl; rfl; intro K hK; go_big_quiet_op; refine hK _ ?_; clear hK K
      (with_reducible refine Stab.one ?_ ?_ ?_ ?_); rfl; rfl; rfl
      apply Exists.intro
      refine ⟨fun w1 hw1 => ?_, fun K hK => ?_⟩
      · go_simp
        exact ⟨Stab.Keeps.refl _, rfl⟩
      go_simp
      refine hK _ ?_
      clear hK K
      refine Stab.nil fun w2 hk2 _ => ?_
      have hlen : (bytesV (leN (l.take k))).length = 8 * k := by rw [bytesV_len, leN_len, List.length_take]; have := HLN.out; omega
      have hrep : List.replicate (8 * (n - k)) (Value.int .u8 0) = List.replicate 8 (.int .u8 0) ++ List.replicate (8 * (n - (k + 1))) (.int .u8 0) := by rw [List.replicate_append_replicate]; congr 1; omega
      have hB2 := hB.keep hk2
      have hK2 := Stab.Keeps.trans hK hk2
      have HT := Lib.hid htk
      have HL := Lib.hid hlen
      have HR := Lib.hid hrep
      clear hcx hB hK hk2 c0 htk hbits hg1 hg2 hlen hrep
      go_wp2_with fail
      refine (putU64_ w.heap.size (8 * k) (N - 8 * k) (N - 8 * k) x _ _ w2 hB2 (by rw [List.length_append, HL.out, List.length_replicate]; omega) hg4 hbx).mono ?_
      rintro e w3 ⟨rfl, hB3, hc3⟩
      have hov := over_mid (bytesV (leB 8 x)) (bytesV (leN (l.take k))) (List.replicate 8 (.int .u8 0)) (List.replicate (8 * (n - (k + 1))) (.int .u8 0)) (by rw [bytesV_len, leB_len]; simp)
      rw [HL.out, ← HR.out] at hov
      rw [hov, ← List.append_assoc, ← bytesV_app, ← HT.out] at hB3
      have hK3 : Stab.Keeps w w3 := Below.trans hK2 (hc3.below hK2.size (fun i hi => by omega) (fun _ _ _ _ _ _ h => h))
      clear hov hB2 hc3 hK2 hg3 hg4
      go_wp2_with fail
      exact ⟨⟨k + 1, by omega, by go_num, hK3, hB3⟩, by simp [intOf]; omega⟩
    · obtain rfl : n = k := by omega
      rw [List.take_of_length_le (by have := HLN.out; omega), Nat.sub_self, Nat.mul_zero, List.replicate_zero, List.append_nil] at hB
      go_wp2_with fail
      go_ret
      have hl : (bytesV (leN l)).length = N := by rw [bytesV_len, leN_len]; have := HLN.out; have := HN.out; omega
      exact ⟨_, N, N, rfl, by have := HLN.out; have := HN.out; omega, hK, sz_blk hB hl (by unfold maxLen; omega)⟩
end Go.Proofs.YtbakhldjfplbfaaGreat
set_option linter.unusedVariables false
set_option linter.unusedSimpArgs false
namespace Go.Proofs.YtbakhldjfplbfaaGreat
open Go.RowKit Go.Fl Go.Sl Go.Pg Go.Ch Go.Kf Go.By
/-- the data's blocks are there, and none of them is the writer's -/
def FX (w : World) (F : Nat → Prop) (mb : Nat) (v : Value) : Prop := ∀ b, F b → b < w.heap.size ∧ ¬ mX mb v b
theorem FX.kf {w w' : World} {F : Nat → Prop} {mb : Nat} {v : Value} (h : FX w F mb v) (hc : Ch no (mX mb v) w w') : KF F w w' := ⟨hc.size, fun b hb hF => hc.block b hb (h b hF).2 (fun _ _ _ _ e => e)⟩
theorem FX.next {w w' : World} {F : Nat → Prop} {mb : Nat} {v v' : Value} (h : FX w F mb v) (hc : Ch no (mX mb v) w w') (hn : Nx w v v') : FX w' F mb v' := fun b hb => by
  obtain ⟨h1, h2⟩ := h b hb
  refine ⟨Nat.lt_of_lt_of_le h1 hc.size, fun hx => ?_⟩
  rcases hx with rfl | hx
  · exact h2 (.inl rfl)
  · rcases hn with hn | ⟨k, hk, hge⟩
    · exact h2 (.inr (hx.trans hn))
    · rw [hk] at hx; cases hx; omega
theorem FX.keep {w w' : World} {F : Nat → Prop} {mb : Nat} {v : Value} (h : FX w F mb v) (hk : Stab.Keeps w w') : FX w' F mb v := fun b hb => ⟨Nat.lt_of_lt_of_le (h b hb).1 hk.size, (h b hb).2⟩
def seqB (d : Nat) (ps : List Pl) : List Nat := leB 4 ps.length ++ leN (numsOf d ps)
theorem seqB_len (d : Nat) (ps : List Pl) : (seqB d ps).length = 4 + ps.length * wid d * 8 := by unfold seqB; rw [List.length_append, leB_len, leN_len, numsOf_len]
set_option maxRecDepth 100000 in
set_option maxHeartbeats 1000000 in
theorem mSeq_ {F : Nat → Prop} (base mb d : Nat) (ps : List Pl) (a : Option Addr) (n cap : Nat) (v : Value) (bs : List Nat) (w : World) (h : MO w base mb v bs) (hb : base ≤ w.heap.size) (hs : SeqAt w F d ps a n cap) (hF : FX w F mb v) (hp : ∀ p ∈ ps, PlB p) (hl : bs.length + (seqB d ps).length ≤ 1000000000) :
    Calls Tryz.prog 185 #[.pointer (some ⟨mb, 0, none⟩), .agg #[.int .u8 d, .slice a n cap]] w (MPost w base mb v (bs ++ seqB d ps)) := by
  obtain ⟨i0, hi, hz0, hz1, hz2⟩ := info_parts infoU8
  have hk1 : Stab.Keeps w (w.alloc (.cells #[.int .u8 d, .slice a n cap] 97)) := by with_reducible (repeat (first | exact Kx.r _ | assumption | refine Kx.a ?_ _ | refine Kx.d ?_ | refine Kx.e ?_ _ | (refine Kx.s ?_ ?_ _; focus (first | (simp; done) | (simp; omega))) | refine Kx.t ?_ (by assumption)))
  have hB1 : Blk (w.alloc (.cells #[.int .u8 d, .slice a n cap] 97)) w.heap.size 97 [.int .u8 d, .slice a n cap] := by with_reducible (repeat (first | assumption | ((refine Bx.n ⟨?_, ?_⟩) <;> focus (first | rfl | (simp; done) | omega)) | refine Bx.a ?_ _ | refine Bx.d ?_ | refine Bx.e ?_ _ | (refine Bx.p ?_ ?_; focus (first | (simp; done) | (simp; omega) | omega))))
  have hM1 := h.keep hk1
  have hs1 := hs.keep hk1
  have hF1 := hF.keep hk1
  have hLen := fun w' => seqLen_ d ps a n cap w' w hs
  have hsm := hs.sm
  have hbig := hs.big
  have T1 : ∀ bs' e w', MPost _ base mb v bs' e w' → MPost w base mb v bs' e w' := fun _ _ _ => MPost.after (Ch.of_keeps hk1) (.inl rfl)
  have hb1 := Nat.le_trans hb hk1.size
  have hsl := seqB_len d ps
  rw [hsl] at hl
  unfold seqB
  clear h hs hF hk1 hsl
  go_enter Tryz.func185, Tryz.ntmps185
  go_upto_region 1 with (fail)
  generalize (w.alloc (.cells #[.int .u8 d, .slice a n cap] 97)) = w1 at *
  have g0 := hB1.cell (i := 0) rfl
  have g1 := hB1.cell (i := 1) rfl
  have gf := hB1.free
  have gl := hB1.lt
  go_wp2_with fail
  refine (hLen _).mono ?_
  clear hLen
  rintro e w2 ⟨rfl, hk2⟩
  have hM2 := hM1.keep hk2
  have hB2 := hB1.keep hk2
  have hs2 := hs1.keep hk2
  have hF2 := hF1.keep hk2
  have T2 : ∀ bs' e w', MPost w2 base mb v bs' e w' → MPost w base mb v bs' e w' := fun _ _ _ h => T1 _ _ _ (MPost.after (Ch.of_keeps hk2) (.inl rfl) h)
  have hb2 := Nat.le_trans hb1 hk2.size
  clear g0 g1 gf gl hM1 hB1 hs1 hF1 hk2 T1 hb1
  go_wp2_with fail
  refine (mCount_ base mb ps.length v bs w2 hM2 hb2 (by omega) (by omega)).mono ?_
  rintro e w3 ⟨rfl, v3, hM3, hc3, hn3⟩
  have hB3 := hM2.blkCh hc3 hB2 (by decide) (by decide)
  have hs3 := hs2.kf (hF2.kf hc3)
  have T3 : ∀ bs' e w', MPost w3 base mb v3 bs' e w' → MPost w base mb v bs' e w' := fun _ _ _ h => T2 _ _ _ (MPost.after hc3 hn3 h)
  have hb3 := Nat.le_trans hb2 hc3.size
  obtain ⟨al, cap3, rfl, _, _, _⟩ := of_owns hM3.own
  have hFab := fun w' (hk : Stab.Keeps w3 w') => fab_ a n cap (numsOf d ps) w' (by rw [numsOf_len, hs3.len]) (hs3.sz.keep hk) hbig (numsOf_B hp)
  clear hM2 hB2 hs2 hF2 hc3 hn3 T2 hb2
  have hnl : (leN (numsOf d ps)).length = ps.length * wid d * 8 := by rw [leN_len, numsOf_len]
  have hnl2 := numsOf_len d ps
  have g0 := hB3.cell (i := 0) rfl
  have g1 := hB3.cell (i := 1) rfl
  have gf := hB3.free
  have gl := hB3.lt
  have m0 := hM3.blk.cell (i := 0) rfl
  have mf := hM3.blk.free
  have ml := hM3.blk.lt
  have HI := Lib.hid hi
  have HZ := Lib.hid hz0
  have HZ1 := Lib.hid hz1
  have HZ2 := Lib.hid hz2
  have HM := Lib.hid hM3
  have HF := Lib.hid hFab
  have HT := Lib.hid T3
  have hbd : (bs ++ leB 4 ps.length).length + (numsOf d ps).length * 8 ≤ 1000000000 := by rw [List.length_append, leB_len, numsOf_len]; omega
  have HLE := Lib.hid hbd
  have HB3 := Lib.hid hb3
  clear hi hz0 hz1 hz2 hM3 hFab hB3 hs3 hp T3 hl hbd hb3 hnl hnl2
  generalize hbs : bs ++ leB 4 ps.length = bs3 at *
  have hnl := leN_len (numsOf d ps)
  have HNL := Lib.hid hnl
  have HBS := Lib.hid hbs
  clear hnl hbs
  go_wp2_with fail
  go_region_law (first
    | (go_simp; go_at_call 204; (refine (HF.out _ (Stab.Keeps.drew (Stab.Keeps.refl _))).mono ?_); rintro e w4 ⟨A, N, C, rfl, hN, hk4, hz4⟩; subst hN; have hM4 := (HM.out.keep (Stab.Keeps.drew (Stab.Keeps.refl _))).keep hk4; have q0 := hM4.blk.cell (i := 0) rfl; have qf := hM4.blk.free; have ql := hM4.blk.lt)
    | (refine step_append_sz (by rfl) _ _ 54 (by rfl) base 5 i0 _ 1 1 Tryz.underlying54 HI.out HZ.out HZ1.out HZ2.out (by rfl) (by decide) _ bs3.length (bytesV bs3) (by rfl) hM4.own _ _ _ _ (by rfl) hz4 (bytesV_one _) (by have := HLE.out; unfold maxLen; omega) (by have := HLE.out; omega) (Nat.le_trans HB3.out hk4.size) ?_; intro al' c' w' hown' hgr hat; have hfin := mo_fin (m := (numsOf d ps).length * 8) (news := leN (numsOf d ps)) (Ch.of_keeps (Stab.Keeps.trans (Stab.Keeps.drew (Stab.Keeps.refl _)) hk4)) hM4 HNL.out hown' hgr hat; have hb2 := hM4.blk.grown hgr (row_apart hM4.own hM4.blk (by decide)); have n0 := hb2.cell (i := 0) rfl; have nf := hb2.free; have nl := hb2.lt))
  all_goals
    go_end0
    have := HT.out _ _ _ hfin
    rw [← List.append_assoc, HBS.out]
    exact this
end Go.Proofs.YtbakhldjfplbfaaGreat
set_option linter.unusedVariables false
set_option linter.unusedSimpArgs false
namespace Go.Proofs.YtbakhldjfplbfaaGreat
open Go.RowKit Go.Fl Go.Sl Go.Pg Go.Ch Go.Kf Go.By
/-- what a call that appends to a row leaves -/
def AppPost (w : World) (base : Nat) (v : Value) (bs : List Nat) (e : Ending) (w' : World) : Prop := ∃ v', e = .returned v' ∧ w'.ownsRow base 5 1 v' bs.length (bytesV bs) ∧ Ch no (fun b => some b = v.ownBlock) w w' ∧ Nx w v v'
/-- the data's blocks are there, and none of them is the row's -/
def FR (w : World) (F : Nat → Prop) (v : Value) : Prop := ∀ b, F b → b < w.heap.size ∧ some b ≠ v.ownBlock
theorem FR.kf {w w' : World} {F : Nat → Prop} {v : Value} (h : FR w F v) (hc : Ch no (fun b => some b = v.ownBlock) w w') : KF F w w' := ⟨hc.size, fun b hb hF => hc.block b hb (h b hF).2 (fun _ _ _ _ e => e)⟩
theorem FR.keep {w w' : World} {F : Nat → Prop} {v : Value} (h : FR w F v) (hk : Stab.Keeps w w') : FR w' F v := fun b hb => ⟨Nat.lt_of_lt_of_le (h b hb).1 hk.size, (h b hb).2⟩
theorem FR.fx {w w' : World} {F : Nat → Prop} {v : Value} {mb : Nat} (h : FR w F v) (hk : Stab.Keeps w w') (hm : w.heap.size ≤ mb) : FX w' F mb v := fun b hb => ⟨Nat.lt_of_lt_of_le (h b hb).1 hk.size, fun hx => hx.elim (fun e => by have := (h b hb).1; omega) (h b hb).2⟩
theorem FX.fr {w : World} {F : Nat → Prop} {v : Value} {mb : Nat} (h : FX w F mb v) : FR w F v := fun b hb => ⟨(h b hb).1, fun hx => (h b hb).2 (.inr hx)⟩
/-- the writer's work told of its row alone -/
theorem app_fin {w wm w' : World} {base mb : Nat} {v : Value} {bs : List Nat} {e : Ending} (hk : Stab.Keeps w wm) (hm : w.heap.size ≤ mb) (h : MPost wm base mb v bs e w') : ∃ v', MO w' base mb v' bs ∧ AppPost w base v bs (.returned v') w' := by
  obtain ⟨_, v', h1, h2, h3⟩ := h
  refine ⟨v', h1, v', rfl, h1.own, ?_, ?_⟩
  · refine (Ch.of_keeps (T := no) (X := fun b => some b = v.ownBlock) hk).since h2 (fun _ h => h) (fun i hi => ?_) (fun _ h => h)
    rcases hi with rfl | hi
    · exact .inr hm
    · exact .inl hi
  · rcases h3 with h3 | ⟨k, hk', hge⟩
    · exact .inl h3
    · exact .inr ⟨k, hk', Nat.le_trans hk.size hge⟩
/-- an append by a call, its result stored in the writer -/
theorem mo_call {w w' : World} {base mb : Nat} {v v' : Value} {bs bs' : List Nat} (h : MO w base mb v bs) (ha : AppPost w base v bs' (.returned v') w') : MPost w base mb v bs' (.returned (.tuple #[])) (w'.setCell ⟨mb, 0, none⟩ v') := by
  obtain ⟨v2, he, hown, hc, hn⟩ := ha
  cases he
  have hne : some mb ≠ v.ownBlock := row_apart h.own h.blk (by decide)
  have hb2 : Blk w' mb 227 [v] := hc.blk h.blk hne (fun e => e)
  have hne2 := row_apart hown hb2 (by decide)
  have hb3 := hb2.set 0 v'
  simp only [List.set] at hb3
  refine ⟨rfl, v', ⟨hb3, ?_, h.ge⟩, ?_, hn⟩
  · exact row_same hown fun g hg => Below.heap_setCell _ _ _ _ (fun e => hne2 (by rw [hg]; exact congrArg some e.symm))
  · have h2 : Ch no (mX mb v) w w' := hc.mono (fun _ h => h) (fun i hi => .inr hi)
    exact h2.setCell (p := ⟨mb, 0, none⟩) (.inl (.inl rfl)) _
theorem newMarsh_ (v : Value) (hv : ∃ a n c, v = .slice a n c) (w : World) : Calls Tryz.prog 179 #[v] w (fun e w' => ∃ mb, e = .returned (.pointer (some ⟨mb, 0, none⟩)) ∧ w.heap.size ≤ mb ∧ Stab.Keeps w w' ∧ Blk w' mb 227 [v]) := by
  obtain ⟨a, n, c, rfl⟩ := hv
  go_enter Tryz.func179, Tryz.ntmps179
  go_wp2_with fail
  go_ret
  exact ⟨_, rfl, Nat.le_refl _, by with_reducible (repeat (first | exact Kx.r _ | assumption | refine Kx.a ?_ _ | refine Kx.d ?_ | refine Kx.e ?_ _ | (refine Kx.s ?_ ?_ _; focus (first | (simp; done) | (simp; omega))) | refine Kx.t ?_ (by assumption))), by with_reducible (repeat (first | assumption | ((refine Bx.n ⟨?_, ?_⟩) <;> focus (first | rfl | (simp; done) | omega)) | refine Bx.a ?_ _ | refine Bx.d ?_ | refine Bx.e ?_ _ | (refine Bx.p ?_ ?_; focus (first | (simp; done) | (simp; omega) | omega))))⟩
theorem ext_from (x : Nat) (w : World) : (callFunc 60 #[.int .u64 x]).run Tryz.prog w = .ok (.value (.float .f64 x)) w := by
  rw [run_callFunc_extern (e := Extern.MathFloatBits.float64frombits) Tryz.func60 (by kernel_rfl) (by kernel_rfl) (by kernel_rfl) (by kernel_rfl)]
  rfl
def nanB : Nat := 9221120237041090561
set_option maxRecDepth 100000 in
theorem mnan_ (w : World) : Calls Tryz.prog 183 #[] w (One w (.float .f64 nanB)) := by
  have h : ∀ w, (callFunc 60 #[.int .u64 9221120237041090561]).run Tryz.prog w = .ok (.value (.float .f64 nanB)) w := fun w => ext_from 9221120237041090561 w
  go_enter Tryz.func183, Tryz.ntmps183
  go_wp2
  go_ret
  exact ⟨rfl, by with_reducible (repeat (first | exact Kx.r _ | assumption | refine Kx.a ?_ _ | refine Kx.d ?_ | refine Kx.e ?_ _ | (refine Kx.s ?_ ?_ _; focus (first | (simp; done) | (simp; omega))) | refine Kx.t ?_ (by assumption)))⟩
def headB (k d : Nat) : List Nat := 1 :: leB 4 (d * 1000 + codeN k)
theorem headB_len (k d : Nat) : (headB k d).length = 5 := by unfold headB; rw [List.length_cons, leB_len]
def nanP : Pl := ⟨nanB, nanB, nanB, nanB⟩
def ptB (d : Nat) (l : List Pl) : List Nat := headB 1 d ++ leN ((l.headD nanP).nums d)
def lineB (d : Nat) (l : List Pl) : List Nat := headB 2 d ++ seqB d l
set_option maxRecDepth 100000 in
set_option maxHeartbeats 1000000 in
theorem lineApp_ {F : Nat → Prop} (base d : Nat) (ps : List Pl) (a : Option Addr) (n cap : Nat) (v : Value) (bs : List Nat) (w : World) (hown : w.ownsRow base 5 1 v bs.length (bytesV bs)) (hb : base ≤ w.heap.size) (hs : SeqAt w F d ps a n cap) (hF : FR w F v) (hp : ∀ p ∈ ps, PlB p) (hl : bs.length + (lineB d ps).length ≤ 1000000000) :
    Calls Tryz.prog 112 #[.agg #[.int .u8 d, .slice a n cap], v] w (AppPost w base v (bs ++ lineB d ps)) := by
  obtain ⟨al, cp, rfl, _, _, _⟩ := of_owns hown
  have hk1 : Stab.Keeps w (w.alloc (.cells #[.int .u8 d, .slice a n cap] 99)) := by with_reducible (repeat (first | exact Kx.r _ | assumption | refine Kx.a ?_ _ | refine Kx.d ?_ | refine Kx.e ?_ _ | (refine Kx.s ?_ ?_ _; focus (first | (simp; done) | (simp; omega))) | refine Kx.t ?_ (by assumption)))
  have hB1 : Blk (w.alloc (.cells #[.int .u8 d, .slice a n cap] 99)) w.heap.size 99 [.int .u8 d, .slice a n cap] := by with_reducible (repeat (first | assumption | ((refine Bx.n ⟨?_, ?_⟩) <;> focus (first | rfl | (simp; done) | omega)) | refine Bx.a ?_ _ | refine Bx.d ?_ | refine Bx.e ?_ _ | (refine Bx.p ?_ ?_; focus (first | (simp; done) | (simp; omega) | omega))))
  have hTy := fun w' => lineType_ d a n cap w'
  have hd4 := hs.d4
  have hll : (lineB d ps).length = 5 + (seqB d ps).length := by unfold lineB; rw [List.length_append, headB_len]
  rw [hll] at hl
  have e0 : bs ++ lineB d ps = bs ++ [1] ++ leB 4 (d * 1000 + codeN 2) ++ seqB d ps := by unfold lineB headB; simp
  rw [e0]
  generalize hE : bs ++ [1] ++ leB 4 (d * 1000 + codeN 2) ++ seqB d ps = E at *
  clear e0 hll
  go_enter Tryz.func112, Tryz.ntmps112
  go_wp2_with fail
  generalize (w.alloc (.cells #[.int .u8 d, .slice a n cap] 99)) = w1 at *
  refine (newMarsh_ _ ⟨_, _, _, rfl⟩ _).mono ?_
  rintro e w2 ⟨mb, rfl, hmb, hk2, hmB⟩
  have hk12 := Stab.Keeps.trans hk1 hk2
  have hM2 : MO w2 base mb (.slice al bs.length cp) bs := ⟨hmB, owns_keep hown hk12, by have := hk1.size; omega⟩
  have hmw : w.heap.size ≤ mb := by have := hk1.size; omega
  have hFX2 := hF.fx hk12 hmw
  have hs2 := hs.keep hk12
  have hB2 := hB1.keep hk2
  have hb2 := Nat.le_trans hb hk12.size
  clear hmB hk1 hk2 hB1 hs hF hown hmb
  go_wp2_with fail
  refine (mOrder_ base mb _ bs w2 hM2 hb2 (by omega)).mono ?_
  rintro e w3 ⟨rfl, v3, hM3, hc3, hn3⟩
  have hB3 := hM2.blkCh hc3 hB2 (by decide) (by decide)
  have hs3 := hs2.kf (hFX2.kf hc3)
  have hF3 := hFX2.next hc3 hn3
  have hb3 := Nat.le_trans hb2 hc3.size
  have T3 : ∀ bs' e w', MPost w3 base mb v3 bs' e w' → MPost w2 base mb (.slice al bs.length cp) bs' e w' := fun _ _ _ h => MPost.after hc3 hn3 h
  clear hM2 hB2 hs2 hFX2 hb2 hc3 hn3
  have g0 := hB3.cell (i := 0) rfl
  have g1 := hB3.cell (i := 1) rfl
  have gf := hB3.free
  have gl := hB3.lt
  go_wp2_with fail
  refine (hTy _).mono ?_
  rintro e w4 ⟨rfl, hk4⟩
  have hM4 := hM3.keep hk4
  have hB4 := hB3.keep hk4
  have hs4 := hs3.keep hk4
  have hF4 := hF3.keep hk4
  have hb4 := Nat.le_trans hb3 hk4.size
  have T4 : ∀ bs' e w', MPost w4 base mb v3 bs' e w' → MPost w2 base mb (.slice al bs.length cp) bs' e w' := fun _ _ _ h => T3 _ _ _ (MPost.after (Ch.of_keeps hk4) (.inl rfl) h)
  clear hM3 hB3 hs3 hF3 hb3 hk4 T3 g0 g1 gf gl
  go_wp2_with fail
  refine (mType_ base mb 2 d v3 _ w4 hM4 hb4 (by omega) hd4 (by rw [List.length_append]; simp; omega)).mono ?_
  rintro e w5 ⟨rfl, v5, hM5, hc5, hn5⟩
  have hB5 := hM4.blkCh hc5 hB4 (by decide) (by decide)
  have hs5 := hs4.kf (hF4.kf hc5)
  have hF5 := hF4.next hc5 hn5
  have hb5 := Nat.le_trans hb4 hc5.size
  have T5 : ∀ bs' e w', MPost w5 base mb v5 bs' e w' → MPost w2 base mb (.slice al bs.length cp) bs' e w' := fun _ _ _ h => T4 _ _ _ (MPost.after hc5 hn5 h)
  clear hM4 hB4 hs4 hF4 hb4 hc5 hn5 T4
  have g0 := hB5.cell (i := 0) rfl
  have g1 := hB5.cell (i := 1) rfl
  have gf := hB5.free
  have gl := hB5.lt
  go_wp2_with fail
  refine (mSeq_ base mb d ps a n cap v5 _ w5 hM5 hb5 hs5 hF5 hp (by rw [List.length_append, List.length_append, leB_len]; simp; omega)).mono ?_
  rintro e w6 ⟨rfl, v6, hM6, hc6, hn6⟩
  obtain ⟨v7, hM7, hA⟩ := app_fin hk12 hmw (T5 _ _ _ (MPost.after hc6 hn6 (MPost.here hM6)))
  rw [hE] at hA hM7
  have m0 := hM7.blk.cell (i := 0) rfl
  have mf := hM7.blk.free
  have ml := hM7.blk.lt
  obtain ⟨al7, cp7, rfl, _, _, _⟩ := of_owns hM7.own
  clear hM5 hB5 hs5 hF5 hb5 hc6 hn6 T5 hM6 hM7 g0 g1 gf gl
  go_wp2_with fail
  go_ret
  exact hA
end Go.Proofs.YtbakhldjfplbfaaGreat
set_option linter.unusedVariables false
set_option linter.unusedSimpArgs false
namespace Go.Proofs.YtbakhldjfplbfaaGreat
open Go.RowKit Go.Fl Go.Sl Go.Pg Go.Ch Go.Kf Go.By
/-- a row's append under way, from w on: the writer at mb -/
structure AO (w : World) (base mb : Nat) (v : Value) (wk : World) (vk : Value) (bs : List Nat) : Prop where
  mo : MO wk base mb vk bs
  ch : Ch no (fun b => some b = v.ownBlock) w wk
  nx : Nx w v vk
  ge : w.heap.size ≤ mb
theorem AO.start {w w2 : World} {base mb : Nat} {v : Value} {bs : List Nat} (hk : Stab.Keeps w w2) (hm : w.heap.size ≤ mb) (hM : MO w2 base mb v bs) : AO w base mb v w2 v bs := ⟨hM, Ch.of_keeps hk, .inl rfl, hm⟩
theorem AO.keep {w wk w' : World} {base mb : Nat} {v vk : Value} {bs : List Nat} (h : AO w base mb v wk vk bs) (hk : Stab.Keeps wk w') : AO w base mb v w' vk bs := ⟨h.mo.keep hk, h.ch.trans (Ch.of_keeps hk), h.nx, h.ge⟩
theorem AO.step {w wk w' : World} {base mb : Nat} {v vk : Value} {bs bs' : List Nat} {e : Ending} (h : AO w base mb v wk vk bs) (hp : MPost wk base mb vk bs' e w') :
    ∃ v', e = .returned (.tuple #[]) ∧ AO w base mb v w' v' bs' ∧ ∀ b T vs, Blk wk b T vs → T ≠ 227 → T ≠ 5 → Blk w' b T vs := by
  obtain ⟨rfl, v', h1, h2, h3⟩ := hp
  refine ⟨v', rfl, ⟨h1, h.ch.since h2 (fun _ h => h) (fun i hi => ?_) (fun _ h => h), ?_, h.ge⟩, fun b T vs hb e1 e2 => h.mo.blkCh h2 hb e1 e2⟩
  · rcases hi with rfl | hi
    · exact .inr h.ge
    · rcases h.nx with hn | ⟨k, hk, hge⟩
      · exact .inl (hi.trans hn)
      · rw [hk] at hi; cases hi; exact .inr hge
  · rcases h3 with h3 | ⟨k, hk, hge⟩
    · rcases h.nx with hn | ⟨k, hk, hge⟩
      · exact .inl (h3.trans hn)
      · exact .inr ⟨k, h3.trans hk, hge⟩
    · exact .inr ⟨k, hk, Nat.le_trans h.ch.size hge⟩
theorem AO.set {w wk : World} {base mb b i : Nat} {v vk u : Value} {bs : List Nat} {T : TypeId} {vs : List Value} (h : AO w base mb v wk vk bs) (hb : Blk wk b T vs) (hge : w.heap.size ≤ b) (h1 : T ≠ 227) (h2 : T ≠ 5) : AO w base mb v (wk.setCell ⟨b, i, none⟩ u) vk bs :=
  ⟨h.mo.ch ((Ch.refl no (· = b) wk).setCell (p := ⟨b, i, none⟩) (.inl rfl) u) hb h1 h2, h.ch.setCell (p := ⟨b, i, none⟩) (.inr hge) u, h.nx, h.ge⟩
theorem AO.bound {w wk : World} {base mb : Nat} {v vk : Value} {bs : List Nat} (h : AO w base mb v wk vk bs) (hb : base ≤ w.heap.size) : base ≤ wk.heap.size := Nat.le_trans hb h.ch.size
theorem AO.fin {w wk : World} {base mb : Nat} {v vk : Value} {bs : List Nat} (h : AO w base mb v wk vk bs) : AppPost w base v bs (.returned vk) wk := ⟨vk, rfl, h.mo.own, h.ch, h.nx⟩
theorem nanP_B : PlB nanP := ⟨by unfold natB nanP nanB; decide, by unfold natB nanP nanB; decide, by unfold natB nanP nanB; decide, by unfold natB nanP nanB; decide⟩
theorem ptB_len (d : Nat) (l : List Pl) : (ptB d l).length = 5 + wid d * 8 := by unfold ptB; rw [List.length_append, headB_len, leN_len, nums_len]
set_option maxRecDepth 100000 in
set_option maxHeartbeats 2000000 in
theorem ptApp_ (base d : Nat) (l : List Pl) (v : Value) (bs : List Nat) (w : World) (hown : w.ownsRow base 5 1 v bs.length (bytesV bs)) (hb : base ≤ w.heap.size) (hd : d < 4) (hp : ∀ p ∈ l, PlB p) (hl : bs.length + (ptB d l).length ≤ 900000000) :
    Calls Tryz.prog 111 #[.agg (ptC d l).toArray, v] w (AppPost w base v (bs ++ ptB d l)) := by
  obtain ⟨al, cp, rfl, _, _, _⟩ := of_owns hown
  rw [ptB_len] at hl
  have hwl := wid_le d
  have hbs : bs.length ≤ 999999995 := by omega
  have hwp := wid_pos d
  have e0 : bs ++ ptB d l = bs ++ [1] ++ leB 4 (d * 1000 + codeN 1) ++ leN ((l.headD nanP).nums d) := by unfold ptB headB; simp
  have hTy := fun w' => ptType_ d l w'
  rw [e0]
  clear e0
  cases l with
  | nil =>
    have hq : PlB nanP := nanP_B
    have hCo := fun (mb : Nat) (vk : Value) (bk : List Nat) (wk : World) h h2 h3 => mCoords_ base mb d nanP vk bk wk h h2 hd hq h3
    simp only [List.headD_nil, List.headD_cons]
    generalize hE : bs ++ [1] ++ leB 4 (d * 1000 + codeN 1) ++ leN ((nanP).nums d) = E at *
    have hk1 : Stab.Keeps w (w.alloc (.cells #[.float .f64 0, .float .f64 0, .float .f64 0, .float .f64 0, .int .u8 d, .bool false] 141)) := by with_reducible (repeat (first | exact Kx.r _ | assumption | refine Kx.a ?_ _ | refine Kx.d ?_ | refine Kx.e ?_ _ | (refine Kx.s ?_ ?_ _; focus (first | (simp; done) | (simp; omega))) | refine Kx.t ?_ (by assumption)))
    have hB1 : Blk (w.alloc (.cells #[.float .f64 0, .float .f64 0, .float .f64 0, .float .f64 0, .int .u8 d, .bool false] 141)) w.heap.size 141 [.float .f64 0, .float .f64 0, .float .f64 0, .float .f64 0, .int .u8 d, .bool false] := by with_reducible (repeat (first | assumption | ((refine Bx.n ⟨?_, ?_⟩) <;> focus (first | rfl | (simp; done) | omega)) | refine Bx.a ?_ _ | refine Bx.d ?_ | refine Bx.e ?_ _ | (refine Bx.p ?_ ?_; focus (first | (simp; done) | (simp; omega) | omega))))
    simp only [ptC] at hTy ⊢
    clear hp hq
    go_enter Tryz.func111, Tryz.ntmps111
    go_wp2_with fail
    generalize (w.alloc (.cells #[.float .f64 0, .float .f64 0, .float .f64 0, .float .f64 0, .int .u8 d, .bool false] 141)) = w1 at *
    refine (newMarsh_ _ ⟨_, _, _, rfl⟩ _).mono ?_
    rintro e w2 ⟨mb, rfl, hmb, hk2, hmB⟩
    have hk12 := Stab.Keeps.trans hk1 hk2
    have hA2 := AO.start hk12 (by have := hk1.size; omega) ⟨hmB, owns_keep hown hk12, by have := hk1.size; omega⟩
    have hB2 := hB1.keep hk2
    clear hmB hk1 hk2 hB1 hown hmb hk12
    go_wp2_with fail
    refine (mOrder_ base mb _ bs w2 hA2.mo (hA2.bound hb) (by omega)).mono ?_
    intro e w3 hp3
    obtain ⟨v3, rfl, hA3, hK3⟩ := hA2.step hp3
    have hB3 := hK3 _ _ _ hB2 (by decide) (by decide)
    clear hA2 hB2 hp3 hK3
    have g0 := hB3.cell (i := 0) rfl
    have g1 := hB3.cell (i := 1) rfl
    have g2 := hB3.cell (i := 2) rfl
    have g3 := hB3.cell (i := 3) rfl
    have g4 := hB3.cell (i := 4) rfl
    have g5 := hB3.cell (i := 5) rfl
    have gf := hB3.free
    have gl := hB3.lt
    go_wp2_with fail
    refine (hTy _).mono ?_
    rintro e w4 ⟨rfl, hk4⟩
    have hA4 := hA3.keep hk4
    have hB4 := hB3.keep hk4
    clear hA3 hB3 hk4 g0 g1 g2 g3 g4 g5 gf gl
    go_wp2_with fail
    refine (mType_ base mb 1 d v3 _ w4 hA4.mo (hA4.bound hb) (by omega) hd (by rw [List.length_append]; simp; omega)).mono ?_
    intro e w5 hp5
    obtain ⟨v5, rfl, hA5, hK5⟩ := hA4.step hp5
    have hB5 := hK5 _ _ _ hB4 (by decide) (by decide)
    clear hA4 hB4 hp5 hK5
    have g0 := hB5.cell (i := 0) rfl
    have g1 := hB5.cell (i := 1) rfl
    have g2 := hB5.cell (i := 2) rfl
    have g3 := hB5.cell (i := 3) rfl
    have g4 := hB5.cell (i := 4) rfl
    have g5 := hB5.cell (i := 5) rfl
    have gf := hB5.free
    have gl := hB5.lt
    go_wp2_with fail
    refine (mnan_ _).mono ?_
    rintro e wa ⟨rfl, hka⟩
    have hAa := hA5.keep hka
    have hBa := hB5.keep hka
    have hA6 := hAa.set (i := 0) (u := .float .f64 nanB) hBa (Nat.le_refl _) (by decide) (by decide)
    have hB6 := hBa.set 0 (.float .f64 nanB)
    simp only [List.set] at hB6
    clear hA5 hB5 hka hAa g0 g1 g2 g3 g4 g5 gf gl
    have g0 := hBa.cell (i := 0) rfl
    have g1 := hBa.cell (i := 1) rfl
    have g2 := hBa.cell (i := 2) rfl
    have g3 := hBa.cell (i := 3) rfl
    have g4 := hBa.cell (i := 4) rfl
    have g5 := hBa.cell (i := 5) rfl
    have gf := hBa.free
    have gl := hBa.lt
    go_upto_region 6 with (fail)
    clear g0 g1 g2 g3 g4 g5 gf gl hBa
    generalize (wa.setCell ⟨w.heap.size, 0, none⟩ (.float .f64 nanB)) = w6 at *
    have g0 := hB6.cell (i := 0) rfl
    have g1 := hB6.cell (i := 1) rfl
    have g2 := hB6.cell (i := 2) rfl
    have g3 := hB6.cell (i := 3) rfl
    have g4 := hB6.cell (i := 4) rfl
    have g5 := hB6.cell (i := 5) rfl
    have gf := hB6.free
    have gl := hB6.lt
    go_wp2_with fail
    refine (mnan_ _).mono ?_
    rintro e wa ⟨rfl, hka⟩
    have hAa := hA6.keep hka
    have hBa := hB6.keep hka
    have hA7 := hAa.set (i := 1) (u := .float .f64 nanB) hBa (Nat.le_refl _) (by decide) (by decide)
    have hB7 := hBa.set 1 (.float .f64 nanB)
    simp only [List.set] at hB7
    clear hA6 hB6 hka hAa g0 g1 g2 g3 g4 g5 gf gl
    have g0 := hBa.cell (i := 0) rfl
    have g1 := hBa.cell (i := 1) rfl
    have g2 := hBa.cell (i := 2) rfl
    have g3 := hBa.cell (i := 3) rfl
    have g4 := hBa.cell (i := 4) rfl
    have g5 := hBa.cell (i := 5) rfl
    have gf := hBa.free
    have gl := hBa.lt
    go_upto_region 7 with (fail)
    clear g0 g1 g2 g3 g4 g5 gf gl hBa
    generalize (wa.setCell ⟨w.heap.size, 1, none⟩ (.float .f64 nanB)) = w7 at *
    have g0 := hB7.cell (i := 0) rfl
    have g1 := hB7.cell (i := 1) rfl
    have g2 := hB7.cell (i := 2) rfl
    have g3 := hB7.cell (i := 3) rfl
    have g4 := hB7.cell (i := 4) rfl
    have g5 := hB7.cell (i := 5) rfl
    have gf := hB7.free
    have gl := hB7.lt
    go_wp2_with fail
    refine (mnan_ _).mono ?_
    rintro e wa ⟨rfl, hka⟩
    have hAa := hA7.keep hka
    have hBa := hB7.keep hka
    have hA8 := hAa.set (i := 2) (u := .float .f64 nanB) hBa (Nat.le_refl _) (by decide) (by decide)
    have hB8 := hBa.set 2 (.float .f64 nanB)
    simp only [List.set] at hB8
    clear hA7 hB7 hka hAa g0 g1 g2 g3 g4 g5 gf gl
    have g0 := hBa.cell (i := 0) rfl
    have g1 := hBa.cell (i := 1) rfl
    have g2 := hBa.cell (i := 2) rfl
    have g3 := hBa.cell (i := 3) rfl
    have g4 := hBa.cell (i := 4) rfl
    have g5 := hBa.cell (i := 5) rfl
    have gf := hBa.free
    have gl := hBa.lt
    go_upto_region 8 with (fail)
    clear g0 g1 g2 g3 g4 g5 gf gl hBa
    generalize (wa.setCell ⟨w.heap.size, 2, none⟩ (.float .f64 nanB)) = w8 at *
    have g0 := hB8.cell (i := 0) rfl
    have g1 := hB8.cell (i := 1) rfl
    have g2 := hB8.cell (i := 2) rfl
    have g3 := hB8.cell (i := 3) rfl
    have g4 := hB8.cell (i := 4) rfl
    have g5 := hB8.cell (i := 5) rfl
    have gf := hB8.free
    have gl := hB8.lt
    go_wp2_with fail
    refine (mnan_ _).mono ?_
    rintro e wa ⟨rfl, hka⟩
    have hAa := hA8.keep hka
    have hBa := hB8.keep hka
    have hA9 := hAa.set (i := 3) (u := .float .f64 nanB) hBa (Nat.le_refl _) (by decide) (by decide)
    have hB9 := hBa.set 3 (.float .f64 nanB)
    simp only [List.set] at hB9
    clear hA8 hB8 hka hAa g0 g1 g2 g3 g4 g5 gf gl
    have g0 := hBa.cell (i := 0) rfl
    have g1 := hBa.cell (i := 1) rfl
    have g2 := hBa.cell (i := 2) rfl
    have g3 := hBa.cell (i := 3) rfl
    have g4 := hBa.cell (i := 4) rfl
    have g5 := hBa.cell (i := 5) rfl
    have gf := hBa.free
    have gl := hBa.lt
    go_upto_region 9 with (fail)
    clear g0 g1 g2 g3 g4 g5 gf gl hBa
    generalize (wa.setCell ⟨w.heap.size, 3, none⟩ (.float .f64 nanB)) = w9 at *
    have g0 := hB9.cell (i := 0) rfl
    have g1 := hB9.cell (i := 1) rfl
    have g2 := hB9.cell (i := 2) rfl
    have g3 := hB9.cell (i := 3) rfl
    have g4 := hB9.cell (i := 4) rfl
    have g5 := hB9.cell (i := 5) rfl
    have gf := hB9.free
    have gl := hB9.lt
    go_wp2_with fail
    refine (hCo mb v5 _ w9 hA9.mo (hA9.bound hb) (by rw [List.length_append, List.length_append, leB_len]; simp; omega)).mono ?_
    intro e wz hpz
    obtain ⟨vz, rfl, hAz, hKz⟩ := hA9.step hpz
    rw [hE] at hAz
    have m0 := hAz.mo.blk.cell (i := 0) rfl
    have mf := hAz.mo.blk.free
    have ml := hAz.mo.blk.lt
    have hfin := hAz.fin
    obtain ⟨alz, cpz, rfl, _, _, _⟩ := of_owns hAz.mo.own
    clear hA9 hB9 hpz hKz hAz g0 g1 g2 g3 g4 g5 gf gl
    go_wp2_with fail
    go_ret
    exact hfin
  | cons q l =>
    have hq : PlB q := hp q (by simp)
    have hCo := fun (mb : Nat) (vk : Value) (bk : List Nat) (wk : World) h h2 h3 => mCoords_ base mb d q vk bk wk h h2 hd hq h3
    simp only [List.headD_nil, List.headD_cons]
    generalize hE : bs ++ [1] ++ leB 4 (d * 1000 + codeN 1) ++ leN ((q).nums d) = E at *
    have hk1 : Stab.Keeps w (w.alloc (.cells #[.float .f64 q.x, .float .f64 q.y, .float .f64 q.z, .float .f64 q.m, .int .u8 d, .bool true] 141)) := by with_reducible (repeat (first | exact Kx.r _ | assumption | refine Kx.a ?_ _ | refine Kx.d ?_ | refine Kx.e ?_ _ | (refine Kx.s ?_ ?_ _; focus (first | (simp; done) | (simp; omega))) | refine Kx.t ?_ (by assumption)))
    have hB1 : Blk (w.alloc (.cells #[.float .f64 q.x, .float .f64 q.y, .float .f64 q.z, .float .f64 q.m, .int .u8 d, .bool true] 141)) w.heap.size 141 [.float .f64 q.x, .float .f64 q.y, .float .f64 q.z, .float .f64 q.m, .int .u8 d, .bool true] := by with_reducible (repeat (first | assumption | ((refine Bx.n ⟨?_, ?_⟩) <;> focus (first | rfl | (simp; done) | omega)) | refine Bx.a ?_ _ | refine Bx.d ?_ | refine Bx.e ?_ _ | (refine Bx.p ?_ ?_; focus (first | (simp; done) | (simp; omega) | omega))))
    simp only [ptC] at hTy ⊢
    clear hp hq
    go_enter Tryz.func111, Tryz.ntmps111
    go_wp2_with fail
    generalize (w.alloc (.cells #[.float .f64 q.x, .float .f64 q.y, .float .f64 q.z, .float .f64 q.m, .int .u8 d, .bool true] 141)) = w1 at *
    refine (newMarsh_ _ ⟨_, _, _, rfl⟩ _).mono ?_
    rintro e w2 ⟨mb, rfl, hmb, hk2, hmB⟩
    have hk12 := Stab.Keeps.trans hk1 hk2
    have hA2 := AO.start hk12 (by have := hk1.size; omega) ⟨hmB, owns_keep hown hk12, by have := hk1.size; omega⟩
    have hB2 := hB1.keep hk2
    clear hmB hk1 hk2 hB1 hown hmb hk12
    go_wp2_with fail
    refine (mOrder_ base mb _ bs w2 hA2.mo (hA2.bound hb) (by omega)).mono ?_
    intro e w3 hp3
    obtain ⟨v3, rfl, hA3, hK3⟩ := hA2.step hp3
    have hB3 := hK3 _ _ _ hB2 (by decide) (by decide)
    clear hA2 hB2 hp3 hK3
    have g0 := hB3.cell (i := 0) rfl
    have g1 := hB3.cell (i := 1) rfl
    have g2 := hB3.cell (i := 2) rfl
    have g3 := hB3.cell (i := 3) rfl
    have g4 := hB3.cell (i := 4) rfl
    have g5 := hB3.cell (i := 5) rfl
    have gf := hB3.free
    have gl := hB3.lt
    go_wp2_with fail
    refine (hTy _).mono ?_
    rintro e w4 ⟨rfl, hk4⟩
    have hA4 := hA3.keep hk4
    have hB4 := hB3.keep hk4
    clear hA3 hB3 hk4 g0 g1 g2 g3 g4 g5 gf gl
    go_wp2_with fail
    refine (mType_ base mb 1 d v3 _ w4 hA4.mo (hA4.bound hb) (by omega) hd (by rw [List.length_append]; simp; omega)).mono ?_
    intro e w5 hp5
    obtain ⟨v5, rfl, hA5, hK5⟩ := hA4.step hp5
    have hB5 := hK5 _ _ _ hB4 (by decide) (by decide)
    clear hA4 hB4 hp5 hK5
    have g0 := hB5.cell (i := 0) rfl
    have g1 := hB5.cell (i := 1) rfl
    have g2 := hB5.cell (i := 2) rfl
    have g3 := hB5.cell (i := 3) rfl
    have g4 := hB5.cell (i := 4) rfl
    have g5 := hB5.cell (i := 5) rfl
    have gf := hB5.free
    have gl := hB5.lt
    go_wp2_with fail
    refine (hCo mb v5 _ w5 hA5.mo (hA5.bound hb) (by rw [List.length_append, List.length_append, leB_len]; simp; omega)).mono ?_
    intro e wz hpz
    obtain ⟨vz, rfl, hAz, hKz⟩ := hA5.step hpz
    rw [hE] at hAz
    have m0 := hAz.mo.blk.cell (i := 0) rfl
    have mf := hAz.mo.blk.free
    have ml := hAz.mo.blk.lt
    have hfin := hAz.fin
    obtain ⟨alz, cpz, rfl, _, _, _⟩ := of_owns hAz.mo.own
    clear hA5 hB5 hpz hKz hAz g0 g1 g2 g3 g4 g5 gf gl
    go_wp2_with fail
    go_ret
    exact hfin
end Go.Proofs.YtbakhldjfplbfaaGreat
set_option linter.unusedVariables false
set_option linter.unusedSimpArgs false
namespace Go.Proofs.YtbakhldjfplbfaaGreat
open Go.RowKit Go.Fl Go.Sl Go.Pg Go.Ch Go.Kf Go.By
theorem AO.fx {w wk : World} {base mb : Nat} {v vk : Value} {bs : List Nat} {F : Nat → Prop} (h : AO w base mb v wk vk bs) (hF : FR w F v) : FX wk F mb vk := fun b hb => by
  obtain ⟨h1, h2⟩ := hF b hb
  refine ⟨Nat.lt_of_lt_of_le h1 h.ch.size, fun hx => ?_⟩
  rcases hx with rfl | hx
  · have := h.ge; omega
  · rcases h.nx with hn | ⟨k, hk, hge⟩
    · exact h2 (hx.trans hn)
    · rw [hk] at hx; cases hx; omega
theorem flat_take_le {α β : Type} (f : α → List β) (l : List α) (k : Nat) (hk : k < l.length) : ((l.take k).flatMap f).length + (f l[k]).length ≤ (l.flatMap f).length := by
  have h1 : l = l.take k ++ l[k] :: l.drop (k + 1) := by rw [← List.drop_eq_getElem_cons hk, List.take_append_drop]
  have h2 : l.flatMap f = (l.take k).flatMap f ++ (f l[k] ++ (l.drop (k + 1)).flatMap f) := by
    conv => lhs; rw [h1]
    rw [List.flatMap_append, List.flatMap_cons]
  rw [h2]; simp only [List.length_append]; omega
theorem flat_take_succ {α β : Type} (f : α → List β) (l : List α) (k : Nat) (hk : k < l.length) : (l.take (k + 1)).flatMap f = (l.take k).flatMap f ++ f l[k] := by
  rw [List.take_succ_eq_append_getElem hk, List.flatMap_append]; simp
def ringsB (c : Pg) : List Nat := seqB c.dim c.ps
def polyB (d : Nat) (kids : List Pg) : List Nat := headB 3 d ++ leB 4 kids.length ++ kids.flatMap ringsB
/-- every number of a geometry's places is 64 bits -/
inductive PgB : Pg → Prop where
  | mk (k d : Nat) (ps : List Pl) (kids : List Pg) (h1 : ∀ p ∈ ps, PlB p) (h2 : ∀ c ∈ kids, PgB c) : PgB (.node k d ps kids)
theorem lsSeqB_ (a : Option Addr) (n c d : Nat) (w : World) : Calls Tryz.prog 59 #[.agg #[.int .u8 d, .slice a n c]] w (One w (.agg #[.int .u8 d, .slice a n c])) := by
  go_enter Tryz.func59, Tryz.ntmps59
  go_wp2_with fail
  refine bodyPost_ret (v := .agg #[.int .u8 d, .slice a n c]) (by simp [results, Tryz.results59, go_sem, *]) rfl ⟨rfl, ?_⟩
  with_reducible (repeat (first | exact Kx.r _ | assumption | refine Kx.a ?_ _ | refine Kx.d ?_ | refine Kx.e ?_ _ | (refine Kx.s ?_ ?_ _; focus (first | (simp; done) | (simp; omega))) | refine Kx.t ?_ (by assumption)))
set_option maxRecDepth 100000 in
set_option maxHeartbeats 2000000 in
theorem polyApp_ {F : Nat → Prop} (base : Nat) (cs : List Value) (d : Nat) (kids : List Pg) (v : Value) (bs : List Nat) (w : World) (hown : w.ownsRow base 5 1 v bs.length (bytesV bs)) (hb : base ≤ w.heap.size) (h : PyR w F cs (.node 3 d [] kids)) (hF : FR w F v) (hp : ∀ c ∈ kids, PgB c) (hl : bs.length + (polyB d kids).length ≤ 900000000) :
    Calls Tryz.prog 113 #[.agg cs.toArray, v] w (AppPost w base v (bs ++ polyB d kids)) := by
  obtain ⟨d, a, n, cap, css, kids, rfl, he, hd, hn, hR, hdim⟩ := h
  cases he
  obtain ⟨al, cp, rfl, _, _, _⟩ := of_owns hown
  have hln : (polyB d kids).length = 5 + 4 + (kids.flatMap ringsB).length := by unfold polyB; rw [List.length_append, List.length_append, headB_len, leB_len]
  rw [hln] at hl
  have hkl := hR.lx
  have hle := hR.sz.sz.le
  have hmx := hR.sz.sz.max
  unfold maxLen at hmx
  have hk1 : Stab.Keeps w (w.alloc (.cells #[.slice a n cap, .int .u8 d] 121)) := by with_reducible (repeat (first | exact Kx.r _ | assumption | refine Kx.a ?_ _ | refine Kx.d ?_ | refine Kx.e ?_ _ | (refine Kx.s ?_ ?_ _; focus (first | (simp; done) | (simp; omega))) | refine Kx.t ?_ (by assumption)))
  have hB1 : Blk (w.alloc (.cells #[.slice a n cap, .int .u8 d] 121)) w.heap.size 121 [.slice a n cap, .int .u8 d] := by with_reducible (repeat (first | assumption | ((refine Bx.n ⟨?_, ?_⟩) <;> focus (first | rfl | (simp; done) | omega)) | refine Bx.a ?_ _ | refine Bx.d ?_ | refine Bx.e ?_ _ | (refine Bx.p ?_ ?_; focus (first | (simp; done) | (simp; omega) | omega))))
  have e0 : bs ++ polyB d kids = bs ++ [1] ++ leB 4 (d * 1000 + codeN 3) ++ leB 4 n ++ kids.flatMap ringsB := by unfold polyB headB; rw [hkl]; simp
  rw [e0]
  have HKL := Lib.hid hkl
  generalize hE : bs ++ [1] ++ leB 4 (d * 1000 + codeN 3) ++ leB 4 n ++ kids.flatMap ringsB = E at *
  have HE := Lib.hid hE
  clear e0 hln hE hkl
  go_enter Tryz.func113, Tryz.ntmps113
  go_wp2_with fail
  generalize (w.alloc (.cells #[.slice a n cap, .int .u8 d] 121)) = w1 at *
  refine (newMarsh_ _ ⟨_, _, _, rfl⟩ _).mono ?_
  rintro e w2 ⟨mb, rfl, hmb, hk2, hmB⟩
  have hk12 := Stab.Keeps.trans hk1 hk2
  have hA2 := AO.start hk12 (by have := hk1.size; omega) ⟨hmB, owns_keep hown hk12, by have := hk1.size; omega⟩
  have hB2 := hB1.keep hk2
  clear hmB hk1 hk2 hB1 hown hmb hk12
  go_wp2_with fail
  refine (mOrder_ base mb _ bs w2 hA2.mo (hA2.bound hb) (by omega)).mono ?_
  intro e w3 hp3
  obtain ⟨v3, rfl, hA3, hK3⟩ := hA2.step hp3
  have hB3 := hK3 _ _ _ hB2 (by decide) (by decide)
  clear hA2 hB2 hp3 hK3
  have g0 := hB3.cell (i := 0) rfl
  have g1 := hB3.cell (i := 1) rfl
  have gf := hB3.free
  have gl := hB3.lt
  go_wp2_with fail
  refine (mType_ base mb 3 d v3 _ w3 hA3.mo (hA3.bound hb) (by omega) hd (by rw [List.length_append]; simp; omega)).mono ?_
  intro e w5 hp5
  obtain ⟨v5, rfl, hA5, hK5⟩ := hA3.step hp5
  have hB5 := hK5 _ _ _ hB3 (by decide) (by decide)
  clear hA3 hB3 hp5 hK5 g0 g1 gf gl
  have g0 := hB5.cell (i := 0) rfl
  have g1 := hB5.cell (i := 1) rfl
  have gf := hB5.free
  have gl := hB5.lt
  go_wp2_with fail
  refine (mCount_ base mb n v5 _ w5 hA5.mo (hA5.bound hb) (by omega) (by rw [List.length_append, List.length_append, leB_len]; simp; omega)).mono ?_
  intro e w6 hp6
  obtain ⟨v6, rfl, hA6, hK6⟩ := hA5.step hp6
  have hB6 := hK6 _ _ _ hB5 (by decide) (by decide)
  clear hA5 hB5 hp6 hK6 g0 g1 gf gl
  have g0 := hB6.cell (i := 0) rfl
  have g1 := hB6.cell (i := 1) rfl
  have gf := hB6.free
  have gl := hB6.lt
  go_wp2_with fail
  generalize hH : bs ++ [1] ++ leB 4 (d * 1000 + codeN 3) ++ leB 4 n = H at *
  have hHl : H.length = bs.length + 10 - 1 := by rw [← hH]; simp only [List.length_append, leB_len, List.length_cons, List.length_nil]; omega
  have HHL := Lib.hid hHl
  clear hHl hH
  go_loopw [25] (fun iv wr => ∃ (k : Nat) (vk : Value), k ≤ n ∧ iv = .int .i64 k ∧ AO w base mb (.slice al bs.length cp) wr vk (H ++ (kids.take k).flatMap ringsB)) (fun iv _ => n - (intOf iv).toNat)
  case atStart => exact ⟨0, v6, by omega, rfl, by simpa using hA6⟩
  case round =>
    clear hA6 hB6 g0 g1 gf gl
    obtain ⟨k, vk, hk, rfl, hA⟩ := hrel
    by_cases hlt : k < n
    · have hRr := hR.kf (hF.kf hA.ch) (fun _ _ h => lsS.kf h (hF.kf hA.ch))
      obtain ⟨b, off, c, ha, hbw, _, _, hc2, hcc, hx⟩ := hRr.elem hlt
      have hki : k < kids.length := by have := HKL.out; omega
      have hts := flat_take_succ ringsB kids k hki
      have htl := flat_take_le ringsB kids k hki
      have hPk := hp _ (List.getElem_mem hki)
      obtain ⟨di, psi, ai, ni, ci, rfl, hke, hs⟩ := hx
      rw [hke] at hts htl hPk
      have hrb : ringsB (.node 2 di psi []) = seqB di psi := rfl
      rw [hrb] at hts htl
      have hPs : ∀ p ∈ psi, PlB p := by cases hPk with | mk _ _ _ _ h1 _ => exact h1
      subst ha
      have c0 : wr.cell? ⟨b, off + k * 2, none⟩ = some (.int .u8 di) := hcc 0 _ rfl
      have c1 : wr.cell? ⟨b, off + k * 2 + 1, none⟩ = some (.slice ai ni ci) := hcc 1 _ rfl
      have HTS := Lib.hid hts
      have HTL := Lib.hid htl
      have hsz1 : w.heap.size ≤ wr.heap.size := hA.ch.size
      clear hRr hcc hts htl hPk hke hrb
      go_wp2_with fail
      refine (lsSeqB_ _ _ _ _ _).mono ?_
      rintro e wa ⟨rfl, hka⟩
      have hka' : Stab.Keeps wr wa := by with_reducible (repeat (first | exact Kx.r _ | assumption | refine Kx.a ?_ _ | refine Kx.d ?_ | refine Kx.e ?_ _ | (refine Kx.s ?_ ?_ _; focus (first | (simp; done) | (simp; omega))) | refine Kx.t ?_ (by assumption)))
      have hkb : Stab.Keeps wr (wa.alloc (.cells #[.int .u8 di, .slice ai ni ci] 97)) := by with_reducible (repeat (first | exact Kx.r _ | assumption | refine Kx.a ?_ _ | refine Kx.d ?_ | refine Kx.e ?_ _ | (refine Kx.s ?_ ?_ _; focus (first | (simp; done) | (simp; omega))) | refine Kx.t ?_ (by assumption)))
      have hAb := hA.keep hkb
      have hsb := hs.keep hkb
      clear c0 c1 hA hs hka hka' hkb
      go_wp2_with fail
      refine (mSeq_ base mb di psi ai ni ci vk _ _ hAb.mo (hAb.bound hb) hsb (hAb.fx hF) hPs (by have h1 := HTL.out; have h2 := HHL.out; rw [List.length_append]; omega)).mono ?_
      intro e wz hpz
      obtain ⟨vz, rfl, hAz, _⟩ := hAb.step hpz
      rw [List.append_assoc, ← HTS.out] at hAz
      clear hAb hsb hpz hPs
      go_wp2_with fail
      exact ⟨⟨k + 1, vz, by omega, by go_num, hAz⟩, by simp [intOf]; omega⟩
    · obtain rfl : n = k := by omega
      rw [List.take_of_length_le (by have := HKL.out; omega), HE.out] at hA
      have m0 := hA.mo.blk.cell (i := 0) rfl
      have mf := hA.mo.blk.free
      have ml := hA.mo.blk.lt
      have hfin := hA.fin
      obtain ⟨alz, cpz, rfl, _, _, _⟩ := of_owns hA.mo.own
      clear hA
      go_wp2_with fail
      go_ret
      exact hfin
end Go.Proofs.YtbakhldjfplbfaaGreat
set_option linter.unusedVariables false
set_option linter.unusedSimpArgs false
namespace Go.Proofs.YtbakhldjfplbfaaGreat
open Go.RowKit Go.Fl Go.Sl Go.Pg Go.Ch Go.Kf Go.By
def manyB (k d : Nat) (kids : List Pg) (f : Pg → List Nat) : List Nat := headB k d ++ leB 4 kids.length ++ kids.flatMap f
set_option maxRecDepth 100000 in
set_option maxHeartbeats 4000000 in
theorem manyMp_ {F : Nat → Prop} (base : Nat) (cs : List Value) (d : Nat) (kids : List Pg) (f : Pg → List Nat) (v : Value) (bs : List Nat) (w : World) (hown : w.ownsRow base 5 1 v bs.length (bytesV bs)) (hb : base ≤ w.heap.size) (h : MpR w F cs (.node 4 d [] kids)) (hF : FR w F v)
    (hKid : ∀ c ∈ kids, ∀ (w : World) (cs : List Value) (vk : Value) (bk : List Nat), PtR w F cs c → w.ownsRow base 5 1 vk bk.length (bytesV bk) → base ≤ w.heap.size → FR w F vk → bk.length + (f c).length ≤ 900000000 → Calls Tryz.prog 111 #[.agg cs.toArray, vk] w (AppPost w base vk (bk ++ f c)))
    (hl : bs.length + (manyB 4 d kids f).length ≤ 900000000) : Calls Tryz.prog 114 #[.agg cs.toArray, v] w (AppPost w base v (bs ++ manyB 4 d kids f)) := by
  have hTy := fun w' => typeMp_ cs _ w' w h
  simp only [Pg.dim] at hTy
  obtain ⟨d, a, n, cap, css, kids, rfl, he, hd, hn, hR, hdim⟩ := h
  cases he
  obtain ⟨al, cp, rfl, _, _, _⟩ := of_owns hown
  have hln : (manyB 4 d kids f).length = 5 + 4 + (kids.flatMap f).length := by unfold manyB; rw [List.length_append, List.length_append, headB_len, leB_len]
  rw [hln] at hl
  have hkl := hR.lx
  have hle := hR.sz.sz.le
  have hmx := hR.sz.sz.max
  unfold maxLen at hmx
  have hk1 : Stab.Keeps w (w.alloc (.cells #[.slice a n cap, .int .u8 d] 126)) := by with_reducible (repeat (first | exact Kx.r _ | assumption | refine Kx.a ?_ _ | refine Kx.d ?_ | refine Kx.e ?_ _ | (refine Kx.s ?_ ?_ _; focus (first | (simp; done) | (simp; omega))) | refine Kx.t ?_ (by assumption)))
  have hB1 : Blk (w.alloc (.cells #[.slice a n cap, .int .u8 d] 126)) w.heap.size 126 [.slice a n cap, .int .u8 d] := by with_reducible (repeat (first | assumption | ((refine Bx.n ⟨?_, ?_⟩) <;> focus (first | rfl | (simp; done) | omega)) | refine Bx.a ?_ _ | refine Bx.d ?_ | refine Bx.e ?_ _ | (refine Bx.p ?_ ?_; focus (first | (simp; done) | (simp; omega) | omega))))
  have e0 : bs ++ manyB 4 d kids f = bs ++ [1] ++ leB 4 (d * 1000 + codeN 4) ++ leB 4 n ++ kids.flatMap f := by unfold manyB headB; rw [hkl]; simp
  rw [e0]
  have HKL := Lib.hid hkl
  generalize hE : bs ++ [1] ++ leB 4 (d * 1000 + codeN 4) ++ leB 4 n ++ kids.flatMap f = E at *
  have HE := Lib.hid hE
  clear e0 hln hE hkl
  go_enter Tryz.func114, Tryz.ntmps114
  go_wp2_with fail
  generalize (w.alloc (.cells #[.slice a n cap, .int .u8 d] 126)) = w1 at *
  refine (newMarsh_ _ ⟨_, _, _, rfl⟩ _).mono ?_
  rintro e w2 ⟨mb, rfl, hmb, hk2, hmB⟩
  have hk12 := Stab.Keeps.trans hk1 hk2
  have hA2 := AO.start hk12 (by have := hk1.size; omega) ⟨hmB, owns_keep hown hk12, by have := hk1.size; omega⟩
  have hB2 := hB1.keep hk2
  clear hmB hk1 hk2 hB1 hown hmb hk12
  go_wp2_with fail
  refine (mOrder_ base mb _ bs w2 hA2.mo (hA2.bound hb) (by omega)).mono ?_
  intro e w3 hp3
  obtain ⟨v3, rfl, hA3, hK3⟩ := hA2.step hp3
  have hB3 := hK3 _ _ _ hB2 (by decide) (by decide)
  clear hA2 hB2 hp3 hK3
  have g0 := hB3.cell (i := 0) rfl
  have g1 := hB3.cell (i := 1) rfl
  have gf := hB3.free
  have gl := hB3.lt
  go_wp2_with fail
  refine (hTy _).mono ?_
  rintro e w3b ⟨rfl, hk3b⟩
  replace hA3 := hA3.keep hk3b
  replace hB3 := hB3.keep hk3b
  clear hk3b g0 g1 gf gl
  go_wp2_with fail
  have g0 := hB3.cell (i := 0) rfl
  have g1 := hB3.cell (i := 1) rfl
  have gf := hB3.free
  have gl := hB3.lt
  refine (mType_ base mb 4 d v3 _ w3b hA3.mo (hA3.bound hb) (by omega) hd (by rw [List.length_append]; simp; omega)).mono ?_
  intro e w5 hp5
  obtain ⟨v5, rfl, hA5, hK5⟩ := hA3.step hp5
  have hB5 := hK5 _ _ _ hB3 (by decide) (by decide)
  clear hA3 hB3 hp5 hK5 g0 g1 gf gl
  have g0 := hB5.cell (i := 0) rfl
  have g1 := hB5.cell (i := 1) rfl
  have gf := hB5.free
  have gl := hB5.lt
  go_wp2_with fail
  refine (numPts_ a n cap d _).mono ?_
  rintro e w5b ⟨rfl, hk5b⟩
  replace hA5 := hA5.keep hk5b
  replace hB5 := hB5.keep hk5b
  clear hk5b g0 g1 gf gl
  go_wp2_with fail
  refine (mCount_ base mb n v5 _ w5b hA5.mo (hA5.bound hb) (by omega) (by rw [List.length_append, List.length_append, leB_len]; simp; omega)).mono ?_
  intro e w6 hp6
  obtain ⟨v6, rfl, hA6, hK6⟩ := hA5.step hp6
  have hB6 := hK6 _ _ _ hB5 (by decide) (by decide)
  clear hA5 hB5 hp6 hK6
  go_wp2_with fail
  generalize hH : bs ++ [1] ++ leB 4 (d * 1000 + codeN 4) ++ leB 4 n = H at *
  have hHl : H.length = bs.length + 10 - 1 := by rw [← hH]; simp only [List.length_append, leB_len, List.length_cons, List.length_nil]; omega
  have HHL := Lib.hid hHl
  clear hHl hH
  have HK := Lib.hid hKid
  clear hKid
  go_loopw [7] (fun iv wr => ∃ (k : Nat) (vk : Value), k ≤ n ∧ iv = .int .i64 k ∧ AO w base mb (.slice al bs.length cp) wr vk (H ++ (kids.take k).flatMap f) ∧ Blk wr w.heap.size 126 [.slice a n cap, .int .u8 d]) (fun iv _ => n - (intOf iv).toNat)
  case atStart => exact ⟨0, v6, by omega, rfl, by simpa using hA6, hB6⟩
  case round =>
    clear hA6 hB6
    obtain ⟨k, vk, hk, rfl, hA, hB⟩ := hrel
    by_cases hlt : k < n
    · have hRr := hR.kf (hF.kf hA.ch) (fun _ _ h => ptS.kf h (hF.kf hA.ch))
      obtain ⟨b, off, c, ha, hbw, _, _, hc2, hcc, hx⟩ := hRr.elem hlt
      have hki : k < kids.length := by have := HKL.out; omega
      have hts := flat_take_succ f kids k hki
      have htl := flat_take_le f kids k hki
      have hKk := HK.out _ (List.getElem_mem hki)
      have hx2 : PtR wr F c (kids[k]'hki) := hx
      clear hx
      obtain ⟨xq, yq, zq, mq, dq, fq, rfl⟩ := hx2.six
      subst ha
      have c0 : wr.cell? ⟨b, off + k * 6, none⟩ = some (.float .f64 xq) := hcc 0 _ rfl
      have c1 : wr.cell? ⟨b, off + k * 6 + 1, none⟩ = some (.float .f64 yq) := hcc 1 _ rfl
      have c2 : wr.cell? ⟨b, off + k * 6 + 2, none⟩ = some (.float .f64 zq) := hcc 2 _ rfl
      have c3 : wr.cell? ⟨b, off + k * 6 + 3, none⟩ = some (.float .f64 mq) := hcc 3 _ rfl
      have c4 : wr.cell? ⟨b, off + k * 6 + 4, none⟩ = some (.int .u8 dq) := hcc 4 _ rfl
      have c5 : wr.cell? ⟨b, off + k * 6 + 5, none⟩ = some (.bool fq) := hcc 5 _ rfl
      have HTS := Lib.hid hts
      have HTL := Lib.hid htl
      have hNth := fun w' (hk' : Stab.Keeps wr w') => pointN_ b off n cap d k xq yq zq mq dq fq w' hlt hle hmx (Nat.lt_of_lt_of_le hbw hk'.size) (by rw [(Stab.own_cell hk' b hbw).1]; exact c0) (by rw [(Stab.own_cell hk' b hbw).1]; exact c1) (by rw [(Stab.own_cell hk' b hbw).1]; exact c2) (by rw [(Stab.own_cell hk' b hbw).1]; exact c3) (by rw [(Stab.own_cell hk' b hbw).1]; exact c4) (by rw [(Stab.own_cell hk' b hbw).1]; exact c5)
      clear hRr hcc hts htl
      have g0 := hB.cell (i := 0) rfl
      have g1 := hB.cell (i := 1) rfl
      have gf := hB.free
      have gl := hB.lt
      go_wp2_with fail
      refine (hNth _ (Stab.Keeps.refl _)).mono ?_
      clear hNth
      rintro e wa ⟨rfl, hka⟩
      have hkb : Stab.Keeps wr (wa.alloc (.cells #[.float .f64 xq, .float .f64 yq, .float .f64 zq, .float .f64 mq, .int .u8 dq, .bool fq] 141)) := by with_reducible (repeat (first | exact Kx.r _ | assumption | refine Kx.a ?_ _ | refine Kx.d ?_ | refine Kx.e ?_ _ | (refine Kx.s ?_ ?_ _; focus (first | (simp; done) | (simp; omega))) | refine Kx.t ?_ (by assumption)))
      have hAb := hA.keep hkb
      have hBb := hB.keep hkb
      have hxb := ptS.kf hx2 (KF.keeps hkb)
      have hKb : Blk (wa.alloc (.cells #[.float .f64 xq, .float .f64 yq, .float .f64 zq, .float .f64 mq, .int .u8 dq, .bool fq] 141)) wa.heap.size 141 [.float .f64 xq, .float .f64 yq, .float .f64 zq, .float .f64 mq, .int .u8 dq, .bool fq] := by with_reducible (repeat (first | assumption | ((refine Bx.n ⟨?_, ?_⟩) <;> focus (first | rfl | (simp; done) | omega)) | refine Bx.a ?_ _ | refine Bx.d ?_ | refine Bx.e ?_ _ | (refine Bx.p ?_ ?_; focus (first | (simp; done) | (simp; omega) | omega))))
      clear hA hB hx2 hkb hka g0 g1 gf gl
      go_upto_region 10 with (fail)
      generalize (wa.alloc (.cells #[.float .f64 xq, .float .f64 yq, .float .f64 zq, .float .f64 mq, .int .u8 dq, .bool fq] 141)) = wb at *
      generalize wa.heap.size = kb at *
      have g0 := hKb.cell (i := 0) rfl
      have g1 := hKb.cell (i := 1) rfl
      have g2 := hKb.cell (i := 2) rfl
      have g3 := hKb.cell (i := 3) rfl
      have g4 := hKb.cell (i := 4) rfl
      have g5 := hKb.cell (i := 5) rfl
      have gf := hKb.free
      have gl := hKb.lt
      have m0 := hAb.mo.blk.cell (i := 0) rfl
      have mf := hAb.mo.blk.free
      have ml := hAb.mo.blk.lt
      obtain ⟨alk, cpk, rfl, _, _, _⟩ := of_owns hAb.mo.own
      have hkd : Stab.Keeps wb wb.drew := Stab.Keeps.drew (Stab.Keeps.refl _)
      have hAd := hAb.keep hkd
      have hCall := hKk wb.drew _ _ _ (ptS.kf hxb (KF.keeps hkd)) hAd.mo.own (hAd.bound hb) (hAd.fx hF).fr (by have h1 := HTL.out; have h2 := HHL.out; rw [List.length_append]; omega)
      rw [List.append_assoc, ← HTS.out] at hCall
      generalize hL5 : H ++ (kids.take (k + 1)).flatMap f = L5 at hCall
      have HL5 := Lib.hid hL5
      clear hL5
      have HC := Lib.hid hCall
      have HA := Lib.hid hAd
      have HBb := Lib.hid (hBb.keep hkd)
      have HBD := Lib.hid hb
      clear hCall hAd hAb hBb hxb hKk hKb hkd HTS HTL
      generalize (H ++ (kids.take k).flatMap f).length = len at *
      go_region_law (first
        | (go_simp; go_at_call 111; (refine HC.out.mono ?_); intro e w4 hp4; obtain ⟨v4, rfl, hown4, hc4, hn4⟩ := hp4; have hmp := mo_call HA.out.mo ⟨v4, rfl, hown4, hc4, hn4⟩; have hb4 := hc4.blk HA.out.mo.blk (row_apart HA.out.mo.own HA.out.mo.blk (by decide)) (fun e => e); obtain ⟨al4, cp4, rfl, _, _, _⟩ := of_owns hown4; have n0 := hb4.cell (i := 0) rfl; have nf := hb4.free; have nl := hb4.lt))
      all_goals (
        obtain ⟨v5, _, hA5, hK5⟩ := HA.out.step hmp
        have hB5 := hK5 _ _ _ HBb.out (by decide) (by decide)
        clear HA HC HBb hmp hK5 hb4 n0 nf nl m0 mf ml hown4 hc4 hn4 g0 g1 g2 g3 g4 g5 gf gl
        generalize (w4.setCell ⟨mb, 0, none⟩ _) = wz at *
        go_wp2_with fail
        exact ⟨⟨k + 1, v5, by omega, by go_num, by rw [HL5.out]; exact hA5, hB5⟩, by simp [intOf]; omega⟩)
    · obtain rfl : n = k := by omega
      rw [List.take_of_length_le (by have := HKL.out; omega), HE.out] at hA
      have m0 := hA.mo.blk.cell (i := 0) rfl
      have mf := hA.mo.blk.free
      have ml := hA.mo.blk.lt
      have hfin := hA.fin
      obtain ⟨alz, cpz, rfl, _, _, _⟩ := of_owns hA.mo.own
      clear hA hB
      go_wp2_with fail
      go_ret
      exact hfin
set_option maxRecDepth 100000 in
set_option maxHeartbeats 4000000 in
theorem manyMl_ {F : Nat → Prop} (base : Nat) (cs : List Value) (d : Nat) (kids : List Pg) (f : Pg → List Nat) (v : Value) (bs : List Nat) (w : World) (hown : w.ownsRow base 5 1 v bs.length (bytesV bs)) (hb : base ≤ w.heap.size) (h : MlR w F cs (.node 5 d [] kids)) (hF : FR w F v)
    (hKid : ∀ c ∈ kids, ∀ (w : World) (cs : List Value) (vk : Value) (bk : List Nat), LsR w F cs c → w.ownsRow base 5 1 vk bk.length (bytesV bk) → base ≤ w.heap.size → FR w F vk → bk.length + (f c).length ≤ 900000000 → Calls Tryz.prog 112 #[.agg cs.toArray, vk] w (AppPost w base vk (bk ++ f c)))
    (hl : bs.length + (manyB 5 d kids f).length ≤ 900000000) : Calls Tryz.prog 115 #[.agg cs.toArray, v] w (AppPost w base v (bs ++ manyB 5 d kids f)) := by
  obtain ⟨d, a, n, cap, css, kids, rfl, he, hd, hn, hR, hdim⟩ := h
  cases he
  obtain ⟨al, cp, rfl, _, _, _⟩ := of_owns hown
  have hln : (manyB 5 d kids f).length = 5 + 4 + (kids.flatMap f).length := by unfold manyB; rw [List.length_append, List.length_append, headB_len, leB_len]
  rw [hln] at hl
  have hkl := hR.lx
  have hle := hR.sz.sz.le
  have hmx := hR.sz.sz.max
  unfold maxLen at hmx
  have hk1 : Stab.Keeps w (w.alloc (.cells #[.slice a n cap, .int .u8 d] 129)) := by with_reducible (repeat (first | exact Kx.r _ | assumption | refine Kx.a ?_ _ | refine Kx.d ?_ | refine Kx.e ?_ _ | (refine Kx.s ?_ ?_ _; focus (first | (simp; done) | (simp; omega))) | refine Kx.t ?_ (by assumption)))
  have hB1 : Blk (w.alloc (.cells #[.slice a n cap, .int .u8 d] 129)) w.heap.size 129 [.slice a n cap, .int .u8 d] := by with_reducible (repeat (first | assumption | ((refine Bx.n ⟨?_, ?_⟩) <;> focus (first | rfl | (simp; done) | omega)) | refine Bx.a ?_ _ | refine Bx.d ?_ | refine Bx.e ?_ _ | (refine Bx.p ?_ ?_; focus (first | (simp; done) | (simp; omega) | omega))))
  have e0 : bs ++ manyB 5 d kids f = bs ++ [1] ++ leB 4 (d * 1000 + codeN 5) ++ leB 4 n ++ kids.flatMap f := by unfold manyB headB; rw [hkl]; simp
  rw [e0]
  have HKL := Lib.hid hkl
  generalize hE : bs ++ [1] ++ leB 4 (d * 1000 + codeN 5) ++ leB 4 n ++ kids.flatMap f = E at *
  have HE := Lib.hid hE
  clear e0 hln hE hkl
  go_enter Tryz.func115, Tryz.ntmps115
  go_wp2_with fail
  generalize (w.alloc (.cells #[.slice a n cap, .int .u8 d] 129)) = w1 at *
  refine (newMarsh_ _ ⟨_, _, _, rfl⟩ _).mono ?_
  rintro e w2 ⟨mb, rfl, hmb, hk2, hmB⟩
  have hk12 := Stab.Keeps.trans hk1 hk2
  have hA2 := AO.start hk12 (by have := hk1.size; omega) ⟨hmB, owns_keep hown hk12, by have := hk1.size; omega⟩
  have hB2 := hB1.keep hk2
  clear hmB hk1 hk2 hB1 hown hmb hk12
  go_wp2_with fail
  refine (mOrder_ base mb _ bs w2 hA2.mo (hA2.bound hb) (by omega)).mono ?_
  intro e w3 hp3
  obtain ⟨v3, rfl, hA3, hK3⟩ := hA2.step hp3
  have hB3 := hK3 _ _ _ hB2 (by decide) (by decide)
  clear hA2 hB2 hp3 hK3
  have g0 := hB3.cell (i := 0) rfl
  have g1 := hB3.cell (i := 1) rfl
  have gf := hB3.free
  have gl := hB3.lt
  go_wp2_with fail
  refine (mType_ base mb 5 d v3 _ w3 hA3.mo (hA3.bound hb) (by omega) hd (by rw [List.length_append]; simp; omega)).mono ?_
  intro e w5 hp5
  obtain ⟨v5, rfl, hA5, hK5⟩ := hA3.step hp5
  have hB5 := hK5 _ _ _ hB3 (by decide) (by decide)
  clear hA3 hB3 hp5 hK5 g0 g1 gf gl
  have g0 := hB5.cell (i := 0) rfl
  have g1 := hB5.cell (i := 1) rfl
  have gf := hB5.free
  have gl := hB5.lt
  go_wp2_with fail
  refine (numMl_ a n cap d _).mono ?_
  rintro e w5b ⟨rfl, hk5b⟩
  replace hA5 := hA5.keep hk5b
  replace hB5 := hB5.keep hk5b
  clear hk5b g0 g1 gf gl
  go_wp2_with fail
  refine (mCount_ base mb n v5 _ w5b hA5.mo (hA5.bound hb) (by omega) (by rw [List.length_append, List.length_append, leB_len]; simp; omega)).mono ?_
  intro e w6 hp6
  obtain ⟨v6, rfl, hA6, hK6⟩ := hA5.step hp6
  have hB6 := hK6 _ _ _ hB5 (by decide) (by decide)
  clear hA5 hB5 hp6 hK6
  go_wp2_with fail
  generalize hH : bs ++ [1] ++ leB 4 (d * 1000 + codeN 5) ++ leB 4 n = H at *
  have hHl : H.length = bs.length + 10 - 1 := by rw [← hH]; simp only [List.length_append, leB_len, List.length_cons, List.length_nil]; omega
  have HHL := Lib.hid hHl
  clear hHl hH
  have HK := Lib.hid hKid
  clear hKid
  go_loopw [7] (fun iv wr => ∃ (k : Nat) (vk : Value), k ≤ n ∧ iv = .int .i64 k ∧ AO w base mb (.slice al bs.length cp) wr vk (H ++ (kids.take k).flatMap f) ∧ Blk wr w.heap.size 129 [.slice a n cap, .int .u8 d]) (fun iv _ => n - (intOf iv).toNat)
  case atStart => exact ⟨0, v6, by omega, rfl, by simpa using hA6, hB6⟩
  case round =>
    clear hA6 hB6
    obtain ⟨k, vk, hk, rfl, hA, hB⟩ := hrel
    by_cases hlt : k < n
    · have hRr := hR.kf (hF.kf hA.ch) (fun _ _ h => lsS.kf h (hF.kf hA.ch))
      obtain ⟨b, off, c, ha, hbw, _, _, hc2, hcc, hx⟩ := hRr.elem hlt
      have hki : k < kids.length := by have := HKL.out; omega
      have hts := flat_take_succ f kids k hki
      have htl := flat_take_le f kids k hki
      have hKk := HK.out _ (List.getElem_mem hki)
      have hx2 : LsR wr F c (kids[k]'hki) := hx
      clear hx
      obtain ⟨dq, aq, nq, cq, rfl⟩ := hx2.two
      subst ha
      have c0 : wr.cell? ⟨b, off + k * 2, none⟩ = some (.int .u8 dq) := hcc 0 _ rfl
      have c1 : wr.cell? ⟨b, off + k * 2 + 1, none⟩ = some (.slice aq nq cq) := hcc 1 _ rfl
      have HTS := Lib.hid hts
      have HTL := Lib.hid htl
      have hNth := fun w' (hk' : Stab.Keeps wr w') => lineN_ b off n cap d k aq nq cq dq w' hlt hle hmx (Nat.lt_of_lt_of_le hbw hk'.size) (by rw [(Stab.own_cell hk' b hbw).1]; exact c0) (by rw [(Stab.own_cell hk' b hbw).1]; exact c1)
      clear hRr hcc hts htl
      have g0 := hB.cell (i := 0) rfl
      have g1 := hB.cell (i := 1) rfl
      have gf := hB.free
      have gl := hB.lt
      go_wp2_with fail
      refine (hNth _ (Stab.Keeps.refl _)).mono ?_
      clear hNth
      rintro e wa ⟨rfl, hka⟩
      have hkb : Stab.Keeps wr (wa.alloc (.cells #[.int .u8 dq, .slice aq nq cq] 99)) := by with_reducible (repeat (first | exact Kx.r _ | assumption | refine Kx.a ?_ _ | refine Kx.d ?_ | refine Kx.e ?_ _ | (refine Kx.s ?_ ?_ _; focus (first | (simp; done) | (simp; omega))) | refine Kx.t ?_ (by assumption)))
      have hAb := hA.keep hkb
      have hBb := hB.keep hkb
      have hxb := lsS.kf hx2 (KF.keeps hkb)
      have hKb : Blk (wa.alloc (.cells #[.int .u8 dq, .slice aq nq cq] 99)) wa.heap.size 99 [.int .u8 dq, .slice aq nq cq] := by with_reducible (repeat (first | assumption | ((refine Bx.n ⟨?_, ?_⟩) <;> focus (first | rfl | (simp; done) | omega)) | refine Bx.a ?_ _ | refine Bx.d ?_ | refine Bx.e ?_ _ | (refine Bx.p ?_ ?_; focus (first | (simp; done) | (simp; omega) | omega))))
      clear hA hB hx2 hkb hka g0 g1 gf gl
      go_upto_region 10 with (fail)
      generalize (wa.alloc (.cells #[.int .u8 dq, .slice aq nq cq] 99)) = wb at *
      generalize wa.heap.size = kb at *
      have g0 := hKb.cell (i := 0) rfl
      have g1 := hKb.cell (i := 1) rfl
      have gf := hKb.free
      have gl := hKb.lt
      have m0 := hAb.mo.blk.cell (i := 0) rfl
      have mf := hAb.mo.blk.free
      have ml := hAb.mo.blk.lt
      obtain ⟨alk, cpk, rfl, _, _, _⟩ := of_owns hAb.mo.own
      have hkd : Stab.Keeps wb wb.drew := Stab.Keeps.drew (Stab.Keeps.refl _)
      have hAd := hAb.keep hkd
      have hCall := hKk wb.drew _ _ _ (lsS.kf hxb (KF.keeps hkd)) hAd.mo.own (hAd.bound hb) (hAd.fx hF).fr (by have h1 := HTL.out; have h2 := HHL.out; rw [List.length_append]; omega)
      rw [List.append_assoc, ← HTS.out] at hCall
      generalize hL5 : H ++ (kids.take (k + 1)).flatMap f = L5 at hCall
      have HL5 := Lib.hid hL5
      clear hL5
      have HC := Lib.hid hCall
      have HA := Lib.hid hAd
      have HBb := Lib.hid (hBb.keep hkd)
      have HBD := Lib.hid hb
      clear hCall hAd hAb hBb hxb hKk hKb hkd HTS HTL
      generalize (H ++ (kids.take k).flatMap f).length = len at *
      go_region_law (first
        | (go_simp; go_at_call 112; (refine HC.out.mono ?_); intro e w4 hp4; obtain ⟨v4, rfl, hown4, hc4, hn4⟩ := hp4; have hmp := mo_call HA.out.mo ⟨v4, rfl, hown4, hc4, hn4⟩; have hb4 := hc4.blk HA.out.mo.blk (row_apart HA.out.mo.own HA.out.mo.blk (by decide)) (fun e => e); obtain ⟨al4, cp4, rfl, _, _, _⟩ := of_owns hown4; have n0 := hb4.cell (i := 0) rfl; have nf := hb4.free; have nl := hb4.lt))
      all_goals (
        obtain ⟨v5, _, hA5, hK5⟩ := HA.out.step hmp
        have hB5 := hK5 _ _ _ HBb.out (by decide) (by decide)
        clear HA HC HBb hmp hK5 hb4 n0 nf nl m0 mf ml hown4 hc4 hn4 g0 g1 gf gl
        generalize (w4.setCell ⟨mb, 0, none⟩ _) = wz at *
        go_wp2_with fail
        exact ⟨⟨k + 1, v5, by omega, by go_num, by rw [HL5.out]; exact hA5, hB5⟩, by simp [intOf]; omega⟩)
    · obtain rfl : n = k := by omega
      rw [List.take_of_length_le (by have := HKL.out; omega), HE.out] at hA
      have m0 := hA.mo.blk.cell (i := 0) rfl
      have mf := hA.mo.blk.free
      have ml := hA.mo.blk.lt
      have hfin := hA.fin
      obtain ⟨alz, cpz, rfl, _, _, _⟩ := of_owns hA.mo.own
      clear hA hB
      go_wp2_with fail
      go_ret
      exact hfin
set_option maxRecDepth 100000 in
set_option maxHeartbeats 4000000 in
theorem manyMy_ {F : Nat → Prop} (base : Nat) (cs : List Value) (d : Nat) (kids : List Pg) (f : Pg → List Nat) (v : Value) (bs : List Nat) (w : World) (hown : w.ownsRow base 5 1 v bs.length (bytesV bs)) (hb : base ≤ w.heap.size) (h : MyR w F cs (.node 6 d [] kids)) (hF : FR w F v)
    (hKid : ∀ c ∈ kids, ∀ (w : World) (cs : List Value) (vk : Value) (bk : List Nat), PyR w F cs c → w.ownsRow base 5 1 vk bk.length (bytesV bk) → base ≤ w.heap.size → FR w F vk → bk.length + (f c).length ≤ 900000000 → Calls Tryz.prog 113 #[.agg cs.toArray, vk] w (AppPost w base vk (bk ++ f c)))
    (hl : bs.length + (manyB 6 d kids f).length ≤ 900000000) : Calls Tryz.prog 116 #[.agg cs.toArray, v] w (AppPost w base v (bs ++ manyB 6 d kids f)) := by
  obtain ⟨d, a, n, cap, css, kids, rfl, he, hd, hn, hR, hdim⟩ := h
  cases he
  obtain ⟨al, cp, rfl, _, _, _⟩ := of_owns hown
  have hln : (manyB 6 d kids f).length = 5 + 4 + (kids.flatMap f).length := by unfold manyB; rw [List.length_append, List.length_append, headB_len, leB_len]
  rw [hln] at hl
  have hkl := hR.lx
  have hle := hR.sz.sz.le
  have hmx := hR.sz.sz.max
  unfold maxLen at hmx
  have hk1 : Stab.Keeps w (w.alloc (.cells #[.slice a n cap, .int .u8 d] 134)) := by with_reducible (repeat (first | exact Kx.r _ | assumption | refine Kx.a ?_ _ | refine Kx.d ?_ | refine Kx.e ?_ _ | (refine Kx.s ?_ ?_ _; focus (first | (simp; done) | (simp; omega))) | refine Kx.t ?_ (by assumption)))
  have hB1 : Blk (w.alloc (.cells #[.slice a n cap, .int .u8 d] 134)) w.heap.size 134 [.slice a n cap, .int .u8 d] := by with_reducible (repeat (first | assumption | ((refine Bx.n ⟨?_, ?_⟩) <;> focus (first | rfl | (simp; done) | omega)) | refine Bx.a ?_ _ | refine Bx.d ?_ | refine Bx.e ?_ _ | (refine Bx.p ?_ ?_; focus (first | (simp; done) | (simp; omega) | omega))))
  have e0 : bs ++ manyB 6 d kids f = bs ++ [1] ++ leB 4 (d * 1000 + codeN 6) ++ leB 4 n ++ kids.flatMap f := by unfold manyB headB; rw [hkl]; simp
  rw [e0]
  have HKL := Lib.hid hkl
  generalize hE : bs ++ [1] ++ leB 4 (d * 1000 + codeN 6) ++ leB 4 n ++ kids.flatMap f = E at *
  have HE := Lib.hid hE
  clear e0 hln hE hkl
  go_enter Tryz.func116, Tryz.ntmps116
  go_wp2_with fail
  generalize (w.alloc (.cells #[.slice a n cap, .int .u8 d] 134)) = w1 at *
  refine (newMarsh_ _ ⟨_, _, _, rfl⟩ _).mono ?_
  rintro e w2 ⟨mb, rfl, hmb, hk2, hmB⟩
  have hk12 := Stab.Keeps.trans hk1 hk2
  have hA2 := AO.start hk12 (by have := hk1.size; omega) ⟨hmB, owns_keep hown hk12, by have := hk1.size; omega⟩
  have hB2 := hB1.keep hk2
  clear hmB hk1 hk2 hB1 hown hmb hk12
  go_wp2_with fail
  refine (mOrder_ base mb _ bs w2 hA2.mo (hA2.bound hb) (by omega)).mono ?_
  intro e w3 hp3
  obtain ⟨v3, rfl, hA3, hK3⟩ := hA2.step hp3
  have hB3 := hK3 _ _ _ hB2 (by decide) (by decide)
  clear hA2 hB2 hp3 hK3
  have g0 := hB3.cell (i := 0) rfl
  have g1 := hB3.cell (i := 1) rfl
  have gf := hB3.free
  have gl := hB3.lt
  go_wp2_with fail
  refine (mType_ base mb 6 d v3 _ w3 hA3.mo (hA3.bound hb) (by omega) hd (by rw [List.length_append]; simp; omega)).mono ?_
  intro e w5 hp5
  obtain ⟨v5, rfl, hA5, hK5⟩ := hA3.step hp5
  have hB5 := hK5 _ _ _ hB3 (by decide) (by decide)
  clear hA3 hB3 hp5 hK5 g0 g1 gf gl
  have g0 := hB5.cell (i := 0) rfl
  have g1 := hB5.cell (i := 1) rfl
  have gf := hB5.free
  have gl := hB5.lt
  go_wp2_with fail
  refine (numMy_ a n cap d _).mono ?_
  rintro e w5b ⟨rfl, hk5b⟩
  replace hA5 := hA5.keep hk5b
  replace hB5 := hB5.keep hk5b
  clear hk5b g0 g1 gf gl
  go_wp2_with fail
  refine (mCount_ base mb n v5 _ w5b hA5.mo (hA5.bound hb) (by omega) (by rw [List.length_append, List.length_append, leB_len]; simp; omega)).mono ?_
  intro e w6 hp6
  obtain ⟨v6, rfl, hA6, hK6⟩ := hA5.step hp6
  have hB6 := hK6 _ _ _ hB5 (by decide) (by decide)
  clear hA5 hB5 hp6 hK6
  go_wp2_with fail
  generalize hH : bs ++ [1] ++ leB 4 (d * 1000 + codeN 6) ++ leB 4 n = H at *
  have hHl : H.length = bs.length + 10 - 1 := by rw [← hH]; simp only [List.length_append, leB_len, List.length_cons, List.length_nil]; omega
  have HHL := Lib.hid hHl
  clear hHl hH
  have HK := Lib.hid hKid
  clear hKid
  go_loopw [7] (fun iv wr => ∃ (k : Nat) (vk : Value), k ≤ n ∧ iv = .int .i64 k ∧ AO w base mb (.slice al bs.length cp) wr vk (H ++ (kids.take k).flatMap f) ∧ Blk wr w.heap.size 134 [.slice a n cap, .int .u8 d]) (fun iv _ => n - (intOf iv).toNat)
  case atStart => exact ⟨0, v6, by omega, rfl, by simpa using hA6, hB6⟩
  case round =>
    clear hA6 hB6
    obtain ⟨k, vk, hk, rfl, hA, hB⟩ := hrel
    by_cases hlt : k < n
    · have hRr := hR.kf (hF.kf hA.ch) (fun _ _ h => pyS.kf h (hF.kf hA.ch))
      obtain ⟨b, off, c, ha, hbw, _, _, hc2, hcc, hx⟩ := hRr.elem hlt
      have hki : k < kids.length := by have := HKL.out; omega
      have hts := flat_take_succ f kids k hki
      have htl := flat_take_le f kids k hki
      have hKk := HK.out _ (List.getElem_mem hki)
      have hx2 : PyR wr F c (kids[k]'hki) := hx
      clear hx
      obtain ⟨aq, nq, cq, dq, rfl⟩ := hx2.two
      subst ha
      have c0 : wr.cell? ⟨b, off + k * 2, none⟩ = some (.slice aq nq cq) := hcc 0 _ rfl
      have c1 : wr.cell? ⟨b, off + k * 2 + 1, none⟩ = some (.int .u8 dq) := hcc 1 _ rfl
      have HTS := Lib.hid hts
      have HTL := Lib.hid htl
      have hNth := fun w' (hk' : Stab.Keeps wr w') => polygonN_ b off n cap d k aq nq cq dq w' hlt hle hmx (Nat.lt_of_lt_of_le hbw hk'.size) (by rw [(Stab.own_cell hk' b hbw).1]; exact c0) (by rw [(Stab.own_cell hk' b hbw).1]; exact c1)
      clear hRr hcc hts htl
      have g0 := hB.cell (i := 0) rfl
      have g1 := hB.cell (i := 1) rfl
      have gf := hB.free
      have gl := hB.lt
      go_wp2_with fail
      refine (hNth _ (Stab.Keeps.refl _)).mono ?_
      clear hNth
      rintro e wa ⟨rfl, hka⟩
      have hkb : Stab.Keeps wr (wa.alloc (.cells #[.slice aq nq cq, .int .u8 dq] 121)) := by with_reducible (repeat (first | exact Kx.r _ | assumption | refine Kx.a ?_ _ | refine Kx.d ?_ | refine Kx.e ?_ _ | (refine Kx.s ?_ ?_ _; focus (first | (simp; done) | (simp; omega))) | refine Kx.t ?_ (by assumption)))
      have hAb := hA.keep hkb
      have hBb := hB.keep hkb
      have hxb := pyS.kf hx2 (KF.keeps hkb)
      have hKb : Blk (wa.alloc (.cells #[.slice aq nq cq, .int .u8 dq] 121)) wa.heap.size 121 [.slice aq nq cq, .int .u8 dq] := by with_reducible (repeat (first | assumption | ((refine Bx.n ⟨?_, ?_⟩) <;> focus (first | rfl | (simp; done) | omega)) | refine Bx.a ?_ _ | refine Bx.d ?_ | refine Bx.e ?_ _ | (refine Bx.p ?_ ?_; focus (first | (simp; done) | (simp; omega) | omega))))
      clear hA hB hx2 hkb hka g0 g1 gf gl
      go_upto_region 10 with (fail)
      generalize (wa.alloc (.cells #[.slice aq nq cq, .int .u8 dq] 121)) = wb at *
      generalize wa.heap.size = kb at *
      have g0 := hKb.cell (i := 0) rfl
      have g1 := hKb.cell (i := 1) rfl
      have gf := hKb.free
      have gl := hKb.lt
      have m0 := hAb.mo.blk.cell (i := 0) rfl
      have mf := hAb.mo.blk.free
      have ml := hAb.mo.blk.lt
      obtain ⟨alk, cpk, rfl, _, _, _⟩ := of_owns hAb.mo.own
      have hkd : Stab.Keeps wb wb.drew := Stab.Keeps.drew (Stab.Keeps.refl _)
      have hAd := hAb.keep hkd
      have hCall := hKk wb.drew _ _ _ (pyS.kf hxb (KF.keeps hkd)) hAd.mo.own (hAd.bound hb) (hAd.fx hF).fr (by have h1 := HTL.out; have h2 := HHL.out; rw [List.length_append]; omega)
      rw [List.append_assoc, ← HTS.out] at hCall
      generalize hL5 : H ++ (kids.take (k + 1)).flatMap f = L5 at hCall
      have HL5 := Lib.hid hL5
      clear hL5
      have HC := Lib.hid hCall
      have HA := Lib.hid hAd
      have HBb := Lib.hid (hBb.keep hkd)
      have HBD := Lib.hid hb
      clear hCall hAd hAb hBb hxb hKk hKb hkd HTS HTL
      generalize (H ++ (kids.take k).flatMap f).length = len at *
      go_region_law (first
        | (go_simp; go_at_call 113; (refine HC.out.mono ?_); intro e w4 hp4; obtain ⟨v4, rfl, hown4, hc4, hn4⟩ := hp4; have hmp := mo_call HA.out.mo ⟨v4, rfl, hown4, hc4, hn4⟩; have hb4 := hc4.blk HA.out.mo.blk (row_apart HA.out.mo.own HA.out.mo.blk (by decide)) (fun e => e); obtain ⟨al4, cp4, rfl, _, _, _⟩ := of_owns hown4; have n0 := hb4.cell (i := 0) rfl; have nf := hb4.free; have nl := hb4.lt))
      all_goals (
        obtain ⟨v5, _, hA5, hK5⟩ := HA.out.step hmp
        have hB5 := hK5 _ _ _ HBb.out (by decide) (by decide)
        clear HA HC HBb hmp hK5 hb4 n0 nf nl m0 mf ml hown4 hc4 hn4 g0 g1 gf gl
        generalize (w4.setCell ⟨mb, 0, none⟩ _) = wz at *
        go_wp2_with fail
        exact ⟨⟨k + 1, v5, by omega, by go_num, by rw [HL5.out]; exact hA5, hB5⟩, by simp [intOf]; omega⟩)
    · obtain rfl : n = k := by omega
      rw [List.take_of_length_le (by have := HKL.out; omega), HE.out] at hA
      have m0 := hA.mo.blk.cell (i := 0) rfl
      have mf := hA.mo.blk.free
      have ml := hA.mo.blk.lt
      have hfin := hA.fin
      obtain ⟨alz, cpz, rfl, _, _, _⟩ := of_owns hA.mo.own
      clear hA hB
      go_wp2_with fail
      go_ret
      exact hfin
set_option maxRecDepth 100000 in
set_option maxHeartbeats 4000000 in
theorem manyGc_ {F : Nat → Prop} (base : Nat) (cs : List Value) (d : Nat) (kids : List Pg) (f : Pg → List Nat) (v : Value) (bs : List Nat) (w : World) (hown : w.ownsRow base 5 1 v bs.length (bytesV bs)) (hb : base ≤ w.heap.size) (h : GcR w F cs (.node 0 d [] kids)) (hF : FR w F v)
    (hKid : ∀ c ∈ kids, ∀ (w : World) (cs : List Value) (vk : Value) (bk : List Nat), GeoR w F cs c → w.ownsRow base 5 1 vk bk.length (bytesV bk) → base ≤ w.heap.size → FR w F vk → bk.length + (f c).length ≤ 900000000 → Calls Tryz.prog 55 #[.agg cs.toArray, vk] w (AppPost w base vk (bk ++ f c)))
    (hl : bs.length + (manyB 0 d kids f).length ≤ 900000000) : Calls Tryz.prog 110 #[.agg cs.toArray, v] w (AppPost w base v (bs ++ manyB 0 d kids f)) := by
  obtain ⟨d, a, n, cap, css, kids, rfl, he, hd, hn, hR, hdim⟩ := h
  cases he
  obtain ⟨al, cp, rfl, _, _, _⟩ := of_owns hown
  have hln : (manyB 0 d kids f).length = 5 + 4 + (kids.flatMap f).length := by unfold manyB; rw [List.length_append, List.length_append, headB_len, leB_len]
  rw [hln] at hl
  have hkl := hR.lx
  have hle := hR.sz.sz.le
  have hmx := hR.sz.sz.max
  unfold maxLen at hmx
  have hk1 : Stab.Keeps w (w.alloc (.cells #[.slice a n cap, .int .u8 d] 150)) := by with_reducible (repeat (first | exact Kx.r _ | assumption | refine Kx.a ?_ _ | refine Kx.d ?_ | refine Kx.e ?_ _ | (refine Kx.s ?_ ?_ _; focus (first | (simp; done) | (simp; omega))) | refine Kx.t ?_ (by assumption)))
  have hB1 : Blk (w.alloc (.cells #[.slice a n cap, .int .u8 d] 150)) w.heap.size 150 [.slice a n cap, .int .u8 d] := by with_reducible (repeat (first | assumption | ((refine Bx.n ⟨?_, ?_⟩) <;> focus (first | rfl | (simp; done) | omega)) | refine Bx.a ?_ _ | refine Bx.d ?_ | refine Bx.e ?_ _ | (refine Bx.p ?_ ?_; focus (first | (simp; done) | (simp; omega) | omega))))
  have e0 : bs ++ manyB 0 d kids f = bs ++ [1] ++ leB 4 (d * 1000 + codeN 0) ++ leB 4 n ++ kids.flatMap f := by unfold manyB headB; rw [hkl]; simp
  rw [e0]
  have HKL := Lib.hid hkl
  generalize hE : bs ++ [1] ++ leB 4 (d * 1000 + codeN 0) ++ leB 4 n ++ kids.flatMap f = E at *
  have HE := Lib.hid hE
  clear e0 hln hE hkl
  go_enter Tryz.func110, Tryz.ntmps110
  go_wp2_with fail
  generalize (w.alloc (.cells #[.slice a n cap, .int .u8 d] 150)) = w1 at *
  refine (newMarsh_ _ ⟨_, _, _, rfl⟩ _).mono ?_
  rintro e w2 ⟨mb, rfl, hmb, hk2, hmB⟩
  have hk12 := Stab.Keeps.trans hk1 hk2
  have hA2 := AO.start hk12 (by have := hk1.size; omega) ⟨hmB, owns_keep hown hk12, by have := hk1.size; omega⟩
  have hB2 := hB1.keep hk2
  clear hmB hk1 hk2 hB1 hown hmb hk12
  go_wp2_with fail
  refine (mOrder_ base mb _ bs w2 hA2.mo (hA2.bound hb) (by omega)).mono ?_
  intro e w3 hp3
  obtain ⟨v3, rfl, hA3, hK3⟩ := hA2.step hp3
  have hB3 := hK3 _ _ _ hB2 (by decide) (by decide)
  clear hA2 hB2 hp3 hK3
  have g0 := hB3.cell (i := 0) rfl
  have g1 := hB3.cell (i := 1) rfl
  have gf := hB3.free
  have gl := hB3.lt
  go_wp2_with fail
  refine (mType_ base mb 0 d v3 _ w3 hA3.mo (hA3.bound hb) (by omega) hd (by rw [List.length_append]; simp; omega)).mono ?_
  intro e w5 hp5
  obtain ⟨v5, rfl, hA5, hK5⟩ := hA3.step hp5
  have hB5 := hK5 _ _ _ hB3 (by decide) (by decide)
  clear hA3 hB3 hp5 hK5 g0 g1 gf gl
  have g0 := hB5.cell (i := 0) rfl
  have g1 := hB5.cell (i := 1) rfl
  have gf := hB5.free
  have gl := hB5.lt
  go_wp2_with fail
  refine (numGc_ a n cap d _).mono ?_
  rintro e w5b ⟨rfl, hk5b⟩
  replace hA5 := hA5.keep hk5b
  replace hB5 := hB5.keep hk5b
  clear hk5b g0 g1 gf gl
  go_wp2_with fail
  refine (mCount_ base mb n v5 _ w5b hA5.mo (hA5.bound hb) (by omega) (by rw [List.length_append, List.length_append, leB_len]; simp; omega)).mono ?_
  intro e w6 hp6
  obtain ⟨v6, rfl, hA6, hK6⟩ := hA5.step hp6
  have hB6 := hK6 _ _ _ hB5 (by decide) (by decide)
  clear hA5 hB5 hp6 hK6
  go_wp2_with fail
  generalize hH : bs ++ [1] ++ leB 4 (d * 1000 + codeN 0) ++ leB 4 n = H at *
  have hHl : H.length = bs.length + 10 - 1 := by rw [← hH]; simp only [List.length_append, leB_len, List.length_cons, List.length_nil]; omega
  have HHL := Lib.hid hHl
  clear hHl hH
  have HK := Lib.hid hKid
  clear hKid
  go_loopw [7] (fun iv wr => ∃ (k : Nat) (vk : Value), k ≤ n ∧ iv = .int .i64 k ∧ AO w base mb (.slice al bs.length cp) wr vk (H ++ (kids.take k).flatMap f) ∧ Blk wr w.heap.size 150 [.slice a n cap, .int .u8 d]) (fun iv _ => n - (intOf iv).toNat)
  case atStart => exact ⟨0, v6, by omega, rfl, by simpa using hA6, hB6⟩
  case round =>
    clear hA6 hB6
    obtain ⟨k, vk, hk, rfl, hA, hB⟩ := hrel
    by_cases hlt : k < n
    · have hRr := hR.kf (hF.kf hA.ch) (fun _ _ h => geoS.kf h (hF.kf hA.ch))
      obtain ⟨b, off, c, ha, hbw, _, _, hc2, hcc, hx⟩ := hRr.elem hlt
      have hki : k < kids.length := by have := HKL.out; omega
      have hts := flat_take_succ f kids k hki
      have htl := flat_take_le f kids k hki
      have hKk := HK.out _ (List.getElem_mem hki)
      have hx2 : GeoR wr F c (kids[k]'hki) := hx
      clear hx
      obtain ⟨kq, tq, bq, rfl⟩ := hx2.two
      subst ha
      have c0 : wr.cell? ⟨b, off + k * 2, none⟩ = some (.int .i64 kq) := hcc 0 _ rfl
      have c1 : wr.cell? ⟨b, off + k * 2 + 1, none⟩ = some (.iface tq (.pointer (some ⟨bq, 0, none⟩))) := hcc 1 _ rfl
      have HTS := Lib.hid hts
      have HTL := Lib.hid htl
      have hNth := fun w' (hk' : Stab.Keeps wr w') => geometryN_ b off n cap d k kq tq bq w' hlt hle hmx (Nat.lt_of_lt_of_le hbw hk'.size) (by rw [(Stab.own_cell hk' b hbw).1]; exact c0) (by rw [(Stab.own_cell hk' b hbw).1]; exact c1)
      clear hRr hcc hts htl
      have g0 := hB.cell (i := 0) rfl
      have g1 := hB.cell (i := 1) rfl
      have gf := hB.free
      have gl := hB.lt
      go_wp2_with fail
      refine (hNth _ (Stab.Keeps.refl _)).mono ?_
      clear hNth
      rintro e wa ⟨rfl, hka⟩
      have hkb : Stab.Keeps wr (wa.alloc (.cells #[.int .i64 kq, .iface tq (.pointer (some ⟨bq, 0, none⟩))] 78)) := by with_reducible (repeat (first | exact Kx.r _ | assumption | refine Kx.a ?_ _ | refine Kx.d ?_ | refine Kx.e ?_ _ | (refine Kx.s ?_ ?_ _; focus (first | (simp; done) | (simp; omega))) | refine Kx.t ?_ (by assumption)))
      have hAb := hA.keep hkb
      have hBb := hB.keep hkb
      have hxb := geoS.kf hx2 (KF.keeps hkb)
      have hKb : Blk (wa.alloc (.cells #[.int .i64 kq, .iface tq (.pointer (some ⟨bq, 0, none⟩))] 78)) wa.heap.size 78 [.int .i64 kq, .iface tq (.pointer (some ⟨bq, 0, none⟩))] := by with_reducible (repeat (first | assumption | ((refine Bx.n ⟨?_, ?_⟩) <;> focus (first | rfl | (simp; done) | omega)) | refine Bx.a ?_ _ | refine Bx.d ?_ | refine Bx.e ?_ _ | (refine Bx.p ?_ ?_; focus (first | (simp; done) | (simp; omega) | omega))))
      clear hA hB hx2 hkb hka g0 g1 gf gl
      go_upto_region 10 with (fail)
      generalize (wa.alloc (.cells #[.int .i64 kq, .iface tq (.pointer (some ⟨bq, 0, none⟩))] 78)) = wb at *
      generalize wa.heap.size = kb at *
      have g0 := hKb.cell (i := 0) rfl
      have g1 := hKb.cell (i := 1) rfl
      have gf := hKb.free
      have gl := hKb.lt
      have m0 := hAb.mo.blk.cell (i := 0) rfl
      have mf := hAb.mo.blk.free
      have ml := hAb.mo.blk.lt
      obtain ⟨alk, cpk, rfl, _, _, _⟩ := of_owns hAb.mo.own
      have hkd : Stab.Keeps wb wb.drew := Stab.Keeps.drew (Stab.Keeps.refl _)
      have hAd := hAb.keep hkd
      have hCall := hKk wb.drew _ _ _ (geoS.kf hxb (KF.keeps hkd)) hAd.mo.own (hAd.bound hb) (hAd.fx hF).fr (by have h1 := HTL.out; have h2 := HHL.out; rw [List.length_append]; omega)
      rw [List.append_assoc, ← HTS.out] at hCall
      generalize hL5 : H ++ (kids.take (k + 1)).flatMap f = L5 at hCall
      have HL5 := Lib.hid hL5
      clear hL5
      have HC := Lib.hid hCall
      have HA := Lib.hid hAd
      have HBb := Lib.hid (hBb.keep hkd)
      have HBD := Lib.hid hb
      clear hCall hAd hAb hBb hxb hKk hKb hkd HTS HTL
      generalize (H ++ (kids.take k).flatMap f).length = len at *
      go_region_law (first
        | (go_simp; go_at_call 55; (refine HC.out.mono ?_); intro e w4 hp4; obtain ⟨v4, rfl, hown4, hc4, hn4⟩ := hp4; have hmp := mo_call HA.out.mo ⟨v4, rfl, hown4, hc4, hn4⟩; have hb4 := hc4.blk HA.out.mo.blk (row_apart HA.out.mo.own HA.out.mo.blk (by decide)) (fun e => e); obtain ⟨al4, cp4, rfl, _, _, _⟩ := of_owns hown4; have n0 := hb4.cell (i := 0) rfl; have nf := hb4.free; have nl := hb4.lt))
      all_goals (
        obtain ⟨v5, _, hA5, hK5⟩ := HA.out.step hmp
        have hB5 := hK5 _ _ _ HBb.out (by decide) (by decide)
        clear HA HC HBb hmp hK5 hb4 n0 nf nl m0 mf ml hown4 hc4 hn4 g0 g1 gf gl
        generalize (w4.setCell ⟨mb, 0, none⟩ _) = wz at *
        go_wp2_with fail
        exact ⟨⟨k + 1, v5, by omega, by go_num, by rw [HL5.out]; exact hA5, hB5⟩, by simp [intOf]; omega⟩)
    · obtain rfl : n = k := by omega
      rw [List.take_of_length_le (by have := HKL.out; omega), HE.out] at hA
      have m0 := hA.mo.blk.cell (i := 0) rfl
      have mf := hA.mo.blk.free
      have ml := hA.mo.blk.lt
      have hfin := hA.fin
      obtain ⟨alz, cpz, rfl, _, _, _⟩ := of_owns hA.mo.own
      clear hA hB
      go_wp2_with fail
      go_ret
      exact hfin
end Go.Proofs.YtbakhldjfplbfaaGreat
set_option linter.unusedVariables false
set_option linter.unusedSimpArgs false
namespace Go.Proofs.YtbakhldjfplbfaaGreat
open Go.RowKit Go.Fl Go.Sl Go.Pg Go.Ch Go.Kf Go.By
mutual
/-- a geometry's binary form, the least byte of each number first -/
def wkb : Pg → List Nat
  | .node k d ps kids => if k = 1 then ptB d ps else if k = 2 then lineB d ps else if k = 3 then polyB d kids else headB k d ++ leB 4 kids.length ++ wkbs kids
def wkbs : List Pg → List Nat
  | [] => []
  | c :: r => wkb c ++ wkbs r
end
theorem wkbs_eq (l : List Pg) : wkbs l = l.flatMap wkb := by
  induction l with
  | nil => simp [wkbs]
  | cons a l ih => simp [wkbs, ih]
theorem wkb_many (k d : Nat) (ps : List Pl) (kids : List Pg) (h1 : k ≠ 1) (h2 : k ≠ 2) (h3 : k ≠ 3) : wkb (.node k d ps kids) = manyB k d kids wkb := by rw [wkb, if_neg h1, if_neg h2, if_neg h3, wkbs_eq]; rfl
theorem Pg.indB {P : Pg → Prop} (h : ∀ k d ps kids, (∀ c ∈ kids, P c) → P (.node k d ps kids)) : ∀ p, P p := by
  intro p
  refine Pg.rec (motive_1 := P) (motive_2 := fun l => ∀ c ∈ l, P c) ?_ ?_ ?_ p
  · intro k d ps kids ih
    exact h k d ps kids ih
  · simp
  · intro c r h1 h2 x hx
    rcases List.mem_cons.1 hx with rfl | hx
    · exact h1
    · exact h2 x hx
theorem app_after {w w2 w3 : World} {base : Nat} {v : Value} {bs : List Nat} {e : Ending} (hk : Stab.Keeps w w2) (h : AppPost w2 base v bs e w3) : AppPost w base v bs e w3 := by
  obtain ⟨v', rfl, h1, h2, h3⟩ := h
  refine ⟨v', rfl, h1, (Ch.of_keeps (T := no) (X := fun b => some b = v.ownBlock) hk).trans h2, ?_⟩
  rcases h3 with h3 | ⟨k, hk', hge⟩
  · exact .inl h3
  · exact .inr ⟨k, hk', Nat.le_trans hk.size hge⟩
set_option maxRecDepth 100000 in
set_option maxHeartbeats 4000000 in
theorem geoApp_ (base : Nat) : ∀ (p : Pg) {F : Nat → Prop} (w : World) (cs : List Value) (v : Value) (bs : List Nat) (hown : w.ownsRow base 5 1 v bs.length (bytesV bs)) (hb : base ≤ w.heap.size) (h : GeoR w F cs p) (hB : PgB p) (hF : FR w F v) (hl : bs.length + (wkb p).length ≤ 900000000),
    Calls Tryz.prog 55 #[.agg cs.toArray, v] w (AppPost w base v (bs ++ wkb p)) := by
  intro p
  induction p using Pg.indB with
  | h k d ps kids ih =>
  intro F w cs v bs hown hb h hB hF hl
  obtain ⟨al, cp, rfl, _, _, _⟩ := of_owns hown
  have hBk : ∀ c ∈ kids, PgB c := by cases hB with | mk _ _ _ _ _ h2 => exact h2
  have hBp : ∀ q ∈ ps, PlB q := by cases hB with | mk _ _ _ _ h1 _ => exact h1
  cases h with
  | pt b cs p hbF hBb hx =>
    obtain ⟨d', l, rfl, he, hd, hl1, hn⟩ := hx
    cases he
    rw [show wkb (.node 1 d ps []) = ptB d ps by rw [wkb, if_pos rfl]] at hl ⊢
    obtain ⟨xz, yz, zz, mz, dz, fz, hcs⟩ := PtR.six (w := w) (F := F) ⟨d, ps, rfl, rfl, hd, hl1, hn⟩
    have hMu := fun w' (hk : Stab.Keeps w w') => mustPt_ xz yz zz mz dz fz b w' (by have := hBb.keep hk; rw [hcs] at this; exact this)
    have hAp := fun w' (hk : Stab.Keeps w w') => (ptApp_ base d ps _ bs w' (owns_keep hown hk) (Nat.le_trans hb hk.size) hd hBp hl).mono fun e w3 h => app_after hk h
    rw [hcs] at hAp
    generalize bs ++ ptB d ps = E at *
    clear hcs
    have hk1 : Stab.Keeps w (w.alloc (.cells #[.int .i64 1, .iface 204 (.pointer (some ⟨b, 0, none⟩))] 78)) := by with_reducible (repeat (first | exact Kx.r _ | assumption | refine Kx.a ?_ _ | refine Kx.d ?_ | refine Kx.e ?_ _ | (refine Kx.s ?_ ?_ _; focus (first | (simp; done) | (simp; omega))) | refine Kx.t ?_ (by assumption)))
    have hB1 : Blk (w.alloc (.cells #[.int .i64 1, .iface 204 (.pointer (some ⟨b, 0, none⟩))] 78)) w.heap.size 78 [.int .i64 1, .iface 204 (.pointer (some ⟨b, 0, none⟩))] := by with_reducible (repeat (first | assumption | ((refine Bx.n ⟨?_, ?_⟩) <;> focus (first | rfl | (simp; done) | omega)) | refine Bx.a ?_ _ | refine Bx.d ?_ | refine Bx.e ?_ _ | (refine Bx.p ?_ ?_; focus (first | (simp; done) | (simp; omega) | omega))))
    have HAP := Lib.hid hAp
    have HMU := Lib.hid hMu
    clear hAp hMu hBb
    go_enter Tryz.func55, Tryz.ntmps55
    go_upto_region 1 with (fail)
    generalize (w.alloc (.cells #[.int .i64 1, .iface 204 (.pointer (some ⟨b, 0, none⟩))] 78)) = w1 at *
    have g0 := hB1.cell (i := 0) rfl
    have g1 := hB1.cell (i := 1) rfl
    have gf := hB1.free
    have gl := hB1.lt
    go_wp2_with fail
    refine (HMU.out _ hk1).mono ?_
    rintro e w2 ⟨rfl, hk2⟩
    have hk12 := Stab.Keeps.trans hk1 hk2
    clear g0 g1 gf gl hB1 hk1 hk2
    go_wp2_with fail
    refine (HAP.out _ hk12).mono ?_
    rintro e w3 ⟨v3, rfl, hown3, hc3, hn3⟩
    go_wp2_with fail
    go_ret
    exact ⟨v3, rfl, hown3, hc3, hn3⟩
  | ls b cs p hbF hBb hx =>
    obtain ⟨d', ps', a, n, cap, rfl, he, hs⟩ := hx
    cases he
    rw [show wkb (.node 2 d ps []) = lineB d ps by rw [wkb, if_neg (by decide), if_pos rfl]] at hl ⊢
    have hMu := fun w' (hk : Stab.Keeps w w') => mustLs_ a n cap d b w' (hBb.keep hk)
    have hAp := fun w' (hk : Stab.Keeps w w') => (lineApp_ base d ps a n cap _ bs w' (owns_keep hown hk) (Nat.le_trans hb hk.size) (hs.keep hk) (hF.keep hk) hBp (by omega)).mono fun e w3 h => app_after hk h
    generalize bs ++ lineB d ps = E at *
    have hk1 : Stab.Keeps w (w.alloc (.cells #[.int .i64 2, .iface 190 (.pointer (some ⟨b, 0, none⟩))] 78)) := by with_reducible (repeat (first | exact Kx.r _ | assumption | refine Kx.a ?_ _ | refine Kx.d ?_ | refine Kx.e ?_ _ | (refine Kx.s ?_ ?_ _; focus (first | (simp; done) | (simp; omega))) | refine Kx.t ?_ (by assumption)))
    have hB1 : Blk (w.alloc (.cells #[.int .i64 2, .iface 190 (.pointer (some ⟨b, 0, none⟩))] 78)) w.heap.size 78 [.int .i64 2, .iface 190 (.pointer (some ⟨b, 0, none⟩))] := by with_reducible (repeat (first | assumption | ((refine Bx.n ⟨?_, ?_⟩) <;> focus (first | rfl | (simp; done) | omega)) | refine Bx.a ?_ _ | refine Bx.d ?_ | refine Bx.e ?_ _ | (refine Bx.p ?_ ?_; focus (first | (simp; done) | (simp; omega) | omega))))
    have HAP := Lib.hid hAp
    have HMU := Lib.hid hMu
    clear hAp hMu hBb
    go_enter Tryz.func55, Tryz.ntmps55
    go_upto_region 1 with (fail)
    generalize (w.alloc (.cells #[.int .i64 2, .iface 190 (.pointer (some ⟨b, 0, none⟩))] 78)) = w1 at *
    have g0 := hB1.cell (i := 0) rfl
    have g1 := hB1.cell (i := 1) rfl
    have gf := hB1.free
    have gl := hB1.lt
    go_wp2_with fail
    refine (HMU.out _ hk1).mono ?_
    rintro e w2 ⟨rfl, hk2⟩
    have hk12 := Stab.Keeps.trans hk1 hk2
    clear g0 g1 gf gl hB1 hk1 hk2
    go_wp2_with fail
    refine (HAP.out _ hk12).mono ?_
    rintro e w3 ⟨v3, rfl, hown3, hc3, hn3⟩
    go_wp2_with fail
    go_ret
    exact ⟨v3, rfl, hown3, hc3, hn3⟩
  | py b cs p hbF hBb hx =>
    have hx0 := hx
    obtain ⟨d', a, n, cap, css, kids', rfl, he, hd, hn, hR, hdim⟩ := hx
    cases he
    rw [show wkb (.node 3 d [] kids) = polyB d kids by rw [wkb, if_neg (by decide), if_neg (by decide), if_pos rfl]] at hl ⊢
    have hMu := fun w' (hk : Stab.Keeps w w') => mustPy_ a n cap d b w' (hBb.keep hk)
    have hAp := fun w' (hk : Stab.Keeps w w') => (polyApp_ base _ d kids _ bs w' (owns_keep hown hk) (Nat.le_trans hb hk.size) (pyS.kf hx0 (KF.keeps hk)) (hF.keep hk) hBk hl).mono fun e w3 h => app_after hk h
    generalize bs ++ polyB d kids = E at *
    clear hx0
    have hk1 : Stab.Keeps w (w.alloc (.cells #[.int .i64 3, .iface 191 (.pointer (some ⟨b, 0, none⟩))] 78)) := by with_reducible (repeat (first | exact Kx.r _ | assumption | refine Kx.a ?_ _ | refine Kx.d ?_ | refine Kx.e ?_ _ | (refine Kx.s ?_ ?_ _; focus (first | (simp; done) | (simp; omega))) | refine Kx.t ?_ (by assumption)))
    have hB1 : Blk (w.alloc (.cells #[.int .i64 3, .iface 191 (.pointer (some ⟨b, 0, none⟩))] 78)) w.heap.size 78 [.int .i64 3, .iface 191 (.pointer (some ⟨b, 0, none⟩))] := by with_reducible (repeat (first | assumption | ((refine Bx.n ⟨?_, ?_⟩) <;> focus (first | rfl | (simp; done) | omega)) | refine Bx.a ?_ _ | refine Bx.d ?_ | refine Bx.e ?_ _ | (refine Bx.p ?_ ?_; focus (first | (simp; done) | (simp; omega) | omega))))
    have HAP := Lib.hid hAp
    have HMU := Lib.hid hMu
    clear hAp hMu hBb
    go_enter Tryz.func55, Tryz.ntmps55
    go_upto_region 1 with (fail)
    generalize (w.alloc (.cells #[.int .i64 3, .iface 191 (.pointer (some ⟨b, 0, none⟩))] 78)) = w1 at *
    have g0 := hB1.cell (i := 0) rfl
    have g1 := hB1.cell (i := 1) rfl
    have gf := hB1.free
    have gl := hB1.lt
    go_wp2_with fail
    refine (HMU.out _ hk1).mono ?_
    rintro e w2 ⟨rfl, hk2⟩
    have hk12 := Stab.Keeps.trans hk1 hk2
    clear g0 g1 gf gl hB1 hk1 hk2
    go_wp2_with fail
    refine (HAP.out _ hk12).mono ?_
    rintro e w3 ⟨v3, rfl, hown3, hc3, hn3⟩
    go_wp2_with fail
    go_ret
    exact ⟨v3, rfl, hown3, hc3, hn3⟩
  | mp b cs p hbF hBb hx =>
    have hx0 := hx
    obtain ⟨d', a, n, cap, css, kids', rfl, he, hd, hn, hR, hdim⟩ := hx
    cases he
    rw [wkb_many 4 d [] kids (by decide) (by decide) (by decide)] at hl ⊢
    have hMu := fun w' (hk : Stab.Keeps w w') => mustMp_ a n cap d b w' (hBb.keep hk)
    have hAp := fun w' (hk : Stab.Keeps w w') => (manyMp_ base _ d kids wkb _ bs w' (owns_keep hown hk) (Nat.le_trans hb hk.size) (mpS.kf hx0 (KF.keeps hk)) (hF.keep hk) (fun c hc w2 cs2 vk bk hr ho hb2 hf2 hl2 => by
        obtain ⟨d2, l2, rfl, rfl, e1, e2, e3⟩ := hr
        have e4 : wkb (.node 1 d2 l2 []) = ptB d2 l2 := by rw [wkb, if_pos rfl]
        rw [e4] at hl2 ⊢
        exact ptApp_ base d2 l2 vk bk w2 ho hb2 e1 (by have := hBk _ hc; cases this with | mk _ _ _ _ h1 _ => exact h1) hl2) hl).mono fun e w3 h => app_after hk h
    generalize bs ++ manyB 4 d kids wkb = E at *
    clear hx0
    have hk1 : Stab.Keeps w (w.alloc (.cells #[.int .i64 4, .iface 192 (.pointer (some ⟨b, 0, none⟩))] 78)) := by with_reducible (repeat (first | exact Kx.r _ | assumption | refine Kx.a ?_ _ | refine Kx.d ?_ | refine Kx.e ?_ _ | (refine Kx.s ?_ ?_ _; focus (first | (simp; done) | (simp; omega))) | refine Kx.t ?_ (by assumption)))
    have hB1 : Blk (w.alloc (.cells #[.int .i64 4, .iface 192 (.pointer (some ⟨b, 0, none⟩))] 78)) w.heap.size 78 [.int .i64 4, .iface 192 (.pointer (some ⟨b, 0, none⟩))] := by with_reducible (repeat (first | assumption | ((refine Bx.n ⟨?_, ?_⟩) <;> focus (first | rfl | (simp; done) | omega)) | refine Bx.a ?_ _ | refine Bx.d ?_ | refine Bx.e ?_ _ | (refine Bx.p ?_ ?_; focus (first | (simp; done) | (simp; omega) | omega))))
    have HAP := Lib.hid hAp
    have HMU := Lib.hid hMu
    clear hAp hMu hBb
    go_enter Tryz.func55, Tryz.ntmps55
    go_upto_region 1 with (fail)
    generalize (w.alloc (.cells #[.int .i64 4, .iface 192 (.pointer (some ⟨b, 0, none⟩))] 78)) = w1 at *
    have g0 := hB1.cell (i := 0) rfl
    have g1 := hB1.cell (i := 1) rfl
    have gf := hB1.free
    have gl := hB1.lt
    go_wp2_with fail
    refine (HMU.out _ hk1).mono ?_
    rintro e w2 ⟨rfl, hk2⟩
    have hk12 := Stab.Keeps.trans hk1 hk2
    clear g0 g1 gf gl hB1 hk1 hk2
    go_wp2_with fail
    refine (HAP.out _ hk12).mono ?_
    rintro e w3 ⟨v3, rfl, hown3, hc3, hn3⟩
    go_wp2_with fail
    go_ret
    exact ⟨v3, rfl, hown3, hc3, hn3⟩
  | ml b cs p hbF hBb hx =>
    have hx0 := hx
    obtain ⟨d', a, n, cap, css, kids', rfl, he, hd, hn, hR, hdim⟩ := hx
    cases he
    rw [wkb_many 5 d [] kids (by decide) (by decide) (by decide)] at hl ⊢
    have hMu := fun w' (hk : Stab.Keeps w w') => mustMl_ a n cap d b w' (hBb.keep hk)
    have hAp := fun w' (hk : Stab.Keeps w w') => (manyMl_ base _ d kids wkb _ bs w' (owns_keep hown hk) (Nat.le_trans hb hk.size) (mlS.kf hx0 (KF.keeps hk)) (hF.keep hk) (fun c hc w2 cs2 vk bk hr ho hb2 hf2 hl2 => by
        obtain ⟨d2, l2, a2, n2, c2, rfl, rfl, hs2⟩ := hr
        have e4 : wkb (.node 2 d2 l2 []) = lineB d2 l2 := by rw [wkb, if_neg (by decide), if_pos rfl]
        rw [e4] at hl2 ⊢
        exact lineApp_ base d2 l2 a2 n2 c2 vk bk w2 ho hb2 hs2 hf2 (by have := hBk _ hc; cases this with | mk _ _ _ _ h1 _ => exact h1) (by omega)) hl).mono fun e w3 h => app_after hk h
    generalize bs ++ manyB 5 d kids wkb = E at *
    clear hx0
    have hk1 : Stab.Keeps w (w.alloc (.cells #[.int .i64 5, .iface 197 (.pointer (some ⟨b, 0, none⟩))] 78)) := by with_reducible (repeat (first | exact Kx.r _ | assumption | refine Kx.a ?_ _ | refine Kx.d ?_ | refine Kx.e ?_ _ | (refine Kx.s ?_ ?_ _; focus (first | (simp; done) | (simp; omega))) | refine Kx.t ?_ (by assumption)))
    have hB1 : Blk (w.alloc (.cells #[.int .i64 5, .iface 197 (.pointer (some ⟨b, 0, none⟩))] 78)) w.heap.size 78 [.int .i64 5, .iface 197 (.pointer (some ⟨b, 0, none⟩))] := by with_reducible (repeat (first | assumption | ((refine Bx.n ⟨?_, ?_⟩) <;> focus (first | rfl | (simp; done) | omega)) | refine Bx.a ?_ _ | refine Bx.d ?_ | refine Bx.e ?_ _ | (refine Bx.p ?_ ?_; focus (first | (simp; done) | (simp; omega) | omega))))
    have HAP := Lib.hid hAp
    have HMU := Lib.hid hMu
    clear hAp hMu hBb
    go_enter Tryz.func55, Tryz.ntmps55
    go_upto_region 1 with (fail)
    generalize (w.alloc (.cells #[.int .i64 5, .iface 197 (.pointer (some ⟨b, 0, none⟩))] 78)) = w1 at *
    have g0 := hB1.cell (i := 0) rfl
    have g1 := hB1.cell (i := 1) rfl
    have gf := hB1.free
    have gl := hB1.lt
    go_wp2_with fail
    refine (HMU.out _ hk1).mono ?_
    rintro e w2 ⟨rfl, hk2⟩
    have hk12 := Stab.Keeps.trans hk1 hk2
    clear g0 g1 gf gl hB1 hk1 hk2
    go_wp2_with fail
    refine (HAP.out _ hk12).mono ?_
    rintro e w3 ⟨v3, rfl, hown3, hc3, hn3⟩
    go_wp2_with fail
    go_ret
    exact ⟨v3, rfl, hown3, hc3, hn3⟩
  | my b cs p hbF hBb hx =>
    have hx0 := hx
    obtain ⟨d', a, n, cap, css, kids', rfl, he, hd, hn, hR, hdim⟩ := hx
    cases he
    rw [wkb_many 6 d [] kids (by decide) (by decide) (by decide)] at hl ⊢
    have hMu := fun w' (hk : Stab.Keeps w w') => mustMy_ a n cap d b w' (hBb.keep hk)
    have hAp := fun w' (hk : Stab.Keeps w w') => (manyMy_ base _ d kids wkb _ bs w' (owns_keep hown hk) (Nat.le_trans hb hk.size) (myS.kf hx0 (KF.keeps hk)) (hF.keep hk) (fun c hc w2 cs2 vk bk hr ho hb2 hf2 hl2 => by
        have hr0 := hr
        obtain ⟨d2, a2, n2, c2, css2, kids2, rfl, rfl, e1, e2, e3, e5⟩ := hr
        have e4 : wkb (.node 3 d2 [] kids2) = polyB d2 kids2 := by rw [wkb, if_neg (by decide), if_neg (by decide), if_pos rfl]
        rw [e4] at hl2 ⊢
        exact polyApp_ base _ d2 kids2 vk bk w2 ho hb2 hr0 hf2 (by have := hBk _ hc; cases this with | mk _ _ _ _ _ h2 => exact h2) hl2) hl).mono fun e w3 h => app_after hk h
    generalize bs ++ manyB 6 d kids wkb = E at *
    clear hx0
    have hk1 : Stab.Keeps w (w.alloc (.cells #[.int .i64 6, .iface 199 (.pointer (some ⟨b, 0, none⟩))] 78)) := by with_reducible (repeat (first | exact Kx.r _ | assumption | refine Kx.a ?_ _ | refine Kx.d ?_ | refine Kx.e ?_ _ | (refine Kx.s ?_ ?_ _; focus (first | (simp; done) | (simp; omega))) | refine Kx.t ?_ (by assumption)))
    have hB1 : Blk (w.alloc (.cells #[.int .i64 6, .iface 199 (.pointer (some ⟨b, 0, none⟩))] 78)) w.heap.size 78 [.int .i64 6, .iface 199 (.pointer (some ⟨b, 0, none⟩))] := by with_reducible (repeat (first | assumption | ((refine Bx.n ⟨?_, ?_⟩) <;> focus (first | rfl | (simp; done) | omega)) | refine Bx.a ?_ _ | refine Bx.d ?_ | refine Bx.e ?_ _ | (refine Bx.p ?_ ?_; focus (first | (simp; done) | (simp; omega) | omega))))
    have HAP := Lib.hid hAp
    have HMU := Lib.hid hMu
    clear hAp hMu hBb
    go_enter Tryz.func55, Tryz.ntmps55
    go_upto_region 1 with (fail)
    generalize (w.alloc (.cells #[.int .i64 6, .iface 199 (.pointer (some ⟨b, 0, none⟩))] 78)) = w1 at *
    have g0 := hB1.cell (i := 0) rfl
    have g1 := hB1.cell (i := 1) rfl
    have gf := hB1.free
    have gl := hB1.lt
    go_wp2_with fail
    refine (HMU.out _ hk1).mono ?_
    rintro e w2 ⟨rfl, hk2⟩
    have hk12 := Stab.Keeps.trans hk1 hk2
    clear g0 g1 gf gl hB1 hk1 hk2
    go_wp2_with fail
    refine (HAP.out _ hk12).mono ?_
    rintro e w3 ⟨v3, rfl, hown3, hc3, hn3⟩
    go_wp2_with fail
    go_ret
    exact ⟨v3, rfl, hown3, hc3, hn3⟩
  | gc b d a n cap css kids hbF hBb hd hn lc lx each sz is hdim =>
    rw [wkb_many 0 d [] kids (by decide) (by decide) (by decide)] at hl ⊢
    have hx0 : GcR w F [.slice a n cap, .int .u8 d] (.node 0 d [] kids) := ⟨d, a, n, cap, css, kids, rfl, rfl, hd, hn, ⟨lc, lx, each, sz, is⟩, hdim⟩
    have hMu := fun w' (hk : Stab.Keeps w w') => mustGc_ a n cap d b w' (hBb.keep hk)
    have hAp := fun w' (hk : Stab.Keeps w w') => (manyGc_ base _ d kids wkb _ bs w' (owns_keep hown hk) (Nat.le_trans hb hk.size) (gcS.kf hx0 (KF.keeps hk)) (hF.keep hk) (fun c hc w2 cs2 vk bk hr ho hb2 hf2 hl2 => ih c hc w2 cs2 vk bk ho hb2 hr (hBk c hc) hf2 hl2) hl).mono fun e w3 h => app_after hk h
    generalize bs ++ manyB 0 d kids wkb = E at *
    clear hx0 is sz each lc lx
    have hk1 : Stab.Keeps w (w.alloc (.cells #[.int .i64 0, .iface 210 (.pointer (some ⟨b, 0, none⟩))] 78)) := by with_reducible (repeat (first | exact Kx.r _ | assumption | refine Kx.a ?_ _ | refine Kx.d ?_ | refine Kx.e ?_ _ | (refine Kx.s ?_ ?_ _; focus (first | (simp; done) | (simp; omega))) | refine Kx.t ?_ (by assumption)))
    have hB1 : Blk (w.alloc (.cells #[.int .i64 0, .iface 210 (.pointer (some ⟨b, 0, none⟩))] 78)) w.heap.size 78 [.int .i64 0, .iface 210 (.pointer (some ⟨b, 0, none⟩))] := by with_reducible (repeat (first | assumption | ((refine Bx.n ⟨?_, ?_⟩) <;> focus (first | rfl | (simp; done) | omega)) | refine Bx.a ?_ _ | refine Bx.d ?_ | refine Bx.e ?_ _ | (refine Bx.p ?_ ?_; focus (first | (simp; done) | (simp; omega) | omega))))
    have HAP := Lib.hid hAp
    have HMU := Lib.hid hMu
    clear hAp hMu hBb
    go_enter Tryz.func55, Tryz.ntmps55
    go_upto_region 1 with (fail)
    generalize (w.alloc (.cells #[.int .i64 0, .iface 210 (.pointer (some ⟨b, 0, none⟩))] 78)) = w1 at *
    have g0 := hB1.cell (i := 0) rfl
    have g1 := hB1.cell (i := 1) rfl
    have gf := hB1.free
    have gl := hB1.lt
    go_wp2_with fail
    refine (HMU.out _ hk1).mono ?_
    rintro e w2 ⟨rfl, hk2⟩
    have hk12 := Stab.Keeps.trans hk1 hk2
    clear g0 g1 gf gl hB1 hk1 hk2
    go_wp2_with fail
    refine (HAP.out _ hk12).mono ?_
    rintro e w3 ⟨v3, rfl, hown3, hc3, hn3⟩
    go_wp2_with fail
    go_ret
    exact ⟨v3, rfl, hown3, hc3, hn3⟩
end Go.Proofs.YtbakhldjfplbfaaGreat
