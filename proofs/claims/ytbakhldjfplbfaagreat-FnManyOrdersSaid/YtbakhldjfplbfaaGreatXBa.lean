/-
  Numbers as bytes; a number put into bytes that are there. No condition.
  The writer of binary forms: its methods append bytes to its own row. No condition.
  The writer of binary forms: counts, numbers. No condition.
  The writer of binary forms: a geometry's type. No condition.
  The writer of binary forms: a place. No condition.
  The writer of binary forms: sequences. No condition.
  The writer of binary forms: a sequence written. No condition.
  Binary forms of points and lines, appended to a row. No condition.
  Binary forms of points, appended to a row. No condition.
-/
import Derived.Test.YtbakhldjfplbfaaGreatXRl
import Derived.Laws.BitsAllLaws
import Derived.Test.YtbakhldjfplbfaaGreatXAp
import Derived.Deep.RegionLaw
import Derived.BigQuiet
import Derived.Lib.Hide
import Derived.Laws.Externs
import Derived.Test.YtbakhldjfplbfaaGreatXH1
set_option linter.unusedVariables false
set_option linter.unusedSimpArgs false
namespace Go.By
open Go.RowKit
/-- the n lowest bytes of a number, the least first -/
def leB : Nat → Nat → List Nat
  | 0, _ => []
  | n + 1, x => x % 256 :: leB n (x / 256)
theorem leB_len (n x : Nat) : (leB n x).length = n := by
  induction n generalizing x with
  | zero => rfl
  | succ n ih => simp [leB, ih]
def byteV (b : Nat) : Value := .int .u8 (b : Int)
def bytesV (l : List Nat) : List Value := l.map byteV
theorem bytesV_len (l : List Nat) : (bytesV l).length = l.length := List.length_map ..
theorem bytesV_app (a b : List Nat) : bytesV (a ++ b) = bytesV a ++ bytesV b := List.map_append
theorem bytesV_one (l : List Nat) : ∀ u ∈ bytesV l, u.oneCell' = true := by
  intro u hu
  obtain ⟨b, _, rfl⟩ := List.mem_map.1 hu
  rfl
end Go.By
set_option linter.unusedVariables false
set_option linter.unusedSimpArgs false
namespace Go.Proofs.YtbakhldjfplbfaaGreat
open Go.RowKit Go.Fl Go.Sl Go.Pg Go.Ch Go.Kf Go.By
theorem infoU8 : (Tryz.prog.info? 5).map (fun i => (i.zero, i.size, i.bytes)) = some (some (.int .u8 0), 1, 1) := by kernel_rfl
theorem run_append_szat {P : Program} (w : World) (base : Nat) (t ty e : TypeId) (i : TypeInfo) (z : Value) (size bytes : Nat) (ht : P.underlying t = some (.slice e)) (hi : P.info? e = some i) (hz : i.zero = some z)
    (hsize : i.size = size) (hby : i.bytes = bytes) (hzs : z.cells.size = size) (hsz : 0 < size)
    (v : Value) (n : Nat) (xs : List Value) (hown : w.ownsRow base e size v n xs)
    (A : Option Addr) (m c : Nat) (news : List Value) (hr : Sz w A m c size news) (h1 : ∀ u ∈ news, u.oneCell' = true)
    (h63 : n + m ≤ maxLen) (hbytes : (n + m) * bytes ≤ 140737488355328) (hbase : base ≤ w.heap.size) :
    ∃ al cap w', (Builtin.append_ #[t, t] ty #[v, .slice A m c]).run P w = .ok (.slice al (n + m) cap) w' ∧ w'.ownsRow base e size (.slice al (n + m) cap) (n + m) (xs ++ news) ∧ w.grownBy w' v.ownBlock ∧
      ((Value.slice al (n + m) cap).ownBlock = v.ownBlock ∨ (Value.slice al (n + m) cap).ownBlock = some w.heap.size) := by
  cases A with
  | some ad =>
    obtain ⟨v', w', hr, h2, h3, _, hat⟩ := run_append_own_at (P := P) w base t ty e i z size bytes ht hi hz hsize hby hzs hsz v n xs hown ad m c news hr.len (fun j u hj => by
      rcases Nat.eq_zero_or_pos m with h0 | h0
      · subst h0
        have hn : news = [] := List.eq_nil_of_length_eq_zero (by simpa using hr.len)
        subst hn
        simp at hj
      · obtain ⟨b, off, e, _, hc⟩ := (hr.some_ h0).at_ ad rfl
        subst e
        rw [add_none]
        exact hc j u hj) h1 h63 hbytes hbase
    obtain ⟨al, cap, rfl, _, _, _⟩ := of_owns h2
    exact ⟨al, cap, w', hr, h2, h3, hat⟩
  | none =>
    have hm : m = 0 := by
      rcases Nat.eq_zero_or_pos m with h0 | h0
      · exact h0
      · have h2 := hr.some_ h0
        have h3 := h2.nil rfl
        have h4 := h2.le
        omega
    subst hm
    have hn : news = [] := List.eq_nil_of_length_eq_zero (by simpa using hr.len)
    subst hn
    obtain ⟨al, cap, rfl, _, _, _⟩ := of_owns hown
    exact ⟨al, cap, w, run_append_nil0 w base t ty e i size ht hi _ n xs hown c, by simpa using hown, World.grownBy.refl w _, .inl rfl⟩
theorem step_append_sz {P : Program} {ops : Array Oper} {o : Oper} {a : Act} {w : World} {K : Act → World → Prop} {Q : Exit → Act → World → Prop} {E : Prop}
    (hg : o.guard = none) (s x : Operand) (t : TypeId) (hop : o.op = Op.call { callee := Callee.builtin Builtin.append, args := #[s, x], argTypes := #[t, t] })
    (base : Nat) (e : TypeId) (i : TypeInfo) (z : Value) (size bytes : Nat) (h1 : P.underlying t = some (.slice e)) (h2 : P.info? e = some i) (h3 : i.zero = some z) (h4 : i.size = size) (h5 : i.bytes = bytes) (h6 : z.cells.size = size) (h7 : 0 < size)
    (v : Value) (n : Nat) (xs : List Value) (hs : a.eval s = v) (hown : w.ownsRow base e size v n xs)
    (ad : Option Addr) (m c : Nat) (news : List Value) (hx : a.eval x = .slice ad m c) (hr : Sz w ad m c size news) (h1c : ∀ u ∈ news, u.oneCell' = true)
    (b1 : n + m ≤ maxLen) (b2 : (n + m) * bytes ≤ 140737488355328) (hbase : base ≤ w.heap.size)
    (hK : ∀ al cap w', w'.ownsRow base e size (.slice al (n + m) cap) (n + m) (xs ++ news) → w.grownBy w' v.ownBlock → ((Value.slice al (n + m) cap).ownBlock = v.ownBlock ∨ (Value.slice al (n + m) cap).ownBlock = some w.heap.size) → K (a.put o.dst (.slice al (n + m) cap)) w') :
    if Region.wanted o (yielded ops a.tmps) = true then Oper.wp P o a w K Q else E := by
  have hw : Region.wanted o (yielded ops a.tmps) = true := by simp [Region.wanted, hg]
  rw [if_pos hw]
  obtain ⟨al, cap, w', hrun, r1, r2, r3⟩ := run_append_szat (P := P) w base t o.type e i z size bytes h1 h2 h3 h4 h5 h6 h7 v n xs hown ad m c news hr h1c b1 b2 hbase
  unfold Oper.wp
  simp [execOp, hop, resolve, invoke, builtin, hs, hx, hrun, Result.andThen]
  exact hK al cap w' r1 r2 r3
theorem append_szat {P : Program} {w : World} {ops : Array Oper} {rest : List Oper} {o : Oper} {a : Act} {Q : Exit → Act → World → Prop} (hgd : o.guard = none) (s x : Operand) (t : TypeId)
    (ho : o.op = .call { callee := .builtin .append, args := #[s, x], argTypes := #[t, t] })
    (base : Nat) (e : TypeId) (i : TypeInfo) (z : Value) (size bytes : Nat) (ht : P.underlying t = some (.slice e)) (hi : P.info? e = some i) (hz : i.zero = some z)
    (hsize : i.size = size) (hby : i.bytes = bytes) (hzs : z.cells.size = size) (hsz : 0 < size)
    (v : Value) (n : Nat) (xs : List Value) (hs : a.eval s = v) (hown : w.ownsRow base e size v n xs)
    (A : Option Addr) (m c : Nat) (news : List Value) (hx : a.eval x = .slice A m c) (hr : Sz w A m c size news) (h1 : ∀ u ∈ news, u.oneCell' = true)
    (h63 : n + m ≤ maxLen) (hbytes : (n + m) * bytes ≤ 140737488355328) (hbase : base ≤ w.heap.size)
    (h : ∀ al cap w', w'.ownsRow base e size (.slice al (n + m) cap) (n + m) (xs ++ news) → w.grownBy w' v.ownBlock → ((Value.slice al (n + m) cap).ownBlock = v.ownBlock ∨ (Value.slice al (n + m) cap).ownBlock = some w.heap.size) → wpList P ops Q rest (a.put o.dst (.slice al (n + m) cap)) w') : wpList P ops Q (o :: rest) a w := by
  refine wpList_plain hgd fun K hK => ?_
  obtain ⟨al, cap, w', hrun, r1, r2, r3⟩ := run_append_szat (P := P) w base t o.type e i z size bytes ht hi hz hsize hby hzs hsz v n xs hown A m c news hr h1 h63 hbytes hbase
  unfold Oper.wp execOp
  simp only [ho, resolve, invoke, builtin, Sem.run_bind, Sem.run_pure, Result.andThen_ok, List.map_toArray, List.map_cons, List.map_nil, hs, hx, hrun]
  exact hK _ _ (h al cap w' r1 r2 r3)
theorem sz_blk {w : World} {b n : Nat} {T : TypeId} {vs : List Value} (hB : Blk w b T vs) (hn : vs.length = n) (hm : n ≤ maxLen) : Sz w (some ⟨b, 0, none⟩) n n 1 vs := by
  refine ⟨by omega, Nat.le_refl _, hm, fun _ => ⟨by omega, Nat.le_refl _, hm, (fun h => by cases h), fun x hx => ?_⟩⟩
  cases hx
  exact ⟨b, 0, rfl, hB.lt, fun j u hu => by rw [Nat.zero_add]; exact hB.cell hu⟩
/-- a row's block is of its own type -/
theorem row_apart {w : World} {base k n b : Nat} {e e' : TypeId} {v : Value} {xs vs : List Value} (h : w.ownsRow base e k v n xs) (hb : Blk w b e' vs) (he : e' ≠ e) : some b ≠ v.ownBlock := by
  obtain ⟨_, h2⟩ := h
  rcases h2 with ⟨rfl, _⟩ | ⟨g, cap, cur, rfl, _, hg, _⟩
  · simp [Value.ownBlock]
  · intro heq
    simp only [Value.ownBlock, Option.some.injEq] at heq
    subst heq
    unfold Blk at hb
    rw [hb] at hg
    injection hg with hg
    injection hg with h3 h4
    exact he h4
theorem row_same {w w' : World} {base k n : Nat} {e : TypeId} {v : Value} {xs : List Value} (h : w.ownsRow base e k v n xs) (hk : ∀ g, v.ownBlock = some g → w'.heap[g]? = w.heap[g]?) : w'.ownsRow base e k v n xs := by
  refine ⟨h.1, ?_⟩
  rcases h.2 with hn | ⟨g, cap, cur, hv, hb, hg, rest⟩
  · exact .inl hn
  · exact .inr ⟨g, cap, cur, hv, hb, by rw [hk g (by rw [hv]; rfl)]; exact hg, rest⟩
end Go.Proofs.YtbakhldjfplbfaaGreat
set_option linter.unusedVariables false
set_option linter.unusedSimpArgs false
namespace Go.Proofs.YtbakhldjfplbfaaGreat
open Go.RowKit Go.Fl Go.Sl Go.Pg Go.Ch Go.Kf Go.By
theorem ext_bits (x : Nat) (w : World) : (callFunc 61 #[.float .f64 x]).run Tryz.prog w = .ok (.value (.int .u64 x)) w := by
  rw [run_callFunc_extern (e := Extern.MathFloatBits.float64bits) Tryz.func61 (by kernel_rfl) (by kernel_rfl) (by kernel_rfl) (by kernel_rfl)]
  rfl
end Go.Proofs.YtbakhldjfplbfaaGreat
set_option linter.unusedVariables false
set_option linter.unusedSimpArgs false
namespace Go.Proofs.YtbakhldjfplbfaaGreat
open Go.RowKit Go.Fl Go.Sl Go.Pg Go.Ch Go.Kf Go.By
/-- a kind's number in binary forms -/
def codeN (k : Nat) : Nat := if k = 0 then 7 else k
end Go.Proofs.YtbakhldjfplbfaaGreat
set_option linter.unusedVariables false
set_option linter.unusedSimpArgs false
namespace Go.By
open Go.Pg
def natB (x : Nat) : Prop := x < 18446744073709551616
structure PlB (p : Pl) : Prop where
  x : natB p.x
  y : natB p.y
  z : natB p.z
  m : natB p.m
/-- the bytes of numbers, the least byte first -/
def leN (l : List Nat) : List Nat := l.flatMap (leB 8)
theorem leN_len (l : List Nat) : (leN l).length = l.length * 8 := flat_len' _ 8 (leB_len 8) l
theorem leN_app (a b : List Nat) : leN (a ++ b) = leN a ++ leN b := by simp [leN]
theorem leN_cons (x : Nat) (l : List Nat) : leN (x :: l) = leB 8 x ++ leN l := by simp [leN]
theorem plB_nums {d : Nat} {p : Pl} (h : PlB p) : ∀ x ∈ p.nums d, natB x := by
  intro x hx
  unfold Pl.nums at hx
  simp only [List.mem_cons, List.mem_append] at hx
  rcases hx with rfl | rfl | hx | hx
  · exact h.x
  · exact h.y
  · split at hx
    · simp at hx; rw [hx]; exact h.z
    · simp at hx
  · split at hx
    · simp at hx; rw [hx]; exact h.m
    · simp at hx
theorem numsOf_B {d : Nat} {ps : List Pl} (h : ∀ p ∈ ps, PlB p) : ∀ x ∈ numsOf d ps, natB x := by
  intro x hx
  obtain ⟨p, hp, hx⟩ := List.mem_flatMap.1 hx
  exact plB_nums (h p hp) x hx
end Go.By
set_option linter.unusedVariables false
set_option linter.unusedSimpArgs false
namespace Go.Proofs.YtbakhldjfplbfaaGreat
open Go.RowKit Go.Fl Go.Sl Go.Pg Go.Ch Go.Kf Go.By
theorem made_u8 (N : Nat) : madeCells (Value.int .u8 0).cells (N * 1) = Array.replicate N (Value.int .u8 0) := by
  apply Array.ext
  · rw [size_madeCells]; simp
  · intro i h1 h2
    simp [madeCells, Value.cells, Nat.mod_one]
theorem blk_rep (w : World) (N : Nat) (v : Value) (T : TypeId) : Blk (w.alloc (.cells (Array.replicate N v) T)) w.heap.size T (List.replicate N v) := by
  have := Blk.new w (List.replicate N v) T _ rfl
  simpa using this
end Go.Proofs.YtbakhldjfplbfaaGreat
set_option linter.unusedVariables false
set_option linter.unusedSimpArgs false
namespace Go.Proofs.YtbakhldjfplbfaaGreat
open Go.RowKit Go.Fl Go.Sl Go.Pg Go.Ch Go.Kf Go.By
def seqB (d : Nat) (ps : List Pl) : List Nat := leB 4 ps.length ++ leN (numsOf d ps)
theorem seqB_len (d : Nat) (ps : List Pl) : (seqB d ps).length = 4 + ps.length * wid d * 8 := by unfold seqB; rw [List.length_append, leB_len, leN_len, numsOf_len]
end Go.Proofs.YtbakhldjfplbfaaGreat
set_option linter.unusedVariables false
set_option linter.unusedSimpArgs false
namespace Go.Proofs.YtbakhldjfplbfaaGreat
open Go.RowKit Go.Fl Go.Sl Go.Pg Go.Ch Go.Kf Go.By
theorem ext_from (x : Nat) (w : World) : (callFunc 60 #[.int .u64 x]).run Tryz.prog w = .ok (.value (.float .f64 x)) w := by
  rw [run_callFunc_extern (e := Extern.MathFloatBits.float64frombits) Tryz.func60 (by kernel_rfl) (by kernel_rfl) (by kernel_rfl) (by kernel_rfl)]
  rfl
def nanB : Nat := 9221120237041090561
def headB (k d : Nat) : List Nat := 1 :: leB 4 (d * 1000 + codeN k)
theorem headB_len (k d : Nat) : (headB k d).length = 5 := by unfold headB; rw [List.length_cons, leB_len]
def nanP : Pl := ⟨nanB, nanB, nanB, nanB⟩
def ptB (d : Nat) (l : List Pl) : List Nat := headB 1 d ++ leN ((l.headD nanP).nums d)
def lineB (d : Nat) (l : List Pl) : List Nat := headB 2 d ++ seqB d l
end Go.Proofs.YtbakhldjfplbfaaGreat
set_option linter.unusedVariables false
set_option linter.unusedSimpArgs false
namespace Go.Proofs.YtbakhldjfplbfaaGreat
open Go.RowKit Go.Fl Go.Sl Go.Pg Go.Ch Go.Kf Go.By
theorem ptB_len (d : Nat) (l : List Pl) : (ptB d l).length = 5 + wid d * 8 := by unfold ptB; rw [List.length_append, headB_len, leN_len, nums_len]
end Go.Proofs.YtbakhldjfplbfaaGreat
