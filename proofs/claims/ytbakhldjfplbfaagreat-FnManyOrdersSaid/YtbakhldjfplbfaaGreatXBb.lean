/-
  Binary forms of polygons, appended to a row. No condition.
  Binary forms of geometries made of parts, appended to a row. No condition.
  Binary forms of geometries, appended to a row. No condition.
  The reference's writer of binary forms: numbers. No condition.
  The reference's writer of binary forms: rows of numbers, lines. No condition.
  The reference's writer of binary forms: a geometry begun. No condition.
  The reference's writer of binary forms: geometries. No condition.
  The reference's binary form of a geometry. No condition.
-/
import Derived.Test.YtbakhldjfplbfaaGreatXBa
import Derived.Test.YtbakhldjfplbfaaGreatXHb
import Derived.Test.YtbakhldjfplbfaaGreatXH5
import Derived.Test.YtbakhldjfplbfaaGreatXS1
import Derived.Test.YtbakhldjfplbfaaGreatXR5
set_option linter.unusedVariables false
set_option linter.unusedSimpArgs false
namespace Go.Proofs.YtbakhldjfplbfaaGreat
open Go.RowKit Go.Fl Go.Sl Go.Pg Go.Ch Go.Kf Go.By
theorem flat_take_succ {α β : Type} (f : α → List β) (l : List α) (k : Nat) (hk : k < l.length) : (l.take (k + 1)).flatMap f = (l.take k).flatMap f ++ f l[k] := by
  rw [List.take_succ_eq_append_getElem hk, List.flatMap_append]; simp
def ringsB (c : Pg) : List Nat := seqB c.dim c.ps
def polyB (d : Nat) (kids : List Pg) : List Nat := headB 3 d ++ leB 4 kids.length ++ kids.flatMap ringsB
/-- every number of a geometry's places is 64 bits -/
inductive PgB : Pg → Prop where
  | mk (k d : Nat) (ps : List Pl) (kids : List Pg) (h1 : ∀ p ∈ ps, PlB p) (h2 : ∀ c ∈ kids, PgB c) : PgB (.node k d ps kids)
end Go.Proofs.YtbakhldjfplbfaaGreat
set_option linter.unusedVariables false
set_option linter.unusedSimpArgs false
namespace Go.Proofs.YtbakhldjfplbfaaGreat
open Go.RowKit Go.Fl Go.Sl Go.Pg Go.Ch Go.Kf Go.By
def manyB (k d : Nat) (kids : List Pg) (f : Pg → List Nat) : List Nat := headB k d ++ leB 4 kids.length ++ kids.flatMap f
end Go.Proofs.YtbakhldjfplbfaaGreat
set_option linter.unusedVariables false
set_option linter.unusedSimpArgs false
namespace Go.Proofs.YtbakhldjfplbfaaGreat
open Go.RowKit Go.Fl Go.Sl Go.Pg Go.Ch Go.Kf Go.By
mutual
/-- a geometry's binary form, the least byte of each number first -/
def wkb : Pg → List Nat
  | .node k d ps kids => if k = 1 then ptB d ps else if k = 2 then lineB d ps else if k = 3 then polyB d kids else headB k d ++ leB 4 kids.length ++ wkbs kids
def wkbs : List Pg → List Nat
  | [] => []
  | c :: r => wkb c ++ wkbs r
end
theorem wkbs_eq (l : List Pg) : wkbs l = l.flatMap wkb := by
  induction l with
  | nil => simp [wkbs]
  | cons a l ih => simp [wkbs, ih]
theorem wkb_many (k d : Nat) (ps : List Pl) (kids : List Pg) (h1 : k ≠ 1) (h2 : k ≠ 2) (h3 : k ≠ 3) : wkb (.node k d ps kids) = manyB k d kids wkb := by rw [wkb, if_neg h1, if_neg h2, if_neg h3, wkbs_eq]; rfl
theorem Pg.indB {P : Pg → Prop} (h : ∀ k d ps kids, (∀ c ∈ kids, P c) → P (.node k d ps kids)) : ∀ p, P p := by
  intro p
  refine Pg.rec (motive_1 := P) (motive_2 := fun l => ∀ c ∈ l, P c) ?_ ?_ ?_ p
  · intro k d ps kids ih
    exact h k d ps kids ih
  · simp
  · intro c r h1 h2 x hx
    rcases List.mem_cons.1 hx with rfl | hx
    · exact h1
    · exact h2 x hx
end Go.Proofs.YtbakhldjfplbfaaGreat
set_option linter.unusedVariables false
set_option linter.unusedSimpArgs false
namespace Go.By
open Go.RowKit
def byteAt (x j : Nat) : Nat := x / 256 ^ j % 256
theorem leB_map (n x : Nat) : leB n x = (List.range n).map (byteAt x) := by
  induction n generalizing x with
  | zero => rfl
  | succ n ih =>
    rw [leB, ih, List.range_succ_eq_map, List.map_cons, List.map_map]
    congr 1
    · simp [byteAt]
    · refine List.map_congr_left fun i _ => ?_
      simp only [byteAt, Function.comp, Nat.pow_succ, Nat.div_div_eq_div_mul]
      rw [Nat.mul_comm 256]
def encB (big : Bool) (n x : Nat) : List Nat := if big then (leB n x).reverse else leB n x
theorem encB_len (big : Bool) (n x : Nat) : (encB big n x).length = n := by unfold encB; split <;> simp [leB_len]
/-- the first k bytes of n -/
def encP (big : Bool) (n x k : Nat) : List Nat := (List.range k).map fun i => byteAt x (if big then n - 1 - i else i)
theorem encP_len (big : Bool) (n x k : Nat) : (encP big n x k).length = k := by simp [encP]
theorem encP_succ (big : Bool) (n x k : Nat) : encP big n x (k + 1) = encP big n x k ++ [byteAt x (if big then n - 1 - k else k)] := by unfold encP; rw [List.range_succ, List.map_append, List.map_singleton]
theorem encB_map (big : Bool) (n x : Nat) : encB big n x = encP big n x n := by
  unfold encB encP
  cases big
  · simp [leB_map]
  · simp only [if_true]
    rw [leB_map]
    refine List.ext_getElem (by simp) fun i h1 h2 => ?_
    simp at h1 h2 ⊢
end Go.By
namespace Go.Proofs.YtbakhldjfplbfaaGreat
open Go.RowKit Go.Fl Go.Sl Go.Pg Go.Ch Go.Kf Go.By
def boolsV (o : List Bool) : List Value := o.map Value.bool
/-- the reference's writer at wb, begun in w0, its row v, its orders o -/
structure SO (w0 : World) (wb : Nat) (wk : World) (v : Value) (bs : List Nat) (o : List Bool) : Prop where
  keep : Stab.Keeps w0 wk
  blk : ∃ oa on oc, Blk wk wb 108 [v, .slice oa on oc] ∧ Sz w0 oa on oc 1 (boolsV o)
  own : wk.ownsRow w0.heap.size 5 1 v bs.length (bytesV bs)
  ge : w0.heap.size ≤ wb
def SPost (w0 : World) (wb : Nat) (wk : World) (bs : List Nat) (o : List Bool) (e : Ending) (w' : World) : Prop := e = .returned (.tuple #[]) ∧ ∃ v', SO w0 wb w' v' bs o ∧ ∀ b T vs, Blk wk b T vs → T ≠ 108 → T ≠ 5 → Blk w' b T vs
theorem SO.keeps {w0 wk w' : World} {wb : Nat} {v : Value} {bs : List Nat} {o : List Bool} (h : SO w0 wb wk v bs o) (hk : Stab.Keeps wk w') : SO w0 wb w' v bs o := by
  obtain ⟨h1, ⟨oa, on, oc, h2, h3⟩, h4, h5⟩ := h
  exact ⟨Stab.Keeps.trans h1 hk, ⟨oa, on, oc, h2.keep hk, h3⟩, owns_keep h4 hk, h5⟩
theorem so_fin {w0 w1 w2 : World} {wb : Nat} {v : Value} {bs news : List Nat} {o : List Bool} {al : Option Addr} {cap m : Nat} (h : SO w0 wb w1 v bs o) (hm : news.length = m)
    (hown : w2.ownsRow w0.heap.size 5 1 (.slice al (bs.length + m) cap) (bs.length + m) (bytesV bs ++ bytesV news)) (hgr : w1.grownBy w2 v.ownBlock) :
    SPost w0 wb w1 (bs ++ news) o (.returned (.tuple #[])) (w2.setCell ⟨wb, 0, none⟩ (.slice al (bs.length + m) cap)) := by
  obtain ⟨hk, ⟨oa, on, oc, hB, hO⟩, hown0, hge⟩ := h
  have hne : some wb ≠ v.ownBlock := row_apart hown0 hB (by decide)
  have hb2 := hB.grown hgr hne
  have hne2 := row_apart hown hb2 (by decide)
  have hb3 := hb2.set 0 (.slice al (bs.length + m) cap)
  simp only [List.set] at hb3
  rw [← bytesV_app] at hown
  have hl : bs.length + m = (bs ++ news).length := by rw [List.length_append, hm]
  refine ⟨rfl, .slice al (bs.length + m) cap, ⟨?_, ⟨oa, on, oc, hb3, hO⟩, ?_, hge⟩, fun b T vs hb e1 e2 => ?_⟩
  · exact Stab.Keeps.setCell hge (Below.grown hk hgr hk.size fun k hk' => (hown0.lt k hk').1) _
  · rw [← hl]
    exact row_same hown fun g hg => Below.heap_setCell _ _ _ _ (fun e => hne2 (by rw [hg]; exact congrArg some e.symm))
  · have n1 : b ≠ wb := hb.ne hB e1
    exact (hb.grown hgr (row_apart hown0 hb e2)).past (a := ⟨wb, 0, none⟩) n1 _
set_option maxRecDepth 100000 in
set_option maxHeartbeats 2000000 in
theorem sUint_ (w0 : World) (wb x n : Nat) (big : Bool) (v : Value) (bs : List Nat) (o : List Bool) (w : World) (h : SO w0 wb w v bs o) (hn : n ≤ 8) (hx : x < 18446744073709551616) (hl : bs.length + n ≤ 1000000000) :
    Calls Tryz.prog 132 #[.pointer (some ⟨wb, 0, none⟩), .int .u64 x, .int .i64 n, .bool big] w (SPost w0 wb w (bs ++ encB big n x) o) := by
  obtain ⟨i0, hi, hz0, hz1, hz2⟩ := info_parts infoU8
  have HI := Lib.hid hi
  have HZ := Lib.hid hz0
  have HZ1 := Lib.hid hz1
  have HZ2 := Lib.hid hz2
  clear hi hz0 hz1 hz2
  go_enter Tryz.func132, Tryz.ntmps132
  go_wp2_with fail
  go_loopw [10] (fun iv wr => ∃ (k : Nat) (vk : Value), k ≤ n ∧ iv = .int .i64 k ∧ SO w0 wb wr vk (bs ++ encP big n x k) o ∧ ∀ b T vs, Blk w b T vs → T ≠ 108 → T ≠ 5 → Blk wr b T vs) (fun iv _ => n - (intOf iv).toNat)
  case atStart => exact ⟨0, v, by omega, rfl, by simpa [encP] using h, fun _ _ _ hb _ _ => hb⟩
  case round =>
    clear h
    obtain ⟨k, vk, hk, rfl, hS, hK⟩ := hrel
    by_cases hlt : k < n
    · obtain ⟨j, hj, hj8, hbig⟩ : ∃ j : Nat, (if big then n - 1 - k else k) = j ∧ j < 8 ∧ (big = true → j = n - 1 - k) ∧ (big = false → j = k) := by
        cases big
        · exact ⟨k, rfl, by omega, fun h => by simp at h, fun _ => rfl⟩
        · exact ⟨n - 1 - k, rfl, by omega, fun _ => rfl, fun h => by simp at h⟩
      have hrs := encP_succ big n x k
      rw [hj] at hrs
      have hll : (bs ++ encP big n x k).length = bs.length + k := by rw [List.length_append, encP_len]
      have HSO := Lib.hid hS
      generalize hP : bs ++ encP big n x k = pre at *
      have HP := Lib.hid hP
      obtain ⟨hk0, ⟨oa, on, oc, hB, hO⟩, hown, hge⟩ := hS
      clear hP hj
      obtain ⟨al, cap, rfl, _, _, _⟩ := of_owns hown
      have m0 := hB.cell (i := 0) rfl
      have mf := hB.free
      have ml := hB.lt
      have hs0 := hk0.size
      have hbyte : byteAt x j < 256 := Nat.mod_lt _ (by omega)
      have hbn : big = true → ((n : Int) - 1 - k) = j := fun h => by have := hbig.1 h; omega
      obtain ⟨r, hr⟩ : ∃ r, r = 8 * j := ⟨_, rfl⟩
      obtain ⟨y, hy⟩ : ∃ y, y = x / 256 ^ j := ⟨_, rfl⟩
      obtain ⟨z, hz⟩ : ∃ z, z = byteAt x j := ⟨_, rfl⟩
      have hr64 : (r : Int) ≤ 64 := by omega
      have hdv : (x : Int) / 2 ^ r = (y : Int) := by
        have e : (2 : Int) ^ r = ((256 ^ j : Nat) : Int) := by rw [hr, Int.pow_mul]; simp
        rw [e, hy]; rfl
      have hcv : IntKind.u8.wrap (y : Int) = (z : Int) := by rw [IntKind.wrap_u8, hz, hy]; unfold byteAt; simp
      rw [← hz] at hrs
      have HRS := Lib.hid hrs
      have hkA : Stab.Keeps wr (wr.drew.alloc (.cells #[.int .u8 z] 5)) := by with_reducible (repeat first | exact Kx.r _ | assumption | refine Kx.a ?_ _ | refine Kx.d ?_ | refine Kx.e ?_ _ | refine Kx.s (by simp <;> omega) ?_ _ | refine Kx.t ?_ (by assumption))
      have hSA := HSO.out.keeps hkA
      have hSz := sz_blk (n := 1) (show Blk (wr.drew.alloc (.cells #[.int .u8 z] 5)) wr.heap.size 5 [.int .u8 z] from by with_reducible (repeat first | assumption | (refine Bx.n ⟨?_, ?_⟩ <;> focus (first | rfl | (simp; done) | omega)) | refine Bx.a ?_ _ | refine Bx.d ?_ | refine Bx.e ?_ _ | refine Bx.p (by first | omega | simp <;> omega) ?_)) rfl (by decide)
      have HSA := Lib.hid hSA
      have HSZ := Lib.hid hSz
      have hbA : w0.heap.size ≤ (wr.drew.alloc (.cells #[.int .u8 z] 5)).heap.size := Nat.le_trans hs0 hkA.size
      have hKA : ∀ b T vs, Blk w b T vs → T ≠ 108 → T ≠ 5 → Blk (wr.drew.alloc (.cells #[.int .u8 z] 5)) b T vs := fun b T vs h1 h2 h3 => (hK b T vs h1 h2 h3).keep hkA
      have HKK := Lib.hid hKA
      obtain ⟨_, ⟨oaA, onA, ocA, hBA, _⟩, _, _⟩ := hSA
      have HBA := Lib.hid hBA
      have HLL := Lib.hid hll
      have hbz : byteV z = .int .u8 (z : Int) := rfl
      have HBZ := Lib.hid hbz
      cases big with
      | true =>
        have hw8 : IntKind.i64.wrap (8 * ((n : Int) - 1 - k)) = r := by rw [IntWalk.i64_in _ (by have := hbig.1 rfl; omega)]; have := hbig.1 rfl; omega
        clear hO hB hr hy hz hrs hSz hj8 hown hK hkA hbig hKA hBA hbn hbyte hbz hll
        go_wp2_with fail
        go_region_law (refine step_append_sz rfl (.tmp 22) (.tmp 28) 54 rfl w0.heap.size 5 i0 _ 1 1 Tryz.underlying54 HI.out HZ.out HZ1.out HZ2.out rfl (by decide) _ pre.length (bytesV pre) (by simp [Act.eval, Act.put]) HSA.out.own _ 1 1 [.int .u8 z] (by simp [Act.eval, Act.put]) HSZ.out (by simp [Value.oneCell']) (by have := HLL.out; unfold maxLen; omega) (by have := HLL.out; omega) hbA ?_; intro al' c' w' hown' hgr hat; have hfin := so_fin (m := 1) (news := [z]) HSA.out rfl hown' hgr; have hb2 := HBA.out.grown hgr (row_apart HSA.out.own HBA.out (by decide)); have n0 := hb2.cell (i := 0) rfl; have nf := hb2.free; have nl := hb2.lt)
        all_goals (
          obtain ⟨_, v5, hS5, hK5⟩ := hfin
          have e5 : pre ++ [z] = bs ++ encP true n x (k + 1) := by rw [← HP.out, List.append_assoc, ← HRS.out]
          rw [e5] at hS5
          have hKw := fun b T vs h1 h2 h3 => hK5 b T vs (HKK.out b T vs h1 h2 h3) h2 h3
          clear hK5 hb2 n0 nf nl hown' hgr hat m0 mf ml
          go_wp2_with fail
          exact ⟨⟨k + 1, v5, by omega, by go_num, hS5, hKw⟩, by simp [intOf]; omega⟩)
      | false =>
        have hw8 : IntKind.i64.wrap (8 * (k : Int)) = r := by rw [IntWalk.i64_in _ (by have := hbig.2 rfl; omega)]; have := hbig.2 rfl; omega
        clear hO hB hr hy hz hrs hSz hj8 hown hK hkA hbig hKA hBA hbn hbyte hbz hll
        go_wp2_with fail
        go_region_law (refine step_append_sz rfl (.tmp 22) (.tmp 28) 54 rfl w0.heap.size 5 i0 _ 1 1 Tryz.underlying54 HI.out HZ.out HZ1.out HZ2.out rfl (by decide) _ pre.length (bytesV pre) (by simp [Act.eval, Act.put]) HSA.out.own _ 1 1 [.int .u8 z] (by simp [Act.eval, Act.put]) HSZ.out (by simp [Value.oneCell']) (by have := HLL.out; unfold maxLen; omega) (by have := HLL.out; omega) hbA ?_; intro al' c' w' hown' hgr hat; have hfin := so_fin (m := 1) (news := [z]) HSA.out rfl hown' hgr; have hb2 := HBA.out.grown hgr (row_apart HSA.out.own HBA.out (by decide)); have n0 := hb2.cell (i := 0) rfl; have nf := hb2.free; have nl := hb2.lt)
        all_goals (
          obtain ⟨_, v5, hS5, hK5⟩ := hfin
          have e5 : pre ++ [z] = bs ++ encP false n x (k + 1) := by rw [← HP.out, List.append_assoc, ← HRS.out]
          rw [e5] at hS5
          have hKw := fun b T vs h1 h2 h3 => hK5 b T vs (HKK.out b T vs h1 h2 h3) h2 h3
          clear hK5 hb2 n0 nf nl hown' hgr hat m0 mf ml
          go_wp2_with fail
          exact ⟨⟨k + 1, v5, by omega, by go_num, hS5, hKw⟩, by simp [intOf]; omega⟩)
    · obtain rfl : n = k := by omega
      go_wp2_with fail
      go_end0
      rw [encB_map]
      exact ⟨rfl, vk, hS, hK⟩
end Go.Proofs.YtbakhldjfplbfaaGreat
set_option linter.unusedVariables false
set_option linter.unusedSimpArgs false
namespace Go.By
open Go.RowKit Go.Pg
def encN8 (big : Bool) (l : List Nat) : List Nat := l.flatMap (encB big 8)
theorem encN8_len (big : Bool) (l : List Nat) : (encN8 big l).length = l.length * 8 := flat_len' _ 8 (fun x => encB_len big 8 x) l
end Go.By
namespace Go.Proofs.YtbakhldjfplbfaaGreat
open Go.RowKit Go.Fl Go.Sl Go.Pg Go.Ch Go.Kf Go.By
set_option maxRecDepth 100000 in
set_option maxHeartbeats 1000000 in
theorem sNums_ (w0 : World) (wb : Nat) (a : Option Addr) (n cap : Nat) (l : List Nat) (big : Bool) (v : Value) (bs : List Nat) (o : List Bool) (w : World) (h : SO w0 wb w v bs o) (hn : l.length = n) (hs : Sz w0 a n cap 1 (encN l)) (hB : ∀ x ∈ l, natB x) (hl : bs.length + n * 8 ≤ 1000000000) :
    Calls Tryz.prog 134 #[.pointer (some ⟨wb, 0, none⟩), .slice a n cap, .bool big] w (SPost w0 wb w (bs ++ encN8 big l) o) := by
  have hmx := hs.max
  have hle := hs.le
  unfold maxLen at hmx
  have HN := Lib.hid hn
  clear hn
  go_enter Tryz.func134, Tryz.ntmps134
  go_wp2_with fail
  go_loopw [10] (fun iv wr => ∃ (k : Nat) (vk : Value), k ≤ n ∧ iv = .int .i64 k ∧ SO w0 wb wr vk (bs ++ encN8 big (l.take k)) o ∧ ∀ b T vs, Blk w b T vs → T ≠ 108 → T ≠ 5 → Blk wr b T vs) (fun iv _ => n - (intOf iv).toNat)
  case atStart => exact ⟨0, v, by omega, rfl, by simpa [encN8] using h, fun _ _ _ hb _ _ => hb⟩
  case round =>
    clear h
    obtain ⟨k, vk, hk, rfl, hS, hK⟩ := hrel
    by_cases hlt : k < n
    · have hki : k < l.length := by have := HN.out; omega
      obtain ⟨b, off, ha, hbw, hc⟩ := (hs.keep hS.keep).elem hlt
      subst ha
      have c0 : wr.cell? ⟨b, off + k, none⟩ = some (.float .f64 l[k]) := by have := hc 0 _ (by omega) (encN_get l k hki); simpa using this
      have hx := hB _ (List.getElem_mem hki)
      unfold natB at hx
      have hts : encN8 big (l.take (k + 1)) = encN8 big (l.take k) ++ encB big 8 l[k] := flat_take_succ _ l k hki
      have hbits := ext_bits l[k]
      have HTS := Lib.hid hts
      have hlen : (bs ++ encN8 big (l.take k)).length = bs.length + k * 8 := by rw [List.length_append, encN8_len, List.length_take, Nat.min_eq_left (by omega)]
      have HL := Lib.hid hlen
      have HK := Lib.hid hK
      clear hc hts hlen hK
      generalize l[k] = x at *
      go_wp2_with fail
      refine (sUint_ w0 wb x 8 big vk _ o wr hS (by omega) hx (by have := HL.out; omega)).mono ?_
      rintro e w2 ⟨rfl, v2, hS2, hK2⟩
      rw [List.append_assoc, ← HTS.out] at hS2
      have hKw := fun b T vs h1 h2 h3 => hK2 b T vs (HK.out b T vs h1 h2 h3) h2 h3
      clear hS hK2 c0 hbits
      go_wp2_with fail
      exact ⟨⟨k + 1, v2, by omega, by go_num, hS2, hKw⟩, by simp [intOf]; omega⟩
    · obtain rfl : n = k := by omega
      rw [List.take_of_length_le (by have := HN.out; omega)] at hS
      go_wp2_with fail
      go_end0
      exact ⟨rfl, vk, hS, hK⟩
/-- a count of places and their numbers -/
def seqE (big : Bool) (d : Nat) (ps : List Pl) : List Nat := encB big 4 ps.length ++ encN8 big (numsOf d ps)
theorem seqE_len (big : Bool) (d : Nat) (ps : List Pl) : (seqE big d ps).length = 4 + ps.length * wid d * 8 := by unfold seqE; rw [List.length_append, encB_len, encN8_len, numsOf_len]
set_option maxRecDepth 100000 in
set_option maxHeartbeats 1000000 in
theorem sLine_ (w0 : World) (wb : Nat) (kind : Int) (d : Nat) (na ka : Option Addr) (nn nc kn kc : Nat) (ps : List Pl) (big : Bool) (v : Value) (bs : List Nat) (o : List Bool) (w : World) (h : SO w0 wb w v bs o) (hd : d < 4) (hn : (numsOf d ps).length = nn) (hs : Sz w0 na nn nc 1 (encN (numsOf d ps))) (hB : ∀ p ∈ ps, PlB p) (hm : ps.length ≤ 1000000) (hl : bs.length + (seqE big d ps).length ≤ 1000000000) :
    Calls Tryz.prog 135 #[.pointer (some ⟨wb, 0, none⟩), .agg #[.int .i64 kind, .int .i64 d, .slice na nn nc, .slice ka kn kc], .bool big] w (SPost w0 wb w (bs ++ seqE big d ps) o) := by
  rw [seqE_len] at hl
  have hW := width_ d hd
  have hwp := wid_pos d
  have hwl := wid_le d
  have hnn : nn = ps.length * wid d := by rw [← hn, numsOf_len]
  have hnb : nn ≤ 4000000 := by have := Nat.mul_le_mul_left ps.length hwl; omega
  have hquo : (nn : Int).tdiv (wid d : Int) = (ps.length : Int) := by rw [hnn, Int.natCast_mul]; exact Int.mul_tdiv_cancel _ (by omega)
  have hk1 : Stab.Keeps w (w.alloc (.cells #[.int .i64 kind, .int .i64 d, .slice na nn nc, .slice ka kn kc] 25)) := by with_reducible (repeat first | exact Kx.r _ | assumption | refine Kx.a ?_ _ | refine Kx.d ?_ | refine Kx.e ?_ _ | refine Kx.s (by simp <;> omega) ?_ _ | refine Kx.t ?_ (by assumption))
  have hB1 : Blk (w.alloc (.cells #[.int .i64 kind, .int .i64 d, .slice na nn nc, .slice ka kn kc] 25)) w.heap.size 25 [.int .i64 kind, .int .i64 d, .slice na nn nc, .slice ka kn kc] := by with_reducible (repeat first | assumption | (refine Bx.n ⟨?_, ?_⟩ <;> focus (first | rfl | (simp; done) | omega)) | refine Bx.a ?_ _ | refine Bx.d ?_ | refine Bx.e ?_ _ | refine Bx.p (by first | omega | simp <;> omega) ?_)
  have hS1 := h.keeps hk1
  have hNums := fun (v2 : Value) (w2 : World) (h2 : SO w0 wb w2 v2 (bs ++ encB big 4 ps.length) o) => sNums_ w0 wb na nn nc (numsOf d ps) big v2 (bs ++ encB big 4 ps.length) o w2 h2 hn hs (numsOf_B hB) (by rw [List.length_append, encB_len]; omega)
  have HNU := Lib.hid hNums
  unfold seqE
  clear hn hs hB h hNums hnn
  go_enter Tryz.func135, Tryz.ntmps135
  go_upto_region 1 with (fail)
  generalize (w.alloc (.cells #[.int .i64 kind, .int .i64 d, .slice na nn nc, .slice ka kn kc] 25)) = w1 at *
  have g0 := hB1.cell (i := 0) rfl
  have g1 := hB1.cell (i := 1) rfl
  have g2 := hB1.cell (i := 2) rfl
  have g3 := hB1.cell (i := 3) rfl
  have gf := hB1.free
  have gl := hB1.lt
  refine Stab.keep_tail 10 (fun _ _ _ => True) (fun _ => false) (fun k => k == 6) Stab.pre_none (by kernel_rfl) (by kernel_rfl) fun hcx => ?_
  simp only [List.take_succ_cons, List.take_zero, List.drop_succ_cons, List.drop_zero]
  iterate 6 ((with_reducible refine Stab.quiet ?_ ?_ ?_ ?_); rfl; rfl; rfl; intro K hK; go_big_quiet_op; refine hK _ ?_; clear hK K)
  (with_reducible refine Stab.one ?_ ?_ ?_ ?_); rfl; rfl; rfl
  apply Exists.intro
  refine ⟨fun w1 hw1 => ?_, fun K hK => ?_⟩
  · go_simp
    (go_at_call 44; exact hW _)
  go_simp
  refine hK _ ?_
  clear hK K
  iterate 3 ((with_reducible refine Stab.quiet ?_ ?_ ?_ ?_); rfl; rfl; rfl; intro K hK; go_big_quiet_op; refine hK _ ?_; clear hK K)
  refine Stab.nil fun w2 hk2 _ => ?_
  have hS2 := hS1.keeps hk2
  have hB2 := hB1.keep hk2
  have hK2 : ∀ b T vs, Blk w b T vs → T ≠ 108 → T ≠ 5 → Blk w2 b T vs := fun b T vs hb _ _ => (hb.keep hk1).keep hk2
  clear hcx hS1 hB1 hk1 hk2 g0 g1 g2 g3 gf gl
  go_wp2_with fail
  refine (sUint_ w0 wb ps.length 4 big v bs o w2 hS2 (by omega) (by omega) (by omega)).mono ?_
  rintro e w3 ⟨rfl, v3, hS3, hK3⟩
  have hB3 := hK3 _ _ _ hB2 (by decide) (by decide)
  have hKw : ∀ b T vs, Blk w b T vs → T ≠ 108 → T ≠ 5 → Blk w3 b T vs := fun b T vs h1 h2 h3 => hK3 b T vs (hK2 b T vs h1 h2 h3) h2 h3
  have HNR := HNU.out v3 w3 hS3
  clear hS2 hB2 hK2 hK3 hS3
  have g0 := hB3.cell (i := 0) rfl
  have g1 := hB3.cell (i := 1) rfl
  have g2 := hB3.cell (i := 2) rfl
  have g3 := hB3.cell (i := 3) rfl
  have gf := hB3.free
  have gl := hB3.lt
  go_wp2_with fail
  refine HNR.mono ?_
  rintro e w4 ⟨rfl, v4, hS4, hK4⟩
  clear HNR g0 g1 g2 g3 gf gl
  go_wp2_with fail
  go_end0
  rw [List.append_assoc] at hS4
  exact ⟨rfl, v4, hS4, fun b T vs h1 h2 h3 => hK4 b T vs (hKw b T vs h1 h2 h3) h2 h3⟩
end Go.Proofs.YtbakhldjfplbfaaGreat
set_option linter.unusedVariables false
set_option linter.unusedSimpArgs false
namespace Go.Proofs.YtbakhldjfplbfaaGreat
open Go.RowKit Go.Fl Go.Sl Go.Pg Go.Ch Go.Kf Go.By
def headE (big : Bool) (k d : Nat) : List Nat := (if big then 0 else 1) :: encB big 4 (codeN k + 1000 * d)
theorem headE_len (big : Bool) (k d : Nat) : (headE big k d).length = 5 := by unfold headE; rw [List.length_cons, encB_len]
def ptE (big : Bool) (d : Nat) (ps : List Pl) : List Nat := encN8 big (if ps = [] then List.replicate (wid d) nanB else numsOf d ps)
def ringE (big : Bool) (c : Pg) : List Nat := seqE big c.dim c.ps
mutual
/-- a geometry's binary form with orders of bytes, and the orders that are left -/
def wkbO : List Bool → Pg → List Nat × List Bool
  | o, .node k d ps kids =>
    if k = 1 then (headE (o.headD false) k d ++ ptE (o.headD false) d ps, o.tail)
    else if k = 2 then (headE (o.headD false) k d ++ seqE (o.headD false) d ps, o.tail)
    else if k = 3 then (headE (o.headD false) k d ++ encB (o.headD false) 4 kids.length ++ kids.flatMap (ringE (o.headD false)), o.tail)
    else (headE (o.headD false) k d ++ encB (o.headD false) 4 kids.length ++ (wkbOs o.tail kids).1, (wkbOs o.tail kids).2)
def wkbOs : List Bool → List Pg → List Nat × List Bool
  | o, [] => ([], o)
  | o, c :: r => ((wkbO o c).1 ++ (wkbOs (wkbO o c).2 r).1, (wkbOs (wkbO o c).2 r).2)
end
theorem wkbOs_app (l : List Pg) (r : List Pg) : ∀ o, wkbOs o (l ++ r) = ((wkbOs o l).1 ++ (wkbOs (wkbOs o l).2 r).1, (wkbOs (wkbOs o l).2 r).2) := by
  induction l with
  | nil => intro o; simp [wkbOs]
  | cons c l ih => intro o; simp only [List.cons_append, wkbOs]; rw [ih]; simp
/-- what the parts are written as -/
def kidsO (K : Nat) (big : Bool) (o : List Bool) (l : List Pg) : List Nat × List Bool := if K = 3 then (l.flatMap (ringE big), o) else wkbOs o l
theorem kidsO_nil (K : Nat) (big : Bool) (o : List Bool) : kidsO K big o [] = ([], o) := by unfold kidsO; split <;> simp [wkbOs]
theorem kidsO_ring {big : Bool} {o : List Bool} {l : List Pg} {k : Nat} (hk : k < l.length) : kidsO 3 big o (l.take (k + 1)) = ((kidsO 3 big o (l.take k)).1 ++ ringE big l[k], (kidsO 3 big o (l.take k)).2) := by
  unfold kidsO; simp only [if_true]; rw [flat_take_succ _ l k hk]
theorem kidsO_geom {K : Nat} {big : Bool} {o : List Bool} {l : List Pg} {k : Nat} (hK : K ≠ 3) (hk : k < l.length) : kidsO K big o (l.take (k + 1)) = ((kidsO K big o (l.take k)).1 ++ (wkbO (kidsO K big o (l.take k)).2 l[k]).1, (wkbO (kidsO K big o (l.take k)).2 l[k]).2) := by
  unfold kidsO; simp only [if_neg hK]; rw [List.take_succ_eq_append_getElem hk, wkbOs_app]; simp [wkbOs]
theorem kidsO_le {K : Nat} {big : Bool} {o : List Bool} {l : List Pg} (k : Nat) : (kidsO K big o (l.take k)).1.length ≤ (kidsO K big o l).1.length := by
  unfold kidsO
  split
  · conv => rhs; rw [← List.take_append_drop k l]
    simp only [List.flatMap_append, List.length_append]; omega
  · conv => rhs; rw [← List.take_append_drop k l]
    rw [wkbOs_app]; simp
theorem wkbO_one (o : List Bool) (d : Nat) (ps : List Pl) (kids : List Pg) : wkbO o (.node 1 d ps kids) = (headE (o.headD false) 1 d ++ ptE (o.headD false) d ps, o.tail) := by rw [wkbO, if_pos rfl]
theorem wkbO_two (o : List Bool) (d : Nat) (ps : List Pl) (kids : List Pg) : wkbO o (.node 2 d ps kids) = (headE (o.headD false) 2 d ++ seqE (o.headD false) d ps, o.tail) := by rw [wkbO, if_neg (by decide), if_pos rfl]
theorem wkbO_many (o : List Bool) (k d : Nat) (ps : List Pl) (kids : List Pg) (h1 : k ≠ 1) (h2 : k ≠ 2) : wkbO o (.node k d ps kids) = (headE (o.headD false) k d ++ encB (o.headD false) 4 kids.length ++ (kidsO k (o.headD false) o.tail kids).1, (kidsO k (o.headD false) o.tail kids).2) := by
  rw [wkbO, if_neg h1, if_neg h2]
  unfold kidsO
  by_cases h : k = 3
  · subst h; simp
  · simp [h]
theorem wkbCode_ (k : Nat) (w : World) : Calls Tryz.prog 133 #[.int .i64 k] w (One w (.int .i64 (codeN k))) := by
  by_cases h : k = 0
  · subst h
    go_enter Tryz.func133, Tryz.ntmps133
    go_wp2
    go_ret
    exact ⟨rfl, by with_reducible (repeat first | exact Kx.r _ | assumption | refine Kx.a ?_ _ | refine Kx.d ?_ | refine Kx.e ?_ _ | refine Kx.s (by simp <;> omega) ?_ _ | refine Kx.t ?_ (by assumption))⟩
  · have h1 : ((k : Int) == 0) = false := by simp; omega
    have h2 : codeN k = k := by unfold codeN; rw [if_neg h]
    rw [h2]
    go_enter Tryz.func133, Tryz.ntmps133
    go_wp2
    go_ret
    exact ⟨rfl, by with_reducible (repeat first | exact Kx.r _ | assumption | refine Kx.a ?_ _ | refine Kx.d ?_ | refine Kx.e ?_ _ | refine Kx.s (by simp <;> omega) ?_ _ | refine Kx.t ?_ (by assumption))⟩
/-- the order of bytes taken, its byte written, the type written: what is left is the switch -/
theorem so_pop {w0 wk : World} {wb : Nat} {v : Value} {bs : List Nat} {b : Bool} {r : List Bool} (h : SO w0 wb wk v bs (b :: r)) :
    ∃ B off on oc, Blk wk wb 108 [v, .slice (some ⟨B, off, none⟩) on oc] ∧ wk.cell? ⟨B, off, none⟩ = some (.bool b) ∧ on = r.length + 1 ∧ on ≤ oc ∧ oc ≤ maxLen ∧
      ∀ wx, Stab.Keeps wk wx → SO w0 wb (wx.setCell ⟨wb, 1, none⟩ (.slice (if oc = 1 then some ⟨B, off, none⟩ else some ⟨B, off + 1, none⟩) (on - 1) (oc - 1))) v bs r := by
  obtain ⟨hk, ⟨oa, on, oc, hB, hO⟩, hown, hge⟩ := h
  have hon : on = r.length + 1 := by have := hO.len; simp [boolsV] at this; omega
  obtain ⟨B, off, rfl, hbl, hc⟩ := hO.elem (i := 0) (by omega)
  have hc0 : w0.cell? ⟨B, off, none⟩ = some (.bool b) := by have := hc 0 (.bool b) (by omega) (by simp [boolsV]); simpa using this
  refine ⟨B, off, on, oc, hB, ?_, hon, hO.le, hO.max, fun wx hx => ?_⟩
  · rw [(Stab.own_cell hk B hbl).1]; exact hc0
  · replace hk := Stab.Keeps.trans hk hx
    replace hB := hB.keep hx
    replace hown := owns_keep hown hx
    have hd := hO.drop 1 (by omega)
    have hb2 := hB.set 1 (.slice (if oc = 1 then some ⟨B, off, none⟩ else some ⟨B, off + 1, none⟩) (on - 1) (oc - 1))
    simp only [List.set] at hb2
    refine ⟨Stab.Keeps.setCell hge hk _, ⟨_, _, _, hb2, ?_⟩, ?_, hge⟩
    · simp only [boolsV, List.map_cons, Option.map_some, add_none, Nat.mul_one, List.drop_succ_cons, List.drop_zero] at hd
      exact hd
    · have hne := row_apart hown hB (by decide)
      exact row_same hown fun g hg => Below.heap_setCell _ _ _ _ (fun e => hne (by rw [hg]; exact congrArg some e.symm))
end Go.Proofs.YtbakhldjfplbfaaGreat
set_option linter.unusedVariables false
set_option linter.unusedSimpArgs false
namespace Go.Proofs.YtbakhldjfplbfaaGreat
open Go.RowKit Go.Fl Go.Sl Go.Pg Go.Ch Go.Kf Go.By
/-- what a geometry is written as: told of the reference -/
def GeomW (w0 : World) (wb : Nat) (p : Pg) : Prop := ∀ (F : Nat → Prop) (cs : List Value) (v : Value) (bs : List Nat) (o : List Bool) (w : World), SO w0 wb w v bs o → GmR w0 F cs p → bs.length + (wkbO o p).1.length ≤ 900000000 →
  Calls Tryz.prog 63 #[.pointer (some ⟨wb, 0, none⟩), .agg cs.toArray] w (SPost w0 wb w (bs ++ (wkbO o p).1) (wkbO o p).2)
set_option maxRecDepth 100000 in
set_option maxHeartbeats 4000000 in
theorem sGeom_ (w0 : World) (wb : Nat) : ∀ p : Pg, PgMade p → PgB p → PgNum 1000 p → GeomW w0 wb p := by
  intro p
  induction p using Pg.indB with
  | h k d ps kids ih =>
  intro hM hB hN F cs v bs o w hS hG hl
  obtain ⟨i0, hi, hz0, hz1, hz2⟩ := info_parts infoU8
  have HI := Lib.hid hi
  have HZ := Lib.hid hz0
  have HZ1 := Lib.hid hz1
  have HZ2 := Lib.hid hz2
  clear hi hz0 hz1 hz2
  have hBk : ∀ c ∈ kids, PgB c := by cases hB with | mk _ _ _ _ _ h2 => exact h2
  have hBp : ∀ q ∈ ps, PlB q := by cases hB with | mk _ _ _ _ h1 _ => exact h1
  have hNk : ∀ c ∈ kids, PgNum 1000 c := by cases hN with | mk _ _ _ _ _ _ h3 => exact h3
  have hNl : kids.length ≤ 1000 := by cases hN with | mk _ _ _ _ _ h2 _ => exact h2
  have hNp : ps.length * wid d ≤ 1000 := by cases hN with | mk _ _ _ _ h1 _ _ => exact h1
  have hwp := wid_pos d
  have hps : ps.length ≤ 1000 := by have := Nat.le_mul_of_pos_right ps.length (show 0 < wid d by omega); omega
  have hd : d < 4 := by cases hM <;> assumption
  have hk6 : k ≤ 6 := by cases hM <;> first | omega | assumption
  have hMk : ∀ c ∈ kids, PgMade c := by cases hM with | pt _ _ _ _ _ => simp | ls _ _ _ _ => simp | wh _ _ _ _ _ _ _ _ _ h3 => exact h3
  have hR3 : k = 3 → ∀ c ∈ kids, c.kind = 2 ∧ c.dim = d := by
    rintro rfl c hc
    cases hM with
    | wh _ _ _ _ _ _ _ h1 h2 _ => exact ⟨by have := h2 c hc; simpa [takes] using this, h1 c hc⟩
  cases hG with
  | mk _ _ _ _ na ka nn nc kn kc css hn h1 lc lx each sz is =>
  have HNN := Lib.hid hn
  have HLX := Lib.hid lx
  have hnn4 : nn ≤ 1000 := by rw [hn, numsOf_len]; omega
  have hkn4 : kn ≤ 1000 := by omega
  have hk1 : Stab.Keeps w (w.alloc (.cells #[.int .i64 k, .int .i64 d, .slice na nn nc, .slice ka kn kc] 25)) := by with_reducible (repeat first | exact Kx.r _ | assumption | refine Kx.a ?_ _ | refine Kx.d ?_ | refine Kx.e ?_ _ | refine Kx.s (by simp <;> omega) ?_ _ | refine Kx.t ?_ (by assumption))
  have hB1 : Blk (w.alloc (.cells #[.int .i64 k, .int .i64 d, .slice na nn nc, .slice ka kn kc] 25)) w.heap.size 25 [.int .i64 k, .int .i64 d, .slice na nn nc, .slice ka kn kc] := by with_reducible (repeat first | assumption | (refine Bx.n ⟨?_, ?_⟩ <;> focus (first | rfl | (simp; done) | omega)) | refine Bx.a ?_ _ | refine Bx.d ?_ | refine Bx.e ?_ _ | refine Bx.p (by first | omega | simp <;> omega) ?_)
  have hS1 := hS.keeps hk1
  have hK1 : ∀ b T vs, Blk w b T vs → T ≠ 108 → T ≠ 5 → Blk (w.alloc (.cells #[.int .i64 k, .int .i64 d, .slice na nn nc, .slice ka kn kc] 25)) b T vs := fun b T vs hb _ _ => hb.keep hk1
  clear hS hk1 hM hB hN hn lx
  show Calls _ _ #[_, .agg #[.int .i64 k, .int .i64 d, .slice na nn nc, .slice ka kn kc]] _ _
  generalize hOUT : wkbO o (.node k d ps kids) = out at *
  have HOUT := Lib.hid hOUT
  clear hOUT
  go_enter Tryz.func63, Tryz.ntmps63
  go_upto_region 2 with (fail)
  generalize (w.alloc (.cells #[.int .i64 k, .int .i64 d, .slice na nn nc, .slice ka kn kc] 25)) = w1 at *
  obtain ⟨oa, on, oc, hBo, hO⟩ := hS1.blk
  have hon : on = o.length := by have := hO.len; simpa [boolsV] using this.symm
  have HON := Lib.hid hon
  clear hon
  have t0 := hBo.cell (i := 0) rfl
  have t1 := hBo.cell (i := 1) rfl
  have tf := hBo.free
  have tl := hBo.lt
  go_upto_if 13 with (fail)
  go_cut [4] from 14 (fun bv wr => ∃ (big : Bool), bv = .bool big ∧ o.headD false = big ∧ SO w0 wb wr v bs o.tail ∧ Blk wr w.heap.size 25 [.int .i64 k, .int .i64 d, .slice na nn nc, .slice ka kn kc] ∧ ∀ b T vs, Blk w b T vs → T ≠ 108 → T ≠ 5 → Blk wr b T vs)
  case first =>
    cases o with
    | nil =>
      have hon0 : on = 0 := HON.out
      subst hon0
      go_wp2_with fail
      go_meet
      exact ⟨false, rfl, rfl, hS1, hB1, hK1⟩
    | cons b r =>
      obtain ⟨B, off, on', oc', hBo', hcb, hon', hoc, hom, hS2⟩ := so_pop hS1
      have heq := hBo.symm.trans hBo'
      simp at heq
      obtain ⟨rfl, rfl, rfl⟩ := heq
      unfold maxLen at hom
      have hbl1 : B < w1.heap.size := Stab.cell_lt (a := ⟨B, off, none⟩) hcb
      have hgo : decide (0 < on) = true := by simp; omega
      clear hon'
      have hlt1 : (1 : Int) ≤ (on : Int) := by have := HON.out; simp at this; omega
      by_cases hc1 : oc = 1
      · simp only [if_pos hc1] at hS2
        subst hc1
        obtain rfl : on = 1 := by omega
        simp only [Nat.sub_self] at hS2
        go_wp2_with fail
        go_upto_region 3 with (fail)
        refine Stab.keep_tail 15 (fun _ _ _ => True) (fun _ => false) (fun _ => false) Stab.pre_none (by kernel_rfl) (by kernel_rfl) fun hcx => ?_
        simp only [List.take_succ_cons, List.take_zero, List.drop_succ_cons, List.drop_zero]
        iterate 15 ((with_reducible refine Stab.quiet ?_ ?_ ?_ ?_); rfl; rfl; rfl; intro K hK; go_big_quiet_op; refine hK _ ?_; clear hK K)
        refine Stab.nil fun wx hkx _ => ?_
        have hS3 := hS2 wx hkx
        have hBx := hBo.keep hkx
        have hB1x := hB1.keep hkx
        have hK1x := fun b' T vs h1 h2 h3 => (hK1 b' T vs h1 h2 h3).keep hkx
        clear t0 t1 tf tl hcx
        have t0 := hBx.cell (i := 0) rfl
        have t1 := hBx.cell (i := 1) rfl
        have tf := hBx.free
        have tl := hBx.lt
        go_wp2_with fail
        go_meet
        exact ⟨b, rfl, rfl, hS3, hB1x.past (a := ⟨wb, 1, none⟩) (hB1x.ne hBx (by decide)) _, fun b' T vs h1 h2 h3 => (hK1x b' T vs h1 h2 h3).past (a := ⟨wb, 1, none⟩) ((hK1x b' T vs h1 h2 h3).ne hBx h2) _⟩
      · simp only [if_neg hc1] at hS2
        go_wp2_with fail
        go_upto_region 3 with (fail)
        refine Stab.keep_tail 15 (fun _ _ _ => True) (fun _ => false) (fun _ => false) Stab.pre_none (by kernel_rfl) (by kernel_rfl) fun hcx => ?_
        simp only [List.take_succ_cons, List.take_zero, List.drop_succ_cons, List.drop_zero]
        iterate 15 ((with_reducible refine Stab.quiet ?_ ?_ ?_ ?_); rfl; rfl; rfl; intro K hK; go_big_quiet_op; refine hK _ ?_; clear hK K)
        refine Stab.nil fun wx hkx _ => ?_
        have hS3 := hS2 wx hkx
        have hBx := hBo.keep hkx
        have hB1x := hB1.keep hkx
        have hK1x := fun b' T vs h1 h2 h3 => (hK1 b' T vs h1 h2 h3).keep hkx
        clear t0 t1 tf tl hcx
        have t0 := hBx.cell (i := 0) rfl
        have t1 := hBx.cell (i := 1) rfl
        have tf := hBx.free
        have tl := hBx.lt
        go_wp2_with fail
        go_meet
        exact ⟨b, rfl, rfl, hS3, hB1x.past (a := ⟨wb, 1, none⟩) (hB1x.ne hBx (by decide)) _, fun b' T vs h1 h2 h3 => (hK1x b' T vs h1 h2 h3).past (a := ⟨wb, 1, none⟩) ((hK1x b' T vs h1 h2 h3).ne hBx h2) _⟩
  case rest =>
    obtain ⟨big, rfl, hbg, hS2, hB2, hK2⟩ := hcut
    clear hS1 hB1 hK1 hBo hO HON t0 t1 tf tl
    go_upto_if 28 with (fail)
    go_cut [5] from 29 (fun ov wr => ov = .int .u8 (if big then 0 else 1) ∧ wr = wc)
    case first =>
      cases big
      · go_wp2_with fail
        go_meet
        exact ⟨rfl, rfl⟩
      · go_wp2_with fail
        go_meet
        exact ⟨rfl, rfl⟩
    case rest =>
      obtain ⟨rfl, rfl⟩ := hcut
      obtain ⟨z, hz, hz2⟩ : ∃ z : Nat, (if big then (0 : Int) else 1) = (z : Int) ∧ (if big then 0 else 1) = z := by cases big <;> exact ⟨_, rfl, rfl⟩
      rw [hz]
      have HZZ := Lib.hid hz2
      clear hz hz2
      obtain ⟨hk0, ⟨oa2, on2, oc2, hBo, hO⟩, hown, hge⟩ := hS2
      have hS2 : SO w0 wb wc v bs o.tail := ⟨hk0, ⟨oa2, on2, oc2, hBo, hO⟩, hown, hge⟩
      obtain ⟨al, cp, rfl, _, _, _⟩ := of_owns hown
      have hkA : Stab.Keeps wc (wc.alloc (.cells #[.int .u8 z] 5)) := by with_reducible (repeat first | exact Kx.r _ | assumption | refine Kx.a ?_ _ | refine Kx.d ?_ | refine Kx.e ?_ _ | refine Kx.s (by simp <;> omega) ?_ _ | refine Kx.t ?_ (by assumption))
      have hSA := hS2.keeps hkA
      have hBA := hBo.keep hkA
      have HSA := Lib.hid hSA
      have HBA := Lib.hid hBA
      have HB2 := Lib.hid (hB2.keep hkA)
      have HK2 := Lib.hid (fun b T vs h1 h2 h3 => (hK2 b T vs h1 h2 h3).keep hkA)
      have hbl : bs.length ≤ 900000000 := by omega
      have hbA : w0.heap.size ≤ (wc.alloc (.cells #[.int .u8 z] 5)).heap.size := hSA.keep.size
      have t0 := hBo.cell (i := 0) rfl
      have t1 := hBo.cell (i := 1) rfl
      have tf := hBo.free
      have tl := hBo.lt
      clear hS2 hBo hO hown hSA hBA hB2 hK2 hkA
      go_wp2_with (at_builtin; (refine append_szat rfl _ _ 54 rfl w0.heap.size 5 i0 _ 1 1 Tryz.underlying54 HI.out HZ.out HZ1.out HZ2.out rfl (by decide) _ bs.length (bytesV bs) rfl HSA.out.own _ 1 1 (bytesV [z]) rfl ?c1 (bytesV_one _) ?c2 ?c3 ?c4 ?_))
      case c1 => exact sz_blk (show Blk _ _ 5 [.int .u8 z] from by with_reducible (repeat first | assumption | (refine Bx.n ⟨?_, ?_⟩ <;> focus (first | rfl | (simp; done) | omega)) | refine Bx.a ?_ _ | refine Bx.d ?_ | refine Bx.e ?_ _ | refine Bx.p (by first | omega | simp <;> omega) ?_)) rfl (by decide)
      case c2 => unfold maxLen; omega
      case c3 => omega
      case c4 => exact hbA
      intro al' cap' w3 hown' hgr hat
      have hfin := so_fin (m := 1) (news := [z]) HSA.out rfl hown' hgr
      have hb2 := HBA.out.grown hgr (row_apart HSA.out.own HBA.out (by decide))
      have n0 := hb2.cell (i := 0) rfl
      have n1 := hb2.cell (i := 1) rfl
      have nf := hb2.free
      have nl := hb2.lt
      go_upto_region 8 with (fail)
      obtain ⟨_, v3, hS3, hK3⟩ := hfin
      have hB3 := hK3 _ _ _ HB2.out (by decide) (by decide)
      have hKw3 := fun b T vs h1 h2 h3 => hK3 b T vs (HK2.out b T vs h1 h2 h3) h2 h3
      clear hK3 hb2 hown' hgr hat n0 n1 nf nl t0 t1 tf tl HSA HBA HB2 HK2 hbA
      generalize (w3.setCell ⟨wb, 0, none⟩ (.slice al' (bs.length + 1) cap')) = w4 at *
      have g0 := hB3.cell (i := 0) rfl
      have g1 := hB3.cell (i := 1) rfl
      have g2 := hB3.cell (i := 2) rfl
      have g3 := hB3.cell (i := 3) rfl
      have gf := hB3.free
      have gl := hB3.lt
      have hCo := wkbCode_ k
      have hck : codeN k ≤ 7 := by unfold codeN; split <;> omega
      refine Stab.keep_tail 10 (fun _ _ _ => True) (fun _ => false) (fun k => k == 3) Stab.pre_none (by kernel_rfl) (by kernel_rfl) fun hcx => ?_
      simp only [List.take_succ_cons, List.take_zero, List.drop_succ_cons, List.drop_zero]
      iterate 3 ((with_reducible refine Stab.quiet ?_ ?_ ?_ ?_); rfl; rfl; rfl; intro K hK; go_big_quiet_op; refine hK _ ?_; clear hK K)
      (with_reducible refine Stab.one ?_ ?_ ?_ ?_); rfl; rfl; rfl
      apply Exists.intro
      refine ⟨fun w1 hw1 => ?_, fun K hK => ?_⟩
      · go_simp
        (go_at_call 133; exact hCo _)
      go_simp
      refine hK _ ?_
      clear hK K
      iterate 6 ((with_reducible refine Stab.quiet ?_ ?_ ?_ ?_); rfl; rfl; rfl; intro K hK; go_big_quiet_op; refine hK _ ?_; clear hK K)
      refine Stab.nil fun w5 hk5 _ => ?_
      have hS5 := hS3.keeps hk5
      have hB5 := hB3.keep hk5
      have hKw5 := fun b T vs h1 h2 h3 => (hKw3 b T vs h1 h2 h3).keep hk5
      clear hcx hS3 hB3 hKw3 hk5 g0 g1 g2 g3 gf gl hCo
      have hU := sUint_ w0 wb (codeN k + 1000 * d) 4 big v3 (bs ++ [z]) o.tail w5 hS5 (by omega) (by omega) (by rw [List.length_append]; simp; omega)
      rw [show ((codeN k + 1000 * d : Nat) : Int) = (codeN k : Int) + 1000 * (d : Int) by omega] at hU
      have hhd : bs ++ [z] ++ encB big 4 (codeN k + 1000 * d) = bs ++ headE big k d := by have := HZZ.out; unfold headE; rw [this]; simp
      rw [hhd] at hU
      clear hhd HZZ hck
      go_wp2_with fail
      refine hU.mono ?_
      rintro e w6 ⟨rfl, v6, hS6, hK6⟩
      have hB6 := hK6 _ _ _ hB5 (by decide) (by decide)
      have hKw6 := fun b T vs h1 h2 h3 => hK6 b T vs (hKw5 b T vs h1 h2 h3) h2 h3
      have hhl := headE_len big k d
      clear hU hK6 hB5 hKw5 hS5
      by_cases k1 : k = 1
      · subst k1
        have ho := HOUT.out
        rw [wkbO_one, hbg] at ho
        by_cases hp0 : ps = []
        · have hnn0 : nn = 0 := by rw [HNN.out, hp0]; simp [numsOf]
          have hpe : ptE big d ps = encN8 big (List.replicate (wid d) nanB) := by unfold ptE; rw [if_pos hp0]
          rw [hpe] at ho
          have hW := width_ d hd
          have HO := Lib.hid ho
          have HHL := Lib.hid hhl
          subst hnn0
          clear ho hpe hhl hk0
          have g0 := hB6.cell (i := 0) rfl
          have g1 := hB6.cell (i := 1) rfl
          have g2 := hB6.cell (i := 2) rfl
          have g3 := hB6.cell (i := 3) rfl
          have gf := hB6.free
          have gl := hB6.lt
          go_wp2_with fail
          refine (hW _).mono ?_
          rintro e w7 ⟨rfl, hk7⟩
          have hS7 := hS6.keeps hk7
          have hKw7 := fun b T vs h1 h2 h3 => (hKw6 b T vs h1 h2 h3).keep hk7
          clear hS6 hKw6 hk7 hW g0 g1 g2 g3 gf gl
          have hwl := wid_le d
          generalize hwd : wid d = W at *
          have HWD := Lib.hid hwd
          clear hwd
          go_wp2_with fail
          go_loopw [88] (fun iv wr => ∃ (j : Nat) (vj : Value), j ≤ W ∧ iv = .int .i64 j ∧ SO w0 wb wr vj (bs ++ headE big 1 d ++ encN8 big (List.replicate j nanB)) o.tail ∧ ∀ b T vs, Blk w b T vs → T ≠ 108 → T ≠ 5 → Blk wr b T vs) (fun iv _ => W - (intOf iv).toNat)
          case atStart => exact ⟨0, v6, by omega, rfl, by simpa [encN8] using hS7, hKw7⟩
          case round =>
            clear hS7 hKw7
            obtain ⟨j, vj, hj, rfl, hSj, hKj⟩ := hrel
            by_cases hlt : j < W
            · have hsn : encN8 big (List.replicate (j + 1) nanB) = encN8 big (List.replicate j nanB) ++ encB big 8 nanB := by rw [List.replicate_succ']; simp [encN8]
              have HSN := Lib.hid hsn
              have hU2 := sUint_ w0 wb nanB 8 big vj _ o.tail wr hSj (by omega) (by unfold nanB; omega) (by have := HHL.out; rw [List.length_append, List.length_append, this, encN8_len, List.length_replicate]; omega)
              rw [List.append_assoc, ← HSN.out] at hU2
              have hU3 : Calls Tryz.prog 132 #[.pointer (some ⟨wb, 0, none⟩), .int .u64 9221120237041090561, .int .i64 8, .bool big] wr (SPost w0 wb wr (bs ++ headE big 1 d ++ encN8 big (List.replicate (j + 1) nanB)) o.tail) := hU2
              clear hU2 hsn
              go_wp2_with fail
              refine hU3.mono ?_
              rintro e w8 ⟨rfl, v8, hS8, hK8⟩
              have hKw8 := fun b T vs h1 h2 h3 => hK8 b T vs (hKj b T vs h1 h2 h3) h2 h3
              clear hU3 hSj hKj hK8
              go_wp2_with fail
              exact ⟨⟨j + 1, v8, by omega, by go_num, hS8, hKw8⟩, by simp [intOf]; omega⟩
            · obtain rfl : W = j := by omega
              go_wp2_with fail
              go_end0
              rw [← HO.out]
              exact ⟨rfl, vj, by rw [← List.append_assoc]; exact hSj, hKj⟩
        · have hlp : 0 < ps.length := by cases ps with
            | nil => exact absurd rfl hp0
            | cons => simp
          have hpe : ptE big d ps = encN8 big (numsOf d ps) := by unfold ptE; rw [if_neg hp0]
          rw [hpe] at ho
          have hnne : ((nn : Int) == 0) = false := by
            have h2 := numsOf_len d ps
            have h3 := Nat.mul_le_mul hlp hwp
            have h4 := HNN.out
            simp; omega
          have hNu := sNums_ w0 wb na nn nc (numsOf d ps) big v6 _ o.tail w6 hS6 HNN.out.symm h1.sz (numsOf_B hBp) (by rw [List.length_append, hhl]; omega)
          rw [List.append_assoc] at hNu
          have HO := Lib.hid ho
          clear ho hpe hhl hS6
          have g0 := hB6.cell (i := 0) rfl
          have g1 := hB6.cell (i := 1) rfl
          have g2 := hB6.cell (i := 2) rfl
          have g3 := hB6.cell (i := 3) rfl
          have gf := hB6.free
          have gl := hB6.lt
          go_wp2_with fail
          refine hNu.mono ?_
          rintro e w7 ⟨rfl, v7, hS7, hK7⟩
          clear hNu g0 g1 g2 g3 gf gl
          go_wp2_with fail
          go_end0
          rw [← HO.out]
          exact ⟨rfl, v7, hS7, fun b T vs h1 h2 h3 => hK7 b T vs (hKw6 b T vs h1 h2 h3) h2 h3⟩
      · by_cases k2 : k = 2
        · subst k2
          have ho := HOUT.out
          rw [wkbO_two, hbg] at ho
          have hLi := sLine_ w0 wb 2 d na ka nn nc kn kc ps big v6 _ o.tail w6 hS6 hd HNN.out.symm h1.sz hBp (by omega) (by rw [List.length_append, hhl, seqE_len]; omega)
          rw [List.append_assoc] at hLi
          have HO := Lib.hid ho
          clear ho hhl hS6
          have g0 := hB6.cell (i := 0) rfl
          have g1 := hB6.cell (i := 1) rfl
          have g2 := hB6.cell (i := 2) rfl
          have g3 := hB6.cell (i := 3) rfl
          have gf := hB6.free
          have gl := hB6.lt
          go_wp2_with fail
          refine hLi.mono ?_
          rintro e w7 ⟨rfl, v7, hS7, hK7⟩
          clear hLi g0 g1 g2 g3 gf gl
          go_wp2_with fail
          go_end0
          rw [← HO.out]
          exact ⟨rfl, v7, hS7, fun b T vs h1 h2 h3 => hK7 b T vs (hKw6 b T vs h1 h2 h3) h2 h3⟩
        · have ho := HOUT.out
          rw [wkbO_many o k d ps kids k1 k2, hbg, HLX.out] at ho
          have HO := Lib.hid ho
          have hf1 : ((k : Int) == 1) = false := by simp; omega
          have hf2 : ((k : Int) == 2) = false := by simp; omega
          have hRows : Go.Kf.Rows w0 F GmR ka kn kc 4 css kids := ⟨lc, HLX.out, each, sz, is⟩
          have hle := sz.sz.le
          have hmx := sz.sz.max
          unfold maxLen at hmx
          have hol : bs.length + 9 + (kidsO k big o.tail kids).1.length ≤ 900000000 := by
            have h2 := hl
            rw [← HO.out] at h2
            simp only [List.length_append, hhl, encB_len] at h2
            omega
          have hU := sUint_ w0 wb kn 4 big v6 _ o.tail w6 hS6 (by omega) (by omega) (by rw [List.length_append, hhl]; omega)
          have HHL := Lib.hid hhl
          clear ho hhl hS6 lc is each sz hl
          have g0 := hB6.cell (i := 0) rfl
          have g1 := hB6.cell (i := 1) rfl
          have g2 := hB6.cell (i := 2) rfl
          have g3 := hB6.cell (i := 3) rfl
          have gf := hB6.free
          have gl := hB6.lt
          go_wp2_with fail
          refine hU.mono ?_
          rintro e w7 ⟨rfl, v7, hS7, hK7⟩
          have hB7 := hK7 _ _ _ hB6 (by decide) (by decide)
          have hKw7 := fun b T vs h1 h2 h3 => hK7 b T vs (hKw6 b T vs h1 h2 h3) h2 h3
          clear hU hK7 hB6 hKw6 g0 g1 g2 g3 gf gl
          have g0 := hB7.cell (i := 0) rfl
          have g1 := hB7.cell (i := 1) rfl
          have g2 := hB7.cell (i := 2) rfl
          have g3 := hB7.cell (i := 3) rfl
          have gf := hB7.free
          have gl := hB7.lt
          go_wp2_with fail
          go_loopw [60] (fun iv wr => ∃ (j : Nat) (vj : Value), j ≤ kn ∧ iv = .int .i64 j ∧ SO w0 wb wr vj (bs ++ headE big k d ++ encB big 4 kn ++ (kidsO k big o.tail (kids.take j)).1) (kidsO k big o.tail (kids.take j)).2 ∧ Blk wr w.heap.size 25 [.int .i64 k, .int .i64 d, .slice na nn nc, .slice ka kn kc] ∧ ∀ b T vs, Blk w b T vs → T ≠ 108 → T ≠ 5 → Blk wr b T vs) (fun iv _ => kn - (intOf iv).toNat)
          case atStart => exact ⟨0, v7, by omega, rfl, by simpa [kidsO_nil] using hS7, hB7, hKw7⟩
          case round =>
            clear hS7 hB7 hKw7 g0 g1 g2 g3 gf gl
            obtain ⟨j, vj, hj, rfl, hSj, hBj, hKj⟩ := hrel
            by_cases hlt : j < kn
            · obtain ⟨b, off, c, ha, hbw, _, hc2, hclen, hcc, hx⟩ := hRows.elem hlt
              have hki : j < kids.length := by have := HLX.out; omega
              have hx2 : GmR w0 F c (kids[j]'hki) := hx
              clear hx
              subst ha
              have hGk := ih _ (List.getElem_mem hki) (hMk _ (List.getElem_mem hki)) (hBk _ (List.getElem_mem hki)) (hNk _ (List.getElem_mem hki))
              have hPB := hBk _ (List.getElem_mem hki)
              have hPN := hNk _ (List.getElem_mem hki)
              have hle1 := kidsO_le (K := k) (big := big) (o := o.tail) (l := kids) (j + 1)
              have hR3j : k = 3 → (kids[j]'hki).kind = 2 ∧ (kids[j]'hki).dim = d := fun h => hR3 h _ (List.getElem_mem hki)
              have hs3 : k = 3 → kidsO k big o.tail (kids.take (j + 1)) = ((kidsO k big o.tail (kids.take j)).1 ++ ringE big (kids[j]'hki), (kidsO k big o.tail (kids.take j)).2) := fun h => by subst h; exact kidsO_ring hki
              have hsn : k ≠ 3 → kidsO k big o.tail (kids.take (j + 1)) = ((kidsO k big o.tail (kids.take j)).1 ++ (wkbO (kidsO k big o.tail (kids.take j)).2 (kids[j]'hki)).1, (wkbO (kidsO k big o.tail (kids.take j)).2 (kids[j]'hki)).2) := fun h => kidsO_geom h hki
              generalize kids[j]'hki = x at *
              generalize hq1e : kidsO k big o.tail (kids.take (j + 1)) = q1 at *
              have HQ1 := Lib.hid hq1e
              clear hq1e
              generalize kidsO k big o.tail (kids.take j) = q0 at *
              cases hx2 with
              | mk k' d' ps' kids' na' ka' nn' nc' kn' kc' css' hn' h1' lc' lx' each' sz' is' =>
              have hxg : GmR w0 F [.int .i64 (k' : Nat), .int .i64 (d' : Nat), .slice na' nn' nc', .slice ka' kn' kc'] (.node k' d' ps' kids') := .mk k' d' ps' kids' na' ka' nn' nc' kn' kc' css' hn' h1' lc' lx' each' sz' is'
              have hbw2 : b < wr.heap.size := Nat.lt_of_lt_of_le hbw hSj.keep.size
              have c0 : wr.cell? ⟨b, off + j * 4, none⟩ = some (.int .i64 k') := by rw [(Stab.own_cell hSj.keep b hbw).1]; exact hcc 0 _ rfl
              have c1 : wr.cell? ⟨b, off + j * 4 + 1, none⟩ = some (.int .i64 d') := by rw [(Stab.own_cell hSj.keep b hbw).1]; exact hcc 1 _ rfl
              have c2 : wr.cell? ⟨b, off + j * 4 + 2, none⟩ = some (.slice na' nn' nc') := by rw [(Stab.own_cell hSj.keep b hbw).1]; exact hcc 2 _ rfl
              have c3 : wr.cell? ⟨b, off + j * 4 + 3, none⟩ = some (.slice ka' kn' kc') := by rw [(Stab.own_cell hSj.keep b hbw).1]; exact hcc 3 _ rfl
              have hkA : Stab.Keeps wr (wr.alloc (.cells #[.int .i64 k', .int .i64 d', .slice na' nn' nc', .slice ka' kn' kc'] 25)) := by with_reducible (repeat first | exact Kx.r _ | assumption | refine Kx.a ?_ _ | refine Kx.d ?_ | refine Kx.e ?_ _ | refine Kx.s (by simp <;> omega) ?_ _ | refine Kx.t ?_ (by assumption))
              have hBA : Blk (wr.alloc (.cells #[.int .i64 k', .int .i64 d', .slice na' nn' nc', .slice ka' kn' kc'] 25)) wr.heap.size 25 [.int .i64 k', .int .i64 d', .slice na' nn' nc', .slice ka' kn' kc'] := by with_reducible (repeat first | assumption | (refine Bx.n ⟨?_, ?_⟩ <;> focus (first | rfl | (simp; done) | omega)) | refine Bx.a ?_ _ | refine Bx.d ?_ | refine Bx.e ?_ _ | refine Bx.p (by first | omega | simp <;> omega) ?_)
              have hSA := hSj.keeps hkA
              have hBj2 := hBj.keep hkA
              have hKA := fun b T vs h1 h2 h3 => (hKj b T vs h1 h2 h3).keep hkA
              have HNN2 := Lib.hid hn'
              have HSJ := Lib.hid hSj.keep
              have hpl : (bs ++ headE big k d ++ encB big 4 kn ++ q0.1).length = bs.length + 9 + q0.1.length := by simp only [List.length_append, HHL.out, encB_len]
              have HPL := Lib.hid hpl
              have HQ3 := Lib.hid hs3
              have HQN := Lib.hid hsn
              have HKA := Lib.hid hKA
              clear hcc hkA hSj hKj hBj hn' hs3 hsn hKA hpl lc' lx' each' is' sz'
              go_upto_region 13 with (fail)
              generalize (wr.alloc (.cells #[.int .i64 k', .int .i64 d', .slice na' nn' nc', .slice ka' kn' kc'] 25)) = wa at *
              generalize wr.heap.size = kb at *
              clear c0 c1 c2 c3
              have g0 := hBj2.cell (i := 0) rfl
              have g1 := hBj2.cell (i := 1) rfl
              have g2 := hBj2.cell (i := 2) rfl
              have g3 := hBj2.cell (i := 3) rfl
              have gf := hBj2.free
              have gl := hBj2.lt
              have t0 := hBA.cell (i := 0) rfl
              have t1 := hBA.cell (i := 1) rfl
              have t2 := hBA.cell (i := 2) rfl
              have t3 := hBA.cell (i := 3) rfl
              have tf := hBA.free
              have tl := hBA.lt
              by_cases k3 : k = 3
              · have hf3 : ((k : Int) == 3) = true := by simp; omega
                obtain ⟨hkd, hdd⟩ := hR3j k3
                have e1 : k' = 2 := hkd
                have e2 : d' = d := hdd
                have hq := HQ3.out k3
                have hre : ringE big (.node k' d' ps' kids') = seqE big d' ps' := rfl
                rw [hre] at hq
                have hPs : ∀ p ∈ ps', PlB p := by cases hPB with | mk _ _ _ _ h1 _ => exact h1
                have hps' : ps'.length ≤ 1000 := by
                  have h3 : ps'.length * wid d' ≤ 1000 := by cases hPN with | mk _ _ _ _ h1 _ _ => exact h1
                  have := Nat.le_mul_of_pos_right ps'.length (show 0 < wid d' by have := wid_pos d'; omega)
                  omega
                have hq1 : q1.1.length = q0.1.length + (seqE big d' ps').length := by rw [hq, List.length_append]
                have hLi := sLine_ w0 wb k' d' na' ka' nn' nc' kn' kc' ps' big vj _ q0.2 wa hSA (by omega) HNN2.out.symm h1'.sz hPs (by omega) (by have := HPL.out; omega)
                have e5 : bs ++ headE big k d ++ encB big 4 kn ++ q0.1 ++ seqE big d' ps' = bs ++ headE big k d ++ encB big 4 kn ++ q1.1 := by rw [hq]; simp only [List.append_assoc]
                have e6 : q0.2 = q1.2 := by rw [hq]
                rw [e5, e6] at hLi
                have HLI := Lib.hid hLi
                clear hLi e1 e2 hkd hdd hq hq1 e5 e6 hre k3 hSA hGk
                go_wp2_with fail
                refine HLI.out.mono ?_
                rintro e w8 ⟨rfl, v8, hS8, hK8⟩
                have hB8 := hK8 _ _ _ hBj2 (by decide) (by decide)
                have hKw8 := fun b T vs h1 h2 h3 => hK8 b T vs (HKA.out b T vs h1 h2 h3) h2 h3
                clear HLI hK8 g0 g1 g2 g3 gf gl t0 t1 t2 t3 tf tl
                go_wp2_with fail
                exact ⟨⟨j + 1, v8, by omega, by go_num, by rw [HQ1.out]; exact hS8, hB8, hKw8⟩, by simp [intOf]; omega⟩
              · have hf3 : ((k : Int) == 3) = false := by simp; omega
                have hq := HQN.out k3
                have hq1 : q1.1.length = q0.1.length + (wkbO q0.2 (.node k' d' ps' kids')).1.length := by rw [hq, List.length_append]
                have hGe := hGk F _ vj _ q0.2 wa hSA hxg (by have := HPL.out; omega)
                have e5 : bs ++ headE big k d ++ encB big 4 kn ++ q0.1 ++ (wkbO q0.2 (.node k' d' ps' kids')).1 = bs ++ headE big k d ++ encB big 4 kn ++ q1.1 := by rw [hq]; simp only [List.append_assoc]
                have e6 : (wkbO q0.2 (.node k' d' ps' kids')).2 = q1.2 := by rw [hq]
                rw [e5, e6] at hGe
                have HGE := Lib.hid hGe
                clear hGe hq hq1 e5 e6 k3 hSA hGk
                go_wp2_with fail
                refine HGE.out.mono ?_
                rintro e w8 ⟨rfl, v8, hS8, hK8⟩
                have hB8 := hK8 _ _ _ hBj2 (by decide) (by decide)
                have hKw8 := fun b T vs h1 h2 h3 => hK8 b T vs (HKA.out b T vs h1 h2 h3) h2 h3
                clear HGE hK8 g0 g1 g2 g3 gf gl t0 t1 t2 t3 tf tl
                go_wp2_with fail
                exact ⟨⟨j + 1, v8, by omega, by go_num, by rw [HQ1.out]; exact hS8, hB8, hKw8⟩, by simp [intOf]; omega⟩
            · obtain rfl : kn = j := by omega
              rw [List.take_of_length_le (by have := HLX.out; omega)] at hSj
              go_wp2_with fail
              go_end0
              rw [← HO.out]
              exact ⟨rfl, vj, by simpa only [List.append_assoc] using hSj, hKj⟩
end Go.Proofs.YtbakhldjfplbfaaGreat
set_option linter.unusedVariables false
set_option linter.unusedSimpArgs false
namespace Go.Proofs.YtbakhldjfplbfaaGreat
open Go.RowKit Go.Fl Go.Sl Go.Pg Go.Ch Go.Kf Go.By
/-- bytes that a call hands back -/
def BytesPost (w : World) (bs : List Nat) (e : Ending) (w' : World) : Prop := ∃ al cap, e = .returned (.slice al bs.length cap) ∧ Stab.Keeps w w' ∧ w'.ownsRow w.heap.size 5 1 (.slice al bs.length cap) bs.length (bytesV bs)
set_option maxRecDepth 100000 in
set_option maxHeartbeats 1000000 in
theorem writeAs_ {F : Nat → Prop} (cs : List Value) (p : Pg) (oa : Option Addr) (on oc : Nat) (o : List Bool) (w : World) (hG : GmR w F cs p) (hM : PgMade p) (hB : PgB p) (hN : PgNum 1000 p) (hO : Sz w oa on oc 1 (boolsV o)) (hl : (wkbO o p).1.length ≤ 900000000) :
    Calls Tryz.prog 35 #[.agg cs.toArray, .slice oa on oc] w (BytesPost w (wkbO o p).1) := by
  have hW := fun (wb : Nat) (v : Value) (wk : World) (h : SO w wb wk v [] o) => sGeom_ w wb p hM hB hN F cs v [] o wk h hG (by simpa using hl)
  obtain ⟨k, d, na, nn, nc, ka, kn, kc, rfl⟩ := hG.four
  have hk1 : Stab.Keeps w (w.alloc (.cells #[.int .i64 k, .int .i64 d, .slice na nn nc, .slice ka kn kc] 25)) := by with_reducible (repeat first | exact Kx.r _ | assumption | refine Kx.a ?_ _ | refine Kx.d ?_ | refine Kx.e ?_ _ | refine Kx.s (by simp <;> omega) ?_ _ | refine Kx.t ?_ (by assumption))
  have hk2 : Stab.Keeps w ((w.alloc (.cells #[.int .i64 k, .int .i64 d, .slice na nn nc, .slice ka kn kc] 25)).alloc (.cells #[.slice none 0 0, .slice oa on oc] 108)) := by with_reducible (repeat first | exact Kx.r _ | assumption | refine Kx.a ?_ _ | refine Kx.d ?_ | refine Kx.e ?_ _ | refine Kx.s (by simp <;> omega) ?_ _ | refine Kx.t ?_ (by assumption))
  have hBg : Blk ((w.alloc (.cells #[.int .i64 k, .int .i64 d, .slice na nn nc, .slice ka kn kc] 25)).alloc (.cells #[.slice none 0 0, .slice oa on oc] 108)) w.heap.size 25 [.int .i64 k, .int .i64 d, .slice na nn nc, .slice ka kn kc] := by with_reducible (repeat first | assumption | (refine Bx.n ⟨?_, ?_⟩ <;> focus (first | rfl | (simp; done) | omega)) | refine Bx.a ?_ _ | refine Bx.d ?_ | refine Bx.e ?_ _ | refine Bx.p (by first | omega | simp <;> omega) ?_)
  have hBb : Blk ((w.alloc (.cells #[.int .i64 k, .int .i64 d, .slice na nn nc, .slice ka kn kc] 25)).alloc (.cells #[.slice none 0 0, .slice oa on oc] 108)) (w.heap.size + 1) 108 [.slice none 0 0, .slice oa on oc] := by with_reducible (repeat first | assumption | (refine Bx.n ⟨?_, ?_⟩ <;> focus (first | rfl | (simp; done) | omega)) | refine Bx.a ?_ _ | refine Bx.d ?_ | refine Bx.e ?_ _ | refine Bx.p (by first | omega | simp <;> omega) ?_)
  have hS2 : SO w (w.heap.size + 1) _ (.slice none 0 0) [] o := ⟨hk2, ⟨oa, on, oc, hBb, hO⟩, World.ownsRow_nil _ _ _ _, by omega⟩
  have hWW := hW _ _ _ hS2
  rw [List.nil_append] at hWW
  generalize wkbO o p = out at *
  clear hW hG hM hB hN hO hS2
  go_enter Tryz.func35, Tryz.ntmps35
  go_upto_region 2 with (fail)
  generalize ((w.alloc (.cells #[.int .i64 k, .int .i64 d, .slice na nn nc, .slice ka kn kc] 25)).alloc (.cells #[.slice none 0 0, .slice oa on oc] 108)) = w2 at *
  have g0 := hBg.cell (i := 0) rfl
  have g1 := hBg.cell (i := 1) rfl
  have g2 := hBg.cell (i := 2) rfl
  have g3 := hBg.cell (i := 3) rfl
  have gf := hBg.free
  have gl := hBg.lt
  go_wp2_with fail
  refine hWW.mono ?_
  rintro e w3 ⟨rfl, v3, hS3, _⟩
  obtain ⟨hk3, ⟨oa3, on3, oc3, hB3, _⟩, hown, _⟩ := hS3
  obtain ⟨al, cp, rfl, _, _, _⟩ := of_owns hown
  have t0 := hB3.cell (i := 0) rfl
  have t1 := hB3.cell (i := 1) rfl
  have tf := hB3.free
  have tl := hB3.lt
  clear hWW g0 g1 g2 g3 gf gl hBg hBb hk1 hk2
  go_wp2_with fail
  go_ret
  exact ⟨al, cp, rfl, hk3, hown⟩
set_option maxRecDepth 100000 in
theorem writeWKB_ {F : Nat → Prop} (cs : List Value) (p : Pg) (w : World) (hG : GmR w F cs p) (hM : PgMade p) (hB : PgB p) (hN : PgNum 1000 p) (hl : (wkbO [] p).1.length ≤ 900000000) :
    Calls Tryz.prog 28 #[.agg cs.toArray] w (BytesPost w (wkbO [] p).1) := by
  have hW := fun (wk : World) (hk : Stab.Keeps w wk) => writeAs_ cs p none 0 0 [] wk (gmS.kf hG (KF.keeps hk)) hM hB hN (Sz.nil _ _) hl
  obtain ⟨k, d, na, nn, nc, ka, kn, kc, rfl⟩ := hG.four
  generalize (wkbO [] p).1 = out at *
  clear hG hM hB hN hl
  have hk1 : Stab.Keeps w (w.alloc (.cells #[.int .i64 k, .int .i64 d, .slice na nn nc, .slice ka kn kc] 25)) := by with_reducible (repeat first | exact Kx.r _ | assumption | refine Kx.a ?_ _ | refine Kx.d ?_ | refine Kx.e ?_ _ | refine Kx.s (by simp <;> omega) ?_ _ | refine Kx.t ?_ (by assumption))
  have hB1 : Blk (w.alloc (.cells #[.int .i64 k, .int .i64 d, .slice na nn nc, .slice ka kn kc] 25)) w.heap.size 25 [.int .i64 k, .int .i64 d, .slice na nn nc, .slice ka kn kc] := by with_reducible (repeat first | assumption | (refine Bx.n ⟨?_, ?_⟩ <;> focus (first | rfl | (simp; done) | omega)) | refine Bx.a ?_ _ | refine Bx.d ?_ | refine Bx.e ?_ _ | refine Bx.p (by first | omega | simp <;> omega) ?_)
  go_enter Tryz.func28, Tryz.ntmps28
  go_upto_region 1 with (fail)
  generalize (w.alloc (.cells #[.int .i64 k, .int .i64 d, .slice na nn nc, .slice ka kn kc] 25)) = w1 at *
  have g0 := hB1.cell (i := 0) rfl
  have g1 := hB1.cell (i := 1) rfl
  have g2 := hB1.cell (i := 2) rfl
  have g3 := hB1.cell (i := 3) rfl
  have gf := hB1.free
  have gl := hB1.lt
  go_wp2_with fail
  refine (hW _ hk1).mono ?_
  rintro e w2 ⟨al, cp, rfl, hk2, hown⟩
  clear hW
  go_wp2_with fail
  go_ret
  exact ⟨al, cp, rfl, Stab.Keeps.trans hk1 hk2, ⟨hown.1, hown.2.imp id (by rintro ⟨g, cap, cur, h1, h2, h3⟩; exact ⟨g, cap, cur, h1, Nat.le_trans hk1.size h2, h3⟩)⟩⟩
theorem encN8_le (l : List Nat) : encN8 false l = leN l := by unfold encN8 leN encB; rfl
theorem seqE_le (d : Nat) (ps : List Pl) : seqE false d ps = seqB d ps := by unfold seqE seqB encB; rw [encN8_le]; rfl
theorem headE_le (k d : Nat) : headE false k d = headB k d := by unfold headE headB encB; rw [Nat.add_comm, Nat.mul_comm]; rfl
theorem nanP_nums (d : Nat) : nanP.nums d = List.replicate (wid d) nanB := by
  unfold Pl.nums wid nanP
  cases has3 d <;> cases hasM d <;> rfl
/-- without orders: the least byte first -/
theorem wkbO_nil : ∀ {p : Pg}, PgMade p → wkbO [] p = (wkb p, []) := by
  intro p h
  induction h with
  | pt d l hd hl hn =>
    rw [wkbO_one, wkb, if_pos rfl]
    simp only [List.headD_nil, List.tail_nil, headE_le]
    unfold ptE ptB
    rw [encN8_le]
    cases l with
    | nil => rw [if_pos rfl, List.headD_nil, nanP_nums]
    | cons q l =>
      have : l = [] := by cases l with | nil => rfl | cons => simp at hl
      subst this
      rw [if_neg (by simp), List.headD_cons, numsOf_one]
  | ls d l hd hn =>
    rw [wkbO_two, wkb, if_neg (by decide), if_pos rfl]
    simp only [List.headD_nil, List.tail_nil, headE_le, seqE_le]
    rfl
  | wh k d kids hk k1 k2 hd h1 h2 h3 ih =>
    rw [wkbO_many _ _ _ _ _ k1 k2]
    simp only [List.headD_nil, List.tail_nil, headE_le]
    by_cases k3 : k = 3
    · subst k3
      rw [wkb, if_neg (by decide), if_neg (by decide), if_pos rfl]
      unfold kidsO polyB encB
      simp only [if_true]
      have : ringE false = ringsB := by funext c; unfold ringE ringsB; rw [seqE_le]
      rw [this]
      rfl
    · rw [wkb_many k d [] kids k1 k2 k3]
      unfold kidsO manyB encB
      simp only [if_neg k3]
      have hA : ∀ l : List Pg, (∀ c ∈ l, wkbO [] c = (wkb c, [])) → wkbOs [] l = (l.flatMap wkb, []) := by
        intro l
        induction l with
        | nil => intro _; simp [wkbOs]
        | cons c l ihl =>
          intro hc
          simp only [wkbOs, hc c (by simp)]
          rw [ihl (fun x hx => hc x (by simp [hx]))]
          simp
      rw [hA kids ih]
      simp
end Go.Proofs.YtbakhldjfplbfaaGreat
