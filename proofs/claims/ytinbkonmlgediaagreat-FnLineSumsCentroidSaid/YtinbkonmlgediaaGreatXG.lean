/-
  Sequences, lines and points of the package: what the small functions give. No condition.
  Sequences, lines and points brought to another type of coordinates. No condition.
  A sequence brought to another type of coordinates. No condition.
  Lines and points brought to another type of coordinates, and made of plain data. No condition.
  Sequences, lines and points made of plain data, whatever their type's number. No condition.
-/
import Derived.Test.YtinbkonmlgediaaGreatXSeq2
import Derived.Test.YtinbkonmlgediaaGreatXPg
import Derived.Test.YtinbkonmlgediaaGreatXCh
import Derived.Test.YtinbkonmlgediaaGreatXKf
import Derived.Test.YtinbkonmlgediaaGreatXAp
import Derived.BigRegion
import Derived.Laws.Bits128
import Derived.Deep.LoopGhost
import Derived.Deep.Cut
set_option linter.unusedVariables false
set_option linter.unusedSimpArgs false
namespace Go.Proofs.YtinbkonmlgediaaGreat
open Go.RowKit Go.Fl Go.Sl Go.Pg Go.Ch Go.Kf
theorem dimN_wid {d : Nat} (h : d < 4) : dimN d = wid d := by
  have : d = 0 ∨ d = 1 ∨ d = 2 ∨ d = 3 := by omega
  rcases this with rfl | rfl | rfl | rfl <;> rfl
theorem Blk.past2 {w : World} {b : Nat} {e : TypeId} {vs : List Value} {a : Addr} {u : Value} (ha : b ≠ a.block) (h : Blk w b e vs) : Blk (w.setCell a u) b e vs := h.past ha u
theorem Blk.new1 {w : World} {vs : List Value} {c : Array Value} {e : TypeId} {n : Nat} (hn : n = w.heap.size ∧ c = vs.toArray) : Blk (w.alloc (.cells c e)) n e vs := by obtain ⟨h1, rfl⟩ := hn; exact Blk.new w vs e n h1
end Go.Proofs.YtinbkonmlgediaaGreat
namespace Go.Bx
open Go.Ch
theorem n {w : World} {vs : List Value} {c : Array Value} {e : TypeId} {n : Nat} (hn : n = w.heap.size ∧ c = vs.toArray) : Blk (w.alloc (.cells c e)) n e vs := Go.Proofs.YtinbkonmlgediaaGreat.Blk.new1 hn
theorem a {w : World} {b : Nat} {e : TypeId} {vs : List Value} (h : Blk w b e vs) (o : Obj) : Blk (w.alloc o) b e vs := h.alloc o
theorem d {w : World} {b : Nat} {e : TypeId} {vs : List Value} (h : Blk w b e vs) : Blk w.drew b e vs := h.drew
theorem e {w : World} {b : Nat} {e : TypeId} {vs : List Value} (h : Blk w b e vs) (n : Nat) : Blk (w.drewN n) b e vs := h.drewN n
theorem p {w : World} {b : Nat} {e : TypeId} {vs : List Value} {a : Addr} {u : Value} (ha : b ≠ a.block) (h : Blk w b e vs) : Blk (w.setCell a u) b e vs := h.past ha u
end Go.Bx
namespace Go.Proofs.YtinbkonmlgediaaGreat
open Go.RowKit Go.Fl Go.Sl Go.Pg Go.Ch Go.Kf
/-- a sequence of places -/
structure SeqAt (w : World) (F : Nat → Prop) (d : Nat) (ps : List Pl) (a : Option Addr) (n cap : Nat) : Prop where
  d4 : d < 4
  nrm : ∀ p ∈ ps, p.norm d
  len : n = ps.length * wid d
  sm : ps.length ≤ 250000
  szf : SzF w F a n cap 1 (encN (numsOf d ps))
theorem SeqAt.sz {w : World} {F : Nat → Prop} {d : Nat} {ps : List Pl} {a : Option Addr} {n cap : Nat} (h : SeqAt w F d ps a n cap) : Sz w a n cap 1 (encN (numsOf d ps)) := h.szf.sz
theorem SeqAt.kf {w w' : World} {F : Nat → Prop} {d : Nat} {ps : List Pl} {a : Option Addr} {n cap : Nat} (h : SeqAt w F d ps a n cap) (hk : KF F w w') : SeqAt w' F d ps a n cap := ⟨h.d4, h.nrm, h.len, h.sm, h.szf.kf hk⟩
theorem SeqAt.keep {w w' : World} {F : Nat → Prop} {d : Nat} {ps : List Pl} {a : Option Addr} {n cap : Nat} (h : SeqAt w F d ps a n cap) (hk : Stab.Keeps w w') : SeqAt w' F d ps a n cap := h.kf (KF.keeps hk)
theorem SeqAt.mono {w : World} {F G : Nat → Prop} {d : Nat} {ps : List Pl} {a : Option Addr} {n cap : Nat} (h : SeqAt w F d ps a n cap) (hG : ∀ b, b < w.heap.size → F b → G b) : SeqAt w G d ps a n cap := ⟨h.d4, h.nrm, h.len, h.sm, h.szf.mono hG⟩
theorem SeqAt.old {w : World} {F : Nat → Prop} {d : Nat} {ps : List Pl} {a : Option Addr} {n cap : Nat} (h : SeqAt w F d ps a n cap) : SeqAt w (Go.Kf.old F w.heap.size) d ps a n cap := h.mono fun b h1 h2 => ⟨h2, h1⟩
theorem SeqAt.big {w : World} {F : Nat → Prop} {d : Nat} {ps : List Pl} {a : Option Addr} {n cap : Nat} (h : SeqAt w F d ps a n cap) : n ≤ 1000000 := by
  have h1 := h.sm
  have h2 := wid_le d
  have h3 : ps.length * wid d ≤ 250000 * 4 := Nat.mul_le_mul h1 h2
  rw [h.len]
  omega
theorem SeqAt.cell {w : World} {F : Nat → Prop} {d : Nat} {ps : List Pl} {a : Option Addr} {n cap : Nat} (h : SeqAt w F d ps a n cap) {i : Nat} (hi : i < ps.length) :
    ∃ b off, a = some ⟨b, off, none⟩ ∧ b < w.heap.size ∧ ∀ j v, (ps[i].nums d)[j]? = some v → w.cell? ⟨b, off + (i * wid d + j), none⟩ = some (.float .f64 v) := by
  have hw := wid_pos d
  have hn := h.len
  have hin : i * wid d + wid d ≤ n := by rw [hn, ← Nat.succ_mul]; exact Nat.mul_le_mul_right _ hi
  obtain ⟨b, off, ha, hb, _⟩ := h.sz.elem (i := i * wid d) (by omega)
  refine ⟨b, off, ha, hb, fun j v hv => ?_⟩
  have hj : j < wid d := by
    have := (List.getElem?_eq_some_iff.1 hv).1
    rwa [nums_len] at this
  obtain ⟨b', off', ha', _, hc⟩ := h.sz.elem (i := i * wid d + j) (by omega)
  rw [ha] at ha'
  cases ha'
  have := hc 0 (.float .f64 v) (by omega) (by
    unfold encN
    rw [Nat.add_zero, Nat.mul_one, List.getElem?_map, numsOf_get d ps i j hi hj, hv]
    rfl)
  simpa using this
/-- a place as the program's struct of coordinates -/
def coV (d : Nat) (p : Pl) : Value := .agg #[.float .f64 p.x, .float .f64 p.y, .float .f64 p.z, .float .f64 p.m, .int .u8 d]
def ptC (d : Nat) : List Pl → List Value
  | [] => [.float .f64 0, .float .f64 0, .float .f64 0, .float .f64 0, .int .u8 d, .bool false]
  | p :: _ => [.float .f64 p.x, .float .f64 p.y, .float .f64 p.z, .float .f64 p.m, .int .u8 d, .bool true]
theorem get_ {F : Nat → Prop} (d : Nat) (ps : List Pl) (a : Option Addr) (n cap i : Nat) (w : World) (h : SeqAt w F d ps a n cap) (hi : i < ps.length) :
    Calls Tryz.prog 78 #[.agg #[.int .u8 d, .slice a n cap], .int .i64 i] w (One w (coV d ps[i])) := by
  obtain ⟨b, off, rfl, hb, hc⟩ := h.cell hi
  have hn := h.len
  have hs := h.big
  have hle := h.sz.le
  have hmx := h.sz.max
  have hnr := h.nrm ps[i] (List.getElem_mem _)
  have hi2 : i * wid d + wid d ≤ n := by rw [hn, ← Nat.succ_mul]; exact Nat.mul_le_mul_right _ hi
  generalize ps[i] = p at *
  obtain ⟨x, y, z, m⟩ := p
  obtain ⟨hz, hm⟩ := hnr
  simp only at hz hm
  have hd : d = 0 ∨ d = 1 ∨ d = 2 ∨ d = 3 := by have := h.d4; omega
  unfold coV
  rcases hd with rfl | rfl | rfl | rfl
  · have z0 := hz rfl
    have m0 := hm rfl
    subst z0 m0
    exact get2_ b off n cap i x y w hle hmx hs hi2 hb (hc 0 _ rfl) (hc 1 _ rfl)
  · have m0 := hm rfl
    subst m0
    exact get3z_ b off n cap i x y z w hle hmx hs hi2 hb (hc 0 _ rfl) (hc 1 _ rfl) (hc 2 _ rfl)
  · have z0 := hz rfl
    subst z0
    exact get3m_ b off n cap i x y m w hle hmx hs hi2 hb (hc 0 _ rfl) (hc 1 _ rfl) (hc 2 _ rfl)
  · exact get4_ b off n cap i x y z m w hle hmx hs hi2 hb (hc 0 _ rfl) (hc 1 _ rfl) (hc 2 _ rfl) (hc 3 _ rfl)
theorem seqLen_ {F : Nat → Prop} (d : Nat) (ps : List Pl) (a : Option Addr) (n cap : Nat) (w w0 : World) (h : SeqAt w0 F d ps a n cap) :
    Calls Tryz.prog 67 #[.agg #[.int .u8 d, .slice a n cap]] w (One w (.int .i64 ps.length)) := by
  have := length_ d h.d4 a n cap h.sz.le h.sz.max w
  have e : n / dimN d = ps.length := by rw [dimN_wid h.d4, h.len, Nat.mul_div_cancel _ (by have := wid_pos d; omega)]
  rw [e] at this
  exact this
set_option maxRecDepth 100000 in
theorem is3D_ (d : Nat) (hd : d < 4) (w : World) : Calls Tryz.prog 29 #[.int .u8 d] w (One w (.bool (has3 d))) := by
  have : d = 0 ∨ d = 1 ∨ d = 2 ∨ d = 3 := by omega
  rcases this with rfl | rfl | rfl | rfl
  all_goals
    go_enter Tryz.func29, Tryz.ntmps29
    go_wp2
    go_ret
    exact ⟨rfl, by with_reducible (repeat first | exact Kx.r _ | assumption | refine Kx.a ?_ _ | refine Kx.d ?_ | refine Kx.e ?_ _ | refine Kx.s (by simp <;> omega) ?_ _ | refine Kx.t ?_ (by assumption))⟩
set_option maxRecDepth 100000 in
theorem isM_ (d : Nat) (hd : d < 4) (w : World) : Calls Tryz.prog 30 #[.int .u8 d] w (One w (.bool (hasM d))) := by
  have : d = 0 ∨ d = 1 ∨ d = 2 ∨ d = 3 := by omega
  rcases this with rfl | rfl | rfl | rfl
  all_goals
    go_enter Tryz.func30, Tryz.ntmps30
    go_wp2
    go_ret
    exact ⟨rfl, by with_reducible (repeat first | exact Kx.r _ | assumption | refine Kx.a ?_ _ | refine Kx.d ?_ | refine Kx.e ?_ _ | refine Kx.s (by simp <;> omega) ?_ _ | refine Kx.t ?_ (by assumption))⟩
set_option maxRecDepth 100000 in
theorem newPoint_ (d : Nat) (p : Pl) (w : World) : Calls Tryz.prog 77 #[coV d p] w (One w (.agg (ptC d [p]).toArray)) := by
  unfold coV
  go_enter Tryz.func77, Tryz.ntmps77
  go_wp2
  refine bodyPost_ret (by simp [results, Tryz.results77, go_sem, ptC]) rfl ⟨rfl, ?_⟩
  with_reducible (repeat first | exact Kx.r _ | assumption | refine Kx.a ?_ _ | refine Kx.d ?_ | refine Kx.e ?_ _ | refine Kx.s (by simp <;> omega) ?_ _ | refine Kx.t ?_ (by assumption))
set_option maxRecDepth 100000 in
theorem newEmpty_ (d : Nat) (w : World) : Calls Tryz.prog 76 #[.int .u8 d] w (One w (.agg (ptC d []).toArray)) := by
  go_enter Tryz.func76, Tryz.ntmps76
  go_wp2
  refine bodyPost_ret (by simp [results, Tryz.results76, go_sem, ptC]) rfl ⟨rfl, ?_⟩
  with_reducible (repeat first | exact Kx.r _ | assumption | refine Kx.a ?_ _ | refine Kx.d ?_ | refine Kx.e ?_ _ | refine Kx.s (by simp <;> omega) ?_ _ | refine Kx.t ?_ (by assumption))
set_option maxRecDepth 100000 in
theorem lineType_ (d : Nat) (a : Option Addr) (n cap : Nat) (w : World) : Calls Tryz.prog 124 #[.agg #[.int .u8 d, .slice a n cap]] w (One w (.int .u8 d)) := by
  have hT := fun w' => seqType_ d a n cap w'
  go_enter Tryz.func124, Tryz.ntmps124
  go_wp2_with fail
  refine (hT _).mono ?_
  rintro e w2 ⟨rfl, hk⟩
  go_wp2_with fail
  go_ret
  refine ⟨rfl, ?_⟩
  with_reducible (repeat first | exact Kx.r _ | assumption | refine Kx.a ?_ _ | refine Kx.d ?_ | refine Kx.e ?_ _ | refine Kx.s (by simp <;> omega) ?_ _ | refine Kx.t ?_ (by assumption))
set_option maxRecDepth 100000 in
theorem ptType_ (d : Nat) (l : List Pl) (w : World) : Calls Tryz.prog 27 #[.agg (ptC d l).toArray] w (One w (.int .u8 d)) := by
  cases l
  all_goals
    unfold ptC
    go_enter Tryz.func27, Tryz.ntmps27
    go_wp2
    go_ret
    refine ⟨rfl, ?_⟩
    with_reducible (repeat first | exact Kx.r _ | assumption | refine Kx.a ?_ _ | refine Kx.d ?_ | refine Kx.e ?_ _ | refine Kx.s (by simp <;> omega) ?_ _ | refine Kx.t ?_ (by assumption))
/-- a point's coordinates, and whether there are any -/
def ptCo (d : Nat) : List Pl → Value
  | [] => .tuple #[coV d ⟨0, 0, 0, 0⟩, .bool false]
  | p :: _ => .tuple #[coV d p, .bool true]
set_option maxRecDepth 100000 in
theorem ptCoords_ (d : Nat) (l : List Pl) (w : World) : Calls Tryz.prog 28 #[.agg (ptC d l).toArray] w (One w (ptCo d l)) := by
  cases l
  all_goals
    unfold ptC ptCo coV
    go_enter Tryz.func28, Tryz.ntmps28
    go_wp2
    go_region
    all_goals
      go_wp2
      refine bodyPost_ret (by simp [results, Tryz.results28, go_sem]) rfl ⟨rfl, ?_⟩
      with_reducible (repeat first | exact Kx.r _ | assumption | refine Kx.a ?_ _ | refine Kx.d ?_ | refine Kx.e ?_ _ | refine Kx.s (by simp <;> omega) ?_ _ | refine Kx.t ?_ (by assumption))
/-- a geometry in a block of its own -/
def Held (w : World) (k : Int) (T B : TypeId) (cs : List Value) (e : Ending) (w' : World) : Prop := ∃ b, e = .returned (.agg #[.int .i64 k, .iface T (.pointer (some ⟨b, 0, none⟩))]) ∧ Stab.Keeps w w' ∧ w.heap.size ≤ b ∧ Blk w' b B cs
set_option maxRecDepth 100000 in
theorem ptGeo_ (d : Nat) (l : List Pl) (w : World) : Calls Tryz.prog 32 #[.agg (ptC d l).toArray] w (Held w 1 124 60 (ptC d l)) := by
  cases l
  all_goals
    unfold ptC
    go_enter Tryz.func32, Tryz.ntmps32
    go_wp2
    refine bodyPost_ret (by simp [results, Tryz.results32, go_sem]) rfl ⟨w.heap.size, rfl, ?_, Nat.le_refl _, ?_⟩
    · with_reducible (repeat first | exact Kx.r _ | assumption | refine Kx.a ?_ _ | refine Kx.d ?_ | refine Kx.e ?_ _ | refine Kx.s (by simp <;> omega) ?_ _ | refine Kx.t ?_ (by assumption))
    · with_reducible (repeat first | assumption | (refine Bx.n ⟨?_, ?_⟩ <;> focus (first | rfl | (simp; done) | omega)) | refine Bx.a ?_ _ | refine Bx.d ?_ | refine Bx.e ?_ _ | refine Bx.p (by first | omega | simp <;> omega) ?_)
set_option maxRecDepth 100000 in
theorem lineGeo_ (d : Nat) (a : Option Addr) (n cap : Nat) (w : World) : Calls Tryz.prog 33 #[.agg #[.int .u8 d, .slice a n cap]] w (Held w 2 125 51 [.int .u8 d, .slice a n cap]) := by
  go_enter Tryz.func33, Tryz.ntmps33
  go_wp2
  refine bodyPost_ret (by simp [results, Tryz.results33, go_sem]) rfl ⟨w.heap.size, rfl, ?_, Nat.le_refl _, ?_⟩
  · with_reducible (repeat first | exact Kx.r _ | assumption | refine Kx.a ?_ _ | refine Kx.d ?_ | refine Kx.e ?_ _ | refine Kx.s (by simp <;> omega) ?_ _ | refine Kx.t ?_ (by assumption))
  · with_reducible (repeat first | assumption | (refine Bx.n ⟨?_, ?_⟩ <;> focus (first | rfl | (simp; done) | omega)) | refine Bx.a ?_ _ | refine Bx.d ?_ | refine Bx.e ?_ _ | refine Bx.p (by first | omega | simp <;> omega) ?_)
end Go.Proofs.YtinbkonmlgediaaGreat
set_option linter.unusedVariables false
set_option linter.unusedSimpArgs false
namespace Go.Proofs.YtinbkonmlgediaaGreat
open Go.RowKit Go.Fl Go.Sl Go.Pg Go.Ch Go.Kf
theorem i64_and3 (n : Int) : bits .and .i64 n 3 = n % 4 := by
  have h3 : (BitVec.ofInt 64 3).toNat = 2 ^ 2 - 1 := by decide
  have key : (BitVec.ofInt 64 n &&& BitVec.ofInt 64 3).toNat = (n % ((2 ^ 64 : Nat) : Int)).toNat % 2 ^ 2 := by
    rw [BitVec.toNat_and, BitVec.toNat_ofInt, h3, Nat.and_two_pow_sub_one_eq_mod]
  show IntKind.i64.wrap ((BitVec.ofInt 64 n &&& BitVec.ofInt 64 3).toNat : Nat) = n % 4
  rw [key, IntKind.wrap_i64]
  omega
def dim4 (n : Int) : Nat := (n % 4).toNat
theorem dim4_lt (n : Int) : dim4 n < 4 := by unfold dim4; omega
set_option maxRecDepth 100000 in
theorem dimOfA_ (n : Int) (w : World) : Calls Tryz.prog 73 #[.int .i64 n] w (One w (.int .u8 (dim4 n))) := by
  have h1 : bits .and .i64 n 3 = (dim4 n : Int) := by
    rw [i64_and3]
    unfold dim4
    omega
  have hd := dim4_lt n
  generalize dim4 n = d at *
  have : d = 0 ∨ d = 1 ∨ d = 2 ∨ d = 3 := by omega
  rcases this with rfl | rfl | rfl | rfl
  all_goals
    go_enter Tryz.func73, Tryz.ntmps73
    go_wp2
    go_ret
    exact ⟨rfl, by with_reducible (repeat first | exact Kx.r _ | assumption | refine Kx.a ?_ _ | refine Kx.d ?_ | refine Kx.e ?_ _ | refine Kx.s (by simp <;> omega) ?_ _ | refine Kx.t ?_ (by assumption))⟩
set_option maxRecDepth 100000 in
set_option maxHeartbeats 1000000 in
theorem getXY_ {F : Nat → Prop} (d : Nat) (ps : List Pl) (a : Option Addr) (n cap i : Nat) (w : World) (h : SeqAt w F d ps a n cap) (hi : i < ps.length) :
    Calls Tryz.prog 121 #[.agg #[.int .u8 d, .slice a n cap], .int .i64 i] w (One w (.agg #[.float .f64 ps[i].x, .float .f64 ps[i].y])) := by
  obtain ⟨b, off, rfl, hb, hc⟩ := h.cell hi
  have hn := h.len
  have hs := h.big
  have hle := h.sz.le
  have hmx := h.sz.max
  unfold maxLen at hmx
  have hwp := wid_pos d
  have hwl := wid_le d
  have hi2 : i * wid d + wid d ≤ n := by rw [hn, ← Nat.succ_mul]; exact Nat.mul_le_mul_right _ hi
  have hD := fun w' => dimension_ d h.d4 w'
  rw [dimN_wid h.d4] at hD
  have k0 := hc 0 _ rfl
  have k1 := hc 1 _ rfl
  generalize ps[i] = p at *
  obtain ⟨x, y, z, m⟩ := p
  simp only at k0 k1 ⊢
  clear hc h hi hn
  obtain ⟨W, hW⟩ : ∃ W, wid d = W := ⟨_, rfl⟩
  have bi : i ≤ 1000000 := by
    have : i ≤ i * wid d := Nat.le_mul_of_pos_right _ (by omega)
    omega
  rw [hW] at hi2 hD hwp hwl k0 k1
  clear hW
  have c0 : w.cell? ⟨b, off + i * W, none⟩ = some (.float .f64 x) := by simpa using k0
  have c1 : w.cell? ⟨b, off + (i * W + 1), none⟩ = some (.float .f64 y) := k1
  obtain ⟨q, hq⟩ : ∃ q, i * W = q := ⟨_, rfl⟩
  have hqi : ((i : Int) * (W : Int)) = q := by rw [← hq]; simp
  rw [hq] at hi2 c0 c1
  clear k0 k1 hq
  have b2 : ((q : Int)).toNat = q := by omega
  have b3 : (0 : Int) ≤ (q : Int) + 1 := by omega
  have b4 : ((q : Int) + 1).toNat = q + 1 := by omega
  have b5 : (q : Int) < n := by omega
  have b6 : (q : Int) + 1 < n := by omega
  have b7 : q ≤ 1000000 := by omega
  have w3 : IntKind.i64.wrap ((q : Int) + 1) = (q : Int) + 1 := IntWalk.i64_in _ (by omega)
  have w1 : IntKind.i64.wrap ((i : Int) * (W : Int)) = (q : Int) := by rw [hqi]; exact IntWalk.i64_in _ (by clear w3; omega)
  clear hqi
  go_enter Tryz.func121, Tryz.ntmps121
  go_wp2_with fail
  refine (hD _).mono ?_
  rintro e w2 ⟨rfl, hk2⟩
  clear hD
  obtain ⟨mc_, mf_⟩ := Stab.own_cell hk2 (w.heap.size) (by first | (simp; done) | (simp; omega) | omega | (apply Stab.cell_lt (a := ⟨w.heap.size, 0, none⟩); assumption))
  have m0 : w2.cell? ⟨w.heap.size, 0, none⟩ = some (.int .u8 d) := by rw [mc_]; first | assumption | (go_simp; done)
  have m1 : w2.cell? ⟨w.heap.size, 1, none⟩ = some (.slice (some ⟨b, off, none⟩) n cap) := by rw [mc_]; first | assumption | (go_simp; done)
  have mf : ∀ j, w2.frozen? ⟨w.heap.size, j, none⟩ = false := fun j => by rw [mf_]; first | (go_simp; done) | (apply_assumption)
  clear mc_ mf_
  obtain ⟨rc_, rf_⟩ := Stab.own_cell hk2 (w.heap.size + 1) (by first | (simp; done) | (simp; omega) | omega | (apply Stab.cell_lt (a := ⟨w.heap.size + 1, 0, none⟩); assumption))
  have r0 : w2.cell? ⟨w.heap.size + 1, 0, none⟩ = some (.float .f64 0) := by rw [rc_]; first | assumption | (go_simp; done)
  have r1 : w2.cell? ⟨w.heap.size + 1, 1, none⟩ = some (.float .f64 0) := by rw [rc_]; first | assumption | (go_simp; done)
  have rf : ∀ j, w2.frozen? ⟨w.heap.size + 1, j, none⟩ = false := fun j => by rw [rf_]; first | (go_simp; done) | (apply_assumption)
  clear rc_ rf_
  have hw2 : Stab.Keeps w w2 := by with_reducible (repeat first | exact Kx.r _ | assumption | refine Kx.a ?_ _ | refine Kx.d ?_ | refine Kx.e ?_ _ | refine Kx.s (by simp <;> omega) ?_ _ | refine Kx.t ?_ (by assumption))
  have c0' : w2.cell? ⟨b, off + q, none⟩ = some (.float .f64 x) := by rw [(Stab.own_cell hw2 b hb).1]; exact c0
  have c1' : w2.cell? ⟨b, off + (q + 1), none⟩ = some (.float .f64 y) := by rw [(Stab.own_cell hw2 b hb).1]; exact c1
  have hlr := Stab.cell_lt r0
  have hbw : b < w2.heap.size := Nat.lt_of_lt_of_le hb hw2.size
  have hl0 := Stab.cell_lt m0
  simp only at hlr hl0
  clear c0 c1
  go_wp2_with fail
  refine Stab.keep_tail 16 (fun _ _ _ => True) (fun _ => false) (fun k => false) Stab.pre_none (by kernel_rfl) (by kernel_rfl) fun hcx => ?_
  simp only [List.take_succ_cons, List.take_zero, List.drop_succ_cons, List.drop_zero]
  repeat (first
    | (refine Stab.quiet rfl rfl rfl (fun K hK => ?_); go_big_quiet_op; refine hK _ ?_; clear hK K)
    | (refine Stab.one rfl rfl rfl ?_
       apply Exists.intro
       refine ⟨fun w1 hw1 => ?_, fun K hK => ?_⟩
       · go_simp
         first | fail
       go_simp
       refine hK _ ?_
       clear hK K)
    | (refine Stab.skip rfl (fun K hK => ?_); go_simp; refine hK _ ?_; clear hK K))
  refine Stab.nil fun w' hw' _ => ?_
  clear hcx
  obtain ⟨qc_, qf_⟩ := Stab.own_cell hw' (w.heap.size + 1) (by first | (simp; done) | (simp; omega) | omega | (apply Stab.cell_lt (a := ⟨w.heap.size + 1, 0, none⟩); assumption))
  have q0 : w'.cell? ⟨w.heap.size + 1, 0, none⟩ = some (.float .f64 0) := by rw [qc_]; first | assumption | (go_simp; done)
  have q1 : w'.cell? ⟨w.heap.size + 1, 1, none⟩ = some (.float .f64 0) := by rw [qc_]; first | assumption | (go_simp; done)
  have qf : ∀ j, w'.frozen? ⟨w.heap.size + 1, j, none⟩ = false := fun j => by rw [qf_]; first | (go_simp; done) | (apply_assumption)
  clear qc_ qf_
  go_wp2_with fail
  refine bodyPost_ret (v := .agg #[.float .f64 x, .float .f64 y]) (by simp [results, Tryz.results121, go_sem, *]) rfl ⟨rfl, ?_⟩
  with_reducible (repeat first | exact Kx.r _ | assumption | refine Kx.a ?_ _ | refine Kx.d ?_ | refine Kx.e ?_ _ | refine Kx.s (by simp <;> omega) ?_ _ | refine Kx.t ?_ (by assumption))
end Go.Proofs.YtinbkonmlgediaaGreat
set_option linter.unusedVariables false
set_option linter.unusedSimpArgs false
namespace Go.Proofs.YtinbkonmlgediaaGreat
open Go.RowKit Go.Fl Go.Sl Go.Pg Go.Ch Go.Kf
theorem Room.alloc {w : World} {b m : Nat} (h : Room w b m) (o : Obj) (hb : b < w.heap.size) : Room (w.alloc o) b m := h.keep (Stab.Keeps.alloc (Stab.Keeps.refl w) o) hb
theorem Filled.alloc {w : World} {b m : Nat} {xs : List Value} (h : Filled w b m xs) (o : Obj) (hb : b < w.heap.size) : Filled (w.alloc o) b m xs := h.keep (Stab.Keeps.alloc (Stab.Keeps.refl w) o) hb
theorem Filled.past {w : World} {b c i m : Nat} {v : Value} {xs : List Value} (hc : c ≠ b) (h : Filled w b m xs) : Filled (w.setCell ⟨c, i, none⟩ v) b m xs := fun j u hj hu => by
  rw [World.cell?_setCell_other _ _ _ _ (fun e => hc (by injection e))]
  exact h j u hj hu
/-- a callee that returns a sequence of these places -/
def SeqRet (w : World) (F : Nat → Prop) (d : Nat) (ps : List Pl) (e : Ending) (w' : World) : Prop := ∃ a n cap, e = .returned (.agg #[.int .u8 d, .slice a n cap]) ∧ Stab.Keeps w w' ∧ SeqAt w' (orNew F w.heap.size) d ps a n cap
set_option maxRecDepth 100000 in
theorem seqForceSame_ {F : Nat → Prop} (d : Nat) (ps : List Pl) (a : Option Addr) (n cap : Nat) (w : World) (h : SeqAt w F d ps a n cap) :
    Calls Tryz.prog 165 #[.agg #[.int .u8 d, .slice a n cap], .int .u8 d] w (SeqRet w F d ps) := by
  go_enter Tryz.func165, Tryz.ntmps165
  go_wp2_with fail
  have hk : Stab.Keeps w (((w.alloc (.cells #[.int .u8 d, .slice a n cap] 49)).alloc (.cells #[.int .u8 d, .slice a n cap] 49))) := by with_reducible (repeat first | exact Kx.r _ | assumption | refine Kx.a ?_ _ | refine Kx.d ?_ | refine Kx.e ?_ _ | refine Kx.s (by simp <;> omega) ?_ _ | refine Kx.t ?_ (by assumption))
  refine bodyPost_ret (v := .agg #[.int .u8 d, .slice a n cap]) (by simp [results, Tryz.results165, go_sem]) rfl ⟨a, n, cap, rfl, ?_, ?_⟩
  · with_reducible (repeat first | exact Kx.r _ | assumption | refine Kx.a ?_ _ | refine Kx.d ?_ | refine Kx.e ?_ _ | refine Kx.s (by simp <;> omega) ?_ _ | refine Kx.t ?_ (by assumption))
  · refine (h.keep ?_).mono fun b _ hb => .inl hb
    with_reducible (repeat first | exact Kx.r _ | assumption | refine Kx.a ?_ _ | refine Kx.d ?_ | refine Kx.e ?_ _ | refine Kx.s (by simp <;> omega) ?_ _ | refine Kx.t ?_ (by assumption))
set_option maxRecDepth 100000 in
theorem seqForceNil_ (F : Nat → Prop) (d d' : Nat) (hd' : d' < 4) (hne : d ≠ d') (a : Option Addr) (cap : Nat) (w : World) :
    Calls Tryz.prog 165 #[.agg #[.int .u8 d, .slice a 0 cap], .int .u8 d'] w (SeqRet w F d' []) := by
  have e1 : ((d : Int) == (d' : Int)) = false := by simp; omega
  have e2 : (d == d') = false := by simp; omega
  go_enter Tryz.func165, Tryz.ntmps165
  go_wp2_with fail
  refine bodyPost_ret (v := .agg #[.int .u8 d', .slice none 0 0]) (by simp [results, Tryz.results165, go_sem]) rfl ⟨none, 0, 0, rfl, ?_, hd', fun p hp => by simp at hp, by simp, by simp, SzF.nil _ _ _⟩
  with_reducible (repeat first | exact Kx.r _ | assumption | refine Kx.a ?_ _ | refine Kx.d ?_ | refine Kx.e ?_ _ | refine Kx.s (by simp <;> omega) ?_ _ | refine Kx.t ?_ (by assumption))
set_option maxRecDepth 100000 in
set_option maxHeartbeats 4000000 in
theorem seqForceAll_ {F : Nat → Prop} (d d' : Nat) (hd' : d' < 4) (hne : d ≠ d') (ps : List Pl) (hps : 0 < ps.length) (hsm : ps.length ≤ 250000) (a : Option Addr) (n cap : Nat) (w : World) (h : SeqAt w F d ps a n cap) :
    Calls Tryz.prog 165 #[.agg #[.int .u8 d, .slice a n cap], .int .u8 d'] w (SeqRet w F d' (ps.map (Pl.force d'))) := by
  obtain ⟨i0, hi, hz0, hz1, hz2⟩ := info_parts infoFloat
  have hL := fun w' => seqLen_ d ps a n cap w' w h
  have hD := fun w' => dimension_ d' hd' w'
  rw [dimN_wid hd'] at hD
  have hG := fun (i : Nat) (hi : i < ps.length) (w' : World) (hk : Stab.Keeps w w') => get_ d ps a n cap i w' (h.keep hk) hi
  have hn0 : n ≠ 0 := by
    have := h.len
    have := wid_pos d
    have : ps.length ≤ ps.length * wid d := Nat.le_mul_of_pos_right _ (by omega)
    omega
  have n1 : ((n : Int) == 0) = false := by simp; omega
  have n2 : (n == 0) = false := by simp; omega
  have HN := Lib.hid hn0
  have hxs : ∀ k (hk : k < ps.length) j v, ((ps[k].force d').nums d')[j]? = some v → (encN (numsOf d' (ps.map (Pl.force d'))))[k * wid d' + j]? = some (.float .f64 v) := fun k hk j v hv => by
    have hj : j < wid d' := by
      have := (List.getElem?_eq_some_iff.1 hv).1
      rwa [nums_len] at this
    unfold encN
    rw [List.getElem?_map, numsOf_get d' _ k j (by simpa using hk) hj, List.getElem_map, hv]
    rfl
  have hxl : (encN (numsOf d' (ps.map (Pl.force d')))).length = ps.length * wid d' := by simp [encN, numsOf_len]
  have HXL := Lib.hid hxl
  have HX := Lib.hid hxs
  generalize hxe : encN (numsOf d' (ps.map (Pl.force d'))) = xs at *
  have HXE := Lib.hid hxe
  clear hn0 hxl hxs hxe
  have : d' = 0 ∨ d' = 1 ∨ d' = 2 ∨ d' = 3 := by omega
  rcases this with rfl | rfl | rfl | rfl
  · have e1 : ((d : Int) == 0) = false := by simp; omega
    obtain ⟨q, hq⟩ : ∃ q, 2 * ps.length = q := ⟨_, rfl⟩
    have hq2 : 2 * (ps.length : Int) = (q : Int) := by rw [← hq]; simp
    have HQ := Lib.hid hq
    clear hq
    have hmk : ∀ w : World, (Instr.makeSlice 32 (.int .i64 q) (.int .i64 q)).run Tryz.prog w = .ok (.slice (some ⟨w.heap.size, 0, none⟩) q q) (w.alloc (.cells (madeCells #[.float .f64 0] q) 27)) := fun w => by
      have := run_make (P := Tryz.prog) w 32 27 i0 _ Tryz.underlying32 hi hz0 .i64 .i64 q q (by omega) (Int.le_refl _) (by rw [hz2]; omega) (by omega)
      rw [hz1] at this
      simpa [Value.cells] using this
    have hmz : (madeCells #[.float .f64 0] q).size = q := by
      have : (madeCells #[.float .f64 0] q) = (List.replicate q (Value.float .f64 0)).toArray := by rw [← toList_madeCells_one]
      rw [this]; simp
    simp only [show wid 0 = 2 from rfl] at hD HX HXL
    simp only [Int.natCast_zero, Int.natCast_one, Int.cast_ofNat_Int] at hD
    clear hi hz0 hz1 hz2 hne
    go_enter Tryz.func165, Tryz.ntmps165
    go_wp2_with fail
    refine (hL _).mono ?_
    clear hL
    rintro e w2 ⟨rfl, hk2⟩
    obtain ⟨mc_, mf_⟩ := Stab.own_cell hk2 (w.heap.size) (by first | (simp; done) | (simp; omega) | omega | (apply Stab.cell_lt (a := ⟨w.heap.size, 0, none⟩); assumption))
    have m0 : w2.cell? ⟨w.heap.size, 0, none⟩ = some (.int .u8 d) := by rw [mc_]; first | assumption | (go_simp; done)
    have m1 : w2.cell? ⟨w.heap.size, 1, none⟩ = some (.slice a n cap) := by rw [mc_]; first | assumption | (go_simp; done)
    have mf : ∀ j, w2.frozen? ⟨w.heap.size, j, none⟩ = false := fun j => by rw [mf_]; first | (go_simp; done) | (apply_assumption)
    clear mc_ mf_
    obtain ⟨rc_, rf_⟩ := Stab.own_cell hk2 (w.heap.size + 1) (by first | (simp; done) | (simp; omega) | omega | (apply Stab.cell_lt (a := ⟨w.heap.size + 1, 0, none⟩); assumption))
    have r0 : w2.cell? ⟨w.heap.size + 1, 0, none⟩ = some (.int .u8 0) := by rw [rc_]; first | assumption | (go_simp; done)
    have r1 : w2.cell? ⟨w.heap.size + 1, 1, none⟩ = some (.slice none 0 0) := by rw [rc_]; first | assumption | (go_simp; done)
    have rf : ∀ j, w2.frozen? ⟨w.heap.size + 1, j, none⟩ = false := fun j => by rw [rf_]; first | (go_simp; done) | (apply_assumption)
    clear rc_ rf_
    go_wp2_with fail
    refine (hD _).mono ?_
    rintro e w3 ⟨rfl, hk3⟩
    have hB0 : Blk w3 w.heap.size 49 [.int .u8 d, .slice a n cap] := Blk.keep (Blk.keep (by with_reducible (repeat first | assumption | (refine Bx.n ⟨?_, ?_⟩ <;> focus (first | rfl | (simp; done) | omega)) | refine Bx.a ?_ _ | refine Bx.d ?_ | refine Bx.e ?_ _ | refine Bx.p (by first | omega | simp <;> omega) ?_)) hk2) hk3
    have hB1 : Blk w3 (w.heap.size + 1) 49 [.int .u8 0, .slice none 0 0] := Blk.keep (Blk.keep (by with_reducible (repeat first | assumption | (refine Bx.n ⟨?_, ?_⟩ <;> focus (first | rfl | (simp; done) | omega)) | refine Bx.a ?_ _ | refine Bx.d ?_ | refine Bx.e ?_ _ | refine Bx.p (by first | omega | simp <;> omega) ?_)) hk2) hk3
    have hkw : Stab.Keeps w w3 := by with_reducible (repeat first | exact Kx.r _ | assumption | refine Kx.a ?_ _ | refine Kx.d ?_ | refine Kx.e ?_ _ | refine Kx.s (by simp <;> omega) ?_ _ | refine Kx.t ?_ (by assumption))
    clear m0 m1 mf r0 r1 rf hk2 hk3 hD
    go_wp2_with fail
    have hR := room_new w3 (madeCells #[.float .f64 0] q) 27 w3.heap.size q rfl hmz.symm
    have hF : Filled (w3.alloc (.cells (madeCells #[.float .f64 0] q) 27)) w3.heap.size (0 * 2) xs := fun j u hj => by omega
    have hB0' := hB0.alloc (.cells (madeCells #[.float .f64 0] q) 27)
    have hB1' := hB1.alloc (.cells (madeCells #[.float .f64 0] q) 27)
    have hkw' : Stab.Keeps w (w3.alloc (.cells (madeCells #[.float .f64 0] q) 27)) := by with_reducible (repeat first | exact Kx.r _ | assumption | refine Kx.a ?_ _ | refine Kx.d ?_ | refine Kx.e ?_ _ | refine Kx.s (by simp <;> omega) ?_ _ | refine Kx.t ?_ (by assumption))
    have hlt' : w3.heap.size < (w3.alloc (.cells (madeCells #[.float .f64 0] q) 27)).heap.size := by simp
    have hfb := hB1.lt
    generalize (w3.alloc (.cells (madeCells #[.float .f64 0] q) 27)) = W at *
    generalize w3.heap.size = fb at *
    clear hB0 hB1 hkw hmk hq2 hmz
    go_loopw [8] (fun iv wr => ∃ k : Nat, k ≤ ps.length ∧ iv = .int .i64 k ∧ Stab.Keeps w wr ∧ Blk wr w.heap.size 49 [.int .u8 d, .slice a n cap] ∧ Blk wr (w.heap.size + 1) 49 [.int .u8 0, .slice none 0 0] ∧ Room wr fb q ∧ Filled wr fb (k * 2) xs ∧ fb < wr.heap.size) (fun iv _ => ps.length - (intOf iv).toNat)
    case atStart => exact ⟨0, by omega, rfl, hkw', hB0', hB1', hR, hF, hlt'⟩
    case round =>
      clear hkw' hB0' hB1' hR hF hlt'
      obtain ⟨k, k2, rfl, hk, hB0, hB1, hR, hF, hlt⟩ := hrel
      have m0 := hB0.cell (i := 0) rfl
      have m1 := hB0.cell (i := 1) rfl
      have ml := hB0.lt
      by_cases hkl : k < ps.length
      · have hget := hG k hkl wr hk
        have hv := HX.out k hkl
        generalize ps[k] = pl at *
        obtain ⟨px, py, pz, pm⟩ := pl
        unfold coV at hget
        simp only at hget
        obtain ⟨p, hp⟩ : ∃ p, k * 2 = p := ⟨_, rfl⟩
        have hp2 : 2 * (k : Int) = (p : Int) := by rw [← hp]; simp; omega
        have hpq : p + 2 ≤ q := by have := HQ.out; omega
        have HP := Lib.hid hp
        rw [hp] at hF
        have v0 := hv 0 _ rfl
        have v1 := hv 1 _ rfl
        skip
        simp only [Pl.force, has3, hasM] at v0 v1 
        rw [hp] at v0 v1 
        clear hv hp
        go_wp2_with fail
        refine hget.mono ?_
        clear hget
        rintro e w4 ⟨rfl, hk4⟩
        have hB0' := hB0.keep hk4
        have hB1' := hB1.keep hk4
        have hR' := hR.keep hk4 hlt
        have hF' := hF.keep hk4 hlt
        have hlt' := Nat.lt_of_lt_of_le hlt hk4.size
        have hk' := Stab.Keeps.trans hk hk4
        clear m0 m1 ml hB0 hB1 hR hF hlt hk hk4
        obtain ⟨u0, r0⟩ := hR'.cell p (by omega)
        obtain ⟨u1, r1⟩ := hR'.cell (p + 1) (by omega)
        skip
        have rf := hR'.free
        have b0 : (0 : Int) ≤ (p : Int) + 1 := by omega
        have b1 : ((p : Int) + 1).toNat = p + 1 := by omega
        have b2 : ((p : Int) + 1) < q := by omega
        have b3 : (p : Int) < q := by omega
        skip
        have hFn := ((hF'.set hR' (by omega) v0).set (hR'.set _ _ _) (by omega) v1)
        have hRn := (hR'.set fb p (.float .f64 px)).set fb (p + 1) (.float .f64 py)
        skip
        go_wp2_with fail
        go_roundw
        case rel =>
          refine ⟨k + 1, by omega, by go_num, ?_, ?_, ?_, ?_, ?_, ?_⟩
          · with_reducible (repeat first | exact Kx.r _ | assumption | refine Kx.a ?_ _ | refine Kx.d ?_ | refine Kx.e ?_ _ | refine Kx.s (by simp <;> omega) ?_ _ | refine Kx.t ?_ (by assumption))
          · with_reducible (repeat first | assumption | (refine Bx.n ⟨?_, ?_⟩ <;> focus (first | rfl | (simp; done) | omega)) | refine Bx.a ?_ _ | refine Bx.d ?_ | refine Bx.e ?_ _ | refine Bx.p (by first | omega | simp <;> omega) ?_)
          · with_reducible (repeat first | assumption | (refine Bx.n ⟨?_, ?_⟩ <;> focus (first | rfl | (simp; done) | omega)) | refine Bx.a ?_ _ | refine Bx.d ?_ | refine Bx.e ?_ _ | refine Bx.p (by first | omega | simp <;> omega) ?_)
          · exact Room.alloc hRn _ (by simp; omega)
          · have hk1 : (k + 1) * 2 = p + 2 := by have := HP.out; omega
            rw [hk1]
            exact Filled.alloc hFn _ (by simp; omega)
          · simp; omega
        case measure => simp [intOf]; omega
      · obtain rfl : k = ps.length := by omega
        have r0 := hB1.cell (i := 0) rfl
        have r1 := hB1.cell (i := 1) rfl
        have rf := hB1.free
        have rl := hB1.lt
        go_wp2_with fail
        refine bodyPost_ret (v := .agg #[.int .u8 0, .slice (some ⟨fb, 0, none⟩) q q]) (by simp [results, Tryz.results165, go_sem, *]) rfl ⟨_, q, q, rfl, ?_, hd', ?_, ?_, ?_, ?_⟩
        · with_reducible (repeat first | exact Kx.r _ | assumption | refine Kx.a ?_ _ | refine Kx.d ?_ | refine Kx.e ?_ _ | refine Kx.s (by simp <;> omega) ?_ _ | refine Kx.t ?_ (by assumption))
        · intro pl hpl
          obtain ⟨r, _, rfl⟩ := List.mem_map.1 hpl
          exact force_norm _ r
        · have := HQ.out; simp only [List.length_map, show wid 0 = 2 from rfl]; omega
        · simpa using hsm
        · rw [HXE.out]
          have hq' : ps.length * 2 = q := by have := HQ.out; omega
          rw [hq'] at hF
          refine ⟨Sl.toSz (Filled.sl (n := q) (k := 1) ?_ ?_ ?_ ?_), fun _ x hx => by cases hx; exact .inr (by show w.heap.size ≤ fb; omega)⟩
          · rw [Nat.mul_one]
            refine Filled.past (by omega) (Filled.past (by omega) hF)
          · rw [HXL.out]; omega
          · unfold maxLen; have := HQ.out; omega
          · simp; omega
  · have e1 : ((d : Int) == 1) = false := by simp; omega
    obtain ⟨q, hq⟩ : ∃ q, 3 * ps.length = q := ⟨_, rfl⟩
    have hq2 : 3 * (ps.length : Int) = (q : Int) := by rw [← hq]; simp
    have HQ := Lib.hid hq
    clear hq
    have hmk : ∀ w : World, (Instr.makeSlice 32 (.int .i64 q) (.int .i64 q)).run Tryz.prog w = .ok (.slice (some ⟨w.heap.size, 0, none⟩) q q) (w.alloc (.cells (madeCells #[.float .f64 0] q) 27)) := fun w => by
      have := run_make (P := Tryz.prog) w 32 27 i0 _ Tryz.underlying32 hi hz0 .i64 .i64 q q (by omega) (Int.le_refl _) (by rw [hz2]; omega) (by omega)
      rw [hz1] at this
      simpa [Value.cells] using this
    have hmz : (madeCells #[.float .f64 0] q).size = q := by
      have : (madeCells #[.float .f64 0] q) = (List.replicate q (Value.float .f64 0)).toArray := by rw [← toList_madeCells_one]
      rw [this]; simp
    simp only [show wid 1 = 3 from rfl] at hD HX HXL
    simp only [Int.natCast_zero, Int.natCast_one, Int.cast_ofNat_Int] at hD
    clear hi hz0 hz1 hz2 hne
    go_enter Tryz.func165, Tryz.ntmps165
    go_wp2_with fail
    refine (hL _).mono ?_
    clear hL
    rintro e w2 ⟨rfl, hk2⟩
    obtain ⟨mc_, mf_⟩ := Stab.own_cell hk2 (w.heap.size) (by first | (simp; done) | (simp; omega) | omega | (apply Stab.cell_lt (a := ⟨w.heap.size, 0, none⟩); assumption))
    have m0 : w2.cell? ⟨w.heap.size, 0, none⟩ = some (.int .u8 d) := by rw [mc_]; first | assumption | (go_simp; done)
    have m1 : w2.cell? ⟨w.heap.size, 1, none⟩ = some (.slice a n cap) := by rw [mc_]; first | assumption | (go_simp; done)
    have mf : ∀ j, w2.frozen? ⟨w.heap.size, j, none⟩ = false := fun j => by rw [mf_]; first | (go_simp; done) | (apply_assumption)
    clear mc_ mf_
    obtain ⟨rc_, rf_⟩ := Stab.own_cell hk2 (w.heap.size + 1) (by first | (simp; done) | (simp; omega) | omega | (apply Stab.cell_lt (a := ⟨w.heap.size + 1, 0, none⟩); assumption))
    have r0 : w2.cell? ⟨w.heap.size + 1, 0, none⟩ = some (.int .u8 0) := by rw [rc_]; first | assumption | (go_simp; done)
    have r1 : w2.cell? ⟨w.heap.size + 1, 1, none⟩ = some (.slice none 0 0) := by rw [rc_]; first | assumption | (go_simp; done)
    have rf : ∀ j, w2.frozen? ⟨w.heap.size + 1, j, none⟩ = false := fun j => by rw [rf_]; first | (go_simp; done) | (apply_assumption)
    clear rc_ rf_
    go_wp2_with fail
    refine (hD _).mono ?_
    rintro e w3 ⟨rfl, hk3⟩
    have hB0 : Blk w3 w.heap.size 49 [.int .u8 d, .slice a n cap] := Blk.keep (Blk.keep (by with_reducible (repeat first | assumption | (refine Bx.n ⟨?_, ?_⟩ <;> focus (first | rfl | (simp; done) | omega)) | refine Bx.a ?_ _ | refine Bx.d ?_ | refine Bx.e ?_ _ | refine Bx.p (by first | omega | simp <;> omega) ?_)) hk2) hk3
    have hB1 : Blk w3 (w.heap.size + 1) 49 [.int .u8 0, .slice none 0 0] := Blk.keep (Blk.keep (by with_reducible (repeat first | assumption | (refine Bx.n ⟨?_, ?_⟩ <;> focus (first | rfl | (simp; done) | omega)) | refine Bx.a ?_ _ | refine Bx.d ?_ | refine Bx.e ?_ _ | refine Bx.p (by first | omega | simp <;> omega) ?_)) hk2) hk3
    have hkw : Stab.Keeps w w3 := by with_reducible (repeat first | exact Kx.r _ | assumption | refine Kx.a ?_ _ | refine Kx.d ?_ | refine Kx.e ?_ _ | refine Kx.s (by simp <;> omega) ?_ _ | refine Kx.t ?_ (by assumption))
    clear m0 m1 mf r0 r1 rf hk2 hk3 hD
    go_wp2_with fail
    have hR := room_new w3 (madeCells #[.float .f64 0] q) 27 w3.heap.size q rfl hmz.symm
    have hF : Filled (w3.alloc (.cells (madeCells #[.float .f64 0] q) 27)) w3.heap.size (0 * 3) xs := fun j u hj => by omega
    have hB0' := hB0.alloc (.cells (madeCells #[.float .f64 0] q) 27)
    have hB1' := hB1.alloc (.cells (madeCells #[.float .f64 0] q) 27)
    have hkw' : Stab.Keeps w (w3.alloc (.cells (madeCells #[.float .f64 0] q) 27)) := by with_reducible (repeat first | exact Kx.r _ | assumption | refine Kx.a ?_ _ | refine Kx.d ?_ | refine Kx.e ?_ _ | refine Kx.s (by simp <;> omega) ?_ _ | refine Kx.t ?_ (by assumption))
    have hlt' : w3.heap.size < (w3.alloc (.cells (madeCells #[.float .f64 0] q) 27)).heap.size := by simp
    have hfb := hB1.lt
    generalize (w3.alloc (.cells (madeCells #[.float .f64 0] q) 27)) = W at *
    generalize w3.heap.size = fb at *
    clear hB0 hB1 hkw hmk hq2 hmz
    go_loopw [8] (fun iv wr => ∃ k : Nat, k ≤ ps.length ∧ iv = .int .i64 k ∧ Stab.Keeps w wr ∧ Blk wr w.heap.size 49 [.int .u8 d, .slice a n cap] ∧ Blk wr (w.heap.size + 1) 49 [.int .u8 0, .slice none 0 0] ∧ Room wr fb q ∧ Filled wr fb (k * 3) xs ∧ fb < wr.heap.size) (fun iv _ => ps.length - (intOf iv).toNat)
    case atStart => exact ⟨0, by omega, rfl, hkw', hB0', hB1', hR, hF, hlt'⟩
    case round =>
      clear hkw' hB0' hB1' hR hF hlt'
      obtain ⟨k, k2, rfl, hk, hB0, hB1, hR, hF, hlt⟩ := hrel
      have m0 := hB0.cell (i := 0) rfl
      have m1 := hB0.cell (i := 1) rfl
      have ml := hB0.lt
      by_cases hkl : k < ps.length
      · have hget := hG k hkl wr hk
        have hv := HX.out k hkl
        generalize ps[k] = pl at *
        obtain ⟨px, py, pz, pm⟩ := pl
        unfold coV at hget
        simp only at hget
        obtain ⟨p, hp⟩ : ∃ p, k * 3 = p := ⟨_, rfl⟩
        have hp2 : 3 * (k : Int) = (p : Int) := by rw [← hp]; simp; omega
        have hpq : p + 3 ≤ q := by have := HQ.out; omega
        have HP := Lib.hid hp
        rw [hp] at hF
        have v0 := hv 0 _ rfl
        have v1 := hv 1 _ rfl
        have v2 := hv 2 _ rfl
        simp only [Pl.force, has3, hasM] at v0 v1 v2
        rw [hp] at v0 v1 v2
        clear hv hp
        go_wp2_with fail
        refine hget.mono ?_
        clear hget
        rintro e w4 ⟨rfl, hk4⟩
        have hB0' := hB0.keep hk4
        have hB1' := hB1.keep hk4
        have hR' := hR.keep hk4 hlt
        have hF' := hF.keep hk4 hlt
        have hlt' := Nat.lt_of_lt_of_le hlt hk4.size
        have hk' := Stab.Keeps.trans hk hk4
        clear m0 m1 ml hB0 hB1 hR hF hlt hk hk4
        obtain ⟨u0, r0⟩ := hR'.cell p (by omega)
        obtain ⟨u1, r1⟩ := hR'.cell (p + 1) (by omega)
        obtain ⟨u2, r2⟩ := hR'.cell (p + 2) (by omega)
        have rf := hR'.free
        have b0 : (0 : Int) ≤ (p : Int) + 1 := by omega
        have b1 : ((p : Int) + 1).toNat = p + 1 := by omega
        have b2 : ((p : Int) + 1) < q := by omega
        have b3 : (p : Int) < q := by omega
        have b20 : (0 : Int) ≤ (p : Int) + 2 := by omega
        have b21 : ((p : Int) + 2).toNat = p + 2 := by omega
        have b22 : ((p : Int) + 2) < q := by omega
        have hFn := ((hF'.set hR' (by omega) v0).set (hR'.set _ _ _) (by omega) v1)
        have hRn := (hR'.set fb p (.float .f64 px)).set fb (p + 1) (.float .f64 py)
        replace hFn := hFn.set hRn (by omega) v2
        replace hRn := hRn.set fb (p + 2) (.float .f64 pz)
        go_wp2_with fail
        go_roundw
        case rel =>
          refine ⟨k + 1, by omega, by go_num, ?_, ?_, ?_, ?_, ?_, ?_⟩
          · with_reducible (repeat first | exact Kx.r _ | assumption | refine Kx.a ?_ _ | refine Kx.d ?_ | refine Kx.e ?_ _ | refine Kx.s (by simp <;> omega) ?_ _ | refine Kx.t ?_ (by assumption))
          · with_reducible (repeat first | assumption | (refine Bx.n ⟨?_, ?_⟩ <;> focus (first | rfl | (simp; done) | omega)) | refine Bx.a ?_ _ | refine Bx.d ?_ | refine Bx.e ?_ _ | refine Bx.p (by first | omega | simp <;> omega) ?_)
          · with_reducible (repeat first | assumption | (refine Bx.n ⟨?_, ?_⟩ <;> focus (first | rfl | (simp; done) | omega)) | refine Bx.a ?_ _ | refine Bx.d ?_ | refine Bx.e ?_ _ | refine Bx.p (by first | omega | simp <;> omega) ?_)
          · exact Room.alloc hRn _ (by simp; omega)
          · have hk1 : (k + 1) * 3 = p + 3 := by have := HP.out; omega
            rw [hk1]
            exact Filled.alloc hFn _ (by simp; omega)
          · simp; omega
        case measure => simp [intOf]; omega
      · obtain rfl : k = ps.length := by omega
        have r0 := hB1.cell (i := 0) rfl
        have r1 := hB1.cell (i := 1) rfl
        have rf := hB1.free
        have rl := hB1.lt
        go_wp2_with fail
        refine bodyPost_ret (v := .agg #[.int .u8 1, .slice (some ⟨fb, 0, none⟩) q q]) (by simp [results, Tryz.results165, go_sem, *]) rfl ⟨_, q, q, rfl, ?_, hd', ?_, ?_, ?_, ?_⟩
        · with_reducible (repeat first | exact Kx.r _ | assumption | refine Kx.a ?_ _ | refine Kx.d ?_ | refine Kx.e ?_ _ | refine Kx.s (by simp <;> omega) ?_ _ | refine Kx.t ?_ (by assumption))
        · intro pl hpl
          obtain ⟨r, _, rfl⟩ := List.mem_map.1 hpl
          exact force_norm _ r
        · have := HQ.out; simp only [List.length_map, show wid 1 = 3 from rfl]; omega
        · simpa using hsm
        · rw [HXE.out]
          have hq' : ps.length * 3 = q := by have := HQ.out; omega
          rw [hq'] at hF
          refine ⟨Sl.toSz (Filled.sl (n := q) (k := 1) ?_ ?_ ?_ ?_), fun _ x hx => by cases hx; exact .inr (by show w.heap.size ≤ fb; omega)⟩
          · rw [Nat.mul_one]
            refine Filled.past (by omega) (Filled.past (by omega) hF)
          · rw [HXL.out]; omega
          · unfold maxLen; have := HQ.out; omega
          · simp; omega
  · have e1 : ((d : Int) == 2) = false := by simp; omega
    obtain ⟨q, hq⟩ : ∃ q, 3 * ps.length = q := ⟨_, rfl⟩
    have hq2 : 3 * (ps.length : Int) = (q : Int) := by rw [← hq]; simp
    have HQ := Lib.hid hq
    clear hq
    have hmk : ∀ w : World, (Instr.makeSlice 32 (.int .i64 q) (.int .i64 q)).run Tryz.prog w = .ok (.slice (some ⟨w.heap.size, 0, none⟩) q q) (w.alloc (.cells (madeCells #[.float .f64 0] q) 27)) := fun w => by
      have := run_make (P := Tryz.prog) w 32 27 i0 _ Tryz.underlying32 hi hz0 .i64 .i64 q q (by omega) (Int.le_refl _) (by rw [hz2]; omega) (by omega)
      rw [hz1] at this
      simpa [Value.cells] using this
    have hmz : (madeCells #[.float .f64 0] q).size = q := by
      have : (madeCells #[.float .f64 0] q) = (List.replicate q (Value.float .f64 0)).toArray := by rw [← toList_madeCells_one]
      rw [this]; simp
    simp only [show wid 2 = 3 from rfl] at hD HX HXL
    simp only [Int.natCast_zero, Int.natCast_one, Int.cast_ofNat_Int] at hD
    clear hi hz0 hz1 hz2 hne
    go_enter Tryz.func165, Tryz.ntmps165
    go_wp2_with fail
    refine (hL _).mono ?_
    clear hL
    rintro e w2 ⟨rfl, hk2⟩
    obtain ⟨mc_, mf_⟩ := Stab.own_cell hk2 (w.heap.size) (by first | (simp; done) | (simp; omega) | omega | (apply Stab.cell_lt (a := ⟨w.heap.size, 0, none⟩); assumption))
    have m0 : w2.cell? ⟨w.heap.size, 0, none⟩ = some (.int .u8 d) := by rw [mc_]; first | assumption | (go_simp; done)
    have m1 : w2.cell? ⟨w.heap.size, 1, none⟩ = some (.slice a n cap) := by rw [mc_]; first | assumption | (go_simp; done)
    have mf : ∀ j, w2.frozen? ⟨w.heap.size, j, none⟩ = false := fun j => by rw [mf_]; first | (go_simp; done) | (apply_assumption)
    clear mc_ mf_
    obtain ⟨rc_, rf_⟩ := Stab.own_cell hk2 (w.heap.size + 1) (by first | (simp; done) | (simp; omega) | omega | (apply Stab.cell_lt (a := ⟨w.heap.size + 1, 0, none⟩); assumption))
    have r0 : w2.cell? ⟨w.heap.size + 1, 0, none⟩ = some (.int .u8 0) := by rw [rc_]; first | assumption | (go_simp; done)
    have r1 : w2.cell? ⟨w.heap.size + 1, 1, none⟩ = some (.slice none 0 0) := by rw [rc_]; first | assumption | (go_simp; done)
    have rf : ∀ j, w2.frozen? ⟨w.heap.size + 1, j, none⟩ = false := fun j => by rw [rf_]; first | (go_simp; done) | (apply_assumption)
    clear rc_ rf_
    go_wp2_with fail
    refine (hD _).mono ?_
    rintro e w3 ⟨rfl, hk3⟩
    have hB0 : Blk w3 w.heap.size 49 [.int .u8 d, .slice a n cap] := Blk.keep (Blk.keep (by with_reducible (repeat first | assumption | (refine Bx.n ⟨?_, ?_⟩ <;> focus (first | rfl | (simp; done) | omega)) | refine Bx.a ?_ _ | refine Bx.d ?_ | refine Bx.e ?_ _ | refine Bx.p (by first | omega | simp <;> omega) ?_)) hk2) hk3
    have hB1 : Blk w3 (w.heap.size + 1) 49 [.int .u8 0, .slice none 0 0] := Blk.keep (Blk.keep (by with_reducible (repeat first | assumption | (refine Bx.n ⟨?_, ?_⟩ <;> focus (first | rfl | (simp; done) | omega)) | refine Bx.a ?_ _ | refine Bx.d ?_ | refine Bx.e ?_ _ | refine Bx.p (by first | omega | simp <;> omega) ?_)) hk2) hk3
    have hkw : Stab.Keeps w w3 := by with_reducible (repeat first | exact Kx.r _ | assumption | refine Kx.a ?_ _ | refine Kx.d ?_ | refine Kx.e ?_ _ | refine Kx.s (by simp <;> omega) ?_ _ | refine Kx.t ?_ (by assumption))
    clear m0 m1 mf r0 r1 rf hk2 hk3 hD
    go_wp2_with fail
    have hR := room_new w3 (madeCells #[.float .f64 0] q) 27 w3.heap.size q rfl hmz.symm
    have hF : Filled (w3.alloc (.cells (madeCells #[.float .f64 0] q) 27)) w3.heap.size (0 * 3) xs := fun j u hj => by omega
    have hB0' := hB0.alloc (.cells (madeCells #[.float .f64 0] q) 27)
    have hB1' := hB1.alloc (.cells (madeCells #[.float .f64 0] q) 27)
    have hkw' : Stab.Keeps w (w3.alloc (.cells (madeCells #[.float .f64 0] q) 27)) := by with_reducible (repeat first | exact Kx.r _ | assumption | refine Kx.a ?_ _ | refine Kx.d ?_ | refine Kx.e ?_ _ | refine Kx.s (by simp <;> omega) ?_ _ | refine Kx.t ?_ (by assumption))
    have hlt' : w3.heap.size < (w3.alloc (.cells (madeCells #[.float .f64 0] q) 27)).heap.size := by simp
    have hfb := hB1.lt
    generalize (w3.alloc (.cells (madeCells #[.float .f64 0] q) 27)) = W at *
    generalize w3.heap.size = fb at *
    clear hB0 hB1 hkw hmk hq2 hmz
    go_loopw [8] (fun iv wr => ∃ k : Nat, k ≤ ps.length ∧ iv = .int .i64 k ∧ Stab.Keeps w wr ∧ Blk wr w.heap.size 49 [.int .u8 d, .slice a n cap] ∧ Blk wr (w.heap.size + 1) 49 [.int .u8 0, .slice none 0 0] ∧ Room wr fb q ∧ Filled wr fb (k * 3) xs ∧ fb < wr.heap.size) (fun iv _ => ps.length - (intOf iv).toNat)
    case atStart => exact ⟨0, by omega, rfl, hkw', hB0', hB1', hR, hF, hlt'⟩
    case round =>
      clear hkw' hB0' hB1' hR hF hlt'
      obtain ⟨k, k2, rfl, hk, hB0, hB1, hR, hF, hlt⟩ := hrel
      have m0 := hB0.cell (i := 0) rfl
      have m1 := hB0.cell (i := 1) rfl
      have ml := hB0.lt
      by_cases hkl : k < ps.length
      · have hget := hG k hkl wr hk
        have hv := HX.out k hkl
        generalize ps[k] = pl at *
        obtain ⟨px, py, pz, pm⟩ := pl
        unfold coV at hget
        simp only at hget
        obtain ⟨p, hp⟩ : ∃ p, k * 3 = p := ⟨_, rfl⟩
        have hp2 : 3 * (k : Int) = (p : Int) := by rw [← hp]; simp; omega
        have hpq : p + 3 ≤ q := by have := HQ.out; omega
        have HP := Lib.hid hp
        rw [hp] at hF
        have v0 := hv 0 _ rfl
        have v1 := hv 1 _ rfl
        have v2 := hv 2 _ rfl
        simp only [Pl.force, has3, hasM] at v0 v1 v2
        rw [hp] at v0 v1 v2
        clear hv hp
        go_wp2_with fail
        refine hget.mono ?_
        clear hget
        rintro e w4 ⟨rfl, hk4⟩
        have hB0' := hB0.keep hk4
        have hB1' := hB1.keep hk4
        have hR' := hR.keep hk4 hlt
        have hF' := hF.keep hk4 hlt
        have hlt' := Nat.lt_of_lt_of_le hlt hk4.size
        have hk' := Stab.Keeps.trans hk hk4
        clear m0 m1 ml hB0 hB1 hR hF hlt hk hk4
        obtain ⟨u0, r0⟩ := hR'.cell p (by omega)
        obtain ⟨u1, r1⟩ := hR'.cell (p + 1) (by omega)
        obtain ⟨u2, r2⟩ := hR'.cell (p + 2) (by omega)
        have rf := hR'.free
        have b0 : (0 : Int) ≤ (p : Int) + 1 := by omega
        have b1 : ((p : Int) + 1).toNat = p + 1 := by omega
        have b2 : ((p : Int) + 1) < q := by omega
        have b3 : (p : Int) < q := by omega
        have b20 : (0 : Int) ≤ (p : Int) + 2 := by omega
        have b21 : ((p : Int) + 2).toNat = p + 2 := by omega
        have b22 : ((p : Int) + 2) < q := by omega
        have hFn := ((hF'.set hR' (by omega) v0).set (hR'.set _ _ _) (by omega) v1)
        have hRn := (hR'.set fb p (.float .f64 px)).set fb (p + 1) (.float .f64 py)
        replace hFn := hFn.set hRn (by omega) v2
        replace hRn := hRn.set fb (p + 2) (.float .f64 pm)
        go_wp2_with fail
        go_roundw
        case rel =>
          refine ⟨k + 1, by omega, by go_num, ?_, ?_, ?_, ?_, ?_, ?_⟩
          · with_reducible (repeat first | exact Kx.r _ | assumption | refine Kx.a ?_ _ | refine Kx.d ?_ | refine Kx.e ?_ _ | refine Kx.s (by simp <;> omega) ?_ _ | refine Kx.t ?_ (by assumption))
          · with_reducible (repeat first | assumption | (refine Bx.n ⟨?_, ?_⟩ <;> focus (first | rfl | (simp; done) | omega)) | refine Bx.a ?_ _ | refine Bx.d ?_ | refine Bx.e ?_ _ | refine Bx.p (by first | omega | simp <;> omega) ?_)
          · with_reducible (repeat first | assumption | (refine Bx.n ⟨?_, ?_⟩ <;> focus (first | rfl | (simp; done) | omega)) | refine Bx.a ?_ _ | refine Bx.d ?_ | refine Bx.e ?_ _ | refine Bx.p (by first | omega | simp <;> omega) ?_)
          · exact Room.alloc hRn _ (by simp; omega)
          · have hk1 : (k + 1) * 3 = p + 3 := by have := HP.out; omega
            rw [hk1]
            exact Filled.alloc hFn _ (by simp; omega)
          · simp; omega
        case measure => simp [intOf]; omega
      · obtain rfl : k = ps.length := by omega
        have r0 := hB1.cell (i := 0) rfl
        have r1 := hB1.cell (i := 1) rfl
        have rf := hB1.free
        have rl := hB1.lt
        go_wp2_with fail
        refine bodyPost_ret (v := .agg #[.int .u8 2, .slice (some ⟨fb, 0, none⟩) q q]) (by simp [results, Tryz.results165, go_sem, *]) rfl ⟨_, q, q, rfl, ?_, hd', ?_, ?_, ?_, ?_⟩
        · with_reducible (repeat first | exact Kx.r _ | assumption | refine Kx.a ?_ _ | refine Kx.d ?_ | refine Kx.e ?_ _ | refine Kx.s (by simp <;> omega) ?_ _ | refine Kx.t ?_ (by assumption))
        · intro pl hpl
          obtain ⟨r, _, rfl⟩ := List.mem_map.1 hpl
          exact force_norm _ r
        · have := HQ.out; simp only [List.length_map, show wid 2 = 3 from rfl]; omega
        · simpa using hsm
        · rw [HXE.out]
          have hq' : ps.length * 3 = q := by have := HQ.out; omega
          rw [hq'] at hF
          refine ⟨Sl.toSz (Filled.sl (n := q) (k := 1) ?_ ?_ ?_ ?_), fun _ x hx => by cases hx; exact .inr (by show w.heap.size ≤ fb; omega)⟩
          · rw [Nat.mul_one]
            refine Filled.past (by omega) (Filled.past (by omega) hF)
          · rw [HXL.out]; omega
          · unfold maxLen; have := HQ.out; omega
          · simp; omega
  · have e1 : ((d : Int) == 3) = false := by simp; omega
    obtain ⟨q, hq⟩ : ∃ q, 4 * ps.length = q := ⟨_, rfl⟩
    have hq2 : 4 * (ps.length : Int) = (q : Int) := by rw [← hq]; simp
    have HQ := Lib.hid hq
    clear hq
    have hmk : ∀ w : World, (Instr.makeSlice 32 (.int .i64 q) (.int .i64 q)).run Tryz.prog w = .ok (.slice (some ⟨w.heap.size, 0, none⟩) q q) (w.alloc (.cells (madeCells #[.float .f64 0] q) 27)) := fun w => by
      have := run_make (P := Tryz.prog) w 32 27 i0 _ Tryz.underlying32 hi hz0 .i64 .i64 q q (by omega) (Int.le_refl _) (by rw [hz2]; omega) (by omega)
      rw [hz1] at this
      simpa [Value.cells] using this
    have hmz : (madeCells #[.float .f64 0] q).size = q := by
      have : (madeCells #[.float .f64 0] q) = (List.replicate q (Value.float .f64 0)).toArray := by rw [← toList_madeCells_one]
      rw [this]; simp
    simp only [show wid 3 = 4 from rfl] at hD HX HXL
    simp only [Int.natCast_zero, Int.natCast_one, Int.cast_ofNat_Int] at hD
    clear hi hz0 hz1 hz2 hne
    go_enter Tryz.func165, Tryz.ntmps165
    go_wp2_with fail
    refine (hL _).mono ?_
    clear hL
    rintro e w2 ⟨rfl, hk2⟩
    obtain ⟨mc_, mf_⟩ := Stab.own_cell hk2 (w.heap.size) (by first | (simp; done) | (simp; omega) | omega | (apply Stab.cell_lt (a := ⟨w.heap.size, 0, none⟩); assumption))
    have m0 : w2.cell? ⟨w.heap.size, 0, none⟩ = some (.int .u8 d) := by rw [mc_]; first | assumption | (go_simp; done)
    have m1 : w2.cell? ⟨w.heap.size, 1, none⟩ = some (.slice a n cap) := by rw [mc_]; first | assumption | (go_simp; done)
    have mf : ∀ j, w2.frozen? ⟨w.heap.size, j, none⟩ = false := fun j => by rw [mf_]; first | (go_simp; done) | (apply_assumption)
    clear mc_ mf_
    obtain ⟨rc_, rf_⟩ := Stab.own_cell hk2 (w.heap.size + 1) (by first | (simp; done) | (simp; omega) | omega | (apply Stab.cell_lt (a := ⟨w.heap.size + 1, 0, none⟩); assumption))
    have r0 : w2.cell? ⟨w.heap.size + 1, 0, none⟩ = some (.int .u8 0) := by rw [rc_]; first | assumption | (go_simp; done)
    have r1 : w2.cell? ⟨w.heap.size + 1, 1, none⟩ = some (.slice none 0 0) := by rw [rc_]; first | assumption | (go_simp; done)
    have rf : ∀ j, w2.frozen? ⟨w.heap.size + 1, j, none⟩ = false := fun j => by rw [rf_]; first | (go_simp; done) | (apply_assumption)
    clear rc_ rf_
    go_wp2_with fail
    refine (hD _).mono ?_
    rintro e w3 ⟨rfl, hk3⟩
    have hB0 : Blk w3 w.heap.size 49 [.int .u8 d, .slice a n cap] := Blk.keep (Blk.keep (by with_reducible (repeat first | assumption | (refine Bx.n ⟨?_, ?_⟩ <;> focus (first | rfl | (simp; done) | omega)) | refine Bx.a ?_ _ | refine Bx.d ?_ | refine Bx.e ?_ _ | refine Bx.p (by first | omega | simp <;> omega) ?_)) hk2) hk3
    have hB1 : Blk w3 (w.heap.size + 1) 49 [.int .u8 0, .slice none 0 0] := Blk.keep (Blk.keep (by with_reducible (repeat first | assumption | (refine Bx.n ⟨?_, ?_⟩ <;> focus (first | rfl | (simp; done) | omega)) | refine Bx.a ?_ _ | refine Bx.d ?_ | refine Bx.e ?_ _ | refine Bx.p (by first | omega | simp <;> omega) ?_)) hk2) hk3
    have hkw : Stab.Keeps w w3 := by with_reducible (repeat first | exact Kx.r _ | assumption | refine Kx.a ?_ _ | refine Kx.d ?_ | refine Kx.e ?_ _ | refine Kx.s (by simp <;> omega) ?_ _ | refine Kx.t ?_ (by assumption))
    clear m0 m1 mf r0 r1 rf hk2 hk3 hD
    go_wp2_with fail
    have hR := room_new w3 (madeCells #[.float .f64 0] q) 27 w3.heap.size q rfl hmz.symm
    have hF : Filled (w3.alloc (.cells (madeCells #[.float .f64 0] q) 27)) w3.heap.size (0 * 4) xs := fun j u hj => by omega
    have hB0' := hB0.alloc (.cells (madeCells #[.float .f64 0] q) 27)
    have hB1' := hB1.alloc (.cells (madeCells #[.float .f64 0] q) 27)
    have hkw' : Stab.Keeps w (w3.alloc (.cells (madeCells #[.float .f64 0] q) 27)) := by with_reducible (repeat first | exact Kx.r _ | assumption | refine Kx.a ?_ _ | refine Kx.d ?_ | refine Kx.e ?_ _ | refine Kx.s (by simp <;> omega) ?_ _ | refine Kx.t ?_ (by assumption))
    have hlt' : w3.heap.size < (w3.alloc (.cells (madeCells #[.float .f64 0] q) 27)).heap.size := by simp
    have hfb := hB1.lt
    generalize (w3.alloc (.cells (madeCells #[.float .f64 0] q) 27)) = W at *
    generalize w3.heap.size = fb at *
    clear hB0 hB1 hkw hmk hq2 hmz
    go_loopw [8] (fun iv wr => ∃ k : Nat, k ≤ ps.length ∧ iv = .int .i64 k ∧ Stab.Keeps w wr ∧ Blk wr w.heap.size 49 [.int .u8 d, .slice a n cap] ∧ Blk wr (w.heap.size + 1) 49 [.int .u8 0, .slice none 0 0] ∧ Room wr fb q ∧ Filled wr fb (k * 4) xs ∧ fb < wr.heap.size) (fun iv _ => ps.length - (intOf iv).toNat)
    case atStart => exact ⟨0, by omega, rfl, hkw', hB0', hB1', hR, hF, hlt'⟩
    case round =>
      clear hkw' hB0' hB1' hR hF hlt'
      obtain ⟨k, k2, rfl, hk, hB0, hB1, hR, hF, hlt⟩ := hrel
      have m0 := hB0.cell (i := 0) rfl
      have m1 := hB0.cell (i := 1) rfl
      have ml := hB0.lt
      by_cases hkl : k < ps.length
      · have hget := hG k hkl wr hk
        have hv := HX.out k hkl
        generalize ps[k] = pl at *
        obtain ⟨px, py, pz, pm⟩ := pl
        unfold coV at hget
        simp only at hget
        obtain ⟨p, hp⟩ : ∃ p, k * 4 = p := ⟨_, rfl⟩
        have hp2 : 4 * (k : Int) = (p : Int) := by rw [← hp]; simp; omega
        have hpq : p + 4 ≤ q := by have := HQ.out; omega
        have HP := Lib.hid hp
        rw [hp] at hF
        have v0 := hv 0 _ rfl
        have v1 := hv 1 _ rfl
        have v2 := hv 2 _ rfl
        have v3 := hv 3 _ rfl
        simp only [Pl.force, has3, hasM] at v0 v1 v2 v3
        rw [hp] at v0 v1 v2 v3
        clear hv hp
        go_wp2_with fail
        refine hget.mono ?_
        clear hget
        rintro e w4 ⟨rfl, hk4⟩
        have hB0' := hB0.keep hk4
        have hB1' := hB1.keep hk4
        have hR' := hR.keep hk4 hlt
        have hF' := hF.keep hk4 hlt
        have hlt' := Nat.lt_of_lt_of_le hlt hk4.size
        have hk' := Stab.Keeps.trans hk hk4
        clear m0 m1 ml hB0 hB1 hR hF hlt hk hk4
        obtain ⟨u0, r0⟩ := hR'.cell p (by omega)
        obtain ⟨u1, r1⟩ := hR'.cell (p + 1) (by omega)
        obtain ⟨u2, r2⟩ := hR'.cell (p + 2) (by omega)
        obtain ⟨u3, r3⟩ := hR'.cell (p + 3) (by omega)
        have rf := hR'.free
        have b0 : (0 : Int) ≤ (p : Int) + 1 := by omega
        have b1 : ((p : Int) + 1).toNat = p + 1 := by omega
        have b2 : ((p : Int) + 1) < q := by omega
        have b3 : (p : Int) < q := by omega
        have b20 : (0 : Int) ≤ (p : Int) + 2 := by omega
        have b21 : ((p : Int) + 2).toNat = p + 2 := by omega
        have b22 : ((p : Int) + 2) < q := by omega
        have b30 : (0 : Int) ≤ (p : Int) + 3 := by omega
        have b31 : ((p : Int) + 3).toNat = p + 3 := by omega
        have b32 : ((p : Int) + 3) < q := by omega
        have hFn := ((hF'.set hR' (by omega) v0).set (hR'.set _ _ _) (by omega) v1)
        have hRn := (hR'.set fb p (.float .f64 px)).set fb (p + 1) (.float .f64 py)
        replace hFn := hFn.set hRn (by omega) v2
        replace hRn := hRn.set fb (p + 2) (.float .f64 pz)
        replace hFn := hFn.set hRn (by omega) v3
        replace hRn := hRn.set fb (p + 3) (.float .f64 pm)
        go_wp2_with fail
        go_roundw
        case rel =>
          refine ⟨k + 1, by omega, by go_num, ?_, ?_, ?_, ?_, ?_, ?_⟩
          · with_reducible (repeat first | exact Kx.r _ | assumption | refine Kx.a ?_ _ | refine Kx.d ?_ | refine Kx.e ?_ _ | refine Kx.s (by simp <;> omega) ?_ _ | refine Kx.t ?_ (by assumption))
          · with_reducible (repeat first | assumption | (refine Bx.n ⟨?_, ?_⟩ <;> focus (first | rfl | (simp; done) | omega)) | refine Bx.a ?_ _ | refine Bx.d ?_ | refine Bx.e ?_ _ | refine Bx.p (by first | omega | simp <;> omega) ?_)
          · with_reducible (repeat first | assumption | (refine Bx.n ⟨?_, ?_⟩ <;> focus (first | rfl | (simp; done) | omega)) | refine Bx.a ?_ _ | refine Bx.d ?_ | refine Bx.e ?_ _ | refine Bx.p (by first | omega | simp <;> omega) ?_)
          · exact Room.alloc hRn _ (by simp; omega)
          · have hk1 : (k + 1) * 4 = p + 4 := by have := HP.out; omega
            rw [hk1]
            exact Filled.alloc hFn _ (by simp; omega)
          · simp; omega
        case measure => simp [intOf]; omega
      · obtain rfl : k = ps.length := by omega
        have r0 := hB1.cell (i := 0) rfl
        have r1 := hB1.cell (i := 1) rfl
        have rf := hB1.free
        have rl := hB1.lt
        go_wp2_with fail
        refine bodyPost_ret (v := .agg #[.int .u8 3, .slice (some ⟨fb, 0, none⟩) q q]) (by simp [results, Tryz.results165, go_sem, *]) rfl ⟨_, q, q, rfl, ?_, hd', ?_, ?_, ?_, ?_⟩
        · with_reducible (repeat first | exact Kx.r _ | assumption | refine Kx.a ?_ _ | refine Kx.d ?_ | refine Kx.e ?_ _ | refine Kx.s (by simp <;> omega) ?_ _ | refine Kx.t ?_ (by assumption))
        · intro pl hpl
          obtain ⟨r, _, rfl⟩ := List.mem_map.1 hpl
          exact force_norm _ r
        · have := HQ.out; simp only [List.length_map, show wid 3 = 4 from rfl]; omega
        · simpa using hsm
        · rw [HXE.out]
          have hq' : ps.length * 4 = q := by have := HQ.out; omega
          rw [hq'] at hF
          refine ⟨Sl.toSz (Filled.sl (n := q) (k := 1) ?_ ?_ ?_ ?_), fun _ x hx => by cases hx; exact .inr (by show w.heap.size ≤ fb; omega)⟩
          · rw [Nat.mul_one]
            refine Filled.past (by omega) (Filled.past (by omega) hF)
          · rw [HXL.out]; omega
          · unfold maxLen; have := HQ.out; omega
          · simp; omega
theorem seqForce_ {F : Nat → Prop} (d d' : Nat) (hd' : d' < 4) (ps : List Pl) (a : Option Addr) (n cap : Nat) (w : World) (h : SeqAt w F d ps a n cap) :
    Calls Tryz.prog 165 #[.agg #[.int .u8 d, .slice a n cap], .int .u8 d'] w (SeqRet w F d' (ps.map (Pl.force d'))) := by
  by_cases hne : d = d'
  · subst hne
    rw [map_force_id h.nrm]
    exact seqForceSame_ d ps a n cap w h
  · rcases Nat.eq_zero_or_pos ps.length with h0 | h0
    · have hn : n = 0 := by rw [h.len, h0]; simp
      have hp : ps = [] := List.length_eq_zero_iff.1 h0
      subst hn hp
      exact seqForceNil_ F d d' hd' hne a cap w
    · exact seqForceAll_ d d' hd' hne ps h0 h.sm a n cap w h
end Go.Proofs.YtinbkonmlgediaaGreat
set_option linter.unusedVariables false
set_option linter.unusedSimpArgs false
namespace Go.Proofs.YtinbkonmlgediaaGreat
open Go.RowKit Go.Fl Go.Sl Go.Pg Go.Ch Go.Kf
set_option maxRecDepth 100000 in
theorem lineForce_ {F : Nat → Prop} (d d' : Nat) (hd' : d' < 4) (ps : List Pl) (a : Option Addr) (n cap : Nat) (w : World) (h : SeqAt w F d ps a n cap) :
    Calls Tryz.prog 123 #[.agg #[.int .u8 d, .slice a n cap], .int .u8 d'] w (SeqRet w F d' (ps.map (Pl.force d'))) := by
  have hF := fun w' (hk : Stab.Keeps w w') => seqForce_ d d' hd' ps a n cap w' (h.old.keep hk)
  go_enter Tryz.func123, Tryz.ntmps123
  go_wp2_with fail
  refine (hF _ (by with_reducible (repeat first | exact Kx.r _ | assumption | refine Kx.a ?_ _ | refine Kx.d ?_ | refine Kx.e ?_ _ | refine Kx.s (by simp <;> omega) ?_ _ | refine Kx.t ?_ (by assumption)))).mono ?_
  clear hF
  rintro e w2 ⟨a2, n2, cap2, rfl, hk2, h2⟩
  obtain ⟨rc_, rf_⟩ := Stab.own_cell hk2 (w.heap.size + 1) (by first | (simp; done) | (simp; omega) | omega | (apply Stab.cell_lt (a := ⟨w.heap.size + 1, 0, none⟩); assumption))
  have r0 : w2.cell? ⟨w.heap.size + 1, 0, none⟩ = some (.int .u8 0) := by rw [rc_]; first | assumption | (go_simp; done)
  have r1 : w2.cell? ⟨w.heap.size + 1, 1, none⟩ = some (.slice none 0 0) := by rw [rc_]; first | assumption | (go_simp; done)
  have rf : ∀ j, w2.frozen? ⟨w.heap.size + 1, j, none⟩ = false := fun j => by rw [rf_]; first | (go_simp; done) | (apply_assumption)
  clear rc_ rf_
  have hl := Stab.cell_lt r0
  simp only at hl
  go_wp2_with fail
  refine bodyPost_ret (v := .agg #[.int .u8 d', .slice a2 n2 cap2]) (by simp [results, Tryz.results123, go_sem, *]) rfl ⟨a2, n2, cap2, rfl, ?_, ?_⟩
  · with_reducible (repeat first | exact Kx.r _ | assumption | refine Kx.a ?_ _ | refine Kx.d ?_ | refine Kx.e ?_ _ | refine Kx.s (by simp <;> omega) ?_ _ | refine Kx.t ?_ (by assumption))
  · refine (h2.kf (w' := _) ?_).mono fun b _ hb => on_mono (by first | (simp; done) | (simp; omega)) hb
    repeat (first | (with_reducible exact KF.refl _ _) | (with_reducible assumption) | (with_reducible refine KF.alloc ?_ _) | (with_reducible refine KF.drew ?_) | (with_reducible refine KF.drewN ?_ _) | ((with_reducible refine KF.set ?_ ?_); focus (first | assumption | (simp [orNew, old]; done) | (simp [orNew, old]; omega) | (simp [orNew, old] at *; omega))) | (with_reducible refine KF.trans ?_ (KF.keeps (by with_reducible assumption))))
set_option maxRecDepth 100000 in
set_option maxHeartbeats 4000000 in
theorem ptForce_ (d d' : Nat) (hd : d < 4) (hd' : d' < 4) (l : List Pl) (hl : ∀ p ∈ l, p.norm d) (w : World) :
    Calls Tryz.prog 144 #[.agg (ptC d l).toArray, .int .u8 d'] w (One w (.agg (ptC d' (l.map (Pl.force d'))).toArray)) := by
  have hE := fun w' => newEmpty_ d' w'
  have h3 := fun w' => is3D_ d hd w'
  have h3' := fun w' => is3D_ d' hd' w'
  have hM := fun w' => isM_ d hd w'
  have hM' := fun w' => isM_ d' hd' w'
  cases l with
  | nil =>
    unfold ptC at hE ⊢
    go_enter Tryz.func144, Tryz.ntmps144
    go_wp2_with fail
    refine (hE _).mono ?_
    rintro e w2 ⟨rfl, hk2⟩
    obtain ⟨rc_, rf_⟩ := Stab.own_cell hk2 (w.heap.size + 1) (by first | (simp; done) | (simp; omega) | omega | (apply Stab.cell_lt (a := ⟨w.heap.size + 1, 0, none⟩); assumption))
    have r0 : w2.cell? ⟨w.heap.size + 1, 0, none⟩ = some (.float .f64 0) := by rw [rc_]; first | assumption | (go_simp; done)
    have r1 : w2.cell? ⟨w.heap.size + 1, 1, none⟩ = some (.float .f64 0) := by rw [rc_]; first | assumption | (go_simp; done)
    have r2 : w2.cell? ⟨w.heap.size + 1, 2, none⟩ = some (.float .f64 0) := by rw [rc_]; first | assumption | (go_simp; done)
    have r3 : w2.cell? ⟨w.heap.size + 1, 3, none⟩ = some (.float .f64 0) := by rw [rc_]; first | assumption | (go_simp; done)
    have r4 : w2.cell? ⟨w.heap.size + 1, 4, none⟩ = some (.int .u8 0) := by rw [rc_]; first | assumption | (go_simp; done)
    have r5 : w2.cell? ⟨w.heap.size + 1, 5, none⟩ = some (.bool false) := by rw [rc_]; first | assumption | (go_simp; done)
    have rf : ∀ j, w2.frozen? ⟨w.heap.size + 1, j, none⟩ = false := fun j => by rw [rf_]; first | (go_simp; done) | (apply_assumption)
    clear rc_ rf_
    have hl := Stab.cell_lt r0
    simp only at hl
    go_wp2_with fail
    refine bodyPost_ret (v := .agg #[.float .f64 0, .float .f64 0, .float .f64 0, .float .f64 0, .int .u8 d', .bool false]) (by simp [results, Tryz.results144, go_sem, *]) rfl ⟨rfl, ?_⟩
    with_reducible (repeat first | exact Kx.r _ | assumption | refine Kx.a ?_ _ | refine Kx.d ?_ | refine Kx.e ?_ _ | refine Kx.s (by simp <;> omega) ?_ _ | refine Kx.t ?_ (by assumption))
  | cons p l =>
    have hn := hl p (by simp)
    obtain ⟨px, py, pz, pm⟩ := p
    obtain ⟨hz, hm⟩ := hn
    simp only at hz hm
    have zz : (if has3 d' then pz else 0) = if (has3 d' != has3 d) = true then 0 else pz := by
      cases h : has3 d <;> cases h' : has3 d' <;> simp <;> (have := hz h; omega)
    have mm : (if hasM d' then pm else 0) = if (hasM d' != hasM d) = true then 0 else pm := by
      cases h : hasM d <;> cases h' : hasM d' <;> simp <;> (have := hm h; omega)
    simp only [List.map_cons, ptC, Pl.force, zz, mm]
    clear zz mm hz hm hl hE hd hd'
    generalize has3 d' = a3' at *
    generalize has3 d = a3 at *
    generalize hasM d' = am' at *
    generalize hasM d = am at *
    cases a3' <;> cases a3 <;> cases am' <;> cases am
    all_goals
      simp only [if_true, if_false, Bool.false_eq_true, bne_self_eq_false, show (true != false) = true from rfl, show (false != true) = true from rfl]
      go_enter Tryz.func144, Tryz.ntmps144
      go_wp2_with fail
      refine Stab.keep_region (fun _ _ _ => True) (fun _ => false) (fun k => k == 1 || k == 5) Stab.pre_none (by kernel_rfl) (by kernel_rfl) fun hcx => ?_
      repeat (first
        | (refine Stab.quiet rfl rfl rfl (fun K hK => ?_); go_big_quiet_op; refine hK _ ?_; clear hK K)
        | (refine Stab.one rfl rfl rfl ?_
           apply Exists.intro
           refine ⟨fun w1 hw1 => ?_, fun K hK => ?_⟩
           · go_simp
             first | (go_at_call 29; first | exact h3 _ | exact h3' _)
           go_simp
           refine hK _ ?_
           clear hK K)
        | (refine Stab.skip rfl (fun K hK => ?_); go_simp; refine hK _ ?_; clear hK K))
      refine Stab.nil fun w2 hk2 _ => ?_
      clear hcx
      have hB : Blk w2 w.heap.size 60 [.float .f64 px, .float .f64 py, .float .f64 pz, .float .f64 pm, .int .u8 d, .bool true] := Blk.keep (by with_reducible (repeat first | assumption | (refine Bx.n ⟨?_, ?_⟩ <;> focus (first | rfl | (simp; done) | omega)) | refine Bx.a ?_ _ | refine Bx.d ?_ | refine Bx.e ?_ _ | refine Bx.p (by first | omega | simp <;> omega) ?_)) hk2
      have hR : Blk w2 (w.heap.size + 1) 60 [.float .f64 0, .float .f64 0, .float .f64 0, .float .f64 0, .int .u8 0, .bool false] := Blk.keep (by with_reducible (repeat first | assumption | (refine Bx.n ⟨?_, ?_⟩ <;> focus (first | rfl | (simp; done) | omega)) | refine Bx.a ?_ _ | refine Bx.d ?_ | refine Bx.e ?_ _ | refine Bx.p (by first | omega | simp <;> omega) ?_)) hk2
      have hkk : Stab.Keeps w w2 := by with_reducible (repeat first | exact Kx.r _ | assumption | refine Kx.a ?_ _ | refine Kx.d ?_ | refine Kx.e ?_ _ | refine Kx.s (by simp <;> omega) ?_ _ | refine Kx.t ?_ (by assumption))
      have m0 := hB.cell (i := 0) rfl
      have m1 := hB.cell (i := 1) rfl
      have m2 := hB.cell (i := 2) rfl
      have m3 := hB.cell (i := 3) rfl
      have m4 := hB.cell (i := 4) rfl
      have m5 := hB.cell (i := 5) rfl
      have mf := hB.free
      have hl := hR.lt
      have hl' := hB.lt
      clear hk2
      go_wp2_with fail
      refine Stab.keep_region (fun _ _ _ => True) (fun _ => false) (fun k => k == 1 || k == 5) Stab.pre_none (by kernel_rfl) (by kernel_rfl) fun hcx => ?_
      repeat (first
        | (refine Stab.quiet rfl rfl rfl (fun K hK => ?_); go_big_quiet_op; refine hK _ ?_; clear hK K)
        | (refine Stab.one rfl rfl rfl ?_
           apply Exists.intro
           refine ⟨fun w1 hw1 => ?_, fun K hK => ?_⟩
           · go_simp
             first | (go_at_call 30; first | exact hM _ | exact hM' _)
           go_simp
           refine hK _ ?_
           clear hK K)
        | (refine Stab.skip rfl (fun K hK => ?_); go_simp; refine hK _ ?_; clear hK K))
      refine Stab.nil fun w3 hk3 _ => ?_
      clear hcx
      have hkf : Stab.Keeps w w3 := by with_reducible (repeat first | exact Kx.r _ | assumption | refine Kx.a ?_ _ | refine Kx.d ?_ | refine Kx.e ?_ _ | refine Kx.s (by simp <;> omega) ?_ _ | refine Kx.t ?_ (by assumption))
      first
        | (have hB3 : Blk w3 w.heap.size 60 [.float .f64 px, .float .f64 py, .float .f64 pz, .float .f64 pm, .int .u8 d, .bool true] := Blk.keep hB hk3)
        | (have hB3 : Blk w3 w.heap.size 60 [.float .f64 px, .float .f64 py, .float .f64 0, .float .f64 pm, .int .u8 d, .bool true] := Blk.keep (hB.set 2 (.float .f64 0)) hk3)
      have hR3 : Blk w3 (w.heap.size + 1) 60 [.float .f64 0, .float .f64 0, .float .f64 0, .float .f64 0, .int .u8 0, .bool false] := Blk.keep (by with_reducible (repeat first | assumption | (refine Bx.n ⟨?_, ?_⟩ <;> focus (first | rfl | (simp; done) | omega)) | refine Bx.a ?_ _ | refine Bx.d ?_ | refine Bx.e ?_ _ | refine Bx.p (by first | omega | simp <;> omega) ?_)) hk3
      clear m0 m1 m2 m3 m4 m5 mf hl hl' hB hR hk3
      have m0 := hB3.cell (i := 0) rfl
      have m1 := hB3.cell (i := 1) rfl
      have m2 := hB3.cell (i := 2) rfl
      have m3 := hB3.cell (i := 3) rfl
      have m4 := hB3.cell (i := 4) rfl
      have m5 := hB3.cell (i := 5) rfl
      have mf := hB3.free
      have r0 := hR3.cell (i := 0) rfl
      have r1 := hR3.cell (i := 1) rfl
      have r2 := hR3.cell (i := 2) rfl
      have r3 := hR3.cell (i := 3) rfl
      have r4 := hR3.cell (i := 4) rfl
      have r5 := hR3.cell (i := 5) rfl
      have rf := hR3.free
      have hl := hR3.lt
      have hl' := hB3.lt
      clear hB3 hR3
      go_wp2_with fail
      refine bodyPost_ret (by simp [results, Tryz.results144, go_sem, *]; done) rfl ⟨rfl, ?_⟩
      with_reducible (repeat first | exact Kx.r _ | assumption | refine Kx.a ?_ _ | refine Kx.d ?_ | refine Kx.e ?_ _ | refine Kx.s (by simp <;> omega) ?_ _ | refine Kx.t ?_ (by assumption))
end Go.Proofs.YtinbkonmlgediaaGreat
set_option linter.unusedVariables false
set_option linter.unusedSimpArgs false
namespace Go.Proofs.YtinbkonmlgediaaGreat
open Go.RowKit Go.Fl Go.Sl Go.Pg Go.Ch Go.Kf
set_option maxRecDepth 100000 in
theorem sequenceD_ (dm : Int) (d : Nat) (hdm : dim4 dm = d) (hd : d < 4) (a : Option Addr) (n cap : Nat) (l : List Nat) (w : World) (hn : l.length = n) (hs : n ≤ 1000000) (h : Sz w a n cap 1 (encN l)) :
    Calls Tryz.prog 26 #[.slice a n cap, .int .i64 dm] w (SeqPost w d (n - n % dimN d) (encN (l.take (n - n % dimN d)))) := by
  obtain ⟨i0, hi, hz0, hz1, hz2⟩ := info_parts infoFloat
  have hle := h.le
  have hm := h.max
  unfold maxLen at hm
  have h1 := dimN_pos d
  have h2 := dimN_le d
  obtain ⟨q, hq⟩ : ∃ q, n - n % dimN d = q := ⟨_, rfl⟩
  have hqn : q ≤ n := by rw [← hq]; exact Nat.sub_le _ _
  have hqm : q % dimN d = 0 := by
    have h1 : dimN d * (n / dimN d) + n % dimN d = n := Nat.div_add_mod n (dimN d)
    have : q = dimN d * (n / dimN d) := by omega
    rw [this]; exact Nat.mul_mod_right _ _
  have hw : wrap64 ((n : Int) - (n : Int) % (dimN d : Int)) = (q : Int) := by
    have : n % dimN d ≤ n := Nat.mod_le _ _
    rw [← Int.natCast_emod]
    generalize n % dimN d = x at *
    rw [IntWalk.wrap64_in _ (by omega)]
    omega
  have hmk : ∀ w : World, (Instr.makeSlice 32 (.int .i64 q) (.int .i64 q)).run Tryz.prog w = .ok (.slice (some ⟨w.heap.size, 0, none⟩) q q) (w.alloc (.cells (madeCells #[.float .f64 0] q) 27)) := fun w => by
    have := run_make (P := Tryz.prog) w 32 27 i0 _ Tryz.underlying32 hi hz0 .i64 .i64 q q (by omega) (Int.le_refl _) (by rw [hz2]; omega) (by omega)
    rw [hz1] at this
    simpa [Value.cells] using this
  have hmt : (madeCells #[.float .f64 0] q) = (List.replicate q (.float .f64 0)).toArray := by
    rw [← toList_madeCells_one]
  rw [hq]
  have hO := fun w' => dimOfA_ dm w'
  rw [hdm] at hO
  clear hdm
  have hD := fun w' => dimension_ d hd w'
  go_enter Tryz.func26, Tryz.ntmps26
  go_wp2_with fail
  refine (hO _).mono ?_
  rintro e w2 ⟨rfl, hk2⟩
  go_wp2_with fail
  refine (hD _).mono ?_
  rintro e w3 ⟨rfl, hk3⟩
  have hk4 : Stab.Keeps w w3 := by with_reducible (repeat first | exact Kx.r _ | assumption | refine Kx.a ?_ _ | refine Kx.d ?_ | refine Kx.e ?_ _ | refine Kx.s (by simp <;> omega) ?_ _ | refine Kx.t ?_ (by assumption))
  obtain ⟨hc, hf⟩ := Stab.own_cell (Stab.Keeps.trans hk2 hk3) w.heap.size (by first | (simp; done) | (simp; omega))
  have m0 : w3.cell? ⟨w.heap.size, 0, none⟩ = some (.int .u8 0) := by rw [hc]; go_simp
  have m1 : w3.cell? ⟨w.heap.size, 1, none⟩ = some (.slice none 0 0) := by rw [hc]; go_simp
  have f0 : ∀ j, w3.frozen? ⟨w.heap.size, j, none⟩ = false := fun j => by rw [hf]; go_simp
  have hT := h.keep hk4
  have hP := fun b w' => newSeq_ d hd (some ⟨b, 0, none⟩) q q (Nat.le_refl _) (by unfold maxLen; omega) hqm w'
  clear hc hf hO hD hz0 hz1 hz2
  go_wp2_with ((with_reducible_and_instances refine wpList_copy_splice (w0 := w3) rfl _ _ 32 32 rfl 27 Tryz.underlying32 (by kernel_rfl) _ _ q q n cap rfl rfl w3.heap.size 0 (List.replicate q (.float .f64 0)) 27 ?c1 ((encN l).take q) ?c2 ?c3 ?c4 ?c5 w3.heap.size ?c6 ?c7 ?_))
  case c1 => rw [show (List.replicate q (Value.float .f64 0)).toArray = Array.replicate q (.float .f64 0) by simp]; exact heap_alloc_new _ _
  case c2 => rw [List.length_take, show (encN l).length = n by simp [encN, hn]]; exact Nat.min_comm _ _
  case c3 =>
    intro hp
    have hS := hT.some_ (by simp [encN] at hp; omega)
    cases ha : a with
    | none => have := hS.nil ha; simp [encN] at hp; omega
    | some x =>
      obtain ⟨b, off, e, hb, hc⟩ := hS.at_ x ha
      subst e
      refine ⟨_, rfl, fun j v hj => ?_⟩
      rw [add_none, World.cell?_alloc_past _ _ _ hb]
      refine hc j v ?_
      rw [List.getElem?_take] at hj
      split at hj <;> simp_all
  case c4 => simp; exact Nat.min_le_left _ _
  case c5 => intro v hv; have := List.mem_of_mem_take hv; simp [encN] at this; obtain ⟨x, _, rfl⟩ := this; rfl
  case c6 => exact (Stab.Keeps.refl w3).alloc _
  case c7 => exact Nat.le_refl _
  intro w5 hG hB
  have hsp : splice (List.replicate q (Value.float .f64 0)) 0 ((encN l).take q) = encN (l.take q) := by
    have h1 : ((encN l).take q).length = q := by simp [encN, hn]; omega
    unfold splice
    rw [h1, List.take_zero, List.nil_append, Nat.zero_add, List.drop_of_length_le (by simp), List.append_nil]
    simp [encN]
  have hown : w5.ownsRow (w.heap.size + 1) 27 1 (.slice (some ⟨w3.heap.size, 0, none⟩) q q) q (encN (l.take q)) := by
    refine ⟨by simp [encN, hn]; omega, .inr ⟨w3.heap.size, q, (encN (l.take q)).toArray, rfl, Stab.cell_lt m0, ?_, Nat.le_refl _, by unfold maxLen; omega, by simp [encN, hn]; omega, ?_⟩⟩
    · rw [← hsp]; exact hG.out
    · rw [List.toList_toArray, List.take_of_length_le (by simp [encN, hn]; omega)]
  have hlt := Stab.cell_lt m0
  obtain ⟨hc, hf⟩ := Stab.own_cell (show Stab.Keeps w3 w5 from hB) w.heap.size hlt
  have n0 : w5.cell? ⟨w.heap.size, 0, none⟩ = some (.int .u8 0) := by rw [hc]; exact m0
  have n1 : w5.cell? ⟨w.heap.size, 1, none⟩ = some (.slice none 0 0) := by rw [hc]; exact m1
  have g0 : ∀ j, w5.frozen? ⟨w.heap.size, j, none⟩ = false := fun j => by rw [hf]; exact f0 j
  have hk5 : Stab.Keeps w w5 := Stab.Keeps.trans hk4 hB
  clear hG hT hsp hc hf m0 m1
  go_wp2_with fail
  refine (hP _ _).mono ?_
  rintro e w6 ⟨rfl, hk6⟩
  obtain ⟨hc, hf⟩ := Stab.own_cell hk6 w.heap.size (Stab.cell_lt n0)
  have p0 : w6.cell? ⟨w.heap.size, 0, none⟩ = some (.int .u8 0) := by rw [hc]; exact n0
  have p1 : w6.cell? ⟨w.heap.size, 1, none⟩ = some (.slice none 0 0) := by rw [hc]; exact n1
  have q0 : ∀ j, w6.frozen? ⟨w.heap.size, j, none⟩ = false := fun j => by rw [hf]; exact g0 j
  clear hc hf n0 n1 g0
  go_wp2_with fail
  refine bodyPost_ret (v := .agg #[.int .u8 d, .slice (some ⟨w3.heap.size, 0, none⟩) q q]) (by simp [results, Tryz.results26, go_sem, p0, p1]) rfl ⟨_, rfl, ?_, ?_⟩
  · with_reducible (repeat first | exact Kx.r _ | assumption | refine Kx.a ?_ _ | refine Kx.d ?_ | refine Kx.e ?_ _ | refine Kx.s (by simp <;> omega) ?_ _ | refine Kx.t ?_ (by assumption))
  · exact owns_base (owns_set (owns_set (owns_keep hown hk6) (by omega)) (by omega)) (Nat.le_succ _)
set_option maxRecDepth 100000 in
set_option maxHeartbeats 600000 in
theorem lineD_ (dm : Int) (d : Nat) (hdm : dim4 dm = d) (hd : d < 4) (na ka : Option Addr) (n cap kn kc : Nat) (l : List Nat) (w : World) (hn : l.length = n) (hs : n ≤ 1000000) (h : Sz w na n cap 1 (encN l)) :
    Calls Tryz.prog 13 #[.agg #[.int .i64 2, .int .i64 dm, .slice na n cap, .slice ka kn kc]] w (SeqPost w d (n - n % dimN d) (encN (l.take (n - n % dimN d)))) := by
  have hS := fun w' (hk : Stab.Keeps w w') => sequenceD_ dm d hdm hd na n cap l w' hn hs (h.keep hk)
  have hL := fun a n cap w' => newLine_ .nilIface d a n cap w'
  obtain ⟨q, hq⟩ : ∃ q, n - n % dimN d = q := ⟨_, rfl⟩
  rw [hq]
  simp only [hq] at hS
  clear hq h hdm
  go_enter Tryz.func13, Tryz.ntmps13
  go_wp2_with fail
  refine (hS _ (by with_reducible (repeat first | exact Kx.r _ | assumption | refine Kx.a ?_ _ | refine Kx.d ?_ | refine Kx.e ?_ _ | refine Kx.s (by simp <;> omega) ?_ _ | refine Kx.t ?_ (by assumption)))).mono ?_
  rintro e w2 ⟨b, rfl, hk2, hS2⟩
  clear hS
  obtain ⟨hc, hf⟩ := Stab.own_cell hk2 (w.heap.size + 1) (by first | (simp; done) | (simp; omega))
  have m0 : w2.cell? ⟨w.heap.size + 1, 0, none⟩ = some (.int .u8 0) := by rw [hc]; go_simp
  have m1 : w2.cell? ⟨w.heap.size + 1, 1, none⟩ = some (.slice none 0 0) := by rw [hc]; go_simp
  have f0 : ∀ j, w2.frozen? ⟨w.heap.size + 1, j, none⟩ = false := fun j => by rw [hf]; go_simp
  clear hc hf
  go_wp2_with fail
  refine (hL _ _ _ _).mono ?_
  rintro e w3 ⟨rfl, hk3⟩
  obtain ⟨hc, hf⟩ := Stab.own_cell hk3 (w.heap.size + 1) (Stab.cell_lt m0)
  have p0 : w3.cell? ⟨w.heap.size + 1, 0, none⟩ = some (.int .u8 0) := by rw [hc]; exact m0
  have p1 : w3.cell? ⟨w.heap.size + 1, 1, none⟩ = some (.slice none 0 0) := by rw [hc]; exact m1
  have q0 : ∀ j, w3.frozen? ⟨w.heap.size + 1, j, none⟩ = false := fun j => by rw [hf]; exact f0 j
  clear hc hf m0 m1 f0
  go_wp2_with fail
  refine bodyPost_ret (v := .agg #[.int .u8 d, .slice (some ⟨b, 0, none⟩) q q]) (by simp [results, Tryz.results13, go_sem, p0, p1]) rfl ⟨_, rfl, ?_, ?_⟩
  · with_reducible (repeat first | exact Kx.r _ | assumption | refine Kx.a ?_ _ | refine Kx.d ?_ | refine Kx.e ?_ _ | refine Kx.s (by simp <;> omega) ?_ _ | refine Kx.t ?_ (by assumption))
  · simp only [World.size_alloc] at hS2
    exact owns_base (owns_set (owns_set (owns_keep hS2 hk3) (by omega)) (by omega)) (by omega)
def no : Nat → Prop := fun _ => False
theorem SeqPost.ret {w : World} {d n : Nat} (hd : d < 4) {l : List Nat} (hn : l.length = n) (hs : n ≤ 500000) {e : Ending} {w' : World} (h : SeqPost w d (n - n % dimN d) (encN (l.take (n - n % dimN d))) e w') : SeqRet w no d (placesOf d l) e w' := by
  obtain ⟨b, he, hk, ho⟩ := h
  rw [dimN_wid hd] at he ho
  have hp := numsOf_placesOf d l
  have hw := wid_pos d
  rw [hn] at hp
  rw [← hp] at ho
  have hl : n - n % wid d = (placesOf d l).length * wid d := by
    rw [placesOf_len, hn]
    have := Nat.div_add_mod n (wid d)
    rw [Nat.mul_comm] at this
    omega
  refine ⟨_, _, _, he, hk, hd, placesOf_norm d l, hl, ?_, SzF.of_owns ho fun b hb => .inr hb⟩
  rw [placesOf_len, hn]
  have : n / wid d ≤ n / 2 := Nat.div_le_div_left hw (by omega)
  omega
theorem lineA_ (dm : Int) (na ka : Option Addr) (n cap kn kc : Nat) (l : List Nat) (w : World) (hn : l.length = n) (hs : n ≤ 500000) (h : Sz w na n cap 1 (encN l)) :
    Calls Tryz.prog 13 #[.agg #[.int .i64 2, .int .i64 dm, .slice na n cap, .slice ka kn kc]] w (SeqRet w no (dim4 dm) (placesOf (dim4 dm) l)) :=
  (lineD_ dm _ rfl (dim4_lt dm) na ka n cap kn kc l w hn (by omega) h).mono fun _ _ h => h.ret (dim4_lt dm) hn hs
set_option maxRecDepth 100000 in
set_option maxHeartbeats 1000000 in
theorem pointA_ (dm : Int) (na ka : Option Addr) (n cap kn kc : Nat) (l : List Nat) (w : World) (hn : l.length = n) (hs : n ≤ 500000) (h : Sz w na n cap 1 (encN l)) :
    Calls Tryz.prog 31 #[.agg #[.int .i64 1, .int .i64 dm, .slice na n cap, .slice ka kn kc]] w (One w (.agg (ptC (dim4 dm) ((placesOf (dim4 dm) l).take 1)).toArray)) := by
  have hS := fun w' (hk : Stab.Keeps w w') => (sequenceD_ dm _ rfl (dim4_lt dm) na n cap l w' hn (by omega) (h.keep hk)).mono fun _ _ h => SeqPost.ret (dim4_lt dm) hn hs h
  have hO := fun w' => dimOfA_ dm w'
  have hE := fun w' => newEmpty_ (dim4 dm) w'
  have hP := fun p w' => newPoint_ (dim4 dm) p w'
  generalize dim4 dm = d at *
  generalize placesOf d l = ps at *
  clear h hn hs
  go_enter Tryz.func31, Tryz.ntmps31
  go_wp2_with fail
  refine (hS _ (by with_reducible (repeat first | exact Kx.r _ | assumption | refine Kx.a ?_ _ | refine Kx.d ?_ | refine Kx.e ?_ _ | refine Kx.s (by simp <;> omega) ?_ _ | refine Kx.t ?_ (by assumption)))).mono ?_
  clear hS
  rintro e w2 ⟨a2, n2, cap2, rfl, hk2, h2⟩
  have hB : Blk w2 w.heap.size 35 [.int .i64 1, .int .i64 dm, .slice na n cap, .slice ka kn kc] := Blk.keep (by with_reducible (repeat first | assumption | (refine Bx.n ⟨?_, ?_⟩ <;> focus (first | rfl | (simp; done) | omega)) | refine Bx.a ?_ _ | refine Bx.d ?_ | refine Bx.e ?_ _ | refine Bx.p (by first | omega | simp <;> omega) ?_)) hk2
  have hR : Blk w2 (w.heap.size + 1) 60 [.float .f64 0, .float .f64 0, .float .f64 0, .float .f64 0, .int .u8 0, .bool false] := Blk.keep (by with_reducible (repeat first | assumption | (refine Bx.n ⟨?_, ?_⟩ <;> focus (first | rfl | (simp; done) | omega)) | refine Bx.a ?_ _ | refine Bx.d ?_ | refine Bx.e ?_ _ | refine Bx.p (by first | omega | simp <;> omega) ?_)) hk2
  have hkk : Stab.Keeps w w2 := by with_reducible (repeat first | exact Kx.r _ | assumption | refine Kx.a ?_ _ | refine Kx.d ?_ | refine Kx.e ?_ _ | refine Kx.s (by simp <;> omega) ?_ _ | refine Kx.t ?_ (by assumption))
  have m0 := hB.cell (i := 0) rfl
  have m1 := hB.cell (i := 1) rfl
  have hl := hR.lt
  have hl' := hB.lt
  clear hk2
  have hL := fun w' => seqLen_ d ps a2 n2 cap2 w' w2 h2
  have hG := fun w' (hk : Stab.Keeps w2 w') (hi : 0 < ps.length) => get_ d ps a2 n2 cap2 0 w' (h2.keep hk) hi
  go_wp2_with fail
  refine (hL _).mono ?_
  clear hL
  rintro e w3 ⟨rfl, hk3⟩
  have hB3 : Blk w3 w.heap.size 35 [.int .i64 1, .int .i64 dm, .slice na n cap, .slice ka kn kc] := Blk.keep (by with_reducible (repeat first | assumption | (refine Bx.n ⟨?_, ?_⟩ <;> focus (first | rfl | (simp; done) | omega)) | refine Bx.a ?_ _ | refine Bx.d ?_ | refine Bx.e ?_ _ | refine Bx.p (by first | omega | simp <;> omega) ?_)) hk3
  have hR3 : Blk w3 (w.heap.size + 1) 60 [.float .f64 0, .float .f64 0, .float .f64 0, .float .f64 0, .int .u8 0, .bool false] := Blk.keep (by with_reducible (repeat first | assumption | (refine Bx.n ⟨?_, ?_⟩ <;> focus (first | rfl | (simp; done) | omega)) | refine Bx.a ?_ _ | refine Bx.d ?_ | refine Bx.e ?_ _ | refine Bx.p (by first | omega | simp <;> omega) ?_)) hk3
  have hS3 : Blk w3 w2.heap.size 49 [.int .u8 d, .slice a2 n2 cap2] := Blk.keep (by with_reducible (repeat first | assumption | (refine Bx.n ⟨?_, ?_⟩ <;> focus (first | rfl | (simp; done) | omega)) | refine Bx.a ?_ _ | refine Bx.d ?_ | refine Bx.e ?_ _ | refine Bx.p (by first | omega | simp <;> omega) ?_)) hk3
  have hk4 : Stab.Keeps w2 w3 := by with_reducible (repeat first | exact Kx.r _ | assumption | refine Kx.a ?_ _ | refine Kx.d ?_ | refine Kx.e ?_ _ | refine Kx.s (by simp <;> omega) ?_ _ | refine Kx.t ?_ (by assumption))
  have hkf : Stab.Keeps w w3 := by with_reducible (repeat first | exact Kx.r _ | assumption | refine Kx.a ?_ _ | refine Kx.d ?_ | refine Kx.e ?_ _ | refine Kx.s (by simp <;> omega) ?_ _ | refine Kx.t ?_ (by assumption))
  clear m0 m1 hl hl' hB hR hk3
  cases ps with
  | nil =>
    have m1 := hB3.cell (i := 1) rfl
    have hl := hR3.lt
    have hl' := hB3.lt
    go_wp2_with fail
    refine (hO _).mono ?_
    rintro e w4 ⟨rfl, hk5⟩
    have hR4 := hR3.keep hk5
    have hk6 : Stab.Keeps w w4 := by with_reducible (repeat first | exact Kx.r _ | assumption | refine Kx.a ?_ _ | refine Kx.d ?_ | refine Kx.e ?_ _ | refine Kx.s (by simp <;> omega) ?_ _ | refine Kx.t ?_ (by assumption))
    clear m1 hl hl'
    have hl := hR4.lt
    go_wp2_with fail
    refine (hE _).mono ?_
    rintro e w5 ⟨rfl, hk7⟩
    have hR5 := hR4.keep hk7
    have hk8 : Stab.Keeps w w5 := by with_reducible (repeat first | exact Kx.r _ | assumption | refine Kx.a ?_ _ | refine Kx.d ?_ | refine Kx.e ?_ _ | refine Kx.s (by simp <;> omega) ?_ _ | refine Kx.t ?_ (by assumption))
    have r0 := hR5.cell (i := 0) rfl
    have r1 := hR5.cell (i := 1) rfl
    have r2 := hR5.cell (i := 2) rfl
    have r3 := hR5.cell (i := 3) rfl
    have r4 := hR5.cell (i := 4) rfl
    have r5 := hR5.cell (i := 5) rfl
    have rf := hR5.free
    have hl5 := hR5.lt
    clear hl
    simp only [ptC, List.take_nil]
    go_wp2_with fail
    refine bodyPost_ret (by simp [results, Tryz.results31, go_sem, ptC, *]; done) rfl ⟨rfl, ?_⟩
    with_reducible (repeat first | exact Kx.r _ | assumption | refine Kx.a ?_ _ | refine Kx.d ?_ | refine Kx.e ?_ _ | refine Kx.s (by simp <;> omega) ?_ _ | refine Kx.t ?_ (by assumption))
  | cons p ps =>
    have n1 : decide ((((p :: ps).length : Nat) : Int) = 0) = false := decide_eq_false (by simp; omega)
    have n2 : ((((p :: ps).length : Nat) : Int) == 0) = false := by simp; omega
    replace hG := fun w' hk => hG w' hk (by simp)
    simp only [List.getElem_cons_zero] at hG
    have s0 := hS3.cell (i := 0) rfl
    have s1 := hS3.cell (i := 1) rfl
    have hl := hR3.lt
    have hl' := hS3.lt
    go_wp2_with fail
    refine (hG _ hk4).mono ?_
    rintro e w4 ⟨rfl, hk5⟩
    have hR4 := hR3.keep hk5
    have hk6 : Stab.Keeps w w4 := by with_reducible (repeat first | exact Kx.r _ | assumption | refine Kx.a ?_ _ | refine Kx.d ?_ | refine Kx.e ?_ _ | refine Kx.s (by simp <;> omega) ?_ _ | refine Kx.t ?_ (by assumption))
    clear s0 s1 hl hl' n1 n2
    have hl := hR4.lt
    go_wp2_with fail
    refine (hP _ _).mono ?_
    rintro e w5 ⟨rfl, hk7⟩
    have hR5 := hR4.keep hk7
    have hk8 : Stab.Keeps w w5 := by with_reducible (repeat first | exact Kx.r _ | assumption | refine Kx.a ?_ _ | refine Kx.d ?_ | refine Kx.e ?_ _ | refine Kx.s (by simp <;> omega) ?_ _ | refine Kx.t ?_ (by assumption))
    have r0 := hR5.cell (i := 0) rfl
    have r1 := hR5.cell (i := 1) rfl
    have r2 := hR5.cell (i := 2) rfl
    have r3 := hR5.cell (i := 3) rfl
    have r4 := hR5.cell (i := 4) rfl
    have r5 := hR5.cell (i := 5) rfl
    have rf := hR5.free
    have hl5 := hR5.lt
    clear hl
    simp only [ptC, List.take_succ_cons, List.take_zero]
    go_wp2_with fail
    refine bodyPost_ret (by simp [results, Tryz.results31, go_sem, ptC, *]; done) rfl ⟨rfl, ?_⟩
    with_reducible (repeat first | exact Kx.r _ | assumption | refine Kx.a ?_ _ | refine Kx.d ?_ | refine Kx.e ?_ _ | refine Kx.s (by simp <;> omega) ?_ _ | refine Kx.t ?_ (by assumption))
end Go.Proofs.YtinbkonmlgediaaGreat
