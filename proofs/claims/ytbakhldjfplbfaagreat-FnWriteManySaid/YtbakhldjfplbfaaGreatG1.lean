/-
  Sequences, lines and points of the package: what the small functions give. No condition.
-/
import Derived.Test.YtbakhldjfplbfaaGreatSeq2
import Derived.Test.YtbakhldjfplbfaaGreatPg
import Derived.Test.YtbakhldjfplbfaaGreatCh
import Derived.Test.YtbakhldjfplbfaaGreatKf
import Derived.Test.YtbakhldjfplbfaaGreatAp
import Derived.BigRegion
set_option linter.unusedVariables false
set_option linter.unusedSimpArgs false
namespace Go.Proofs.YtbakhldjfplbfaaGreat
open Go.RowKit Go.Fl Go.Sl Go.Pg Go.Ch Go.Kf
theorem dimN_wid {d : Nat} (h : d < 4) : dimN d = wid d := by
  have : d = 0 ∨ d = 1 ∨ d = 2 ∨ d = 3 := by omega
  rcases this with rfl | rfl | rfl | rfl <;> rfl
theorem Blk.past2 {w : World} {b : Nat} {e : TypeId} {vs : List Value} {a : Addr} {u : Value} (ha : b ≠ a.block) (h : Blk w b e vs) : Blk (w.setCell a u) b e vs := h.past ha u
theorem Blk.new1 {w : World} {vs : List Value} {c : Array Value} {e : TypeId} {n : Nat} (hn : n = w.heap.size ∧ c = vs.toArray) : Blk (w.alloc (.cells c e)) n e vs := by obtain ⟨h1, rfl⟩ := hn; exact Blk.new w vs e n h1
end Go.Proofs.YtbakhldjfplbfaaGreat
namespace Go.Bx
open Go.Ch
theorem n {w : World} {vs : List Value} {c : Array Value} {e : TypeId} {n : Nat} (hn : n = w.heap.size ∧ c = vs.toArray) : Blk (w.alloc (.cells c e)) n e vs := Go.Proofs.YtbakhldjfplbfaaGreat.Blk.new1 hn
theorem a {w : World} {b : Nat} {e : TypeId} {vs : List Value} (h : Blk w b e vs) (o : Obj) : Blk (w.alloc o) b e vs := h.alloc o
theorem d {w : World} {b : Nat} {e : TypeId} {vs : List Value} (h : Blk w b e vs) : Blk w.drew b e vs := h.drew
theorem e {w : World} {b : Nat} {e : TypeId} {vs : List Value} (h : Blk w b e vs) (n : Nat) : Blk (w.drewN n) b e vs := h.drewN n
theorem p {w : World} {b : Nat} {e : TypeId} {vs : List Value} {a : Addr} {u : Value} (ha : b ≠ a.block) (h : Blk w b e vs) : Blk (w.setCell a u) b e vs := h.past ha u
end Go.Bx
namespace Go.Proofs.YtbakhldjfplbfaaGreat
open Go.RowKit Go.Fl Go.Sl Go.Pg Go.Ch Go.Kf
/-- a sequence of places -/
structure SeqAt (w : World) (F : Nat → Prop) (d : Nat) (ps : List Pl) (a : Option Addr) (n cap : Nat) : Prop where
  d4 : d < 4
  nrm : ∀ p ∈ ps, p.norm d
  len : n = ps.length * wid d
  sm : ps.length ≤ 250000
  szf : SzF w F a n cap 1 (encN (numsOf d ps))
theorem SeqAt.sz {w : World} {F : Nat → Prop} {d : Nat} {ps : List Pl} {a : Option Addr} {n cap : Nat} (h : SeqAt w F d ps a n cap) : Sz w a n cap 1 (encN (numsOf d ps)) := h.szf.sz
theorem SeqAt.kf {w w' : World} {F : Nat → Prop} {d : Nat} {ps : List Pl} {a : Option Addr} {n cap : Nat} (h : SeqAt w F d ps a n cap) (hk : KF F w w') : SeqAt w' F d ps a n cap := ⟨h.d4, h.nrm, h.len, h.sm, h.szf.kf hk⟩
theorem SeqAt.keep {w w' : World} {F : Nat → Prop} {d : Nat} {ps : List Pl} {a : Option Addr} {n cap : Nat} (h : SeqAt w F d ps a n cap) (hk : Stab.Keeps w w') : SeqAt w' F d ps a n cap := h.kf (KF.keeps hk)
theorem SeqAt.mono {w : World} {F G : Nat → Prop} {d : Nat} {ps : List Pl} {a : Option Addr} {n cap : Nat} (h : SeqAt w F d ps a n cap) (hG : ∀ b, b < w.heap.size → F b → G b) : SeqAt w G d ps a n cap := ⟨h.d4, h.nrm, h.len, h.sm, h.szf.mono hG⟩
theorem SeqAt.old {w : World} {F : Nat → Prop} {d : Nat} {ps : List Pl} {a : Option Addr} {n cap : Nat} (h : SeqAt w F d ps a n cap) : SeqAt w (Go.Kf.old F w.heap.size) d ps a n cap := h.mono fun b h1 h2 => ⟨h2, h1⟩
theorem SeqAt.big {w : World} {F : Nat → Prop} {d : Nat} {ps : List Pl} {a : Option Addr} {n cap : Nat} (h : SeqAt w F d ps a n cap) : n ≤ 1000000 := by
  have h1 := h.sm
  have h2 := wid_le d
  have h3 : ps.length * wid d ≤ 250000 * 4 := Nat.mul_le_mul h1 h2
  rw [h.len]
  omega
theorem SeqAt.cell {w : World} {F : Nat → Prop} {d : Nat} {ps : List Pl} {a : Option Addr} {n cap : Nat} (h : SeqAt w F d ps a n cap) {i : Nat} (hi : i < ps.length) :
    ∃ b off, a = some ⟨b, off, none⟩ ∧ b < w.heap.size ∧ ∀ j v, (ps[i].nums d)[j]? = some v → w.cell? ⟨b, off + (i * wid d + j), none⟩ = some (.float .f64 v) := by
  have hw := wid_pos d
  have hn := h.len
  have hin : i * wid d + wid d ≤ n := by rw [hn, ← Nat.succ_mul]; exact Nat.mul_le_mul_right _ hi
  obtain ⟨b, off, ha, hb, _⟩ := h.sz.elem (i := i * wid d) (by omega)
  refine ⟨b, off, ha, hb, fun j v hv => ?_⟩
  have hj : j < wid d := by
    have := (List.getElem?_eq_some_iff.1 hv).1
    rwa [nums_len] at this
  obtain ⟨b', off', ha', _, hc⟩ := h.sz.elem (i := i * wid d + j) (by omega)
  rw [ha] at ha'
  cases ha'
  have := hc 0 (.float .f64 v) (by omega) (by
    unfold encN
    rw [Nat.add_zero, Nat.mul_one, List.getElem?_map, numsOf_get d ps i j hi hj, hv]
    rfl)
  simpa using this
/-- a place as the program's struct of coordinates -/
def coV (d : Nat) (p : Pl) : Value := .agg #[.float .f64 p.x, .float .f64 p.y, .float .f64 p.z, .float .f64 p.m, .int .u8 d]
def coC (d : Nat) (p : Pl) : List Value := [.float .f64 p.x, .float .f64 p.y, .float .f64 p.z, .float .f64 p.m, .int .u8 d]
def ptC (d : Nat) : List Pl → List Value
  | [] => [.float .f64 0, .float .f64 0, .float .f64 0, .float .f64 0, .int .u8 d, .bool false]
  | p :: _ => [.float .f64 p.x, .float .f64 p.y, .float .f64 p.z, .float .f64 p.m, .int .u8 d, .bool true]
theorem get_ {F : Nat → Prop} (d : Nat) (ps : List Pl) (a : Option Addr) (n cap i : Nat) (w : World) (h : SeqAt w F d ps a n cap) (hi : i < ps.length) :
    Calls Tryz.prog 140 #[.agg #[.int .u8 d, .slice a n cap], .int .i64 i] w (One w (coV d ps[i])) := by
  obtain ⟨b, off, rfl, hb, hc⟩ := h.cell hi
  have hn := h.len
  have hs := h.big
  have hle := h.sz.le
  have hmx := h.sz.max
  have hnr := h.nrm ps[i] (List.getElem_mem _)
  have hi2 : i * wid d + wid d ≤ n := by rw [hn, ← Nat.succ_mul]; exact Nat.mul_le_mul_right _ hi
  generalize ps[i] = p at *
  obtain ⟨x, y, z, m⟩ := p
  obtain ⟨hz, hm⟩ := hnr
  simp only at hz hm
  have hd : d = 0 ∨ d = 1 ∨ d = 2 ∨ d = 3 := by have := h.d4; omega
  unfold coV
  rcases hd with rfl | rfl | rfl | rfl
  · have z0 := hz rfl
    have m0 := hm rfl
    subst z0 m0
    exact get2_ b off n cap i x y w hle hmx hs hi2 hb (hc 0 _ rfl) (hc 1 _ rfl)
  · have m0 := hm rfl
    subst m0
    exact get3z_ b off n cap i x y z w hle hmx hs hi2 hb (hc 0 _ rfl) (hc 1 _ rfl) (hc 2 _ rfl)
  · have z0 := hz rfl
    subst z0
    exact get3m_ b off n cap i x y m w hle hmx hs hi2 hb (hc 0 _ rfl) (hc 1 _ rfl) (hc 2 _ rfl)
  · exact get4_ b off n cap i x y z m w hle hmx hs hi2 hb (hc 0 _ rfl) (hc 1 _ rfl) (hc 2 _ rfl) (hc 3 _ rfl)
theorem seqLen_ {F : Nat → Prop} (d : Nat) (ps : List Pl) (a : Option Addr) (n cap : Nat) (w w0 : World) (h : SeqAt w0 F d ps a n cap) :
    Calls Tryz.prog 139 #[.agg #[.int .u8 d, .slice a n cap]] w (One w (.int .i64 ps.length)) := by
  have := length_ d h.d4 a n cap h.sz.le h.sz.max w
  have e : n / dimN d = ps.length := by rw [dimN_wid h.d4, h.len, Nat.mul_div_cancel _ (by have := wid_pos d; omega)]
  rw [e] at this
  exact this
set_option maxRecDepth 100000 in
theorem is3D_ (d : Nat) (hd : d < 4) (w : World) : Calls Tryz.prog 141 #[.int .u8 d] w (One w (.bool (has3 d))) := by
  have : d = 0 ∨ d = 1 ∨ d = 2 ∨ d = 3 := by omega
  rcases this with rfl | rfl | rfl | rfl
  all_goals
    go_enter Tryz.func141, Tryz.ntmps141
    go_wp2
    go_ret
    exact ⟨rfl, by with_reducible (repeat (first | exact Kx.r _ | assumption | refine Kx.a ?_ _ | refine Kx.d ?_ | refine Kx.e ?_ _ | (refine Kx.s ?_ ?_ _; focus (first | (simp; done) | (simp; omega))) | refine Kx.t ?_ (by assumption)))⟩
set_option maxRecDepth 100000 in
theorem isM_ (d : Nat) (hd : d < 4) (w : World) : Calls Tryz.prog 142 #[.int .u8 d] w (One w (.bool (hasM d))) := by
  have : d = 0 ∨ d = 1 ∨ d = 2 ∨ d = 3 := by omega
  rcases this with rfl | rfl | rfl | rfl
  all_goals
    go_enter Tryz.func142, Tryz.ntmps142
    go_wp2
    go_ret
    exact ⟨rfl, by with_reducible (repeat (first | exact Kx.r _ | assumption | refine Kx.a ?_ _ | refine Kx.d ?_ | refine Kx.e ?_ _ | (refine Kx.s ?_ ?_ _; focus (first | (simp; done) | (simp; omega))) | refine Kx.t ?_ (by assumption)))⟩
set_option maxRecDepth 100000 in
theorem newPoint_ (d : Nat) (p : Pl) (w : World) : Calls Tryz.prog 155 #[coV d p] w (One w (.agg (ptC d [p]).toArray)) := by
  unfold coV
  go_enter Tryz.func155, Tryz.ntmps155
  go_wp2
  refine bodyPost_ret (by simp [results, Tryz.results155, go_sem, ptC]) rfl ⟨rfl, ?_⟩
  with_reducible (repeat (first | exact Kx.r _ | assumption | refine Kx.a ?_ _ | refine Kx.d ?_ | refine Kx.e ?_ _ | (refine Kx.s ?_ ?_ _; focus (first | (simp; done) | (simp; omega))) | refine Kx.t ?_ (by assumption)))
set_option maxRecDepth 100000 in
theorem newEmpty_ (d : Nat) (w : World) : Calls Tryz.prog 153 #[.int .u8 d] w (One w (.agg (ptC d []).toArray)) := by
  go_enter Tryz.func153, Tryz.ntmps153
  go_wp2
  refine bodyPost_ret (by simp [results, Tryz.results153, go_sem, ptC]) rfl ⟨rfl, ?_⟩
  with_reducible (repeat (first | exact Kx.r _ | assumption | refine Kx.a ?_ _ | refine Kx.d ?_ | refine Kx.e ?_ _ | (refine Kx.s ?_ ?_ _; focus (first | (simp; done) | (simp; omega))) | refine Kx.t ?_ (by assumption)))
set_option maxRecDepth 100000 in
theorem lineType_ (d : Nat) (a : Option Addr) (n cap : Nat) (w : World) : Calls Tryz.prog 170 #[.agg #[.int .u8 d, .slice a n cap]] w (One w (.int .u8 d)) := by
  have hT := fun w' => seqType_ d a n cap w'
  go_enter Tryz.func170, Tryz.ntmps170
  go_wp2_with fail
  refine (hT _).mono ?_
  rintro e w2 ⟨rfl, hk⟩
  go_wp2_with fail
  go_ret
  refine ⟨rfl, ?_⟩
  with_reducible (repeat (first | exact Kx.r _ | assumption | refine Kx.a ?_ _ | refine Kx.d ?_ | refine Kx.e ?_ _ | (refine Kx.s ?_ ?_ _; focus (first | (simp; done) | (simp; omega))) | refine Kx.t ?_ (by assumption)))
set_option maxRecDepth 100000 in
theorem ptType_ (d : Nat) (l : List Pl) (w : World) : Calls Tryz.prog 172 #[.agg (ptC d l).toArray] w (One w (.int .u8 d)) := by
  cases l
  all_goals
    unfold ptC
    go_enter Tryz.func172, Tryz.ntmps172
    go_wp2
    go_ret
    refine ⟨rfl, ?_⟩
    with_reducible (repeat (first | exact Kx.r _ | assumption | refine Kx.a ?_ _ | refine Kx.d ?_ | refine Kx.e ?_ _ | (refine Kx.s ?_ ?_ _; focus (first | (simp; done) | (simp; omega))) | refine Kx.t ?_ (by assumption)))
/-- a point's coordinates, and whether there are any -/
def ptCo (d : Nat) : List Pl → Value
  | [] => .tuple #[coV d ⟨0, 0, 0, 0⟩, .bool false]
  | p :: _ => .tuple #[coV d p, .bool true]
set_option maxRecDepth 100000 in
theorem ptCoords_ (d : Nat) (l : List Pl) (w : World) : Calls Tryz.prog 146 #[.agg (ptC d l).toArray] w (One w (ptCo d l)) := by
  cases l
  all_goals
    unfold ptC ptCo coV
    go_enter Tryz.func146, Tryz.ntmps146
    go_wp2
    go_region
    all_goals
      go_wp2
      refine bodyPost_ret (by simp [results, Tryz.results146, go_sem]) rfl ⟨rfl, ?_⟩
      with_reducible (repeat (first | exact Kx.r _ | assumption | refine Kx.a ?_ _ | refine Kx.d ?_ | refine Kx.e ?_ _ | (refine Kx.s ?_ ?_ _; focus (first | (simp; done) | (simp; omega))) | refine Kx.t ?_ (by assumption)))
/-- a geometry in a block of its own -/
def Held (w : World) (k : Int) (T B : TypeId) (cs : List Value) (e : Ending) (w' : World) : Prop := ∃ b, e = .returned (.agg #[.int .i64 k, .iface T (.pointer (some ⟨b, 0, none⟩))]) ∧ Stab.Keeps w w' ∧ w.heap.size ≤ b ∧ Blk w' b B cs
set_option maxRecDepth 100000 in
theorem ptGeo_ (d : Nat) (l : List Pl) (w : World) : Calls Tryz.prog 79 #[.agg (ptC d l).toArray] w (Held w 1 204 141 (ptC d l)) := by
  cases l
  all_goals
    unfold ptC
    go_enter Tryz.func79, Tryz.ntmps79
    go_wp2
    refine bodyPost_ret (by simp [results, Tryz.results79, go_sem]) rfl ⟨w.heap.size, rfl, ?_, Nat.le_refl _, ?_⟩
    · with_reducible (repeat (first | exact Kx.r _ | assumption | refine Kx.a ?_ _ | refine Kx.d ?_ | refine Kx.e ?_ _ | (refine Kx.s ?_ ?_ _; focus (first | (simp; done) | (simp; omega))) | refine Kx.t ?_ (by assumption)))
    · with_reducible (repeat (first | assumption | ((refine Bx.n ⟨?_, ?_⟩) <;> focus (first | rfl | (simp; done) | omega)) | refine Bx.a ?_ _ | refine Bx.d ?_ | refine Bx.e ?_ _ | (refine Bx.p ?_ ?_; focus (first | (simp; done) | (simp; omega) | omega))))
set_option maxRecDepth 100000 in
theorem lineGeo_ (d : Nat) (a : Option Addr) (n cap : Nat) (w : World) : Calls Tryz.prog 80 #[.agg #[.int .u8 d, .slice a n cap]] w (Held w 2 190 99 [.int .u8 d, .slice a n cap]) := by
  go_enter Tryz.func80, Tryz.ntmps80
  go_wp2
  refine bodyPost_ret (by simp [results, Tryz.results80, go_sem]) rfl ⟨w.heap.size, rfl, ?_, Nat.le_refl _, ?_⟩
  · with_reducible (repeat (first | exact Kx.r _ | assumption | refine Kx.a ?_ _ | refine Kx.d ?_ | refine Kx.e ?_ _ | (refine Kx.s ?_ ?_ _; focus (first | (simp; done) | (simp; omega))) | refine Kx.t ?_ (by assumption)))
  · with_reducible (repeat (first | assumption | ((refine Bx.n ⟨?_, ?_⟩) <;> focus (first | rfl | (simp; done) | omega)) | refine Bx.a ?_ _ | refine Bx.d ?_ | refine Bx.e ?_ _ | (refine Bx.p ?_ ?_; focus (first | (simp; done) | (simp; omega) | omega))))
end Go.Proofs.YtbakhldjfplbfaaGreat
