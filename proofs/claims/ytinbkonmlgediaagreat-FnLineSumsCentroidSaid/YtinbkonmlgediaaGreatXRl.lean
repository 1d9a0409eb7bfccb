/-
  The package's lines, points, polygons, multis, collections and geometries as plain geometries. No condition.
-/
import Derived.Test.YtinbkonmlgediaaGreatXG
import Derived.Test.YtinbkonmlgediaaGreatXFill
set_option linter.unusedVariables false
set_option linter.unusedSimpArgs false
namespace Go.Proofs.YtinbkonmlgediaaGreat
open Go.RowKit Go.Fl Go.Sl Go.Pg Go.Ch Go.Kf
/-- a line string's two cells -/
def LsR (w : World) (F : Nat → Prop) (cs : List Value) (p : Pg) : Prop := ∃ d ps a n cap, cs = [.int .u8 (d : Nat), .slice a n cap] ∧ p = .node 2 d ps [] ∧ SeqAt w F d ps a n cap
theorem lsS : Stable LsR := ⟨fun ⟨d, ps, a, n, cap, h1, h2, h3⟩ hk => ⟨d, ps, a, n, cap, h1, h2, h3.kf hk⟩, fun ⟨d, ps, a, n, cap, h1, h2, h3⟩ hG => ⟨d, ps, a, n, cap, h1, h2, h3.mono hG⟩⟩
/-- a point's six cells -/
def PtR (w : World) (F : Nat → Prop) (cs : List Value) (p : Pg) : Prop := ∃ d l, cs = ptC d l ∧ p = .node 1 d l [] ∧ d < 4 ∧ l.length ≤ 1 ∧ ∀ q ∈ l, q.norm d
theorem ptS : Stable PtR := ⟨fun h _ => h, fun h _ => h⟩
/-- a whole of parts: its two cells -/
def WholeR (k : Nat) (R : World → (Nat → Prop) → List Value → Pg → Prop) (kc : Nat) (w : World) (F : Nat → Prop) (cs : List Value) (p : Pg) : Prop :=
  ∃ d a n cap css kids, cs = [.slice a n cap, .int .u8 (d : Nat)] ∧ p = .node k d [] kids ∧ d < 4 ∧ n ≤ 250000 ∧ Go.Kf.Rows w F R a n cap kc css kids ∧ ∀ c ∈ kids, c.dim = d
theorem wholeS {k : Nat} {R : World → (Nat → Prop) → List Value → Pg → Prop} {kc : Nat} (S : Stable R) : Stable (WholeR k R kc) :=
  ⟨fun ⟨d, a, n, cap, css, kids, h1, h2, h3, h4, h5, h6⟩ hk => ⟨d, a, n, cap, css, kids, h1, h2, h3, h4, h5.kf hk fun _ _ h => S.kf h hk, h6⟩, fun ⟨d, a, n, cap, css, kids, h1, h2, h3, h4, h5, h6⟩ hG => ⟨d, a, n, cap, css, kids, h1, h2, h3, h4, h5.mono hG fun _ _ h => S.mono h hG, h6⟩⟩
def PyR := WholeR 3 LsR 2
def MpR := WholeR 4 PtR 6
def MlR := WholeR 5 LsR 2
def MyR := WholeR 6 PyR 2
theorem pyS : Stable PyR := wholeS lsS
theorem mpS : Stable MpR := wholeS ptS
theorem mlS : Stable MlR := wholeS lsS
theorem myS : Stable MyR := wholeS pyS
/-- a geometry's two cells -/
inductive GeoR (w : World) (F : Nat → Prop) : List Value → Pg → Prop where
  | pt (b : Nat) (cs : List Value) (p : Pg) (hF : F b) (hB : Blk w b 60 cs) (h : PtR w F cs p) : GeoR w F [.int .i64 1, .iface 124 (.pointer (some ⟨b, 0, none⟩))] p
  | ls (b : Nat) (cs : List Value) (p : Pg) (hF : F b) (hB : Blk w b 51 cs) (h : LsR w F cs p) : GeoR w F [.int .i64 2, .iface 125 (.pointer (some ⟨b, 0, none⟩))] p
  | py (b : Nat) (cs : List Value) (p : Pg) (hF : F b) (hB : Blk w b 78 cs) (h : PyR w F cs p) : GeoR w F [.int .i64 3, .iface 128 (.pointer (some ⟨b, 0, none⟩))] p
  | mp (b : Nat) (cs : List Value) (p : Pg) (hF : F b) (hB : Blk w b 82 cs) (h : MpR w F cs p) : GeoR w F [.int .i64 4, .iface 131 (.pointer (some ⟨b, 0, none⟩))] p
  | ml (b : Nat) (cs : List Value) (p : Pg) (hF : F b) (hB : Blk w b 85 cs) (h : MlR w F cs p) : GeoR w F [.int .i64 5, .iface 134 (.pointer (some ⟨b, 0, none⟩))] p
  | my (b : Nat) (cs : List Value) (p : Pg) (hF : F b) (hB : Blk w b 89 cs) (h : MyR w F cs p) : GeoR w F [.int .i64 6, .iface 137 (.pointer (some ⟨b, 0, none⟩))] p
  | gc (b : Nat) (d : Nat) (a : Option Addr) (n cap : Nat) (css : List (List Value)) (kids : List Pg) (hF : F b) (hB : Blk w b 93 [.slice a n cap, .int .u8 (d : Nat)]) (hd : d < 4) (hn : n ≤ 250000) (lc : css.length = n) (lx : kids.length = n) (each : ∀ c ∈ css, c.length = 2) (sz : SzF w F a n cap 2 css.flatten)
      (is : ∀ i (h1 : i < css.length) (h2 : i < kids.length), GeoR w F css[i] kids[i]) (hdim : ∀ c ∈ kids, c.dim = d) : GeoR w F [.int .i64 0, .iface 141 (.pointer (some ⟨b, 0, none⟩))] (.node 0 d [] kids)
theorem blk_kf {w w' : World} {F : Nat → Prop} {b : Nat} {e : TypeId} {vs : List Value} (h : Blk w b e vs) (hF : F b) (hk : KF F w w') : Blk w' b e vs := h.of_heap (hk.block b h.lt hF)
theorem geoS : Stable GeoR := by
  constructor
  · intro w w' F c x h hk
    induction h with
    | pt b cs p hF hB h => exact .pt b cs p hF (blk_kf hB hF hk) (ptS.kf h hk)
    | ls b cs p hF hB h => exact .ls b cs p hF (blk_kf hB hF hk) (lsS.kf h hk)
    | py b cs p hF hB h => exact .py b cs p hF (blk_kf hB hF hk) (pyS.kf h hk)
    | mp b cs p hF hB h => exact .mp b cs p hF (blk_kf hB hF hk) (mpS.kf h hk)
    | ml b cs p hF hB h => exact .ml b cs p hF (blk_kf hB hF hk) (mlS.kf h hk)
    | my b cs p hF hB h => exact .my b cs p hF (blk_kf hB hF hk) (myS.kf h hk)
    | gc b d a n cap css kids hF hB hd hn lc lx each sz is hdim ih => exact .gc b d a n cap css kids hF (blk_kf hB hF hk) hd hn lc lx each (sz.kf hk) (fun i h1 h2 => ih i h1 h2) hdim
  · intro w F G c x h hG
    induction h with
    | pt b cs p hF hB h => exact .pt b cs p (hG b hB.lt hF) hB (ptS.mono h hG)
    | ls b cs p hF hB h => exact .ls b cs p (hG b hB.lt hF) hB (lsS.mono h hG)
    | py b cs p hF hB h => exact .py b cs p (hG b hB.lt hF) hB (pyS.mono h hG)
    | mp b cs p hF hB h => exact .mp b cs p (hG b hB.lt hF) hB (mpS.mono h hG)
    | ml b cs p hF hB h => exact .ml b cs p (hG b hB.lt hF) hB (mlS.mono h hG)
    | my b cs p hF hB h => exact .my b cs p (hG b hB.lt hF) hB (myS.mono h hG)
    | gc b d a n cap css kids hF hB hd hn lc lx each sz is hdim ih => exact .gc b d a n cap css kids (hG b hB.lt hF) hB hd hn lc lx each (sz.mono hG) (fun i h1 h2 => ih i h1 h2) hdim
def GcR := WholeR 0 GeoR 2
theorem gcS : Stable GcR := wholeS geoS
theorem GcR.geo {w : World} {F : Nat → Prop} {b : Nat} {cs : List Value} {p : Pg} (h : GcR w F cs p) (hF : F b) (hB : Blk w b 93 cs) : GeoR w F [.int .i64 0, .iface 141 (.pointer (some ⟨b, 0, none⟩))] p := by
  obtain ⟨d, a, n, cap, css, kids, rfl, rfl, h3, h4, h5, h6⟩ := h
  exact .gc b d a n cap css kids hF hB h3 h4 h5.lc h5.lx h5.each h5.sz h5.is h6
/-- a callee that returns a thing -/
def RetR {α : Type} (w : World) (F : Nat → Prop) (R : World → (Nat → Prop) → List Value → α → Prop) (x : α) (e : Ending) (w' : World) : Prop := ∃ cs, e = .returned (.agg cs.toArray) ∧ Stab.Keeps w w' ∧ R w' (orNew F w.heap.size) cs x
theorem LsR.two {w : World} {F : Nat → Prop} {cs : List Value} {p : Pg} (h : LsR w F cs p) : ∃ (d : Nat) (a : Option Addr) (n cap : Nat), cs = [.int .u8 d, .slice a n cap] := by obtain ⟨_, _, _, _, _, rfl, _⟩ := h; exact ⟨_, _, _, _, rfl⟩
theorem WholeR.two {k : Nat} {R : World → (Nat → Prop) → List Value → Pg → Prop} {kc : Nat} {w : World} {F : Nat → Prop} {cs : List Value} {p : Pg} (h : WholeR k R kc w F cs p) : ∃ (a : Option Addr) (n cap d : Nat), cs = [.slice a n cap, .int .u8 d] := by obtain ⟨_, _, _, _, _, _, rfl, _⟩ := h; exact ⟨_, _, _, _, rfl⟩
theorem GeoR.two {w : World} {F : Nat → Prop} {cs : List Value} {p : Pg} (h : GeoR w F cs p) : ∃ (k : Int) (T : TypeId) (b : Nat), cs = [.int .i64 k, .iface T (.pointer (some ⟨b, 0, none⟩))] := by cases h <;> exact ⟨_, _, _, rfl⟩
theorem PtR.six {w : World} {F : Nat → Prop} {cs : List Value} {p : Pg} (h : PtR w F cs p) : ∃ (x y z m d : Nat) (f : Bool), cs = [.float .f64 x, .float .f64 y, .float .f64 z, .float .f64 m, .int .u8 d, .bool f] := by
  obtain ⟨d, l, rfl, _⟩ := h
  cases l <;> exact ⟨_, _, _, _, _, _, rfl⟩
theorem forceLs_ {F : Nat → Prop} (d' : Nat) (hd' : d' < 4) (cs : List Value) (p : Pg) (w : World) (h : LsR w F cs p) : Calls Tryz.prog 123 #[.agg cs.toArray, .int .u8 d'] w (RetR w F LsR (forceP d' p)) := by
  obtain ⟨d, ps, a, n, cap, rfl, rfl, h⟩ := h
  refine (lineForce_ d d' hd' ps a n cap w h).mono ?_
  rintro e w' ⟨a', n', cap', rfl, hk, h'⟩
  exact ⟨_, rfl, hk, d', _, a', n', cap', rfl, by rw [forceP_eq]; rfl, h'⟩
theorem typeLs_ {F : Nat → Prop} (cs : List Value) (p : Pg) (w w0 : World) (h : LsR w0 F cs p) : Calls Tryz.prog 124 #[.agg cs.toArray] w (One w (.int .u8 p.dim)) := by
  obtain ⟨d, ps, a, n, cap, rfl, rfl, h⟩ := h
  exact lineType_ d a n cap w
theorem forcePt_ {F : Nat → Prop} (d' : Nat) (hd' : d' < 4) (cs : List Value) (p : Pg) (w : World) (h : PtR w F cs p) : Calls Tryz.prog 144 #[.agg cs.toArray, .int .u8 d'] w (RetR w F PtR (forceP d' p)) := by
  obtain ⟨d, l, rfl, rfl, hd, hl, hn⟩ := h
  refine (ptForce_ d d' hd hd' l hn w).mono ?_
  rintro e w' ⟨rfl, hk⟩
  refine ⟨_, rfl, hk, d', _, rfl, by rw [forceP_eq]; rfl, hd', by simpa using hl, fun q hq => ?_⟩
  obtain ⟨r, _, rfl⟩ := List.mem_map.1 hq
  exact force_norm d' r
theorem typePt_ {F : Nat → Prop} (cs : List Value) (p : Pg) (w w0 : World) (h : PtR w0 F cs p) : Calls Tryz.prog 27 #[.agg cs.toArray] w (One w (.int .u8 p.dim)) := by
  obtain ⟨d, l, rfl, rfl, hd, hl, hn⟩ := h
  exact ptType_ d l w
end Go.Proofs.YtinbkonmlgediaaGreat
