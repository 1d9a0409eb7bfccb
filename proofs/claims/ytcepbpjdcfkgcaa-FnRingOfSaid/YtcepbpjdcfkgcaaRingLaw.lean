/-
  FnRingOf returns true at every input: the walk of the law. No condition.
-/
import Derived.Test.YtcepbpjdcfkgcaaRing5
import Derived.Test.YtcepbpjdcfkgcaaOpGeo
set_option linter.unusedVariables false
set_option linter.unusedSimpArgs false
namespace Go.Proofs.Ytcepbpjdcfkgcaa
open Go.RowKit Go.Fl Go.Sl
def LawPost (w : World) (e : Ending) (w' : World) : Prop := e = .returned (.bool true) ∧ Stab.Keeps w w'
theorem ringG_app (a b : List GT) : ringG (a ++ b) = ringG a ++ ringG b := by unfold ringG; rw [List.flatMap_append]
theorem ringG_one (t : GT) : ringG [t] = t.nums.take (t.nums.length - 2) := by unfold ringG; rw [List.flatMap_cons, List.flatMap_nil, List.append_nil]
theorem ringG_le (ts : List GT) (k : Nat) (h : ∀ t ∈ ts, t.nums.length ≤ 100) : (ringG (ts.take k)).length ≤ 100 * k := by
  induction k with
  | zero => simp [ringG]
  | succ k ih =>
    rw [List.take_add_one, ringG_app, List.length_append]
    cases hq : ts[k]? with
    | none => show _ + 0 ≤ _; omega
    | some t =>
      have := h t (List.mem_of_getElem? hq)
      show _ + (ringG [t]).length ≤ _
      rw [ringG_one, List.length_take]; omega
set_option maxRecDepth 100000 in
set_option maxHeartbeats 2000000 in
theorem ringLaw_ (a : Option Addr) (m cap : Nat) (ts : List GT) (w : World) (hm : ts.length = m) (h : Sz w a m cap 4 (ts.flatMap GT.cells)) (hts : ∀ t ∈ ts, t.At w) :
    Calls Try.prog 3 #[.slice a m cap] w (LawPost w) := by
  obtain ⟨i0, hi, hz0, hz1, hz2⟩ := info_parts infoFloat
  have hle := h.le
  have hmx := h.max
  unfold maxLen at hmx
  by_cases c1 : (2147483647 : Int) < m
  · go_enter Try.func3, Try.ntmps3
    go_wp2_with fail
    go_ret
    refine ⟨rfl, ?_⟩
    repeat (first | (with_reducible exact Stab.Keeps.refl _) | (with_reducible assumption) | (with_reducible refine Stab.Keeps.alloc ?_ _) | (with_reducible refine Stab.Keeps.drew ?_) | (with_reducible refine Stab.Keeps.drewN ?_ _) | ((with_reducible refine Stab.Keeps.setCell ?_ ?_ _); focus (first | (simp; done) | (simp; omega))) | (with_reducible refine Stab.Keeps.trans ?_ (by with_reducible assumption)))
  have hI := fun w' (hk : Stab.Keeps w w') => iLines_ a m cap ts w' hm (h.keep hk) (fun t ht => (hts t ht).keep hk)
  go_enter Try.func3, Try.ntmps3
  go_wp2_with fail
  refine (hI _ (by repeat (first | (with_reducible exact Stab.Keeps.refl _) | (with_reducible assumption) | (with_reducible refine Stab.Keeps.alloc ?_ _) | (with_reducible refine Stab.Keeps.drew ?_) | (with_reducible refine Stab.Keeps.drewN ?_ _) | ((with_reducible refine Stab.Keeps.setCell ?_ ?_ _); focus (first | (simp; done) | (simp; omega))) | (with_reducible refine Stab.Keeps.trans ?_ (by with_reducible assumption))))).mono ?_
  clear hI
  rintro e w2 ⟨⟨r, rfl, hr⟩, hk2⟩
  cases r with
  | false =>
    go_wp2_with fail
    go_ret
    refine ⟨rfl, ?_⟩
    repeat (first | (with_reducible exact Stab.Keeps.refl _) | (with_reducible assumption) | (with_reducible refine Stab.Keeps.alloc ?_ _) | (with_reducible refine Stab.Keeps.drew ?_) | (with_reducible refine Stab.Keeps.drewN ?_ _) | ((with_reducible refine Stab.Keeps.setCell ?_ ?_ _); focus (first | (simp; done) | (simp; omega))) | (with_reducible refine Stab.Keeps.trans ?_ (by with_reducible assumption)))
  | true =>
    obtain ⟨h0, h20, hall⟩ := hr rfl
    go_wp2_with fail
    go_loopw [3, 16] (fun v i wr => ∃ k : Nat, k ≤ m ∧ i = .int .i64 k ∧ Stab.Keeps w wr ∧ ∃ al c, v = .slice al (ringG (ts.take k)).length c ∧ wr.ownsRow w.heap.size 44 1 (.slice al (ringG (ts.take k)).length c) (ringG (ts.take k)).length (encN (ringG (ts.take k)))) (fun _ i _ => m - (intOf i).toNat)
    case atStart => exact ⟨0, Nat.zero_le _, rfl, by repeat (first | (with_reducible exact Stab.Keeps.refl _) | (with_reducible assumption) | (with_reducible refine Stab.Keeps.alloc ?_ _) | (with_reducible refine Stab.Keeps.drew ?_) | (with_reducible refine Stab.Keeps.drewN ?_ _) | ((with_reducible refine Stab.Keeps.setCell ?_ ?_ _); focus (first | (simp; done) | (simp; omega))) | (with_reducible refine Stab.Keeps.trans ?_ (by with_reducible assumption))), none, 0, rfl, World.ownsRow_nil _ _ _ _⟩
    case round =>
      obtain ⟨k, hk, rfl, hK, al, c, rfl, hown⟩ := hrel
      by_cases hlt : k < m
      · obtain ⟨b, off, ha, hb, hc⟩ := (h.keep hK).elem hlt
        subst ha
        have hki : k < ts.length := by omega
        have c0 : wr.cell? ⟨b, off + k * 4, none⟩ = some (.int .i64 ts[k].hd.kind) := hc 0 _ (by omega) (by rw [flat_get GT.cells 4 GT.cells_len ts k 0 hki (by omega)]; rfl)
        have c1 : wr.cell? ⟨b, off + k * 4 + 1, none⟩ = some (.int .i64 ts[k].hd.dim) := hc 1 _ (by omega) (by rw [flat_get GT.cells 4 GT.cells_len ts k 1 hki (by omega)]; rfl)
        have c2 : wr.cell? ⟨b, off + k * 4 + 2, none⟩ = some (.slice ts[k].hd.na ts[k].hd.nn ts[k].hd.nc) := hc 2 _ (by omega) (by rw [flat_get GT.cells 4 GT.cells_len ts k 2 hki (by omega)]; rfl)
        have c3 : wr.cell? ⟨b, off + k * 4 + 3, none⟩ = some (.slice ts[k].hd.ka ts[k].hd.kn ts[k].hd.kc) := hc 3 _ (by omega) (by rw [flat_get GT.cells 4 GT.cells_len ts k 3 hki (by omega)]; rfl)
        obtain ⟨hn, hN⟩ := at_nums (hts ts[k] (List.getElem_mem _))
        obtain ⟨⟨l1, l2, l3, l4, l5⟩, _⟩ := hall ts[k] (List.getElem_mem _)
        have htk : ringG (ts.take (k + 1)) = ringG (ts.take k) ++ ts[k].nums.take (ts[k].nums.length - 2) := by
          rw [List.take_succ_eq_append_getElem hki, ringG_app, ringG_one]
        have hrl := ringG_le ts k (fun t ht => (hall t ht).1.2.2.2.1)
        have hNr := hN.keep hK
        clear hc
        generalize ts[k] = t at *
        obtain ⟨bn, on, hna, hbn, _⟩ := hNr.elem (i := 0) (by omega)
        have hcl := (hNr.some_ (by omega)).at_ _ hna
        rw [hna] at c2
        have hSm := hN.max
        unfold maxLen at hSm
        have hSl := hN.le
        have hsz := hK.size
        go_wp2_with (at_builtin; (refine Sl.append_own (w0 := w) rfl _ _ 24 rfl w.heap.size 44 i0 _ 1 8 Try.underlying24 hi hz0 hz1 hz2 rfl (by decide) _ (ringG (ts.take k)).length _ rfl (hown.alloc _) ⟨bn, on, none⟩ (t.hd.nn - 2) t.hd.nc (encN (t.nums.take (t.hd.nn - 2))) rfl ?c1 ?c2 ?c3 ?c4 ?c5 ?c6 ?c7 ?_))
        case c1 => simp [encN]; omega
        case c2 =>
          intro j u hu
          obtain ⟨b', off', e, hb', hcc⟩ := hcl
          cases e
          rw [add_none, World.cell?_alloc_past _ _ _ hb']
          refine hcc j u ?_
          rw [show encN (t.nums.take (t.hd.nn - 2)) = (encN t.nums).take (t.hd.nn - 2) by simp [encN], List.getElem?_take] at hu
          split at hu <;> simp_all
        case c3 => intro v hv; simp only [encN, List.mem_map] at hv; obtain ⟨x, _, rfl⟩ := hv; rfl
        case c4 => unfold maxLen; omega
        case c5 => omega
        case c6 => simp; omega
        case c7 => exact hK.alloc _
        intro al' c' w5 hown' hk5 hsz5 _
        have hxs : encN (ringG (ts.take k)) ++ encN (t.nums.take (t.hd.nn - 2)) = encN (ringG (ts.take (k + 1))) := by rw [htk, ← hn]; simp [encN]
        have hxl : (ringG (ts.take k)).length + (t.hd.nn - 2) = (ringG (ts.take (k + 1))).length := by rw [htk, List.length_append, List.length_take, ← hn]; omega
        rw [hxs, hxl] at hown'
        rw [hxl]
        go_wp2_with fail
        refine ⟨⟨k + 1, by omega, by go_num, hk5, al', c', rfl, hown'⟩, by simp [intOf]; omega⟩
      · have hkm : k = m := by omega
        subst hkm
        rw [List.take_of_length_le (by omega)] at hown ⊢
        have hlen : 2 ≤ (ringG ts).length := by
          obtain ⟨t, ts', rfl⟩ : ∃ t ts', ts = t :: ts' := by
            cases ts with
            | nil => simp at h0
            | cons t ts' => exact ⟨t, ts', rfl⟩
          have := (hall t (by simp)).1.2.2.1
          rw [show t :: ts' = [t] ++ ts' from rfl, ringG_app, ringG_one, List.length_append, List.length_take]
          omega
        have hle2 : (ringG ts).length ≤ 2000 := by
          have := ringG_le ts k (fun t ht => (hall t ht).1.2.2.2.1)
          rw [List.take_of_length_le (by omega)] at this
          omega
        have hal : ∃ g, al = some ⟨g, 0, none⟩ := by
          rcases hown.2 with ⟨hx, hz⟩ | ⟨g, cap', cur, hv, _⟩
          · omega
          · cases hv; exact ⟨g, rfl⟩
        obtain ⟨g, rfl⟩ := hal
        obtain ⟨ax, cx, hx, hSx, _⟩ := of_owns hown
        cases hx
        have hcl := fun jj uu hu => World.ownsRow.cells hown (g := g) rfl jj uu hu
        have hcapx := hSx.le
        obtain ⟨n, hnd⟩ : ∃ n, (ringG ts).length = n := ⟨_, rfl⟩
        rw [hnd] at hown hlen hle2 hcapx
        simp only [hnd]
        have hsz := hK.size
        have hRO := fun w' (hk : Stab.Keeps w w') => ringOf_ a k cap ts w' hm (by omega) (by omega) ((h.some_ (by omega)).keep hk) (fun t ht => (hts t ht).keep hk) (fun t ht => (hall t ht).1)
        go_wp2_with (at_builtin; (refine Sl.append_own (w0 := w) rfl _ _ 24 rfl w.heap.size 44 i0 _ 1 8 Try.underlying24 hi hz0 hz1 hz2 rfl (by decide) _ n _ rfl hown ⟨g, 0, none⟩ 2 c ((encN (ringG ts)).take 2) rfl ?c1 ?c2 ?c3 ?c4 ?c5 ?c6 ?c7 ?_))
        case c1 => simp [encN, hnd]; omega
        case c2 =>
          intro jj uu hu
          refine hcl jj uu ?_
          rw [List.getElem?_take] at hu
          split at hu <;> simp_all
        case c3 => intro v hv; have := List.mem_of_mem_take hv; simp only [encN, List.mem_map] at this; obtain ⟨x, _, rfl⟩ := this; rfl
        case c4 => unfold maxLen; omega
        case c5 => omega
        case c6 => exact hsz
        case c7 => exact hK
        intro al' c' w5 hown' hk5 hsz5 _
        clear hcl
        go_wp2_with fail
        refine (hRO _ hk5).mono ?_
        clear hRO
        rintro e w6 ⟨a6, c6, rfl, hk6, hS6⟩
        have hown6 := owns_keep hown' hk6
        go_wp2_with fail
        have hreal : ∀ x ∈ ringG ts ++ (ringG ts).take 2, isNaN x = false := fun x hx => by
          have hx' : x ∈ ringG ts := by
            rcases List.mem_append.1 hx with hx | hx
            · exact hx
            · exact List.mem_of_mem_take hx
          unfold ringG at hx'
          obtain ⟨t, ht, hxt⟩ := List.mem_flatMap.1 hx'
          have hR := (hall t ht).2
          cases hR with
          | mk hd nums kids h1 h3 => exact h1 x (List.mem_of_mem_take hxt)
        have hxl : (ringG ts ++ (ringG ts).take 2).length = n + 2 := by rw [List.length_append, List.length_take, hnd]; omega
        rw [hxl] at hS6
        rw [show encN (ringG ts) ++ (encN (ringG ts)).take 2 = encN (ringG ts ++ (ringG ts).take 2) by simp [encN]] at hown6
        obtain ⟨ay, cy, hy, hSy, _⟩ := of_owns hown6
        cases hy
        have hEq := fun w' (hk : Stab.Keeps w6 w') => equalNums_ a6 al' (n + 2) c6 c' (ringG ts ++ (ringG ts).take 2) w' hxl (by omega) (hS6.keep hk).toSz (hSy.keep hk).toSz hreal
        refine (hEq _ (by repeat (first | (with_reducible exact Stab.Keeps.refl _) | (with_reducible assumption) | (with_reducible refine Stab.Keeps.alloc ?_ _) | (with_reducible refine Stab.Keeps.drew ?_) | (with_reducible refine Stab.Keeps.drewN ?_ _) | ((with_reducible refine Stab.Keeps.setCell ?_ ?_ _); focus (first | (simp; done) | (simp; omega))) | (with_reducible refine Stab.Keeps.trans ?_ (by with_reducible assumption))))).mono ?_
        clear hEq
        rintro e w7 ⟨rfl, hk7⟩
        go_wp2_with fail
        go_ret
        refine ⟨rfl, ?_⟩
        have hk57 : Stab.Keeps w w6 := Below.trans hk5 (Below.mono hk6 (Below.size hk5))
        repeat (first | (with_reducible exact Stab.Keeps.refl _) | (with_reducible assumption) | (with_reducible refine Stab.Keeps.alloc ?_ _) | (with_reducible refine Stab.Keeps.drew ?_) | (with_reducible refine Stab.Keeps.drewN ?_ _) | ((with_reducible refine Stab.Keeps.setCell ?_ ?_ _); focus (first | (simp; done) | (simp; omega))) | (with_reducible refine Stab.Keeps.trans ?_ (by with_reducible assumption)))
namespace fnRingOf
open Go.ChangeShapes Go.WideShapes Go.ChangeAt Go.Op2
set_option maxRecDepth 100000 in
theorem walkT {H : Type} (enc : TypeId × Value → H) (W : World) (base : Nat) {v0 : Value} {d0 : DataW H} {p0 : List MemPlace}
    (o0 : Value.okWide Try.prog W .any base 22 v0) (h0 : DataW.Trod enc Try.prog W 0 (fun _ => true) true 22 v0 d0 p0) :
    Calls Try.prog 3 #[v0] W (LawPost W) := by
  obtain ⟨a, n, cap, rfl, ts, hm, hS, hA⟩ := open_geoms o0 h0
  exact ringLaw_ a n cap ts W hm hS hA
end fnRingOf
end Go.Proofs.Ytcepbpjdcfkgcaa
