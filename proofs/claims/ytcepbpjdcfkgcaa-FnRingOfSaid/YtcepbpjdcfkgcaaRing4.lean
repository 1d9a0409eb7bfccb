/-
  The ring of some lines: the package's own function, walked. No condition.
-/
import Derived.Test.YtcepbpjdcfkgcaaRing3
set_option linter.unusedVariables false
set_option linter.unusedSimpArgs false
namespace Go.Proofs.Ytcepbpjdcfkgcaa
open Go.RowKit Go.Fl Go.Sl
def RingPost (w : World) (xs : List Nat) (e : Ending) (w' : World) : Prop :=
  ∃ a cap, e = .returned (.tuple #[.agg #[.int .i64 2, .int .i64 0, .slice a xs.length cap, .slice none 0 0], .bool true]) ∧ Stab.Keeps w w' ∧ Sl w' a xs.length cap 1 (encN xs)
def ringG (ts : List GT) : List Nat := ts.flatMap fun t => t.nums.take (t.nums.length - 2)
theorem ringG_of (ts : List GT) (ss : List (Nat × List Nat)) (h : ss.map (·.2) = ts.map GT.nums) : ringN ss = ringG ts := by
  have h1 : ringN ss = (ss.map (·.2)).flatMap fun x => x.take (x.length - 2) := by unfold ringN; rw [List.flatMap_map]
  have h2 : ringG ts = (ts.map GT.nums).flatMap fun x => x.take (x.length - 2) := by unfold ringG; rw [List.flatMap_map]
  rw [h1, h2, h]
set_option maxRecDepth 100000 in
set_option maxHeartbeats 2000000 in
theorem ringOf_ (a : Option Addr) (m cap : Nat) (ts : List GT) (w : World) (hm : ts.length = m) (h0 : 0 < m) (hm2 : m ≤ 20) (h : Sl w a m cap 4 (ts.flatMap GT.cells)) (hts : ∀ t ∈ ts, t.At w) (hlf : ∀ t ∈ ts, Leaf t) :
    Calls Try.prog 6 #[.slice a m cap] w (RingPost w (ringG ts ++ (ringG ts).take 2)) := by
  have hmf : ∀ (fn : Fn) (first cap : Array Value) (w : World), (Instr.makeFunc fn first cap).run Try.prog w = .ok (.func fn first cap) w := fun _ _ _ _ => rfl
  obtain ⟨i0, hi, hz0, hz1, hz2⟩ := info_parts infoSeq
  have hle := h.le
  have hmx := h.max
  unfold maxLen at hmx
  go_enter_defers Try.func6, Try.ntmps6
  go_wp2_with fail
  have r0 : ((w.alloc (.cells #[.int .i64 0, .int .i64 0, .slice none 0 0, .slice none 0 0] 26)).alloc (.cells #[.bool false] 4)).cell? ⟨w.heap.size, 0, none⟩ = some (.int .i64 0) := by go_simp
  have r1 : ((w.alloc (.cells #[.int .i64 0, .int .i64 0, .slice none 0 0, .slice none 0 0] 26)).alloc (.cells #[.bool false] 4)).cell? ⟨w.heap.size, 1, none⟩ = some (.int .i64 0) := by go_simp
  have r2 : ((w.alloc (.cells #[.int .i64 0, .int .i64 0, .slice none 0 0, .slice none 0 0] 26)).alloc (.cells #[.bool false] 4)).cell? ⟨w.heap.size, 2, none⟩ = some (.slice none 0 0) := by go_simp
  have r3 : ((w.alloc (.cells #[.int .i64 0, .int .i64 0, .slice none 0 0, .slice none 0 0] 26)).alloc (.cells #[.bool false] 4)).cell? ⟨w.heap.size, 3, none⟩ = some (.slice none 0 0) := by go_simp
  have rf : ∀ j, ((w.alloc (.cells #[.int .i64 0, .int .i64 0, .slice none 0 0, .slice none 0 0] 26)).alloc (.cells #[.bool false] 4)).frozen? ⟨w.heap.size, j, none⟩ = false := fun j => by go_simp
  have b0 : ((w.alloc (.cells #[.int .i64 0, .int .i64 0, .slice none 0 0, .slice none 0 0] 26)).alloc (.cells #[.bool false] 4)).cell? ⟨w.heap.size + 1, 0, none⟩ = some (.bool false) := by go_simp
  have bf : ∀ j, ((w.alloc (.cells #[.int .i64 0, .int .i64 0, .slice none 0 0, .slice none 0 0] 26)).alloc (.cells #[.bool false] 4)).frozen? ⟨w.heap.size + 1, j, none⟩ = false := fun j => by go_simp
  have hkp : Stab.Keeps w ((w.alloc (.cells #[.int .i64 0, .int .i64 0, .slice none 0 0, .slice none 0 0] 26)).alloc (.cells #[.bool false] 4)) := by repeat (first | (with_reducible exact Stab.Keeps.refl _) | (with_reducible assumption) | (with_reducible refine Stab.Keeps.alloc ?_ _) | (with_reducible refine Stab.Keeps.drew ?_) | (with_reducible refine Stab.Keeps.drewN ?_ _) | ((with_reducible refine Stab.Keeps.setCell ?_ ?_ _); focus (first | (simp; done) | (simp; omega))) | (with_reducible refine Stab.Keeps.trans ?_ (by with_reducible assumption)))
  generalize ((w.alloc (.cells #[.int .i64 0, .int .i64 0, .slice none 0 0, .slice none 0 0] 26)).alloc (.cells #[.bool false] 4)) = w1 at *
  go_loopw [4, 10] (fun v i wr => ∃ (k : Nat) (ss : List (Nat × List Nat)), k ≤ m ∧ i = .int .i64 k ∧ ss.map (·.2) = (ts.take k).map GT.nums ∧ Stab.Keeps w1 wr ∧ (∀ s ∈ ss, SqO wr s) ∧ ∃ al c, v = .slice al k c ∧ wr.ownsRow w1.heap.size 48 2 (.slice al k c) k (ss.flatMap sqCells)) (fun _ i _ => m - (intOf i).toNat)
  case atStart => exact ⟨0, [], Nat.zero_le _, rfl, by simp, by repeat (first | (with_reducible exact Stab.Keeps.refl _) | (with_reducible assumption) | (with_reducible refine Stab.Keeps.alloc ?_ _) | (with_reducible refine Stab.Keeps.drew ?_) | (with_reducible refine Stab.Keeps.drewN ?_ _) | ((with_reducible refine Stab.Keeps.setCell ?_ ?_ _); focus (first | (simp; done) | (simp; omega))) | (with_reducible refine Stab.Keeps.trans ?_ (by with_reducible assumption))), fun s hs => by simp at hs, none, 0, rfl, World.ownsRow_nil _ _ _ _⟩
  case round =>
    obtain ⟨k, ss, hk, rfl, hmap, hK, hsq, al, c, rfl, hown⟩ := hrel
    have hKw : Stab.Keeps w wr := Stab.Keeps.trans hkp hK
    by_cases hlt : k < m
    · obtain ⟨b, off, ha, hb, hc⟩ := (h.keep hKw).elem hlt
      subst ha
      have hki : k < ts.length := by omega
      have c0 : wr.cell? ⟨b, off + k * 4, none⟩ = some (.int .i64 ts[k].hd.kind) := hc 0 _ (by omega) (by rw [flat_get GT.cells 4 GT.cells_len ts k 0 hki (by omega)]; rfl)
      have c1 : wr.cell? ⟨b, off + k * 4 + 1, none⟩ = some (.int .i64 ts[k].hd.dim) := hc 1 _ (by omega) (by rw [flat_get GT.cells 4 GT.cells_len ts k 1 hki (by omega)]; rfl)
      have c2 : wr.cell? ⟨b, off + k * 4 + 2, none⟩ = some (.slice ts[k].hd.na ts[k].hd.nn ts[k].hd.nc) := hc 2 _ (by omega) (by rw [flat_get GT.cells 4 GT.cells_len ts k 2 hki (by omega)]; rfl)
      have c3 : wr.cell? ⟨b, off + k * 4 + 3, none⟩ = some (.slice ts[k].hd.ka ts[k].hd.kn ts[k].hd.kc) := hc 3 _ (by omega) (by rw [flat_get GT.cells 4 GT.cells_len ts k 3 hki (by omega)]; rfl)
      obtain ⟨hn, hN⟩ := at_nums (hts ts[k] (List.getElem_mem _))
      obtain ⟨l1, l2, l3, l4, l5⟩ := hlf ts[k] (List.getElem_mem _)
      have htk : ts.take (k + 1) = ts.take k ++ [ts[k]] := List.take_succ_eq_append_getElem hki
      clear hc
      generalize ts[k] = t at *
      rw [l1] at c0
      rw [l2] at c1
      have hLn := fun w' (hk : Stab.Keeps wr w') => line_ 0 (by omega) t.hd.na t.hd.ka t.hd.nn t.hd.nc t.hd.kn t.hd.kc t.nums w' hn (by omega) ((hN.keep hKw).keep hk)
      simp only [show dimN 0 = 2 from rfl, show t.hd.nn - t.hd.nn % 2 = t.hd.nn by omega, List.take_of_length_le (show t.nums.length ≤ t.hd.nn by omega), Int.natCast_zero, Int.cast_ofNat_Int] at hLn
      go_wp2_with fail
      refine (hLn _ (by repeat (first | (with_reducible exact Stab.Keeps.refl _) | (with_reducible assumption) | (with_reducible refine Stab.Keeps.alloc ?_ _) | (with_reducible refine Stab.Keeps.drew ?_) | (with_reducible refine Stab.Keeps.drewN ?_ _) | ((with_reducible refine Stab.Keeps.setCell ?_ ?_ _); focus (first | (simp; done) | (simp; omega))) | (with_reducible refine Stab.Keeps.trans ?_ (by with_reducible assumption))))).mono ?_
      clear hLn
      rintro e w3 ⟨b3, rfl, hk3, ho3⟩
      go_wp2_with fail
      refine (lineCoords_ _ _ _ _ _).mono ?_
      rintro e w4 ⟨rfl, hk4⟩
      have hk34 : Stab.Keeps wr w4 := Stab.Keeps.trans (Stab.Keeps.trans (Stab.Keeps.alloc (Stab.Keeps.refl wr) _) hk3) hk4
      have hown4 := owns_keep hown hk34
      have hsz := Below.size hk34
      have hszK := Below.size hK
      have ho4 : w4.ownsRow 0 44 1 (.slice (some ⟨b3, 0, none⟩) t.nums.length t.nums.length) t.nums.length (encN t.nums) := by
        rw [hn]; exact owns_base (owns_keep ho3 hk4) (Nat.zero_le _)
      clear hown ho3 hk3 hk4 c0 c1 c2 c3
      go_wp2_with (at_builtin; (refine Sl.append_own (w0 := w4) rfl _ _ 45 rfl w1.heap.size 48 i0 _ 2 32 Try.underlying45 hi hz0 hz1 hz2 rfl (by decide) _ k _ rfl (hown4.alloc _) ⟨w4.heap.size, 0, none⟩ 1 1 [.int .u8 0, .slice (some ⟨b3, 0, none⟩) t.hd.nn t.hd.nn] rfl rfl ?c1 ?c2 ?c3 ?c4 ?c5 ?c6 ?_))
      case c1 => exact new_cells _ _ _ _ (by simp)
      case c2 => intro u hu; simp at hu; rcases hu with rfl | rfl <;> rfl
      case c3 => unfold maxLen; omega
      case c4 => omega
      case c5 => simp; omega
      case c6 => exact Below.alloc (Below.refl _ _) (by omega) _
      intro al' c' w5 hown' hk5 hsz5 hgr
      have hne : (44 : TypeId) ≠ 48 := by decide
      have hsq5 : ∀ s ∈ ss ++ [(b3, t.nums)], SqO w5 s := fun s hs => by
        rcases List.mem_append.1 hs with hs | hs
        · obtain ⟨q1, q2⟩ := hsq s hs
          exact ⟨grown_other ((owns_keep q1 hk34).alloc _) (hown4.alloc _) hne hgr, q2⟩
        · simp at hs
          subst hs
          exact ⟨grown_other (ho4.alloc _) (hown4.alloc _) hne hgr, by omega, by omega, by omega⟩
      have hK5 : Stab.Keeps w1 w5 := Below.trans hK (Below.trans (Below.mono hk34 hszK) hk5)
      have hrow5 : w5.ownsRow w1.heap.size 48 2 (.slice al' (k + 1) c') (k + 1) ((ss ++ [(b3, t.nums)]).flatMap sqCells) := by
        rw [List.flatMap_append]
        simp only [List.flatMap_cons, List.flatMap_nil, List.append_nil, sqCells, hn]
        exact hown'
      clear hgr hsq hown4 ho4 hown'
      go_wp2_with fail
      refine ⟨⟨k + 1, ss ++ [(b3, t.nums)], by omega, by go_num, ?_, hK5, hsq5, al', c', rfl, hrow5⟩, by simp [intOf]; omega⟩
      rw [htk, List.map_append, List.map_append, hmap]
      rfl
    · have hkm : k = m := by omega
      subst hkm
      rw [List.take_of_length_le (by omega)] at hmap
      have hssl : ss.length = k := by have := congrArg List.length hmap; simpa [hm] using this
      obtain ⟨al', c', he, hSl, _⟩ := of_owns hown
      cases he
      have hDR := fun w' (hk : Stab.Keeps wr w') => doorRing_ al k c ss w' hssl h0 hm2 (hSl.keep hk) (fun s hs => ⟨(sq_of_owns (hsq s hs).1).keep hk, (hsq s hs).2⟩)
      rw [ringG_of ts ss hmap] at hDR
      go_wp2_with fail
      refine (hDR _ (by with_reducible exact Stab.Keeps.refl _)).mono ?_
      clear hDR
      rintro e w3 ⟨b3, rfl, hk3, ho3⟩
      have e1 := ringN_len ss (fun s hs => (hsq s hs).2.1)
      have e2 := lens_even ss (fun s hs => (hsq s hs).2.2.2)
      have e3 := lens_ge ss (fun s hs => (hsq s hs).2.1)
      have e4 := lens_le ss (fun s hs => (hsq s hs).2.2.1)
      rw [ringG_of ts ss hmap] at e1
      obtain ⟨xs, hxs⟩ : ∃ xs, ringG ts ++ (ringG ts).take 2 = xs := ⟨_, rfl⟩
      obtain ⟨n, hnd⟩ : ∃ n, (ringG ts).length + 2 = n := ⟨_, rfl⟩
      have hxl : xs.length = n := by rw [← hxs, List.length_append, List.length_take]; omega
      rw [hxs, hnd] at ho3
      simp only [hxs, hnd]
      have hPl : Calls Try.prog 17 #[.agg #[.int .u8 0, .slice (some ⟨b3, 0, none⟩) n n]] w3 (GeoPost w3 2 0 n (encN xs)) := by
        obtain ⟨ax, cx, hx, hSx, _⟩ := of_owns ho3
        cases hx
        exact plain2_ (some ⟨b3, 0, none⟩) n n (n / 2) xs w3 hxl (by omega) (by omega) hSx.toSz
      have hk13 : Stab.Keeps w1 w3 := Stab.Keeps.trans hK hk3
      obtain ⟨mc_, mf_⟩ := Stab.own_cell hk13 (w.heap.size) (by first | (simp; done) | (simp; omega) | omega | (apply Stab.cell_lt (a := ⟨w.heap.size, 0, none⟩); assumption))
      have m0 : w3.cell? ⟨w.heap.size, 0, none⟩ = some (.int .i64 0) := by rw [mc_]; first | assumption | (go_simp; done)
      have m1 : w3.cell? ⟨w.heap.size, 1, none⟩ = some (.int .i64 0) := by rw [mc_]; first | assumption | (go_simp; done)
      have m2 : w3.cell? ⟨w.heap.size, 2, none⟩ = some (.slice none 0 0) := by rw [mc_]; first | assumption | (go_simp; done)
      have m3 : w3.cell? ⟨w.heap.size, 3, none⟩ = some (.slice none 0 0) := by rw [mc_]; first | assumption | (go_simp; done)
      have mf : ∀ j, w3.frozen? ⟨w.heap.size, j, none⟩ = false := fun j => by rw [mf_]; first | (go_simp; done) | (apply_assumption)
      clear mc_ mf_
      obtain ⟨nc_, nf_⟩ := Stab.own_cell hk13 (w.heap.size + 1) (by first | (simp; done) | (simp; omega) | omega | (apply Stab.cell_lt (a := ⟨w.heap.size + 1, 0, none⟩); assumption))
      have n0 : w3.cell? ⟨w.heap.size + 1, 0, none⟩ = some (.bool false) := by rw [nc_]; first | assumption | (go_simp; done)
      have nf : ∀ j, w3.frozen? ⟨w.heap.size + 1, j, none⟩ = false := fun j => by rw [nf_]; first | (go_simp; done) | (apply_assumption)
      clear nc_ nf_
      clear hsq hown ho3 e1 e2 e3 e4 hmap hSl
      go_wp2_with fail
      refine hPl.mono ?_
      clear hPl
      rintro e w4 ⟨a4, c4, rfl, hk4, hS4, hfr4⟩
      obtain ⟨pc_, pf_⟩ := Stab.own_cell hk4 (w.heap.size) (by first | (simp; done) | (simp; omega) | omega | (apply Stab.cell_lt (a := ⟨w.heap.size, 0, none⟩); assumption))
      have p0 : w4.cell? ⟨w.heap.size, 0, none⟩ = some (.int .i64 0) := by rw [pc_]; first | assumption | (go_simp; done)
      have p1 : w4.cell? ⟨w.heap.size, 1, none⟩ = some (.int .i64 0) := by rw [pc_]; first | assumption | (go_simp; done)
      have p2 : w4.cell? ⟨w.heap.size, 2, none⟩ = some (.slice none 0 0) := by rw [pc_]; first | assumption | (go_simp; done)
      have p3 : w4.cell? ⟨w.heap.size, 3, none⟩ = some (.slice none 0 0) := by rw [pc_]; first | assumption | (go_simp; done)
      have pf : ∀ j, w4.frozen? ⟨w.heap.size, j, none⟩ = false := fun j => by rw [pf_]; first | (go_simp; done) | (apply_assumption)
      clear pc_ pf_
      obtain ⟨qc_, qf_⟩ := Stab.own_cell hk4 (w.heap.size + 1) (by first | (simp; done) | (simp; omega) | omega | (apply Stab.cell_lt (a := ⟨w.heap.size + 1, 0, none⟩); assumption))
      have q0 : w4.cell? ⟨w.heap.size + 1, 0, none⟩ = some (.bool false) := by rw [qc_]; first | assumption | (go_simp; done)
      have qf : ∀ j, w4.frozen? ⟨w.heap.size + 1, j, none⟩ = false := fun j => by rw [qf_]; first | (go_simp; done) | (apply_assumption)
      clear qc_ qf_
      have hl3 := Stab.cell_lt n0
      simp only at hl3
      have hkf : Stab.Keeps w w4 := Stab.Keeps.trans hkp (Stab.Keeps.trans hk13 hk4)
      clear m0 m1 m2 m3 mf n0 nf hmf
      go_wp2_with fail
      refine leaves_cons (f := 14) (args := #[.pointer (some ⟨w.heap.size, 0, none⟩), .pointer (some ⟨w.heap.size + 1, 0, none⟩)]) (by simp) (by simp [go_sem]) ?_
      refine (catch_ring _ _ _).mono ?_
      rintro e u' w'' ⟨rfl, rfl, rfl⟩
      rw [← hxs] at hxl hS4
      subst hxl
      refine ⟨.tuple #[.agg #[.int .i64 2, .int .i64 0, .slice a4 (ringG ts ++ (ringG ts).take 2).length c4, .slice none 0 0], .bool true], by simp [results, Try.results6, go_sem, *], a4, c4, rfl, ?_, ?_⟩
      · repeat (first | (with_reducible exact Stab.Keeps.refl _) | (with_reducible assumption) | (with_reducible refine Stab.Keeps.alloc ?_ _) | (with_reducible refine Stab.Keeps.drew ?_) | (with_reducible refine Stab.Keeps.drewN ?_ _) | ((with_reducible refine Stab.Keeps.setCell ?_ ?_ _); focus (first | (simp; done) | (simp; omega))) | (with_reducible refine Stab.Keeps.trans ?_ (by with_reducible assumption)))
      · refine ⟨hS4.len, hS4.le, hS4.max, hS4.nil, fun x hx => ?_⟩
        obtain ⟨b, off, e, hb, hc⟩ := hS4.at_ x hx
        have hfr := hfr4 x hx
        subst e
        simp at hfr
        refine ⟨b, off, rfl, by simpa using hb, fun j u hu => ?_⟩
        rw [World.cell?_setCell_other _ _ _ _ (fun he => by injection he with he; omega), World.cell?_setCell_other _ _ _ _ (fun he => by injection he with he; omega), World.cell?_setCell_other _ _ _ _ (fun he => by injection he with he; omega), World.cell?_setCell_other _ _ _ _ (fun he => by injection he with he; omega), World.cell?_setCell_other _ _ _ _ (fun he => by injection he with he; omega)]
        exact hc j u hu
end Go.Proofs.Ytcepbpjdcfkgcaa
