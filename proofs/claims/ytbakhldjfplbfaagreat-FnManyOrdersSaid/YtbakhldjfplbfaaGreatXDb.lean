/-
  The reader of binary forms: polygons. No condition.
  The reader of binary forms: a geometry within another one. No condition.
  The reader of binary forms: multis and collections. No condition.
  The reader of binary forms: a geometry of any kind. No condition.
  The reader of binary forms: what is written of a geometry is read as that. No condition.
-/
import Derived.Test.YtbakhldjfplbfaaGreatXDa
import Derived.Test.YtbakhldjfplbfaaGreatXR3
import Derived.Test.YtbakhldjfplbfaaGreatXR5
import Derived.Test.YtbakhldjfplbfaaGreatXK
set_option linter.unusedVariables false
set_option linter.unusedSimpArgs false
namespace Go.Kf
open Go.RowKit Go.Sl Go.Ch
variable {α : Type} {R : World → (Nat → Prop) → List Value → α → Prop} {w wr w4 : World} {F G : Nat → Prop} {fb n k kc : Nat} {css : List (List Value)} {ys : List α}
/-- another block has changed -/
theorem Fill.kfk (S : Stable R) (h : Fill w wr F R fb n k kc css ys) (hk0 : Stab.Keeps w w4) (hk : KF G wr w4) (hfb : G fb) (hF : ∀ b, F b → G b) : Fill w w4 F R fb n k kc css ys := by
  have hb := hk.block fb h.lt hfb
  refine ⟨hk0, ⟨fun j hj => ?_, fun j => ?_⟩, fun j u hj hu => ?_, h.lc, h.each, fun i h1 h2 => S.kf (h.is i h1 h2) (hk.mono hF), Nat.lt_of_lt_of_le h.lt hk.size, h.ge, h.nin⟩
  · obtain ⟨u, hu⟩ := h.room.cell j hj
    exact ⟨u, by rw [World.cell?_of_block (a := ⟨fb, j, none⟩) hb]; exact hu⟩
  · rw [World.frozen?_of_block (a := ⟨fb, j, none⟩) hb]; exact h.room.free j
  · rw [World.cell?_of_block (a := ⟨fb, j, none⟩) hb]; exact h.filled j u hj hu
end Go.Kf
namespace Go.Proofs.YtbakhldjfplbfaaGreat
open Go.RowKit Go.Fl Go.Sl Go.Pg Go.Ch Go.Kf Go.By
theorem no_mono {n m b : Nat} (h : m ≤ n) (hb : orNew no n b) : orNew no m b := hb.elim .inl (fun h' => .inr (Nat.le_trans h h'))
theorem run_makeU {P : Program} (t e : TypeId) (z : Value) (size bytes n : Nat) (ht : P.underlying t = some (.slice e)) (hi : (P.info? e).map (fun i => (i.zero, i.size, i.bytes)) = some (some z, size, bytes)) (hb : (bytes : Int) * n ≤ 281474976710656) (hn : n ≤ 9223372036854775807) (w : World) :
    (Instr.makeSlice t (.int .u32 n) (.int .u32 n)).run P w = .ok (.slice (some ⟨w.heap.size, 0, none⟩) n n) (w.alloc (.cells (madeCells z.cells (n * size)) e)) := by
  obtain ⟨i0, h0, h1, h2, h3⟩ := info_parts hi
  have := run_make (P := P) w t e i0 z ht h0 h1 .u32 .u32 n n (by omega) (Int.le_refl _) (by rw [h3]; exact hb) (by omega)
  rw [h2] at this
  simpa using this
theorem whole_some (k d : Nat) (hd : d < 4) {l : List Pg} (h0 : 0 < l.length) (h1 : ∀ c ∈ l, c.dim = d) (h3 : ∀ c ∈ l, PgMade c) : wholeP k 0 l = .node k d [] l := by
  rw [← wholeP_id k d hd h1 h3]
  unfold wholeP
  cases l with
  | nil => simp at h0
  | cons c l => simp
theorem whole_zero (R : World → (Nat → Prop) → List Value → Pg → Prop) (k kc : Nat) (w : World) : WholeR k R kc w no [.slice none 0 0, .int .u8 0] (.node k 0 [] []) := ⟨0, none, 0, 0, [], [], rfl, rfl, by omega, by omega, Go.Kf.Rows.nil _ _ _ _, fun c hc => by simp at hc⟩
theorem PW.put2 {w0 w wk : World} {pb b : Nat} {bs : List Nat} {big : Bool} {T : TypeId} {a0 a1 : Value} (h : PW w0 pb w wk bs big) (hA : Blk wk b T [a0, a1]) (hp : pb < w.heap.size) (hb : w.heap.size ≤ b) (v0 v1 : Value) :
    PW w0 pb w ((wk.setCell ⟨b, 0, none⟩ v0).setCell ⟨b, 1, none⟩ v1) bs big ∧ Blk ((wk.setCell ⟨b, 0, none⟩ v0).setCell ⟨b, 1, none⟩ v1) b T [v0, v1] :=
  ⟨(h.put hp hb).put hp hb, (hA.set 0 v0).set 1 v1⟩
theorem KF.put2 (F : Nat → Prop) (wk : World) {b : Nat} (hb : ¬ F b) (v0 v1 : Value) : KF F wk ((wk.setCell ⟨b, 0, none⟩ v0).setCell ⟨b, 1, none⟩ v1) := KF.set hb (KF.set hb (KF.refl _ _))
set_option maxRecDepth 100000 in
set_option maxHeartbeats 8000000 in
theorem parsePy_ (w0 : World) (pb d : Nat) (kids : List Pg) (r : List Nat) (big : Bool) (w : World) (hd : d < 4) (hm : kids.length ≤ 200000) (hdim : ∀ c ∈ kids, c.dim = d) (hmade : ∀ c ∈ kids, PgMade c)
    (hKid : ∀ c ∈ kids, c.kind = 2 ∧ (∀ p ∈ c.ps, PlB p) ∧ c.ps.length ≤ 200000)
    (h : PS w0 pb w (encB big 4 kids.length ++ (kids.flatMap (ringE big) ++ r)) big) :
    Calls Tryz.prog 212 #[.pointer (some ⟨pb, 0, none⟩), .int .u8 d] w (GPost w0 pb w r big PyR (.node 3 d [] kids)) := by
  obtain ⟨n, hn⟩ : ∃ n, kids.length = n := ⟨_, rfl⟩
  rw [hn] at h hm
  have hpl : pb < w.heap.size := by obtain ⟨_, ⟨_, _, _, hB, _⟩, _⟩ := h; exact hB.lt
  have hge := h.ge
  have hnb : n < 4294967296 := by omega
  obtain ⟨w1, hw1⟩ : ∃ w1, w1 = w.alloc (.cells #[.slice none 0 0, .int .u8 0] 121) := ⟨_, rfl⟩
  have hk1 : Stab.Keeps w w1 := by rw [hw1]; with_reducible (repeat first | exact Kx.r _ | assumption | refine Kx.a ?_ _ | refine Kx.d ?_ | refine Kx.e ?_ _ | refine Kx.s (by simp <;> omega) ?_ _ | refine Kx.t ?_ (by assumption))
  have hA : Blk w1 w.heap.size 121 [.slice none 0 0, .int .u8 0] := by rw [hw1]; with_reducible (repeat first | assumption | (refine Bx.n ⟨?_, ?_⟩ <;> focus (first | rfl | (simp; done) | omega)) | refine Bx.a ?_ _ | refine Bx.d ?_ | refine Bx.e ?_ _ | refine Bx.p (by first | omega | simp <;> omega) ?_)
  have hP : PW w0 pb w w1 _ big := PW.keeps ⟨h, KF.refl _ _⟩ hk1
  have hls : w.heap.size < w1.heap.size := hA.lt
  have HW := Lib.hid hw1
  have HN := Lib.hid hn
  have HDIM := Lib.hid hdim
  have HMADE := Lib.hid hmade
  have HKID := Lib.hid hKid
  clear h hk1 hw1 hn hdim hmade hKid
  go_enter Tryz.func212, Tryz.ntmps212
  go_wp2_with fail
  rw [← HW.out]
  refine (parseUint32_ w0 pb n _ big _ hnb hP.ps).mono ?_
  rintro e w2 ⟨rfl, hs, hk⟩
  replace hP := hP.read hs hk
  replace hA := blk_kf hA (show w.heap.size ≠ pb by omega) hk
  replace hls := Nat.lt_of_lt_of_le hls hk.size
  clear hs hk HW
  have HP := Lib.hid hP
  have HA := Lib.hid hA
  clear hP hA
  rcases Nat.eq_zero_or_pos n with hz | hpos
  · subst hz
    obtain rfl : kids = [] := List.eq_nil_of_length_eq_zero HN.out
    have hne : (((0 : Nat) : Int) == 0) = true := rfl
    go_wp2_with fail
    refine (forcePy_ d hd _ (.node 3 0 [] []) _ (whole_zero LsR 3 2 _)).mono ?_
    rintro e w3 ⟨cs, rfl, hk3, hx⟩
    obtain ⟨a, m, c, dd, rfl⟩ := hx.two
    have hP := HP.out.keeps hk3
    have hA := HA.out.keep hk3
    have hsz := hk3.size
    clear HP HA
    have a0 := hA.cell (i := 0) rfl
    have a1 := hA.cell (i := 1) rfl
    have af := hA.free
    have al := hA.lt
    obtain ⟨hP3, hA3⟩ := PW.put2 hP hA hpl (Nat.le_refl _) (.slice a m c) (.int .u8 dd)
    have hx3 := pyS.mono (G := orNew no (w.heap.size + 1)) hx (fun b _ hb => no_mono (by omega) hb)
    have hx4 := pyS.kf hx3 (KF.put2 (orNew no (w.heap.size + 1)) w3 (b := w.heap.size) (by simp [orNew, no]) (.slice a m c) (.int .u8 dd))
    have HP := Lib.hid hP3
    have HA := Lib.hid hA3
    have HX := Lib.hid hx4
    clear hP hA hx hx3 hx4 hP3 hA3 hk3
    go_wp2_with fail
    generalize (w3.setCell ⟨w.heap.size, 0, none⟩ (.slice a m c)).setCell ⟨w.heap.size, 1, none⟩ (.int .u8 dd) = w4 at *
    clear a0 a1 af al
    have hA := HA.out
    have a0 := hA.cell (i := 0) rfl
    have a1 := hA.cell (i := 1) rfl
    have af := hA.free
    have al := hA.lt
    refine bodyPost_ret (v := .tuple #[.agg #[.slice a m c, .int .u8 dd], .nilIface]) (by simp [results, Tryz.results212, go_sem, a0, a1, af]) rfl ⟨_, rfl, ?_, HP.out.kf, pyS.mono HX.out (fun b _ hb => no_mono (by omega) hb)⟩
    have := HP.out.ps
    simpa  using this
  · have hne : ((n : Int) == 0) = false := by simp; omega
    have hmk := fun w => run_makeU (P := Tryz.prog) 119 99 _ 2 32 n Tryz.underlying119 infoLs (by omega) (by omega) w
    go_wp2_with fail
    have hkm : Stab.Keeps w2 (w2.alloc (.cells (madeCells (#[.int .u8 0, .slice none 0 0]) (n * 2)) 99)) := by with_reducible (repeat first | exact Kx.r _ | assumption | refine Kx.a ?_ _ | refine Kx.d ?_ | refine Kx.e ?_ _ | refine Kx.s (by simp <;> omega) ?_ _ | refine Kx.t ?_ (by assumption))
    have hP := HP.out.keeps hkm
    have hA := HA.out.keep hkm
    have hFl := Fill.start w0 w2 (orNew no (w2.heap.size + 1)) LsR n 2 (madeCells (#[.int .u8 0, .slice none 0 0]) (n * 2)) 99 kids HP.out.ps.keep (size_madeCells _ _) (by simp [orNew, no])
    generalize (w2.alloc (.cells (madeCells (#[.int .u8 0, .slice none 0 0]) (n * 2)) 99)) = w3 at *
    generalize w2.heap.size = fb at *
    clear HP HA hkm hmk
    go_loopw [28] (fun iv wr => ∃ (k : Nat) (ok : List Bool) (cs' : List (List Value)), k ≤ n ∧ iv = .int .i64 k ∧ PW w0 pb w wr ((kids.drop k).flatMap (ringE big) ++ r) big ∧ Blk wr w.heap.size 121 [.slice none 0 0, .int .u8 0] ∧ Fill w0 wr (orNew no (fb + 1)) LsR fb n k 2 cs' kids) (fun iv _ => n - (intOf iv).toNat)
    case atStart => exact ⟨0, [], [], by omega, rfl, hP, hA, hFl⟩
    case round =>
      clear hP hA hFl
      obtain ⟨k, ok, cs', hk, rfl, hP, hA, hFl⟩ := hrel
      by_cases hlt : k < n
      · have hkk : k < kids.length := by have := HN.out; omega
        have hmem := List.getElem_mem hkk
        rw [List.drop_eq_getElem_cons hkk, List.flatMap_cons, List.append_assoc] at hP
        have hfl := hFl.lt
        obtain ⟨hk2, hB2, hl2⟩ := HKID.out _ hmem
        have hm2 := HMADE.out _ hmem
        have hd2 := HDIM.out _ hmem
        obtain ⟨l, hkd, hnl⟩ : ∃ l, kids[k] = .node 2 d l [] ∧ ∀ q ∈ l, q.norm d := by
          generalize kids[k] = c at *
          cases hm2 with
          | pt => simp [Pg.kind] at hk2
          | ls d1 l h1 h2 => simp only [Pg.dim] at hd2; subst hd2; exact ⟨l, rfl, h2⟩
          | wh k1 d1 kk h1 h2 h3 => simp only [Pg.kind] at hk2; exact absurd hk2 h3
        have hBl : ∀ p ∈ l, PlB p := by rw [hkd] at hB2; exact hB2
        have hll : l.length ≤ 200000 := by rw [hkd] at hl2; exact hl2
        have hP' : PW w0 pb w wr (seqE big d l ++ ((kids.drop (k + 1)).flatMap (ringE big) ++ r)) big := by rw [hkd] at hP; exact hP
        have hC := parseLs_ w0 pb d l _ big wr hd hnl hBl hll hP'.ps
        clear hP hm2 hk2 hB2 hl2 hd2 hBl hll hnl
        go_wp2_with fail
        refine hC.mono ?_
        clear hC
        rintro e w4 ⟨cs4, rfl, hs, hkf, hx4⟩
        obtain ⟨dz, az, nz, cz, rfl⟩ := hx4.two
        replace hP := hP'.read hs hkf
        replace hA := blk_kf hA (show w.heap.size ≠ pb by omega) hkf
        have hFl4 := hFl.kfk lsS hs.keep hkf (show fb ≠ pb by omega) (fun b hb => by rcases hb with hb | hb; exact hb.elim; omega)
        have hx5 := lsS.mono (G := orNew no (fb + 1)) hx4 (fun b _ hb => no_mono (by omega) hb)
        rw [← hkd] at hx5
        have hFl5 := hFl4.put2 lsS hlt hkk hx5
        obtain ⟨x0, r0⟩ := hFl4.room.cell (k * 2) (by omega)
        obtain ⟨x1, r1⟩ := hFl4.room.cell (k * 2 + 1) (by omega)
        have rf := hFl4.room.free
        have hl4 := hFl4.lt
        have hP5 := (hP.put (i := k * 2) (u := .int .u8 dz) hpl (show w.heap.size ≤ fb by omega)).put (i := k * 2 + 1) (u := .slice az nz cz) hpl (show w.heap.size ≤ fb by omega)
        have hA5 := (hA.past (a := ⟨fb, k * 2, none⟩) (show w.heap.size ≠ fb by omega) (.int .u8 dz)).past (a := ⟨fb, k * 2 + 1, none⟩) (show w.heap.size ≠ fb by omega) (.slice az nz cz)
        have HP := Lib.hid hP5
        have HA := Lib.hid hA5
        have HF := Lib.hid hFl5
        clear hP hP' hA hFl hFl4 hx4 hx5 hs hkf hFl5 hP5 hA5
        go_wp2_with fail
        exact ⟨⟨k + 1, [], _, by omega, by go_num, HP.out, HA.out, HF.out⟩, by simp [intOf]; omega⟩
      · obtain rfl : n = k := by omega
        rw [List.drop_eq_nil_of_le (by have := HN.out; omega)] at hP
        have hR := hFl.rows (G := orNew no fb) lsS HN.out (by unfold maxLen; omega) (fun b _ hb => no_mono (by omega) hb) (.inr (Nat.le_refl _))
        have hNew := newPyA_ (some ⟨fb, 0, none⟩) n n cs' kids wr (by omega) (by omega) hR
        have HP := Lib.hid hP
        have HA := Lib.hid hA
        have hfl := hFl.lt
        clear hFl hR hP hA
        go_wp2_with fail
        refine hNew.mono ?_
        rintro e w5 ⟨cs, rfl, hk5, hx⟩
        rw [whole_some 3 d hd (by rw [HN.out]; omega) HDIM.out HMADE.out] at hx
        obtain ⟨a, m, c, dd, rfl⟩ := hx.two
        have hP := HP.out.keeps hk5
        have hA := HA.out.keep hk5
        have hsz := hk5.size
        clear HP HA hNew
        have a0 := hA.cell (i := 0) rfl
        have a1 := hA.cell (i := 1) rfl
        have af := hA.free
        have al := hA.lt
        obtain ⟨hP3, hA3⟩ := PW.put2 hP hA hpl (Nat.le_refl _) (.slice a m c) (.int .u8 dd)
        have hx3 := pyS.mono (G := orNew no (w.heap.size + 1)) hx (fun b _ hb => hb.elim (no_mono (by omega)) (fun h => .inr (by omega)))
        have hx4 := pyS.kf hx3 (KF.put2 (orNew no (w.heap.size + 1)) w5 (b := w.heap.size) (by simp [orNew, no]) (.slice a m c) (.int .u8 dd))
        have HP := Lib.hid hP3
        have HA := Lib.hid hA3
        have HX := Lib.hid hx4
        clear hP hA hx hx3 hx4 hP3 hA3 hk5
        go_wp2_with fail
        generalize (w5.setCell ⟨w.heap.size, 0, none⟩ (.slice a m c)).setCell ⟨w.heap.size, 1, none⟩ (.int .u8 dd) = w6 at *
        clear a0 a1 af al
        have hA := HA.out
        have a0 := hA.cell (i := 0) rfl
        have a1 := hA.cell (i := 1) rfl
        have af := hA.free
        have al := hA.lt
        refine bodyPost_ret (v := .tuple #[.agg #[.slice a m c, .int .u8 dd], .nilIface]) (by simp [results, Tryz.results212, go_sem, a0, a1, af]) rfl ⟨_, rfl, ?_, HP.out.kf, pyS.mono HX.out (fun b _ hb => no_mono (by omega) hb)⟩
        have := HP.out.ps
        simpa  using this
end Go.Proofs.YtbakhldjfplbfaaGreat
set_option linter.unusedVariables false
set_option linter.unusedSimpArgs false
namespace Go.Proofs.YtbakhldjfplbfaaGreat
open Go.RowKit Go.Fl Go.Sl Go.Pg Go.Ch Go.Kf Go.By
theorem kindPt_ (k : Int) (T : TypeId) (b : Nat) (w : World) : Calls Tryz.prog 128 #[.agg #[.int .i64 k, .iface T (.pointer (some ⟨b, 0, none⟩))]] w (One w (.bool (k == 1))) := by
  go_enter Tryz.func128, Tryz.ntmps128
  go_wp2
  go_ret
  exact ⟨rfl, by with_reducible (repeat first | exact Kx.r _ | assumption | refine Kx.a ?_ _ | refine Kx.d ?_ | refine Kx.e ?_ _ | refine Kx.s (by simp <;> omega) ?_ _ | refine Kx.t ?_ (by assumption))⟩
theorem kindLs_ (k : Int) (T : TypeId) (b : Nat) (w : World) : Calls Tryz.prog 124 #[.agg #[.int .i64 k, .iface T (.pointer (some ⟨b, 0, none⟩))]] w (One w (.bool (k == 2))) := by
  go_enter Tryz.func124, Tryz.ntmps124
  go_wp2
  go_ret
  exact ⟨rfl, by with_reducible (repeat first | exact Kx.r _ | assumption | refine Kx.a ?_ _ | refine Kx.d ?_ | refine Kx.e ?_ _ | refine Kx.s (by simp <;> omega) ?_ _ | refine Kx.t ?_ (by assumption))⟩
theorem kindPy_ (k : Int) (T : TypeId) (b : Nat) (w : World) : Calls Tryz.prog 130 #[.agg #[.int .i64 k, .iface T (.pointer (some ⟨b, 0, none⟩))]] w (One w (.bool (k == 3))) := by
  go_enter Tryz.func130, Tryz.ntmps130
  go_wp2
  go_ret
  exact ⟨rfl, by with_reducible (repeat first | exact Kx.r _ | assumption | refine Kx.a ?_ _ | refine Kx.d ?_ | refine Kx.e ?_ _ | refine Kx.s (by simp <;> omega) ?_ _ | refine Kx.t ?_ (by assumption))⟩
/-- what is written of p is read as p -/
def RunOk (p : Pg) : Prop := ∀ (o : List Bool) (r : List Nat) (w0 : World) (pb : Nat) (big : Bool) (w : World), PS w0 pb w ((wkbO o p).1 ++ r) big →
    Calls Tryz.prog 136 #[.pointer (some ⟨pb, 0, none⟩)] w (GPost w0 pb w r (o.headD false) GeoR p)
set_option maxRecDepth 100000 in
set_option maxHeartbeats 4000000 in
theorem inner_ (p : Pg) (hR : RunOk p) (o : List Bool) (r : List Nat) (w0 : World) (pb : Nat) (big : Bool) (w : World) (h : PS w0 pb w ((wkbO o p).1 ++ r) big) :
    Calls Tryz.prog 226 #[.pointer (some ⟨pb, 0, none⟩)] w (GPost w0 pb w r big GeoR p) := by
  obtain ⟨hk0, ⟨a, n, c, hB, hO⟩, hge⟩ := h
  have hpl := hB.lt
  have hk2 : Stab.Keeps w ((w.alloc (.cells #[.int .i64 0, .nilIface] 78)).alloc (.cells #[.slice a n c, .int .u8 0, .bool false] 183)) := by with_reducible (repeat first | exact Kx.r _ | assumption | refine Kx.a ?_ _ | refine Kx.d ?_ | refine Kx.e ?_ _ | refine Kx.s (by simp <;> omega) ?_ _ | refine Kx.t ?_ (by assumption))
  have hG : Blk ((w.alloc (.cells #[.int .i64 0, .nilIface] 78)).alloc (.cells #[.slice a n c, .int .u8 0, .bool false] 183)) w.heap.size 78 [.int .i64 0, .nilIface] := by with_reducible (repeat first | assumption | (refine Bx.n ⟨?_, ?_⟩ <;> focus (first | rfl | (simp; done) | omega)) | refine Bx.a ?_ _ | refine Bx.d ?_ | refine Bx.e ?_ _ | refine Bx.p (by first | omega | simp <;> omega) ?_)
  have hI : Blk ((w.alloc (.cells #[.int .i64 0, .nilIface] 78)).alloc (.cells #[.slice a n c, .int .u8 0, .bool false] 183)) (w.heap.size + 1) 183 [.slice a n c, .int .u8 0, .bool false] := by with_reducible (repeat first | assumption | (refine Bx.n ⟨?_, ?_⟩ <;> focus (first | rfl | (simp; done) | omega)) | refine Bx.a ?_ _ | refine Bx.d ?_ | refine Bx.e ?_ _ | refine Bx.p (by first | omega | simp <;> omega) ?_)
  have hB2 := hB.keep hk2
  have hRun := hR o r w0 (w.heap.size + 1) true _ ⟨Stab.Keeps.trans hk0 hk2, ⟨a, n, c, hI, hO⟩, by have := hk0.size; omega⟩
  have hsz : ((w.alloc (.cells #[.int .i64 0, .nilIface] 78)).alloc (.cells #[.slice a n c, .int .u8 0, .bool false] 183)).heap.size = w.heap.size + 2 := by simp
  have m0 := hB.cell (i := 0) rfl
  have m1 := hB.cell (i := 1) rfl
  have m2 := hB.cell (i := 2) rfl
  have mf := hB.free
  have ml := hB.lt
  have HK2 := Lib.hid hk2
  have HG := Lib.hid hG
  have HB := Lib.hid hB2
  have HSZ := Lib.hid hsz
  clear hI hR hk2 hG hB hB2 hsz hO
  go_enter Tryz.func226, Tryz.ntmps226
  go_upto_region 2 with (fail)
  generalize ((w.alloc (.cells #[.int .i64 0, .nilIface] 78)).alloc (.cells #[.slice a n c, .int .u8 0, .bool false] 183)) = w2 at *
  clear m0 m1 m2 mf ml
  go_wp2_with fail
  refine hRun.mono ?_
  clear hRun
  rintro e w3 ⟨cs, rfl, ⟨hs1, ⟨a3, n3, c3, hI3, hO3⟩, hs3⟩, hk3, hx3⟩
  obtain ⟨kq, tq, bq, rfl⟩ := hx3.two
  have hG3 := blk_kf HG.out (show w.heap.size ≠ w.heap.size + 1 by omega) hk3
  have hB3 := blk_kf HB.out (show pb ≠ w.heap.size + 1 by omega) hk3
  have hk4 : Stab.Keeps w3 (w3.alloc (.cells #[.int .i64 kq, .iface tq (.pointer (some ⟨bq, 0, none⟩))] 78)) := by with_reducible (repeat first | exact Kx.r _ | assumption | refine Kx.a ?_ _ | refine Kx.d ?_ | refine Kx.e ?_ _ | refine Kx.s (by simp <;> omega) ?_ _ | refine Kx.t ?_ (by assumption))
  have hQ : Blk (w3.alloc (.cells #[.int .i64 kq, .iface tq (.pointer (some ⟨bq, 0, none⟩))] 78)) w3.heap.size 78 [.int .i64 kq, .iface tq (.pointer (some ⟨bq, 0, none⟩))] := by with_reducible (repeat first | assumption | (refine Bx.n ⟨?_, ?_⟩ <;> focus (first | rfl | (simp; done) | omega)) | refine Bx.a ?_ _ | refine Bx.d ?_ | refine Bx.e ?_ _ | refine Bx.p (by first | omega | simp <;> omega) ?_)
  have hsz3 := hk3.size
  have HX := Lib.hid (geoS.kf hx3 (KF.keeps hk4))
  have HI := Lib.hid (hI3.keep hk4)
  have HG4 := Lib.hid (hG3.keep hk4)
  have HB4 := Lib.hid (hB3.keep hk4)
  have HQ := Lib.hid hQ
  have HK4 := Lib.hid (Stab.Keeps.trans hs1 hk4)
  have HKF := Lib.hid (hk3.trans (KF.keeps hk4))
  have HO := Lib.hid hO3
  have hsz4 := hk4.size
  clear hx3 hI3 hG3 hB3 hQ hs1 hk3 hk4 HG HB hO3
  go_upto_region 3 with (fail)
  generalize (w3.alloc (.cells #[.int .i64 kq, .iface tq (.pointer (some ⟨bq, 0, none⟩))] 78)) = w4 at *
  have hqs : w.heap.size + 2 ≤ w3.heap.size := by have := HSZ.out; omega
  generalize w3.heap.size = qb at *
  have hI := HI.out
  have hB := HB4.out
  have m0 := hI.cell (i := 0) rfl
  have m1 := hI.cell (i := 1) rfl
  have m2 := hI.cell (i := 2) rfl
  have mf := hI.free
  have ml := hI.lt
  have p0 := hB.cell (i := 0) rfl
  have p1 := hB.cell (i := 1) rfl
  have p2 := hB.cell (i := 2) rfl
  have pf := hB.free
  have pl := hB.lt
  go_upto_region 6 with (fail)
  clear m0 m1 m2 mf ml p0 p1 p2 pf pl
  have hB5 := hB.set 0 (.slice a3 n3 c3)
  simp only [List.set] at hB5
  have hG5 := HG4.out.past (a := ⟨pb, 0, none⟩) (show w.heap.size ≠ pb by omega) (.slice a3 n3 c3)
  have hQ5 := HQ.out.past (a := ⟨pb, 0, none⟩) (show qb ≠ pb by omega) (.slice a3 n3 c3)
  generalize hw5 : w4.setCell ⟨pb, 0, none⟩ (.slice a3 n3 c3) = w5 at *
  have HB5 := Lib.hid hB5
  have HG5 := Lib.hid hG5
  have HW5 := Lib.hid hw5
  have q0 := hQ5.cell (i := 0) rfl
  have q1 := hQ5.cell (i := 1) rfl
  have qf := hQ5.free
  have ql := hQ5.lt
  have g0 := hG5.cell (i := 0) rfl
  have g1 := hG5.cell (i := 1) rfl
  have gf := hG5.free
  have gl := hG5.lt
  clear hI hB hB5 hG5 hQ5 hw5 HI
  go_wp2_with fail
  clear q0 q1 qf ql g0 g1 gf gl
  have hG6 := (HG5.out.set 0 (.int .i64 kq)).set 1 (.iface tq (.pointer (some ⟨bq, 0, none⟩)))
  simp only [List.set] at hG6
  have hB6 := (HB5.out.past (a := ⟨w.heap.size, 0, none⟩) (show pb ≠ w.heap.size by omega) (.int .i64 kq)).past (a := ⟨w.heap.size, 1, none⟩) (show pb ≠ w.heap.size by omega) (.iface tq (.pointer (some ⟨bq, 0, none⟩)))
  have hK6 : Stab.Keeps w0 ((w5.setCell ⟨w.heap.size, 0, none⟩ (.int .i64 kq)).setCell ⟨w.heap.size, 1, none⟩ (.iface tq (.pointer (some ⟨bq, 0, none⟩)))) := by
    rw [← HW5.out]
    exact Stab.Keeps.setCell (by show w0.heap.size ≤ w.heap.size; omega) (Stab.Keeps.setCell (by show w0.heap.size ≤ w.heap.size; omega) (Stab.Keeps.setCell hge HK4.out _) _) _
  have hF6 : ∀ (F : Nat → Prop), (¬ F pb) → (¬ F w.heap.size) → KF F w4 ((w5.setCell ⟨w.heap.size, 0, none⟩ (.int .i64 kq)).setCell ⟨w.heap.size, 1, none⟩ (.iface tq (.pointer (some ⟨bq, 0, none⟩)))) := fun F h1 h2 => by
    rw [← HW5.out]
    exact KF.set h2 (KF.set h2 (KF.set h1 (KF.refl _ _)))
  generalize (w5.setCell ⟨w.heap.size, 0, none⟩ (.int .i64 kq)).setCell ⟨w.heap.size, 1, none⟩ (.iface tq (.pointer (some ⟨bq, 0, none⟩))) = w6 at *
  have g0 := hG6.cell (i := 0) rfl
  have g1 := hG6.cell (i := 1) rfl
  have gf := hG6.free
  have gl := hG6.lt
  refine bodyPost_ret (v := .tuple #[.agg #[.int .i64 kq, .iface tq (.pointer (some ⟨bq, 0, none⟩))], .nilIface]) (by simp [results, Tryz.results226, go_sem, g0, g1, gf]) rfl ⟨_, rfl, ⟨hK6, ⟨a3, n3, c3, hB6, HO.out⟩, hge⟩, ?_, ?_⟩
  · have h1 := hF6 (fun b => b < w.heap.size ∧ b ≠ pb) (fun h => h.2 rfl) (fun h => by omega)
    have hsz6 := h1.size
    refine ⟨by have := HK2.out.size; have := HKF.out.size; omega, fun b hb hne => ?_⟩
    rw [h1.block b (by omega) ⟨hb, hne⟩, HKF.out.block b (by have := HK2.out.size; omega) (by omega)]
    exact HK2.out.block b hb
  · have h1 := hF6 (orNew no (w.heap.size + 2)) (by simp [orNew, no]; omega) (by simp [orNew, no])
    have hx := HX.out
    rw [HSZ.out] at hx
    exact geoS.mono (geoS.kf hx h1) (fun b _ hb => no_mono (by omega) hb)
end Go.Proofs.YtbakhldjfplbfaaGreat
set_option linter.unusedVariables false
set_option linter.unusedSimpArgs false
namespace Go.Proofs.YtbakhldjfplbfaaGreat
open Go.RowKit Go.Fl Go.Sl Go.Pg Go.Ch Go.Kf Go.By
theorem wkbOs_cons (o : List Bool) (c : Pg) (l : List Pg) : (wkbOs o (c :: l)).1 = (wkbO o c).1 ++ (wkbOs (wkbO o c).2 l).1 := by rw [wkbOs]
theorem geo_pt {w : World} {F : Nat → Prop} {cs : List Value} {c : Pg} (h : GeoR w F cs c) (hk : c.kind = 1) : ∃ b cs', cs = [.int .i64 1, .iface 204 (.pointer (some ⟨b, 0, none⟩))] ∧ F b ∧ Blk w b 141 cs' ∧ PtR w F cs' c := by
  cases h with
  | pt b cs p hF hB h => exact ⟨b, cs, rfl, hF, hB, h⟩
  | ls b cs p hF hB h => obtain ⟨_, _, _, _, _, _, rfl, _⟩ := h; cases hk
  | py b cs p hF hB h => obtain ⟨_, _, _, _, _, _, _, rfl, _⟩ := h; cases hk
  | mp b cs p hF hB h => obtain ⟨_, _, _, _, _, _, _, rfl, _⟩ := h; cases hk
  | ml b cs p hF hB h => obtain ⟨_, _, _, _, _, _, _, rfl, _⟩ := h; cases hk
  | my b cs p hF hB h => obtain ⟨_, _, _, _, _, _, _, rfl, _⟩ := h; cases hk
  | gc => cases hk
theorem geo_ls {w : World} {F : Nat → Prop} {cs : List Value} {c : Pg} (h : GeoR w F cs c) (hk : c.kind = 2) : ∃ b cs', cs = [.int .i64 2, .iface 190 (.pointer (some ⟨b, 0, none⟩))] ∧ F b ∧ Blk w b 99 cs' ∧ LsR w F cs' c := by
  cases h with
  | pt b cs p hF hB h => obtain ⟨_, _, _, rfl, _⟩ := h; cases hk
  | ls b cs p hF hB h => exact ⟨b, cs, rfl, hF, hB, h⟩
  | py b cs p hF hB h => obtain ⟨_, _, _, _, _, _, _, rfl, _⟩ := h; cases hk
  | mp b cs p hF hB h => obtain ⟨_, _, _, _, _, _, _, rfl, _⟩ := h; cases hk
  | ml b cs p hF hB h => obtain ⟨_, _, _, _, _, _, _, rfl, _⟩ := h; cases hk
  | my b cs p hF hB h => obtain ⟨_, _, _, _, _, _, _, rfl, _⟩ := h; cases hk
  | gc => cases hk
theorem geo_py {w : World} {F : Nat → Prop} {cs : List Value} {c : Pg} (h : GeoR w F cs c) (hk : c.kind = 3) : ∃ b cs', cs = [.int .i64 3, .iface 191 (.pointer (some ⟨b, 0, none⟩))] ∧ F b ∧ Blk w b 121 cs' ∧ PyR w F cs' c := by
  cases h with
  | pt b cs p hF hB h => obtain ⟨_, _, _, rfl, _⟩ := h; cases hk
  | ls b cs p hF hB h => obtain ⟨_, _, _, _, _, _, rfl, _⟩ := h; cases hk
  | py b cs p hF hB h => exact ⟨b, cs, rfl, hF, hB, h⟩
  | mp b cs p hF hB h => obtain ⟨_, _, _, _, _, _, _, rfl, _⟩ := h; cases hk
  | ml b cs p hF hB h => obtain ⟨_, _, _, _, _, _, _, rfl, _⟩ := h; cases hk
  | my b cs p hF hB h => obtain ⟨_, _, _, _, _, _, _, rfl, _⟩ := h; cases hk
  | gc => cases hk
set_option maxRecDepth 100000 in
set_option maxHeartbeats 8000000 in
theorem parseMp_ (w0 : World) (pb d : Nat) (kids : List Pg) (o : List Bool) (r : List Nat) (big : Bool) (w : World) (hd : d < 4) (hm : kids.length ≤ 200000) (hdim : ∀ c ∈ kids, c.dim = d) (hmade : ∀ c ∈ kids, PgMade c)
    (hKid : ∀ c ∈ kids, c.kind = 1 ∧ RunOk c)
    (h : PS w0 pb w (encB big 4 kids.length ++ ((wkbOs o kids).1 ++ r)) big) :
    Calls Tryz.prog 213 #[.pointer (some ⟨pb, 0, none⟩), .int .u8 d] w (GPost w0 pb w r big MpR (.node 4 d [] kids)) := by
  obtain ⟨n, hn⟩ : ∃ n, kids.length = n := ⟨_, rfl⟩
  rw [hn] at h hm
  have hpl : pb < w.heap.size := by obtain ⟨_, ⟨_, _, _, hB, _⟩, _⟩ := h; exact hB.lt
  have hge := h.ge
  have hnb : n < 4294967296 := by omega
  obtain ⟨w1, hw1⟩ : ∃ w1, w1 = w.alloc (.cells #[.slice none 0 0, .int .u8 0] 126) := ⟨_, rfl⟩
  have hk1 : Stab.Keeps w w1 := by rw [hw1]; with_reducible (repeat first | exact Kx.r _ | assumption | refine Kx.a ?_ _ | refine Kx.d ?_ | refine Kx.e ?_ _ | refine Kx.s (by simp <;> omega) ?_ _ | refine Kx.t ?_ (by assumption))
  have hA : Blk w1 w.heap.size 126 [.slice none 0 0, .int .u8 0] := by rw [hw1]; with_reducible (repeat first | assumption | (refine Bx.n ⟨?_, ?_⟩ <;> focus (first | rfl | (simp; done) | omega)) | refine Bx.a ?_ _ | refine Bx.d ?_ | refine Bx.e ?_ _ | refine Bx.p (by first | omega | simp <;> omega) ?_)
  have hP : PW w0 pb w w1 _ big := PW.keeps ⟨h, KF.refl _ _⟩ hk1
  have hls : w.heap.size < w1.heap.size := hA.lt
  have HW := Lib.hid hw1
  have HN := Lib.hid hn
  have HDIM := Lib.hid hdim
  have HMADE := Lib.hid hmade
  have HKID := Lib.hid hKid
  clear h hk1 hw1 hn hdim hmade hKid
  go_enter Tryz.func213, Tryz.ntmps213
  go_wp2_with fail
  rw [← HW.out]
  refine (parseUint32_ w0 pb n _ big _ hnb hP.ps).mono ?_
  rintro e w2 ⟨rfl, hs, hk⟩
  replace hP := hP.read hs hk
  replace hA := blk_kf hA (show w.heap.size ≠ pb by omega) hk
  replace hls := Nat.lt_of_lt_of_le hls hk.size
  clear hs hk HW
  have HP := Lib.hid hP
  have HA := Lib.hid hA
  clear hP hA
  rcases Nat.eq_zero_or_pos n with hz | hpos
  · subst hz
    obtain rfl : kids = [] := List.eq_nil_of_length_eq_zero HN.out
    have hne : (((0 : Nat) : Int) == 0) = true := rfl
    go_wp2_with fail
    refine (forceMp_ d hd _ (.node 4 0 [] []) _ (whole_zero PtR 4 6 _)).mono ?_
    rintro e w3 ⟨cs, rfl, hk3, hx⟩
    obtain ⟨a, m, c, dd, rfl⟩ := hx.two
    have hP := HP.out.keeps hk3
    have hA := HA.out.keep hk3
    have hsz := hk3.size
    clear HP HA
    have a0 := hA.cell (i := 0) rfl
    have a1 := hA.cell (i := 1) rfl
    have af := hA.free
    have al := hA.lt
    obtain ⟨hP3, hA3⟩ := PW.put2 hP hA hpl (Nat.le_refl _) (.slice a m c) (.int .u8 dd)
    have hx3 := mpS.mono (G := orNew no (w.heap.size + 1)) hx (fun b _ hb => no_mono (by omega) hb)
    have hx4 := mpS.kf hx3 (KF.put2 (orNew no (w.heap.size + 1)) w3 (b := w.heap.size) (by simp [orNew, no]) (.slice a m c) (.int .u8 dd))
    have HP := Lib.hid hP3
    have HA := Lib.hid hA3
    have HX := Lib.hid hx4
    clear hP hA hx hx3 hx4 hP3 hA3 hk3
    go_wp2_with fail
    generalize (w3.setCell ⟨w.heap.size, 0, none⟩ (.slice a m c)).setCell ⟨w.heap.size, 1, none⟩ (.int .u8 dd) = w4 at *
    clear a0 a1 af al
    have hA := HA.out
    have a0 := hA.cell (i := 0) rfl
    have a1 := hA.cell (i := 1) rfl
    have af := hA.free
    have al := hA.lt
    refine bodyPost_ret (v := .tuple #[.agg #[.slice a m c, .int .u8 dd], .nilIface]) (by simp [results, Tryz.results213, go_sem, a0, a1, af]) rfl ⟨_, rfl, ?_, HP.out.kf, mpS.mono HX.out (fun b _ hb => no_mono (by omega) hb)⟩
    have := HP.out.ps
    simpa [wkbOs] using this
  · have hne : ((n : Int) == 0) = false := by simp; omega
    have hmk := fun w => run_makeU (P := Tryz.prog) 124 141 _ 6 48 n Tryz.underlying124 infoPt (by omega) (by omega) w
    go_wp2_with fail
    have hkm : Stab.Keeps w2 (w2.alloc (.cells (madeCells (#[.float .f64 0, .float .f64 0, .float .f64 0, .float .f64 0, .int .u8 0, .bool false]) (n * 6)) 141)) := by with_reducible (repeat first | exact Kx.r _ | assumption | refine Kx.a ?_ _ | refine Kx.d ?_ | refine Kx.e ?_ _ | refine Kx.s (by simp <;> omega) ?_ _ | refine Kx.t ?_ (by assumption))
    have hP := HP.out.keeps hkm
    have hA := HA.out.keep hkm
    have hFl := Fill.start w0 w2 (orNew no (w2.heap.size + 1)) PtR n 6 (madeCells (#[.float .f64 0, .float .f64 0, .float .f64 0, .float .f64 0, .int .u8 0, .bool false]) (n * 6)) 141 kids HP.out.ps.keep (size_madeCells _ _) (by simp [orNew, no])
    generalize (w2.alloc (.cells (madeCells (#[.float .f64 0, .float .f64 0, .float .f64 0, .float .f64 0, .int .u8 0, .bool false]) (n * 6)) 141)) = w3 at *
    generalize w2.heap.size = fb at *
    clear HP HA hkm hmk
    go_loopw [9] (fun iv wr => ∃ (k : Nat) (ok : List Bool) (cs' : List (List Value)), k ≤ n ∧ iv = .int .u32 k ∧ PW w0 pb w wr ((wkbOs ok (kids.drop k)).1 ++ r) big ∧ Blk wr w.heap.size 126 [.slice none 0 0, .int .u8 0] ∧ Fill w0 wr (orNew no (fb + 1)) PtR fb n k 6 cs' kids) (fun iv _ => n - (intOf iv).toNat)
    case atStart => exact ⟨0, o, [], by omega, rfl, hP, hA, hFl⟩
    case round =>
      clear hP hA hFl
      obtain ⟨k, ok, cs', hk, rfl, hP, hA, hFl⟩ := hrel
      by_cases hlt : k < n
      · have hkk : k < kids.length := by have := HN.out; omega
        have hmem := List.getElem_mem hkk
        rw [List.drop_eq_getElem_cons hkk, wkbOs_cons, List.append_assoc] at hP
        have hfl := hFl.lt
        obtain ⟨hk2, hrun⟩ := HKID.out _ hmem
        have hC := inner_ _ hrun ok _ w0 pb big wr hP.ps
        have HP := Lib.hid hP
        clear hP hrun
        go_wp2_with fail
        refine hC.mono ?_
        clear hC
        rintro e w4 ⟨cs4, rfl, hs, hkf, hx4⟩
        obtain ⟨bq, cs5, rfl, hbF, hbB, hx5⟩ := geo_pt hx4 hk2
        obtain ⟨xq, yq, zq, mq, dq, fq, rfl⟩ := hx5.six
        have hgk : Stab.Keeps w4 (w4.alloc (.cells #[.int .i64 1, .iface 204 (.pointer (some ⟨bq, 0, none⟩))] 78)) := by with_reducible (repeat first | exact Kx.r _ | assumption | refine Kx.a ?_ _ | refine Kx.d ?_ | refine Kx.e ?_ _ | refine Kx.s (by simp <;> omega) ?_ _ | refine Kx.t ?_ (by assumption))
        have hgB : Blk (w4.alloc (.cells #[.int .i64 1, .iface 204 (.pointer (some ⟨bq, 0, none⟩))] 78)) w4.heap.size 78 [.int .i64 1, .iface 204 (.pointer (some ⟨bq, 0, none⟩))] := by with_reducible (repeat first | assumption | (refine Bx.n ⟨?_, ?_⟩ <;> focus (first | rfl | (simp; done) | omega)) | refine Bx.a ?_ _ | refine Bx.d ?_ | refine Bx.e ?_ _ | refine Bx.p (by first | omega | simp <;> omega) ?_)
        have hP := (HP.out.read hs hkf).keeps hgk
        replace hA := (blk_kf hA (show w.heap.size ≠ pb by omega) hkf).keep hgk
        replace hFl := (hFl.kfk ptS hs.keep hkf (show fb ≠ pb by omega) (fun b hb => by rcases hb with hb | hb; exact hb.elim; omega)).keep ptS hgk
        have hbB5 := hbB.keep hgk
        have hx6 := ptS.kf (ptS.mono (G := orNew no (fb + 1)) hx5 (fun b _ hb => no_mono (by omega) hb)) (KF.keeps hgk)
        clear HP hs hkf hx4 hbB hbF hgk hx5
        go_upto_region 11 with (fail)
        generalize (w4.alloc (.cells #[.int .i64 1, .iface 204 (.pointer (some ⟨bq, 0, none⟩))] 78)) = w5 at *
        generalize w4.heap.size = gb at *
        have g0 := hgB.cell (i := 0) rfl
        have g1 := hgB.cell (i := 1) rfl
        have gf := hgB.free
        have gl := hgB.lt
        have HP := Lib.hid hP
        have HA := Lib.hid hA
        have HF := Lib.hid hFl
        clear hP hA hFl
        go_wp2_with fail
        refine (kindPt_ 1 _ bq _).mono ?_
        rintro e w6 ⟨rfl, hk6⟩
        replace HP := Lib.hid (HP.out.keeps hk6)
        replace HA := Lib.hid (HA.out.keep hk6)
        replace HF := Lib.hid (HF.out.keep ptS hk6)
        replace hgB := hgB.keep hk6
        replace hbB5 := hbB5.keep hk6
        replace hx6 := ptS.kf hx6 (KF.keeps hk6)
        clear g0 g1 gf gl hk6
        have g0 := hgB.cell (i := 0) rfl
        have g1 := hgB.cell (i := 1) rfl
        have gf := hgB.free
        have gl := hgB.lt
        go_wp2_with fail
        refine (mustPt_ xq yq zq mq dq fq bq _ hbB5).mono ?_
        rintro e w7 ⟨rfl, hk7⟩
        have hP := HP.out.keeps hk7
        have hA := HA.out.keep hk7
        have hFl := HF.out.keep ptS hk7
        replace hx6 := ptS.kf hx6 (KF.keeps hk7)
        clear g0 g1 gf gl hgB hbB5 hk7 HP HA HF
        have hFl5 := hFl.put6 ptS hlt hkk hx6
        obtain ⟨x0, r0⟩ := hFl.room.cell (k * 6) (by omega)
        obtain ⟨x1, r1⟩ := hFl.room.cell (k * 6 + 1) (by omega)
        obtain ⟨x2, r2⟩ := hFl.room.cell (k * 6 + 2) (by omega)
        obtain ⟨x3, r3⟩ := hFl.room.cell (k * 6 + 3) (by omega)
        obtain ⟨x4, r4⟩ := hFl.room.cell (k * 6 + 4) (by omega)
        obtain ⟨x5, r5⟩ := hFl.room.cell (k * 6 + 5) (by omega)
        have rf := hFl.room.free
        have hl4 := hFl.lt
        have hP5 := ((((((hP.put (i := k * 6) (u := .float .f64 xq) hpl (show w.heap.size ≤ fb by omega)).put (i := k * 6 + 1) (u := .float .f64 yq) hpl (show w.heap.size ≤ fb by omega)).put (i := k * 6 + 2) (u := .float .f64 zq) hpl (show w.heap.size ≤ fb by omega)).put (i := k * 6 + 3) (u := .float .f64 mq) hpl (show w.heap.size ≤ fb by omega)).put (i := k * 6 + 4) (u := .int .u8 dq) hpl (show w.heap.size ≤ fb by omega)).put (i := k * 6 + 5) (u := .bool fq) hpl (show w.heap.size ≤ fb by omega))
        have hA5 := ((((((hA.past (a := ⟨fb, k * 6, none⟩) (show w.heap.size ≠ fb by omega) (.float .f64 xq)).past (a := ⟨fb, k * 6 + 1, none⟩) (show w.heap.size ≠ fb by omega) (.float .f64 yq)).past (a := ⟨fb, k * 6 + 2, none⟩) (show w.heap.size ≠ fb by omega) (.float .f64 zq)).past (a := ⟨fb, k * 6 + 3, none⟩) (show w.heap.size ≠ fb by omega) (.float .f64 mq)).past (a := ⟨fb, k * 6 + 4, none⟩) (show w.heap.size ≠ fb by omega) (.int .u8 dq)).past (a := ⟨fb, k * 6 + 5, none⟩) (show w.heap.size ≠ fb by omega) (.bool fq))
        have HP := Lib.hid hP5
        have HA := Lib.hid hA5
        have HF := Lib.hid hFl5
        clear hP hA hFl hx6 hFl5 hP5 hA5
        go_wp2_with fail
        exact ⟨⟨k + 1, _, _, by omega, by go_num, HP.out, HA.out, HF.out⟩, by simp [intOf]; omega⟩
      · obtain rfl : n = k := by omega
        rw [List.drop_eq_nil_of_le (by have := HN.out; omega)] at hP
        have hR := hFl.rows (G := orNew no fb) ptS HN.out (by unfold maxLen; omega) (fun b _ hb => no_mono (by omega) hb) (.inr (Nat.le_refl _))
        have hNew := newMpA_ (some ⟨fb, 0, none⟩) n n cs' kids wr (by omega) (by omega) hR
        have HP := Lib.hid hP
        have HA := Lib.hid hA
        have hfl := hFl.lt
        clear hFl hR hP hA
        go_wp2_with fail
        refine hNew.mono ?_
        rintro e w5 ⟨cs, rfl, hk5, hx⟩
        rw [whole_some 4 d hd (by rw [HN.out]; omega) HDIM.out HMADE.out] at hx
        obtain ⟨a, m, c, dd, rfl⟩ := hx.two
        have hP := HP.out.keeps hk5
        have hA := HA.out.keep hk5
        have hsz := hk5.size
        clear HP HA hNew
        have a0 := hA.cell (i := 0) rfl
        have a1 := hA.cell (i := 1) rfl
        have af := hA.free
        have al := hA.lt
        obtain ⟨hP3, hA3⟩ := PW.put2 hP hA hpl (Nat.le_refl _) (.slice a m c) (.int .u8 dd)
        have hx3 := mpS.mono (G := orNew no (w.heap.size + 1)) hx (fun b _ hb => hb.elim (no_mono (by omega)) (fun h => .inr (by omega)))
        have hx4 := mpS.kf hx3 (KF.put2 (orNew no (w.heap.size + 1)) w5 (b := w.heap.size) (by simp [orNew, no]) (.slice a m c) (.int .u8 dd))
        have HP := Lib.hid hP3
        have HA := Lib.hid hA3
        have HX := Lib.hid hx4
        clear hP hA hx hx3 hx4 hP3 hA3 hk5
        go_wp2_with fail
        generalize (w5.setCell ⟨w.heap.size, 0, none⟩ (.slice a m c)).setCell ⟨w.heap.size, 1, none⟩ (.int .u8 dd) = w6 at *
        clear a0 a1 af al
        have hA := HA.out
        have a0 := hA.cell (i := 0) rfl
        have a1 := hA.cell (i := 1) rfl
        have af := hA.free
        have al := hA.lt
        refine bodyPost_ret (v := .tuple #[.agg #[.slice a m c, .int .u8 dd], .nilIface]) (by simp [results, Tryz.results213, go_sem, a0, a1, af]) rfl ⟨_, rfl, ?_, HP.out.kf, mpS.mono HX.out (fun b _ hb => no_mono (by omega) hb)⟩
        have := HP.out.ps
        simpa [wkbOs] using this
set_option maxRecDepth 100000 in
set_option maxHeartbeats 8000000 in
theorem parseMl_ (w0 : World) (pb d : Nat) (kids : List Pg) (o : List Bool) (r : List Nat) (big : Bool) (w : World) (hd : d < 4) (hm : kids.length ≤ 200000) (hdim : ∀ c ∈ kids, c.dim = d) (hmade : ∀ c ∈ kids, PgMade c)
    (hKid : ∀ c ∈ kids, c.kind = 2 ∧ RunOk c)
    (h : PS w0 pb w (encB big 4 kids.length ++ ((wkbOs o kids).1 ++ r)) big) :
    Calls Tryz.prog 214 #[.pointer (some ⟨pb, 0, none⟩), .int .u8 d] w (GPost w0 pb w r big MlR (.node 5 d [] kids)) := by
  obtain ⟨n, hn⟩ : ∃ n, kids.length = n := ⟨_, rfl⟩
  rw [hn] at h hm
  have hpl : pb < w.heap.size := by obtain ⟨_, ⟨_, _, _, hB, _⟩, _⟩ := h; exact hB.lt
  have hge := h.ge
  have hnb : n < 4294967296 := by omega
  obtain ⟨w1, hw1⟩ : ∃ w1, w1 = w.alloc (.cells #[.slice none 0 0, .int .u8 0] 129) := ⟨_, rfl⟩
  have hk1 : Stab.Keeps w w1 := by rw [hw1]; with_reducible (repeat first | exact Kx.r _ | assumption | refine Kx.a ?_ _ | refine Kx.d ?_ | refine Kx.e ?_ _ | refine Kx.s (by simp <;> omega) ?_ _ | refine Kx.t ?_ (by assumption))
  have hA : Blk w1 w.heap.size 129 [.slice none 0 0, .int .u8 0] := by rw [hw1]; with_reducible (repeat first | assumption | (refine Bx.n ⟨?_, ?_⟩ <;> focus (first | rfl | (simp; done) | omega)) | refine Bx.a ?_ _ | refine Bx.d ?_ | refine Bx.e ?_ _ | refine Bx.p (by first | omega | simp <;> omega) ?_)
  have hP : PW w0 pb w w1 _ big := PW.keeps ⟨h, KF.refl _ _⟩ hk1
  have hls : w.heap.size < w1.heap.size := hA.lt
  have HW := Lib.hid hw1
  have HN := Lib.hid hn
  have HDIM := Lib.hid hdim
  have HMADE := Lib.hid hmade
  have HKID := Lib.hid hKid
  clear h hk1 hw1 hn hdim hmade hKid
  go_enter Tryz.func214, Tryz.ntmps214
  go_wp2_with fail
  rw [← HW.out]
  refine (parseUint32_ w0 pb n _ big _ hnb hP.ps).mono ?_
  rintro e w2 ⟨rfl, hs, hk⟩
  replace hP := hP.read hs hk
  replace hA := blk_kf hA (show w.heap.size ≠ pb by omega) hk
  replace hls := Nat.lt_of_lt_of_le hls hk.size
  clear hs hk HW
  have HP := Lib.hid hP
  have HA := Lib.hid hA
  clear hP hA
  rcases Nat.eq_zero_or_pos n with hz | hpos
  · subst hz
    obtain rfl : kids = [] := List.eq_nil_of_length_eq_zero HN.out
    have hne : (((0 : Nat) : Int) == 0) = true := rfl
    go_wp2_with fail
    refine (forceMl_ d hd _ (.node 5 0 [] []) _ (whole_zero LsR 5 2 _)).mono ?_
    rintro e w3 ⟨cs, rfl, hk3, hx⟩
    obtain ⟨a, m, c, dd, rfl⟩ := hx.two
    have hP := HP.out.keeps hk3
    have hA := HA.out.keep hk3
    have hsz := hk3.size
    clear HP HA
    have a0 := hA.cell (i := 0) rfl
    have a1 := hA.cell (i := 1) rfl
    have af := hA.free
    have al := hA.lt
    obtain ⟨hP3, hA3⟩ := PW.put2 hP hA hpl (Nat.le_refl _) (.slice a m c) (.int .u8 dd)
    have hx3 := mlS.mono (G := orNew no (w.heap.size + 1)) hx (fun b _ hb => no_mono (by omega) hb)
    have hx4 := mlS.kf hx3 (KF.put2 (orNew no (w.heap.size + 1)) w3 (b := w.heap.size) (by simp [orNew, no]) (.slice a m c) (.int .u8 dd))
    have HP := Lib.hid hP3
    have HA := Lib.hid hA3
    have HX := Lib.hid hx4
    clear hP hA hx hx3 hx4 hP3 hA3 hk3
    go_wp2_with fail
    generalize (w3.setCell ⟨w.heap.size, 0, none⟩ (.slice a m c)).setCell ⟨w.heap.size, 1, none⟩ (.int .u8 dd) = w4 at *
    clear a0 a1 af al
    have hA := HA.out
    have a0 := hA.cell (i := 0) rfl
    have a1 := hA.cell (i := 1) rfl
    have af := hA.free
    have al := hA.lt
    refine bodyPost_ret (v := .tuple #[.agg #[.slice a m c, .int .u8 dd], .nilIface]) (by simp [results, Tryz.results214, go_sem, a0, a1, af]) rfl ⟨_, rfl, ?_, HP.out.kf, mlS.mono HX.out (fun b _ hb => no_mono (by omega) hb)⟩
    have := HP.out.ps
    simpa [wkbOs] using this
  · have hne : ((n : Int) == 0) = false := by simp; omega
    have hmk := fun w => run_makeU (P := Tryz.prog) 119 99 _ 2 32 n Tryz.underlying119 infoLs (by omega) (by omega) w
    go_wp2_with fail
    have hkm : Stab.Keeps w2 (w2.alloc (.cells (madeCells (#[.int .u8 0, .slice none 0 0]) (n * 2)) 99)) := by with_reducible (repeat first | exact Kx.r _ | assumption | refine Kx.a ?_ _ | refine Kx.d ?_ | refine Kx.e ?_ _ | refine Kx.s (by simp <;> omega) ?_ _ | refine Kx.t ?_ (by assumption))
    have hP := HP.out.keeps hkm
    have hA := HA.out.keep hkm
    have hFl := Fill.start w0 w2 (orNew no (w2.heap.size + 1)) LsR n 2 (madeCells (#[.int .u8 0, .slice none 0 0]) (n * 2)) 99 kids HP.out.ps.keep (size_madeCells _ _) (by simp [orNew, no])
    generalize (w2.alloc (.cells (madeCells (#[.int .u8 0, .slice none 0 0]) (n * 2)) 99)) = w3 at *
    generalize w2.heap.size = fb at *
    clear HP HA hkm hmk
    go_loopw [9] (fun iv wr => ∃ (k : Nat) (ok : List Bool) (cs' : List (List Value)), k ≤ n ∧ iv = .int .u32 k ∧ PW w0 pb w wr ((wkbOs ok (kids.drop k)).1 ++ r) big ∧ Blk wr w.heap.size 129 [.slice none 0 0, .int .u8 0] ∧ Fill w0 wr (orNew no (fb + 1)) LsR fb n k 2 cs' kids) (fun iv _ => n - (intOf iv).toNat)
    case atStart => exact ⟨0, o, [], by omega, rfl, hP, hA, hFl⟩
    case round =>
      clear hP hA hFl
      obtain ⟨k, ok, cs', hk, rfl, hP, hA, hFl⟩ := hrel
      by_cases hlt : k < n
      · have hkk : k < kids.length := by have := HN.out; omega
        have hmem := List.getElem_mem hkk
        rw [List.drop_eq_getElem_cons hkk, wkbOs_cons, List.append_assoc] at hP
        have hfl := hFl.lt
        obtain ⟨hk2, hrun⟩ := HKID.out _ hmem
        have hC := inner_ _ hrun ok _ w0 pb big wr hP.ps
        have HP := Lib.hid hP
        clear hP hrun
        go_wp2_with fail
        refine hC.mono ?_
        clear hC
        rintro e w4 ⟨cs4, rfl, hs, hkf, hx4⟩
        obtain ⟨bq, cs5, rfl, hbF, hbB, hx5⟩ := geo_ls hx4 hk2
        obtain ⟨dq, aq, nq, cq, rfl⟩ := hx5.two
        have hgk : Stab.Keeps w4 (w4.alloc (.cells #[.int .i64 2, .iface 190 (.pointer (some ⟨bq, 0, none⟩))] 78)) := by with_reducible (repeat first | exact Kx.r _ | assumption | refine Kx.a ?_ _ | refine Kx.d ?_ | refine Kx.e ?_ _ | refine Kx.s (by simp <;> omega) ?_ _ | refine Kx.t ?_ (by assumption))
        have hgB : Blk (w4.alloc (.cells #[.int .i64 2, .iface 190 (.pointer (some ⟨bq, 0, none⟩))] 78)) w4.heap.size 78 [.int .i64 2, .iface 190 (.pointer (some ⟨bq, 0, none⟩))] := by with_reducible (repeat first | assumption | (refine Bx.n ⟨?_, ?_⟩ <;> focus (first | rfl | (simp; done) | omega)) | refine Bx.a ?_ _ | refine Bx.d ?_ | refine Bx.e ?_ _ | refine Bx.p (by first | omega | simp <;> omega) ?_)
        have hP := (HP.out.read hs hkf).keeps hgk
        replace hA := (blk_kf hA (show w.heap.size ≠ pb by omega) hkf).keep hgk
        replace hFl := (hFl.kfk lsS hs.keep hkf (show fb ≠ pb by omega) (fun b hb => by rcases hb with hb | hb; exact hb.elim; omega)).keep lsS hgk
        have hbB5 := hbB.keep hgk
        have hx6 := lsS.kf (lsS.mono (G := orNew no (fb + 1)) hx5 (fun b _ hb => no_mono (by omega) hb)) (KF.keeps hgk)
        clear HP hs hkf hx4 hbB hbF hgk hx5
        go_upto_region 11 with (fail)
        generalize (w4.alloc (.cells #[.int .i64 2, .iface 190 (.pointer (some ⟨bq, 0, none⟩))] 78)) = w5 at *
        generalize w4.heap.size = gb at *
        have g0 := hgB.cell (i := 0) rfl
        have g1 := hgB.cell (i := 1) rfl
        have gf := hgB.free
        have gl := hgB.lt
        have HP := Lib.hid hP
        have HA := Lib.hid hA
        have HF := Lib.hid hFl
        clear hP hA hFl
        go_wp2_with fail
        refine (kindLs_ 2 _ bq _).mono ?_
        rintro e w6 ⟨rfl, hk6⟩
        replace HP := Lib.hid (HP.out.keeps hk6)
        replace HA := Lib.hid (HA.out.keep hk6)
        replace HF := Lib.hid (HF.out.keep lsS hk6)
        replace hgB := hgB.keep hk6
        replace hbB5 := hbB5.keep hk6
        replace hx6 := lsS.kf hx6 (KF.keeps hk6)
        clear g0 g1 gf gl hk6
        have g0 := hgB.cell (i := 0) rfl
        have g1 := hgB.cell (i := 1) rfl
        have gf := hgB.free
        have gl := hgB.lt
        go_wp2_with fail
        refine (mustLs_ aq nq cq dq bq _ hbB5).mono ?_
        rintro e w7 ⟨rfl, hk7⟩
        have hP := HP.out.keeps hk7
        have hA := HA.out.keep hk7
        have hFl := HF.out.keep lsS hk7
        replace hx6 := lsS.kf hx6 (KF.keeps hk7)
        clear g0 g1 gf gl hgB hbB5 hk7 HP HA HF
        have hFl5 := hFl.put2 lsS hlt hkk hx6
        obtain ⟨x0, r0⟩ := hFl.room.cell (k * 2) (by omega)
        obtain ⟨x1, r1⟩ := hFl.room.cell (k * 2 + 1) (by omega)
        have rf := hFl.room.free
        have hl4 := hFl.lt
        have hP5 := ((hP.put (i := k * 2) (u := .int .u8 dq) hpl (show w.heap.size ≤ fb by omega)).put (i := k * 2 + 1) (u := .slice aq nq cq) hpl (show w.heap.size ≤ fb by omega))
        have hA5 := ((hA.past (a := ⟨fb, k * 2, none⟩) (show w.heap.size ≠ fb by omega) (.int .u8 dq)).past (a := ⟨fb, k * 2 + 1, none⟩) (show w.heap.size ≠ fb by omega) (.slice aq nq cq))
        have HP := Lib.hid hP5
        have HA := Lib.hid hA5
        have HF := Lib.hid hFl5
        clear hP hA hFl hx6 hFl5 hP5 hA5
        go_wp2_with fail
        exact ⟨⟨k + 1, _, _, by omega, by go_num, HP.out, HA.out, HF.out⟩, by simp [intOf]; omega⟩
      · obtain rfl : n = k := by omega
        rw [List.drop_eq_nil_of_le (by have := HN.out; omega)] at hP
        have hR := hFl.rows (G := orNew no fb) lsS HN.out (by unfold maxLen; omega) (fun b _ hb => no_mono (by omega) hb) (.inr (Nat.le_refl _))
        have hNew := newMlA_ (some ⟨fb, 0, none⟩) n n cs' kids wr (by omega) (by omega) hR
        have HP := Lib.hid hP
        have HA := Lib.hid hA
        have hfl := hFl.lt
        clear hFl hR hP hA
        go_wp2_with fail
        refine hNew.mono ?_
        rintro e w5 ⟨cs, rfl, hk5, hx⟩
        rw [whole_some 5 d hd (by rw [HN.out]; omega) HDIM.out HMADE.out] at hx
        obtain ⟨a, m, c, dd, rfl⟩ := hx.two
        have hP := HP.out.keeps hk5
        have hA := HA.out.keep hk5
        have hsz := hk5.size
        clear HP HA hNew
        have a0 := hA.cell (i := 0) rfl
        have a1 := hA.cell (i := 1) rfl
        have af := hA.free
        have al := hA.lt
        obtain ⟨hP3, hA3⟩ := PW.put2 hP hA hpl (Nat.le_refl _) (.slice a m c) (.int .u8 dd)
        have hx3 := mlS.mono (G := orNew no (w.heap.size + 1)) hx (fun b _ hb => hb.elim (no_mono (by omega)) (fun h => .inr (by omega)))
        have hx4 := mlS.kf hx3 (KF.put2 (orNew no (w.heap.size + 1)) w5 (b := w.heap.size) (by simp [orNew, no]) (.slice a m c) (.int .u8 dd))
        have HP := Lib.hid hP3
        have HA := Lib.hid hA3
        have HX := Lib.hid hx4
        clear hP hA hx hx3 hx4 hP3 hA3 hk5
        go_wp2_with fail
        generalize (w5.setCell ⟨w.heap.size, 0, none⟩ (.slice a m c)).setCell ⟨w.heap.size, 1, none⟩ (.int .u8 dd) = w6 at *
        clear a0 a1 af al
        have hA := HA.out
        have a0 := hA.cell (i := 0) rfl
        have a1 := hA.cell (i := 1) rfl
        have af := hA.free
        have al := hA.lt
        refine bodyPost_ret (v := .tuple #[.agg #[.slice a m c, .int .u8 dd], .nilIface]) (by simp [results, Tryz.results214, go_sem, a0, a1, af]) rfl ⟨_, rfl, ?_, HP.out.kf, mlS.mono HX.out (fun b _ hb => no_mono (by omega) hb)⟩
        have := HP.out.ps
        simpa [wkbOs] using this
set_option maxRecDepth 100000 in
set_option maxHeartbeats 8000000 in
theorem parseMy_ (w0 : World) (pb d : Nat) (kids : List Pg) (o : List Bool) (r : List Nat) (big : Bool) (w : World) (hd : d < 4) (hm : kids.length ≤ 200000) (hdim : ∀ c ∈ kids, c.dim = d) (hmade : ∀ c ∈ kids, PgMade c)
    (hKid : ∀ c ∈ kids, c.kind = 3 ∧ RunOk c)
    (h : PS w0 pb w (encB big 4 kids.length ++ ((wkbOs o kids).1 ++ r)) big) :
    Calls Tryz.prog 215 #[.pointer (some ⟨pb, 0, none⟩), .int .u8 d] w (GPost w0 pb w r big MyR (.node 6 d [] kids)) := by
  obtain ⟨n, hn⟩ : ∃ n, kids.length = n := ⟨_, rfl⟩
  rw [hn] at h hm
  have hpl : pb < w.heap.size := by obtain ⟨_, ⟨_, _, _, hB, _⟩, _⟩ := h; exact hB.lt
  have hge := h.ge
  have hnb : n < 4294967296 := by omega
  obtain ⟨w1, hw1⟩ : ∃ w1, w1 = w.alloc (.cells #[.slice none 0 0, .int .u8 0] 134) := ⟨_, rfl⟩
  have hk1 : Stab.Keeps w w1 := by rw [hw1]; with_reducible (repeat first | exact Kx.r _ | assumption | refine Kx.a ?_ _ | refine Kx.d ?_ | refine Kx.e ?_ _ | refine Kx.s (by simp <;> omega) ?_ _ | refine Kx.t ?_ (by assumption))
  have hA : Blk w1 w.heap.size 134 [.slice none 0 0, .int .u8 0] := by rw [hw1]; with_reducible (repeat first | assumption | (refine Bx.n ⟨?_, ?_⟩ <;> focus (first | rfl | (simp; done) | omega)) | refine Bx.a ?_ _ | refine Bx.d ?_ | refine Bx.e ?_ _ | refine Bx.p (by first | omega | simp <;> omega) ?_)
  have hP : PW w0 pb w w1 _ big := PW.keeps ⟨h, KF.refl _ _⟩ hk1
  have hls : w.heap.size < w1.heap.size := hA.lt
  have HW := Lib.hid hw1
  have HN := Lib.hid hn
  have HDIM := Lib.hid hdim
  have HMADE := Lib.hid hmade
  have HKID := Lib.hid hKid
  clear h hk1 hw1 hn hdim hmade hKid
  go_enter Tryz.func215, Tryz.ntmps215
  go_wp2_with fail
  rw [← HW.out]
  refine (parseUint32_ w0 pb n _ big _ hnb hP.ps).mono ?_
  rintro e w2 ⟨rfl, hs, hk⟩
  replace hP := hP.read hs hk
  replace hA := blk_kf hA (show w.heap.size ≠ pb by omega) hk
  replace hls := Nat.lt_of_lt_of_le hls hk.size
  clear hs hk HW
  have HP := Lib.hid hP
  have HA := Lib.hid hA
  clear hP hA
  rcases Nat.eq_zero_or_pos n with hz | hpos
  · subst hz
    obtain rfl : kids = [] := List.eq_nil_of_length_eq_zero HN.out
    have hne : (((0 : Nat) : Int) == 0) = true := rfl
    go_wp2_with fail
    refine (forceMy_ d hd _ (.node 6 0 [] []) _ (whole_zero PyR 6 2 _)).mono ?_
    rintro e w3 ⟨cs, rfl, hk3, hx⟩
    obtain ⟨a, m, c, dd, rfl⟩ := hx.two
    have hP := HP.out.keeps hk3
    have hA := HA.out.keep hk3
    have hsz := hk3.size
    clear HP HA
    have a0 := hA.cell (i := 0) rfl
    have a1 := hA.cell (i := 1) rfl
    have af := hA.free
    have al := hA.lt
    obtain ⟨hP3, hA3⟩ := PW.put2 hP hA hpl (Nat.le_refl _) (.slice a m c) (.int .u8 dd)
    have hx3 := myS.mono (G := orNew no (w.heap.size + 1)) hx (fun b _ hb => no_mono (by omega) hb)
    have hx4 := myS.kf hx3 (KF.put2 (orNew no (w.heap.size + 1)) w3 (b := w.heap.size) (by simp [orNew, no]) (.slice a m c) (.int .u8 dd))
    have HP := Lib.hid hP3
    have HA := Lib.hid hA3
    have HX := Lib.hid hx4
    clear hP hA hx hx3 hx4 hP3 hA3 hk3
    go_wp2_with fail
    generalize (w3.setCell ⟨w.heap.size, 0, none⟩ (.slice a m c)).setCell ⟨w.heap.size, 1, none⟩ (.int .u8 dd) = w4 at *
    clear a0 a1 af al
    have hA := HA.out
    have a0 := hA.cell (i := 0) rfl
    have a1 := hA.cell (i := 1) rfl
    have af := hA.free
    have al := hA.lt
    refine bodyPost_ret (v := .tuple #[.agg #[.slice a m c, .int .u8 dd], .nilIface]) (by simp [results, Tryz.results215, go_sem, a0, a1, af]) rfl ⟨_, rfl, ?_, HP.out.kf, myS.mono HX.out (fun b _ hb => no_mono (by omega) hb)⟩
    have := HP.out.ps
    simpa [wkbOs] using this
  · have hne : ((n : Int) == 0) = false := by simp; omega
    have hmk := fun w => run_makeU (P := Tryz.prog) 132 121 _ 2 32 n Tryz.underlying132 infoPy (by omega) (by omega) w
    go_wp2_with fail
    have hkm : Stab.Keeps w2 (w2.alloc (.cells (madeCells (#[.slice none 0 0, .int .u8 0]) (n * 2)) 121)) := by with_reducible (repeat first | exact Kx.r _ | assumption | refine Kx.a ?_ _ | refine Kx.d ?_ | refine Kx.e ?_ _ | refine Kx.s (by simp <;> omega) ?_ _ | refine Kx.t ?_ (by assumption))
    have hP := HP.out.keeps hkm
    have hA := HA.out.keep hkm
    have hFl := Fill.start w0 w2 (orNew no (w2.heap.size + 1)) PyR n 2 (madeCells (#[.slice none 0 0, .int .u8 0]) (n * 2)) 121 kids HP.out.ps.keep (size_madeCells _ _) (by simp [orNew, no])
    generalize (w2.alloc (.cells (madeCells (#[.slice none 0 0, .int .u8 0]) (n * 2)) 121)) = w3 at *
    generalize w2.heap.size = fb at *
    clear HP HA hkm hmk
    go_loopw [9] (fun iv wr => ∃ (k : Nat) (ok : List Bool) (cs' : List (List Value)), k ≤ n ∧ iv = .int .u32 k ∧ PW w0 pb w wr ((wkbOs ok (kids.drop k)).1 ++ r) big ∧ Blk wr w.heap.size 134 [.slice none 0 0, .int .u8 0] ∧ Fill w0 wr (orNew no (fb + 1)) PyR fb n k 2 cs' kids) (fun iv _ => n - (intOf iv).toNat)
    case atStart => exact ⟨0, o, [], by omega, rfl, hP, hA, hFl⟩
    case round =>
      clear hP hA hFl
      obtain ⟨k, ok, cs', hk, rfl, hP, hA, hFl⟩ := hrel
      by_cases hlt : k < n
      · have hkk : k < kids.length := by have := HN.out; omega
        have hmem := List.getElem_mem hkk
        rw [List.drop_eq_getElem_cons hkk, wkbOs_cons, List.append_assoc] at hP
        have hfl := hFl.lt
        obtain ⟨hk2, hrun⟩ := HKID.out _ hmem
        have hC := inner_ _ hrun ok _ w0 pb big wr hP.ps
        have HP := Lib.hid hP
        clear hP hrun
        go_wp2_with fail
        refine hC.mono ?_
        clear hC
        rintro e w4 ⟨cs4, rfl, hs, hkf, hx4⟩
        obtain ⟨bq, cs5, rfl, hbF, hbB, hx5⟩ := geo_py hx4 hk2
        obtain ⟨aq, nq, cq, dq, rfl⟩ := hx5.two
        have hgk : Stab.Keeps w4 (w4.alloc (.cells #[.int .i64 3, .iface 191 (.pointer (some ⟨bq, 0, none⟩))] 78)) := by with_reducible (repeat first | exact Kx.r _ | assumption | refine Kx.a ?_ _ | refine Kx.d ?_ | refine Kx.e ?_ _ | refine Kx.s (by simp <;> omega) ?_ _ | refine Kx.t ?_ (by assumption))
        have hgB : Blk (w4.alloc (.cells #[.int .i64 3, .iface 191 (.pointer (some ⟨bq, 0, none⟩))] 78)) w4.heap.size 78 [.int .i64 3, .iface 191 (.pointer (some ⟨bq, 0, none⟩))] := by with_reducible (repeat first | assumption | (refine Bx.n ⟨?_, ?_⟩ <;> focus (first | rfl | (simp; done) | omega)) | refine Bx.a ?_ _ | refine Bx.d ?_ | refine Bx.e ?_ _ | refine Bx.p (by first | omega | simp <;> omega) ?_)
        have hP := (HP.out.read hs hkf).keeps hgk
        replace hA := (blk_kf hA (show w.heap.size ≠ pb by omega) hkf).keep hgk
        replace hFl := (hFl.kfk pyS hs.keep hkf (show fb ≠ pb by omega) (fun b hb => by rcases hb with hb | hb; exact hb.elim; omega)).keep pyS hgk
        have hbB5 := hbB.keep hgk
        have hx6 := pyS.kf (pyS.mono (G := orNew no (fb + 1)) hx5 (fun b _ hb => no_mono (by omega) hb)) (KF.keeps hgk)
        clear HP hs hkf hx4 hbB hbF hgk hx5
        go_upto_region 11 with (fail)
        generalize (w4.alloc (.cells #[.int .i64 3, .iface 191 (.pointer (some ⟨bq, 0, none⟩))] 78)) = w5 at *
        generalize w4.heap.size = gb at *
        have g0 := hgB.cell (i := 0) rfl
        have g1 := hgB.cell (i := 1) rfl
        have gf := hgB.free
        have gl := hgB.lt
        have HP := Lib.hid hP
        have HA := Lib.hid hA
        have HF := Lib.hid hFl
        clear hP hA hFl
        go_wp2_with fail
        refine (kindPy_ 3 _ bq _).mono ?_
        rintro e w6 ⟨rfl, hk6⟩
        replace HP := Lib.hid (HP.out.keeps hk6)
        replace HA := Lib.hid (HA.out.keep hk6)
        replace HF := Lib.hid (HF.out.keep pyS hk6)
        replace hgB := hgB.keep hk6
        replace hbB5 := hbB5.keep hk6
        replace hx6 := pyS.kf hx6 (KF.keeps hk6)
        clear g0 g1 gf gl hk6
        have g0 := hgB.cell (i := 0) rfl
        have g1 := hgB.cell (i := 1) rfl
        have gf := hgB.free
        have gl := hgB.lt
        go_wp2_with fail
        refine (mustPy_ aq nq cq dq bq _ hbB5).mono ?_
        rintro e w7 ⟨rfl, hk7⟩
        have hP := HP.out.keeps hk7
        have hA := HA.out.keep hk7
        have hFl := HF.out.keep pyS hk7
        replace hx6 := pyS.kf hx6 (KF.keeps hk7)
        clear g0 g1 gf gl hgB hbB5 hk7 HP HA HF
        have hFl5 := hFl.put2 pyS hlt hkk hx6
        obtain ⟨x0, r0⟩ := hFl.room.cell (k * 2) (by omega)
        obtain ⟨x1, r1⟩ := hFl.room.cell (k * 2 + 1) (by omega)
        have rf := hFl.room.free
        have hl4 := hFl.lt
        have hP5 := ((hP.put (i := k * 2) (u := .slice aq nq cq) hpl (show w.heap.size ≤ fb by omega)).put (i := k * 2 + 1) (u := .int .u8 dq) hpl (show w.heap.size ≤ fb by omega))
        have hA5 := ((hA.past (a := ⟨fb, k * 2, none⟩) (show w.heap.size ≠ fb by omega) (.slice aq nq cq)).past (a := ⟨fb, k * 2 + 1, none⟩) (show w.heap.size ≠ fb by omega) (.int .u8 dq))
        have HP := Lib.hid hP5
        have HA := Lib.hid hA5
        have HF := Lib.hid hFl5
        clear hP hA hFl hx6 hFl5 hP5 hA5
        go_wp2_with fail
        exact ⟨⟨k + 1, _, _, by omega, by go_num, HP.out, HA.out, HF.out⟩, by simp [intOf]; omega⟩
      · obtain rfl : n = k := by omega
        rw [List.drop_eq_nil_of_le (by have := HN.out; omega)] at hP
        have hR := hFl.rows (G := orNew no fb) pyS HN.out (by unfold maxLen; omega) (fun b _ hb => no_mono (by omega) hb) (.inr (Nat.le_refl _))
        have hNew := newMyA_ (some ⟨fb, 0, none⟩) n n cs' kids wr (by omega) (by omega) hR
        have HP := Lib.hid hP
        have HA := Lib.hid hA
        have hfl := hFl.lt
        clear hFl hR hP hA
        go_wp2_with fail
        refine hNew.mono ?_
        rintro e w5 ⟨cs, rfl, hk5, hx⟩
        rw [whole_some 6 d hd (by rw [HN.out]; omega) HDIM.out HMADE.out] at hx
        obtain ⟨a, m, c, dd, rfl⟩ := hx.two
        have hP := HP.out.keeps hk5
        have hA := HA.out.keep hk5
        have hsz := hk5.size
        clear HP HA hNew
        have a0 := hA.cell (i := 0) rfl
        have a1 := hA.cell (i := 1) rfl
        have af := hA.free
        have al := hA.lt
        obtain ⟨hP3, hA3⟩ := PW.put2 hP hA hpl (Nat.le_refl _) (.slice a m c) (.int .u8 dd)
        have hx3 := myS.mono (G := orNew no (w.heap.size + 1)) hx (fun b _ hb => hb.elim (no_mono (by omega)) (fun h => .inr (by omega)))
        have hx4 := myS.kf hx3 (KF.put2 (orNew no (w.heap.size + 1)) w5 (b := w.heap.size) (by simp [orNew, no]) (.slice a m c) (.int .u8 dd))
        have HP := Lib.hid hP3
        have HA := Lib.hid hA3
        have HX := Lib.hid hx4
        clear hP hA hx hx3 hx4 hP3 hA3 hk5
        go_wp2_with fail
        generalize (w5.setCell ⟨w.heap.size, 0, none⟩ (.slice a m c)).setCell ⟨w.heap.size, 1, none⟩ (.int .u8 dd) = w6 at *
        clear a0 a1 af al
        have hA := HA.out
        have a0 := hA.cell (i := 0) rfl
        have a1 := hA.cell (i := 1) rfl
        have af := hA.free
        have al := hA.lt
        refine bodyPost_ret (v := .tuple #[.agg #[.slice a m c, .int .u8 dd], .nilIface]) (by simp [results, Tryz.results215, go_sem, a0, a1, af]) rfl ⟨_, rfl, ?_, HP.out.kf, myS.mono HX.out (fun b _ hb => no_mono (by omega) hb)⟩
        have := HP.out.ps
        simpa [wkbOs] using this
set_option maxRecDepth 100000 in
set_option maxHeartbeats 8000000 in
theorem parseGc_ (w0 : World) (pb d : Nat) (kids : List Pg) (o : List Bool) (r : List Nat) (big : Bool) (w : World) (hd : d < 4) (hm : kids.length ≤ 200000) (hdim : ∀ c ∈ kids, c.dim = d) (hmade : ∀ c ∈ kids, PgMade c)
    (hKid : ∀ c ∈ kids, RunOk c)
    (h : PS w0 pb w (encB big 4 kids.length ++ ((wkbOs o kids).1 ++ r)) big) :
    Calls Tryz.prog 216 #[.pointer (some ⟨pb, 0, none⟩), .int .u8 d] w (GPost w0 pb w r big GcR (.node 0 d [] kids)) := by
  obtain ⟨n, hn⟩ : ∃ n, kids.length = n := ⟨_, rfl⟩
  rw [hn] at h hm
  have hpl : pb < w.heap.size := by obtain ⟨_, ⟨_, _, _, hB, _⟩, _⟩ := h; exact hB.lt
  have hge := h.ge
  have hnb : n < 4294967296 := by omega
  obtain ⟨w1, hw1⟩ : ∃ w1, w1 = w.alloc (.cells #[.slice none 0 0, .int .u8 0] 150) := ⟨_, rfl⟩
  have hk1 : Stab.Keeps w w1 := by rw [hw1]; with_reducible (repeat first | exact Kx.r _ | assumption | refine Kx.a ?_ _ | refine Kx.d ?_ | refine Kx.e ?_ _ | refine Kx.s (by simp <;> omega) ?_ _ | refine Kx.t ?_ (by assumption))
  have hA : Blk w1 w.heap.size 150 [.slice none 0 0, .int .u8 0] := by rw [hw1]; with_reducible (repeat first | assumption | (refine Bx.n ⟨?_, ?_⟩ <;> focus (first | rfl | (simp; done) | omega)) | refine Bx.a ?_ _ | refine Bx.d ?_ | refine Bx.e ?_ _ | refine Bx.p (by first | omega | simp <;> omega) ?_)
  have hP : PW w0 pb w w1 _ big := PW.keeps ⟨h, KF.refl _ _⟩ hk1
  have hls : w.heap.size < w1.heap.size := hA.lt
  have HW := Lib.hid hw1
  have HN := Lib.hid hn
  have HDIM := Lib.hid hdim
  have HMADE := Lib.hid hmade
  have HKID := Lib.hid hKid
  clear h hk1 hw1 hn hdim hmade hKid
  go_enter Tryz.func216, Tryz.ntmps216
  go_wp2_with fail
  rw [← HW.out]
  refine (parseUint32_ w0 pb n _ big _ hnb hP.ps).mono ?_
  rintro e w2 ⟨rfl, hs, hk⟩
  replace hP := hP.read hs hk
  replace hA := blk_kf hA (show w.heap.size ≠ pb by omega) hk
  replace hls := Nat.lt_of_lt_of_le hls hk.size
  clear hs hk HW
  have HP := Lib.hid hP
  have HA := Lib.hid hA
  clear hP hA
  rcases Nat.eq_zero_or_pos n with hz | hpos
  · subst hz
    obtain rfl : kids = [] := List.eq_nil_of_length_eq_zero HN.out
    have hne : (((0 : Nat) : Int) == 0) = true := rfl
    go_wp2_with fail
    refine (forceGc_ d hd _ (.node 0 0 [] []) _ (whole_zero GeoR 0 2 _) (fun c hc => by simp [Pg.kids] at hc)).mono ?_
    rintro e w3 ⟨cs, rfl, hk3, hx⟩
    obtain ⟨a, m, c, dd, rfl⟩ := hx.two
    have hP := HP.out.keeps hk3
    have hA := HA.out.keep hk3
    have hsz := hk3.size
    clear HP HA
    have a0 := hA.cell (i := 0) rfl
    have a1 := hA.cell (i := 1) rfl
    have af := hA.free
    have al := hA.lt
    obtain ⟨hP3, hA3⟩ := PW.put2 hP hA hpl (Nat.le_refl _) (.slice a m c) (.int .u8 dd)
    have hx3 := gcS.mono (G := orNew no (w.heap.size + 1)) hx (fun b _ hb => no_mono (by omega) hb)
    have hx4 := gcS.kf hx3 (KF.put2 (orNew no (w.heap.size + 1)) w3 (b := w.heap.size) (by simp [orNew, no]) (.slice a m c) (.int .u8 dd))
    have HP := Lib.hid hP3
    have HA := Lib.hid hA3
    have HX := Lib.hid hx4
    clear hP hA hx hx3 hx4 hP3 hA3 hk3
    go_wp2_with fail
    generalize (w3.setCell ⟨w.heap.size, 0, none⟩ (.slice a m c)).setCell ⟨w.heap.size, 1, none⟩ (.int .u8 dd) = w4 at *
    clear a0 a1 af al
    have hA := HA.out
    have a0 := hA.cell (i := 0) rfl
    have a1 := hA.cell (i := 1) rfl
    have af := hA.free
    have al := hA.lt
    refine bodyPost_ret (v := .tuple #[.agg #[.slice a m c, .int .u8 dd], .nilIface]) (by simp [results, Tryz.results216, go_sem, a0, a1, af]) rfl ⟨_, rfl, ?_, HP.out.kf, gcS.mono HX.out (fun b _ hb => no_mono (by omega) hb)⟩
    have := HP.out.ps
    simpa [wkbOs] using this
  · have hne : ((n : Int) == 0) = false := by simp; omega
    have hmk := fun w => run_makeU (P := Tryz.prog) 148 78 _ 2 24 n Tryz.underlying148 infoGeo (by omega) (by omega) w
    go_wp2_with fail
    have hkm : Stab.Keeps w2 (w2.alloc (.cells (madeCells (#[.int .i64 0, .nilIface]) (n * 2)) 78)) := by with_reducible (repeat first | exact Kx.r _ | assumption | refine Kx.a ?_ _ | refine Kx.d ?_ | refine Kx.e ?_ _ | refine Kx.s (by simp <;> omega) ?_ _ | refine Kx.t ?_ (by assumption))
    have hP := HP.out.keeps hkm
    have hA := HA.out.keep hkm
    have hFl := Fill.start w0 w2 (orNew no (w2.heap.size + 1)) GeoR n 2 (madeCells (#[.int .i64 0, .nilIface]) (n * 2)) 78 kids HP.out.ps.keep (size_madeCells _ _) (by simp [orNew, no])
    generalize (w2.alloc (.cells (madeCells (#[.int .i64 0, .nilIface]) (n * 2)) 78)) = w3 at *
    generalize w2.heap.size = fb at *
    clear HP HA hkm hmk
    go_loopw [9] (fun iv wr => ∃ (k : Nat) (ok : List Bool) (cs' : List (List Value)), k ≤ n ∧ iv = .int .u32 k ∧ PW w0 pb w wr ((wkbOs ok (kids.drop k)).1 ++ r) big ∧ Blk wr w.heap.size 150 [.slice none 0 0, .int .u8 0] ∧ Fill w0 wr (orNew no (fb + 1)) GeoR fb n k 2 cs' kids) (fun iv _ => n - (intOf iv).toNat)
    case atStart => exact ⟨0, o, [], by omega, rfl, hP, hA, hFl⟩
    case round =>
      clear hP hA hFl
      obtain ⟨k, ok, cs', hk, rfl, hP, hA, hFl⟩ := hrel
      by_cases hlt : k < n
      · have hkk : k < kids.length := by have := HN.out; omega
        have hmem := List.getElem_mem hkk
        rw [List.drop_eq_getElem_cons hkk, wkbOs_cons, List.append_assoc] at hP
        have hfl := hFl.lt
        have hC := inner_ _ (HKID.out _ hmem) ok _ w0 pb big wr hP.ps
        have HP := Lib.hid hP
        clear hP
        go_wp2_with fail
        refine hC.mono ?_
        clear hC
        rintro e w4 ⟨cs4, rfl, hs, hkf, hx4⟩
        obtain ⟨kq, tq, bq, rfl⟩ := hx4.two
        have hP := HP.out.read hs hkf
        replace hA := blk_kf hA (show w.heap.size ≠ pb by omega) hkf
        replace hFl := hFl.kfk geoS hs.keep hkf (show fb ≠ pb by omega) (fun b hb => by rcases hb with hb | hb; exact hb.elim; omega)
        have hx6 := geoS.mono (G := orNew no (fb + 1)) hx4 (fun b _ hb => no_mono (by omega) hb)
        have hFl5 := hFl.put2 geoS hlt hkk hx6
        obtain ⟨x0, r0⟩ := hFl.room.cell (k * 2) (by omega)
        obtain ⟨x1, r1⟩ := hFl.room.cell (k * 2 + 1) (by omega)
        have rf := hFl.room.free
        have hl4 := hFl.lt
        have hP5 := (hP.put (i := k * 2) (u := .int .i64 kq) hpl (show w.heap.size ≤ fb by omega)).put (i := k * 2 + 1) (u := .iface tq (.pointer (some ⟨bq, 0, none⟩))) hpl (show w.heap.size ≤ fb by omega)
        have hA5 := (hA.past (a := ⟨fb, k * 2, none⟩) (show w.heap.size ≠ fb by omega) (.int .i64 kq)).past (a := ⟨fb, k * 2 + 1, none⟩) (show w.heap.size ≠ fb by omega) (.iface tq (.pointer (some ⟨bq, 0, none⟩)))
        have HP2 := Lib.hid hP5
        have HA := Lib.hid hA5
        have HF := Lib.hid hFl5
        clear hP HP hA hFl hx4 hx6 hs hkf hFl5 hP5 hA5
        go_wp2_with fail
        exact ⟨⟨k + 1, _, _, by omega, by go_num, HP2.out, HA.out, HF.out⟩, by simp [intOf]; omega⟩
      · obtain rfl : n = k := by omega
        rw [List.drop_eq_nil_of_le (by have := HN.out; omega)] at hP
        have hR := hFl.rows (G := orNew no fb) geoS HN.out (by unfold maxLen; omega) (fun b _ hb => no_mono (by omega) hb) (.inr (Nat.le_refl _))
        have hNew := newGcA_ (some ⟨fb, 0, none⟩) n n cs' kids wr (by omega) hR
        have HP := Lib.hid hP
        have HA := Lib.hid hA
        have hfl := hFl.lt
        clear hFl hR hP hA
        go_wp2_with fail
        refine hNew.mono ?_
        rintro e w5 ⟨cs, rfl, hk5, hx⟩
        rw [whole_some 0 d hd (by rw [HN.out]; omega) HDIM.out HMADE.out] at hx
        obtain ⟨a, m, c, dd, rfl⟩ := hx.two
        have hP := HP.out.keeps hk5
        have hA := HA.out.keep hk5
        have hsz := hk5.size
        clear HP HA hNew
        have a0 := hA.cell (i := 0) rfl
        have a1 := hA.cell (i := 1) rfl
        have af := hA.free
        have al := hA.lt
        obtain ⟨hP3, hA3⟩ := PW.put2 hP hA hpl (Nat.le_refl _) (.slice a m c) (.int .u8 dd)
        have hx3 := gcS.mono (G := orNew no (w.heap.size + 1)) hx (fun b _ hb => hb.elim (no_mono (by omega)) (fun h => .inr (by omega)))
        have hx4 := gcS.kf hx3 (KF.put2 (orNew no (w.heap.size + 1)) w5 (b := w.heap.size) (by simp [orNew, no]) (.slice a m c) (.int .u8 dd))
        have HP := Lib.hid hP3
        have HA := Lib.hid hA3
        have HX := Lib.hid hx4
        clear hP hA hx hx3 hx4 hP3 hA3 hk5
        go_wp2_with fail
        generalize (w5.setCell ⟨w.heap.size, 0, none⟩ (.slice a m c)).setCell ⟨w.heap.size, 1, none⟩ (.int .u8 dd) = w6 at *
        clear a0 a1 af al
        have hA := HA.out
        have a0 := hA.cell (i := 0) rfl
        have a1 := hA.cell (i := 1) rfl
        have af := hA.free
        have al := hA.lt
        refine bodyPost_ret (v := .tuple #[.agg #[.slice a m c, .int .u8 dd], .nilIface]) (by simp [results, Tryz.results216, go_sem, a0, a1, af]) rfl ⟨_, rfl, ?_, HP.out.kf, gcS.mono HX.out (fun b _ hb => no_mono (by omega) hb)⟩
        have := HP.out.ps
        simpa [wkbOs] using this
end Go.Proofs.YtbakhldjfplbfaaGreat
set_option linter.unusedVariables false
set_option linter.unusedSimpArgs false
namespace Go.Proofs.YtbakhldjfplbfaaGreat
open Go.RowKit Go.Fl Go.Sl Go.Pg Go.Ch Go.Kf Go.By
set_option maxRecDepth 100000 in
theorem geoPt6_ (x y z m d : Nat) (f : Bool) (w : World) : Calls Tryz.prog 79 #[.agg #[.float .f64 x, .float .f64 y, .float .f64 z, .float .f64 m, .int .u8 d, .bool f]] w (Held w 1 204 141 [.float .f64 x, .float .f64 y, .float .f64 z, .float .f64 m, .int .u8 d, .bool f]) := by
  go_enter Tryz.func79, Tryz.ntmps79
  go_wp2
  refine bodyPost_ret (by simp [results, Tryz.results79, go_sem]) rfl ⟨w.heap.size, rfl, ?_, Nat.le_refl _, ?_⟩
  · with_reducible (repeat first | exact Kx.r _ | assumption | refine Kx.a ?_ _ | refine Kx.d ?_ | refine Kx.e ?_ _ | refine Kx.s (by simp <;> omega) ?_ _ | refine Kx.t ?_ (by assumption))
  · with_reducible (repeat first | assumption | (refine Bx.n ⟨?_, ?_⟩ <;> focus (first | rfl | (simp; done) | omega)) | refine Bx.a ?_ _ | refine Bx.d ?_ | refine Bx.e ?_ _ | refine Bx.p (by first | omega | simp <;> omega) ?_)
set_option maxRecDepth 100000 in
set_option maxHeartbeats 4000000 in
theorem rootPt_ (w0 : World) (pb d : Nat) (p : Pg) (bs r : List Nat) (big : Bool) (w : World)
    (hC : ∀ w', PS w0 pb w' bs big → Calls Tryz.prog 210 #[.pointer (some ⟨pb, 0, none⟩), .int .u8 d] w' (GPost w0 pb w' r big PtR p)) (h : PS w0 pb w bs big) :
    Calls Tryz.prog 198 #[.pointer (some ⟨pb, 0, none⟩), .int .i64 1, .int .u8 d] w (GPost w0 pb w r big GeoR p) := by
  have hpl : pb < w.heap.size := by obtain ⟨_, ⟨_, _, _, hB, _⟩, _⟩ := h; exact hB.lt
  have hk1 : Stab.Keeps w (w.alloc (.cells #[.int .i64 0, .nilIface] 78)) := by with_reducible (repeat first | exact Kx.r _ | assumption | refine Kx.a ?_ _ | refine Kx.d ?_ | refine Kx.e ?_ _ | refine Kx.s (by simp <;> omega) ?_ _ | refine Kx.t ?_ (by assumption))
  have hA : Blk (w.alloc (.cells #[.int .i64 0, .nilIface] 78)) w.heap.size 78 [.int .i64 0, .nilIface] := by with_reducible (repeat first | assumption | (refine Bx.n ⟨?_, ?_⟩ <;> focus (first | rfl | (simp; done) | omega)) | refine Bx.a ?_ _ | refine Bx.d ?_ | refine Bx.e ?_ _ | refine Bx.p (by first | omega | simp <;> omega) ?_)
  have hP : PW w0 pb w _ bs big := PW.keeps ⟨h, KF.refl _ _⟩ hk1
  have hCC := hC _ hP.ps
  have HP := Lib.hid hP
  have HA := Lib.hid hA
  clear hC h hP hA hk1
  go_enter Tryz.func198, Tryz.ntmps198
  go_wp2_with fail
  generalize (w.alloc (.cells #[.int .i64 0, .nilIface] 78)) = w1 at *
  refine hCC.mono ?_
  clear hCC
  rintro e w2 ⟨cs, rfl, hs, hkf, hx⟩
  obtain ⟨xq, yq, zq, mq, dq, fq, rfl⟩ := hx.six
  have hkx : Stab.Keeps w2 (w2.alloc (.cells #[.float .f64 xq, .float .f64 yq, .float .f64 zq, .float .f64 mq, .int .u8 dq, .bool fq] 141)) := by with_reducible (repeat first | exact Kx.r _ | assumption | refine Kx.a ?_ _ | refine Kx.d ?_ | refine Kx.e ?_ _ | refine Kx.s (by simp <;> omega) ?_ _ | refine Kx.t ?_ (by assumption))
  have hBx : Blk (w2.alloc (.cells #[.float .f64 xq, .float .f64 yq, .float .f64 zq, .float .f64 mq, .int .u8 dq, .bool fq] 141)) w2.heap.size 141 [.float .f64 xq, .float .f64 yq, .float .f64 zq, .float .f64 mq, .int .u8 dq, .bool fq] := by with_reducible (repeat first | assumption | (refine Bx.n ⟨?_, ?_⟩ <;> focus (first | rfl | (simp; done) | omega)) | refine Bx.a ?_ _ | refine Bx.d ?_ | refine Bx.e ?_ _ | refine Bx.p (by first | omega | simp <;> omega) ?_)
  have hl1 := HA.out.lt
  have HP2 := Lib.hid ((HP.out.read hs hkf).keeps hkx)
  have HA2 := Lib.hid ((blk_kf HA.out (show w.heap.size ≠ pb by omega) hkf).keep hkx)
  have HX2 := Lib.hid (ptS.kf (ptS.mono (G := orNew no (w.heap.size + 1)) hx (fun b _ hb => no_mono (by omega) hb)) (KF.keeps hkx))
  have HBX := Lib.hid hBx
  have hl2 : w.heap.size < w2.heap.size := Nat.lt_of_lt_of_le hl1 hkf.size
  clear HP HA hs hkf hx hkx hBx hl1
  go_upto_region 5 with (fail)
  generalize (w2.alloc (.cells #[.float .f64 xq, .float .f64 yq, .float .f64 zq, .float .f64 mq, .int .u8 dq, .bool fq] 141)) = w3 at *
  generalize w2.heap.size = xb at *
  have hBx := HBX.out
  have m0 := hBx.cell (i := 0) rfl
  have m1 := hBx.cell (i := 1) rfl
  have m2 := hBx.cell (i := 2) rfl
  have m3 := hBx.cell (i := 3) rfl
  have m4 := hBx.cell (i := 4) rfl
  have m5 := hBx.cell (i := 5) rfl
  have mf := hBx.free
  have ml := hBx.lt
  go_wp2_with fail
  refine (geoPt6_ xq yq zq mq dq fq _).mono ?_
  rintro e w4 ⟨bq, rfl, hk4, hbq, hB4⟩
  have hP := HP2.out.keeps hk4
  have hA := HA2.out.keep hk4
  have hx := ptS.kf HX2.out (KF.keeps hk4)
  have hxl : xb < w4.heap.size := (hBx.keep hk4).lt
  have hxl3 : xb < w3.heap.size := hBx.lt
  clear HP2 HA2 HX2 HBX hBx m0 m1 m2 m3 m4 m5 mf ml hk4
  have a0 := hA.cell (i := 0) rfl
  have a1 := hA.cell (i := 1) rfl
  have af := hA.free
  have al := hA.lt
  obtain ⟨hP3, hA3⟩ := PW.put2 hP hA hpl (Nat.le_refl _) (.int .i64 1) (.iface 204 (.pointer (some ⟨bq, 0, none⟩)))
  have hx3 := ptS.kf hx (KF.put2 (orNew no (w.heap.size + 1)) w4 (b := w.heap.size) (by simp [orNew, no]) (.int .i64 1) (.iface 204 (.pointer (some ⟨bq, 0, none⟩))))
  have hB5 := (hB4.past (a := ⟨w.heap.size, 0, none⟩) (show bq ≠ w.heap.size by omega) (.int .i64 1)).past (a := ⟨w.heap.size, 1, none⟩) (show bq ≠ w.heap.size by omega) (.iface 204 (.pointer (some ⟨bq, 0, none⟩)))
  have HP3 := Lib.hid hP3
  have HA3 := Lib.hid hA3
  have HX3 := Lib.hid (ptS.mono (G := orNew no w.heap.size) hx3 (fun b _ hb => no_mono (by omega) hb))
  have HB3 := Lib.hid hB5
  clear hP hA hx hP3 hA3 hx3 hB5 hB4
  go_wp2_with fail
  generalize (w4.setCell ⟨w.heap.size, 0, none⟩ (.int .i64 1)).setCell ⟨w.heap.size, 1, none⟩ (.iface 204 (.pointer (some ⟨bq, 0, none⟩))) = w5 at *
  clear a0 a1 af al
  have hA := HA3.out
  have a0 := hA.cell (i := 0) rfl
  have a1 := hA.cell (i := 1) rfl
  have af := hA.free
  have al := hA.lt
  have hbF : orNew no w.heap.size bq := .inr (by omega)
  refine bodyPost_ret (v := .tuple #[.agg #[.int .i64 1, .iface 204 (.pointer (some ⟨bq, 0, none⟩))], .nilIface]) (by simp [results, Tryz.results198, go_sem, a0, a1, af]) rfl ⟨_, rfl, HP3.out.ps, HP3.out.kf, .pt bq _ p hbF HB3.out HX3.out⟩
set_option maxRecDepth 100000 in
set_option maxHeartbeats 4000000 in
theorem rootLs_ (w0 : World) (pb d : Nat) (p : Pg) (bs r : List Nat) (big : Bool) (w : World)
    (hC : ∀ w', PS w0 pb w' bs big → Calls Tryz.prog 211 #[.pointer (some ⟨pb, 0, none⟩), .int .u8 d] w' (GPost w0 pb w' r big LsR p)) (h : PS w0 pb w bs big) :
    Calls Tryz.prog 198 #[.pointer (some ⟨pb, 0, none⟩), .int .i64 2, .int .u8 d] w (GPost w0 pb w r big GeoR p) := by
  have hpl : pb < w.heap.size := by obtain ⟨_, ⟨_, _, _, hB, _⟩, _⟩ := h; exact hB.lt
  have hk1 : Stab.Keeps w (w.alloc (.cells #[.int .i64 0, .nilIface] 78)) := by with_reducible (repeat first | exact Kx.r _ | assumption | refine Kx.a ?_ _ | refine Kx.d ?_ | refine Kx.e ?_ _ | refine Kx.s (by simp <;> omega) ?_ _ | refine Kx.t ?_ (by assumption))
  have hA : Blk (w.alloc (.cells #[.int .i64 0, .nilIface] 78)) w.heap.size 78 [.int .i64 0, .nilIface] := by with_reducible (repeat first | assumption | (refine Bx.n ⟨?_, ?_⟩ <;> focus (first | rfl | (simp; done) | omega)) | refine Bx.a ?_ _ | refine Bx.d ?_ | refine Bx.e ?_ _ | refine Bx.p (by first | omega | simp <;> omega) ?_)
  have hP : PW w0 pb w _ bs big := PW.keeps ⟨h, KF.refl _ _⟩ hk1
  have hCC := hC _ hP.ps
  have HP := Lib.hid hP
  have HA := Lib.hid hA
  clear hC h hP hA hk1
  go_enter Tryz.func198, Tryz.ntmps198
  go_wp2_with fail
  generalize (w.alloc (.cells #[.int .i64 0, .nilIface] 78)) = w1 at *
  refine hCC.mono ?_
  clear hCC
  rintro e w2 ⟨cs, rfl, hs, hkf, hx⟩
  obtain ⟨dq, aq, nq, cq, rfl⟩ := hx.two
  have hkx : Stab.Keeps w2 (w2.alloc (.cells #[.int .u8 dq, .slice aq nq cq] 99)) := by with_reducible (repeat first | exact Kx.r _ | assumption | refine Kx.a ?_ _ | refine Kx.d ?_ | refine Kx.e ?_ _ | refine Kx.s (by simp <;> omega) ?_ _ | refine Kx.t ?_ (by assumption))
  have hBx : Blk (w2.alloc (.cells #[.int .u8 dq, .slice aq nq cq] 99)) w2.heap.size 99 [.int .u8 dq, .slice aq nq cq] := by with_reducible (repeat first | assumption | (refine Bx.n ⟨?_, ?_⟩ <;> focus (first | rfl | (simp; done) | omega)) | refine Bx.a ?_ _ | refine Bx.d ?_ | refine Bx.e ?_ _ | refine Bx.p (by first | omega | simp <;> omega) ?_)
  have hl1 := HA.out.lt
  have HP2 := Lib.hid ((HP.out.read hs hkf).keeps hkx)
  have HA2 := Lib.hid ((blk_kf HA.out (show w.heap.size ≠ pb by omega) hkf).keep hkx)
  have HX2 := Lib.hid (lsS.kf (lsS.mono (G := orNew no (w.heap.size + 1)) hx (fun b _ hb => no_mono (by omega) hb)) (KF.keeps hkx))
  have HBX := Lib.hid hBx
  have hl2 : w.heap.size < w2.heap.size := Nat.lt_of_lt_of_le hl1 hkf.size
  clear HP HA hs hkf hx hkx hBx hl1
  go_upto_region 8 with (fail)
  generalize (w2.alloc (.cells #[.int .u8 dq, .slice aq nq cq] 99)) = w3 at *
  generalize w2.heap.size = xb at *
  have hBx := HBX.out
  have m0 := hBx.cell (i := 0) rfl
  have m1 := hBx.cell (i := 1) rfl
  have mf := hBx.free
  have ml := hBx.lt
  go_wp2_with fail
  refine (lineGeo_ dq aq nq cq _).mono ?_
  rintro e w4 ⟨bq, rfl, hk4, hbq, hB4⟩
  have hP := HP2.out.keeps hk4
  have hA := HA2.out.keep hk4
  have hx := lsS.kf HX2.out (KF.keeps hk4)
  have hxl : xb < w4.heap.size := (hBx.keep hk4).lt
  have hxl3 : xb < w3.heap.size := hBx.lt
  clear HP2 HA2 HX2 HBX hBx m0 m1 mf ml hk4
  have a0 := hA.cell (i := 0) rfl
  have a1 := hA.cell (i := 1) rfl
  have af := hA.free
  have al := hA.lt
  obtain ⟨hP3, hA3⟩ := PW.put2 hP hA hpl (Nat.le_refl _) (.int .i64 2) (.iface 190 (.pointer (some ⟨bq, 0, none⟩)))
  have hx3 := lsS.kf hx (KF.put2 (orNew no (w.heap.size + 1)) w4 (b := w.heap.size) (by simp [orNew, no]) (.int .i64 2) (.iface 190 (.pointer (some ⟨bq, 0, none⟩))))
  have hB5 := (hB4.past (a := ⟨w.heap.size, 0, none⟩) (show bq ≠ w.heap.size by omega) (.int .i64 2)).past (a := ⟨w.heap.size, 1, none⟩) (show bq ≠ w.heap.size by omega) (.iface 190 (.pointer (some ⟨bq, 0, none⟩)))
  have HP3 := Lib.hid hP3
  have HA3 := Lib.hid hA3
  have HX3 := Lib.hid (lsS.mono (G := orNew no w.heap.size) hx3 (fun b _ hb => no_mono (by omega) hb))
  have HB3 := Lib.hid hB5
  clear hP hA hx hP3 hA3 hx3 hB5 hB4
  go_wp2_with fail
  generalize (w4.setCell ⟨w.heap.size, 0, none⟩ (.int .i64 2)).setCell ⟨w.heap.size, 1, none⟩ (.iface 190 (.pointer (some ⟨bq, 0, none⟩))) = w5 at *
  clear a0 a1 af al
  have hA := HA3.out
  have a0 := hA.cell (i := 0) rfl
  have a1 := hA.cell (i := 1) rfl
  have af := hA.free
  have al := hA.lt
  have hbF : orNew no w.heap.size bq := .inr (by omega)
  refine bodyPost_ret (v := .tuple #[.agg #[.int .i64 2, .iface 190 (.pointer (some ⟨bq, 0, none⟩))], .nilIface]) (by simp [results, Tryz.results198, go_sem, a0, a1, af]) rfl ⟨_, rfl, HP3.out.ps, HP3.out.kf, .ls bq _ p hbF HB3.out HX3.out⟩
set_option maxRecDepth 100000 in
set_option maxHeartbeats 4000000 in
theorem rootPy_ (w0 : World) (pb d : Nat) (p : Pg) (bs r : List Nat) (big : Bool) (w : World)
    (hC : ∀ w', PS w0 pb w' bs big → Calls Tryz.prog 212 #[.pointer (some ⟨pb, 0, none⟩), .int .u8 d] w' (GPost w0 pb w' r big PyR p)) (h : PS w0 pb w bs big) :
    Calls Tryz.prog 198 #[.pointer (some ⟨pb, 0, none⟩), .int .i64 3, .int .u8 d] w (GPost w0 pb w r big GeoR p) := by
  have hpl : pb < w.heap.size := by obtain ⟨_, ⟨_, _, _, hB, _⟩, _⟩ := h; exact hB.lt
  have hk1 : Stab.Keeps w (w.alloc (.cells #[.int .i64 0, .nilIface] 78)) := by with_reducible (repeat first | exact Kx.r _ | assumption | refine Kx.a ?_ _ | refine Kx.d ?_ | refine Kx.e ?_ _ | refine Kx.s (by simp <;> omega) ?_ _ | refine Kx.t ?_ (by assumption))
  have hA : Blk (w.alloc (.cells #[.int .i64 0, .nilIface] 78)) w.heap.size 78 [.int .i64 0, .nilIface] := by with_reducible (repeat first | assumption | (refine Bx.n ⟨?_, ?_⟩ <;> focus (first | rfl | (simp; done) | omega)) | refine Bx.a ?_ _ | refine Bx.d ?_ | refine Bx.e ?_ _ | refine Bx.p (by first | omega | simp <;> omega) ?_)
  have hP : PW w0 pb w _ bs big := PW.keeps ⟨h, KF.refl _ _⟩ hk1
  have hCC := hC _ hP.ps
  have HP := Lib.hid hP
  have HA := Lib.hid hA
  clear hC h hP hA hk1
  go_enter Tryz.func198, Tryz.ntmps198
  go_wp2_with fail
  generalize (w.alloc (.cells #[.int .i64 0, .nilIface] 78)) = w1 at *
  refine hCC.mono ?_
  clear hCC
  rintro e w2 ⟨cs, rfl, hs, hkf, hx⟩
  obtain ⟨aq, nq, cq, dq, rfl⟩ := hx.two
  have hkx : Stab.Keeps w2 (w2.alloc (.cells #[.slice aq nq cq, .int .u8 dq] 121)) := by with_reducible (repeat first | exact Kx.r _ | assumption | refine Kx.a ?_ _ | refine Kx.d ?_ | refine Kx.e ?_ _ | refine Kx.s (by simp <;> omega) ?_ _ | refine Kx.t ?_ (by assumption))
  have hBx : Blk (w2.alloc (.cells #[.slice aq nq cq, .int .u8 dq] 121)) w2.heap.size 121 [.slice aq nq cq, .int .u8 dq] := by with_reducible (repeat first | assumption | (refine Bx.n ⟨?_, ?_⟩ <;> focus (first | rfl | (simp; done) | omega)) | refine Bx.a ?_ _ | refine Bx.d ?_ | refine Bx.e ?_ _ | refine Bx.p (by first | omega | simp <;> omega) ?_)
  have hl1 := HA.out.lt
  have HP2 := Lib.hid ((HP.out.read hs hkf).keeps hkx)
  have HA2 := Lib.hid ((blk_kf HA.out (show w.heap.size ≠ pb by omega) hkf).keep hkx)
  have HX2 := Lib.hid (pyS.kf (pyS.mono (G := orNew no (w.heap.size + 1)) hx (fun b _ hb => no_mono (by omega) hb)) (KF.keeps hkx))
  have HBX := Lib.hid hBx
  have hl2 : w.heap.size < w2.heap.size := Nat.lt_of_lt_of_le hl1 hkf.size
  clear HP HA hs hkf hx hkx hBx hl1
  go_upto_region 11 with (fail)
  generalize (w2.alloc (.cells #[.slice aq nq cq, .int .u8 dq] 121)) = w3 at *
  generalize w2.heap.size = xb at *
  have hBx := HBX.out
  have m0 := hBx.cell (i := 0) rfl
  have m1 := hBx.cell (i := 1) rfl
  have mf := hBx.free
  have ml := hBx.lt
  go_wp2_with fail
  refine (geoPy_ aq nq cq dq _).mono ?_
  rintro e w4 ⟨bq, rfl, hk4, hbq, hB4⟩
  have hP := HP2.out.keeps hk4
  have hA := HA2.out.keep hk4
  have hx := pyS.kf HX2.out (KF.keeps hk4)
  have hxl : xb < w4.heap.size := (hBx.keep hk4).lt
  have hxl3 : xb < w3.heap.size := hBx.lt
  clear HP2 HA2 HX2 HBX hBx m0 m1 mf ml hk4
  have a0 := hA.cell (i := 0) rfl
  have a1 := hA.cell (i := 1) rfl
  have af := hA.free
  have al := hA.lt
  obtain ⟨hP3, hA3⟩ := PW.put2 hP hA hpl (Nat.le_refl _) (.int .i64 3) (.iface 191 (.pointer (some ⟨bq, 0, none⟩)))
  have hx3 := pyS.kf hx (KF.put2 (orNew no (w.heap.size + 1)) w4 (b := w.heap.size) (by simp [orNew, no]) (.int .i64 3) (.iface 191 (.pointer (some ⟨bq, 0, none⟩))))
  have hB5 := (hB4.past (a := ⟨w.heap.size, 0, none⟩) (show bq ≠ w.heap.size by omega) (.int .i64 3)).past (a := ⟨w.heap.size, 1, none⟩) (show bq ≠ w.heap.size by omega) (.iface 191 (.pointer (some ⟨bq, 0, none⟩)))
  have HP3 := Lib.hid hP3
  have HA3 := Lib.hid hA3
  have HX3 := Lib.hid (pyS.mono (G := orNew no w.heap.size) hx3 (fun b _ hb => no_mono (by omega) hb))
  have HB3 := Lib.hid hB5
  clear hP hA hx hP3 hA3 hx3 hB5 hB4
  go_wp2_with fail
  generalize (w4.setCell ⟨w.heap.size, 0, none⟩ (.int .i64 3)).setCell ⟨w.heap.size, 1, none⟩ (.iface 191 (.pointer (some ⟨bq, 0, none⟩))) = w5 at *
  clear a0 a1 af al
  have hA := HA3.out
  have a0 := hA.cell (i := 0) rfl
  have a1 := hA.cell (i := 1) rfl
  have af := hA.free
  have al := hA.lt
  have hbF : orNew no w.heap.size bq := .inr (by omega)
  refine bodyPost_ret (v := .tuple #[.agg #[.int .i64 3, .iface 191 (.pointer (some ⟨bq, 0, none⟩))], .nilIface]) (by simp [results, Tryz.results198, go_sem, a0, a1, af]) rfl ⟨_, rfl, HP3.out.ps, HP3.out.kf, .py bq _ p hbF HB3.out HX3.out⟩
set_option maxRecDepth 100000 in
set_option maxHeartbeats 4000000 in
theorem rootMp_ (w0 : World) (pb d : Nat) (p : Pg) (bs r : List Nat) (big : Bool) (w : World)
    (hC : ∀ w', PS w0 pb w' bs big → Calls Tryz.prog 213 #[.pointer (some ⟨pb, 0, none⟩), .int .u8 d] w' (GPost w0 pb w' r big MpR p)) (h : PS w0 pb w bs big) :
    Calls Tryz.prog 198 #[.pointer (some ⟨pb, 0, none⟩), .int .i64 4, .int .u8 d] w (GPost w0 pb w r big GeoR p) := by
  have hpl : pb < w.heap.size := by obtain ⟨_, ⟨_, _, _, hB, _⟩, _⟩ := h; exact hB.lt
  have hk1 : Stab.Keeps w (w.alloc (.cells #[.int .i64 0, .nilIface] 78)) := by with_reducible (repeat first | exact Kx.r _ | assumption | refine Kx.a ?_ _ | refine Kx.d ?_ | refine Kx.e ?_ _ | refine Kx.s (by simp <;> omega) ?_ _ | refine Kx.t ?_ (by assumption))
  have hA : Blk (w.alloc (.cells #[.int .i64 0, .nilIface] 78)) w.heap.size 78 [.int .i64 0, .nilIface] := by with_reducible (repeat first | assumption | (refine Bx.n ⟨?_, ?_⟩ <;> focus (first | rfl | (simp; done) | omega)) | refine Bx.a ?_ _ | refine Bx.d ?_ | refine Bx.e ?_ _ | refine Bx.p (by first | omega | simp <;> omega) ?_)
  have hP : PW w0 pb w _ bs big := PW.keeps ⟨h, KF.refl _ _⟩ hk1
  have hCC := hC _ hP.ps
  have HP := Lib.hid hP
  have HA := Lib.hid hA
  clear hC h hP hA hk1
  go_enter Tryz.func198, Tryz.ntmps198
  go_wp2_with fail
  generalize (w.alloc (.cells #[.int .i64 0, .nilIface] 78)) = w1 at *
  refine hCC.mono ?_
  clear hCC
  rintro e w2 ⟨cs, rfl, hs, hkf, hx⟩
  obtain ⟨aq, nq, cq, dq, rfl⟩ := hx.two
  have hkx : Stab.Keeps w2 (w2.alloc (.cells #[.slice aq nq cq, .int .u8 dq] 126)) := by with_reducible (repeat first | exact Kx.r _ | assumption | refine Kx.a ?_ _ | refine Kx.d ?_ | refine Kx.e ?_ _ | refine Kx.s (by simp <;> omega) ?_ _ | refine Kx.t ?_ (by assumption))
  have hBx : Blk (w2.alloc (.cells #[.slice aq nq cq, .int .u8 dq] 126)) w2.heap.size 126 [.slice aq nq cq, .int .u8 dq] := by with_reducible (repeat first | assumption | (refine Bx.n ⟨?_, ?_⟩ <;> focus (first | rfl | (simp; done) | omega)) | refine Bx.a ?_ _ | refine Bx.d ?_ | refine Bx.e ?_ _ | refine Bx.p (by first | omega | simp <;> omega) ?_)
  have hl1 := HA.out.lt
  have HP2 := Lib.hid ((HP.out.read hs hkf).keeps hkx)
  have HA2 := Lib.hid ((blk_kf HA.out (show w.heap.size ≠ pb by omega) hkf).keep hkx)
  have HX2 := Lib.hid (mpS.kf (mpS.mono (G := orNew no (w.heap.size + 1)) hx (fun b _ hb => no_mono (by omega) hb)) (KF.keeps hkx))
  have HBX := Lib.hid hBx
  have hl2 : w.heap.size < w2.heap.size := Nat.lt_of_lt_of_le hl1 hkf.size
  clear HP HA hs hkf hx hkx hBx hl1
  go_upto_region 14 with (fail)
  generalize (w2.alloc (.cells #[.slice aq nq cq, .int .u8 dq] 126)) = w3 at *
  generalize w2.heap.size = xb at *
  have hBx := HBX.out
  have m0 := hBx.cell (i := 0) rfl
  have m1 := hBx.cell (i := 1) rfl
  have mf := hBx.free
  have ml := hBx.lt
  go_wp2_with fail
  refine (geoMp_ aq nq cq dq _).mono ?_
  rintro e w4 ⟨bq, rfl, hk4, hbq, hB4⟩
  have hP := HP2.out.keeps hk4
  have hA := HA2.out.keep hk4
  have hx := mpS.kf HX2.out (KF.keeps hk4)
  have hxl : xb < w4.heap.size := (hBx.keep hk4).lt
  have hxl3 : xb < w3.heap.size := hBx.lt
  clear HP2 HA2 HX2 HBX hBx m0 m1 mf ml hk4
  have a0 := hA.cell (i := 0) rfl
  have a1 := hA.cell (i := 1) rfl
  have af := hA.free
  have al := hA.lt
  obtain ⟨hP3, hA3⟩ := PW.put2 hP hA hpl (Nat.le_refl _) (.int .i64 4) (.iface 192 (.pointer (some ⟨bq, 0, none⟩)))
  have hx3 := mpS.kf hx (KF.put2 (orNew no (w.heap.size + 1)) w4 (b := w.heap.size) (by simp [orNew, no]) (.int .i64 4) (.iface 192 (.pointer (some ⟨bq, 0, none⟩))))
  have hB5 := (hB4.past (a := ⟨w.heap.size, 0, none⟩) (show bq ≠ w.heap.size by omega) (.int .i64 4)).past (a := ⟨w.heap.size, 1, none⟩) (show bq ≠ w.heap.size by omega) (.iface 192 (.pointer (some ⟨bq, 0, none⟩)))
  have HP3 := Lib.hid hP3
  have HA3 := Lib.hid hA3
  have HX3 := Lib.hid (mpS.mono (G := orNew no w.heap.size) hx3 (fun b _ hb => no_mono (by omega) hb))
  have HB3 := Lib.hid hB5
  clear hP hA hx hP3 hA3 hx3 hB5 hB4
  go_wp2_with fail
  generalize (w4.setCell ⟨w.heap.size, 0, none⟩ (.int .i64 4)).setCell ⟨w.heap.size, 1, none⟩ (.iface 192 (.pointer (some ⟨bq, 0, none⟩))) = w5 at *
  clear a0 a1 af al
  have hA := HA3.out
  have a0 := hA.cell (i := 0) rfl
  have a1 := hA.cell (i := 1) rfl
  have af := hA.free
  have al := hA.lt
  have hbF : orNew no w.heap.size bq := .inr (by omega)
  refine bodyPost_ret (v := .tuple #[.agg #[.int .i64 4, .iface 192 (.pointer (some ⟨bq, 0, none⟩))], .nilIface]) (by simp [results, Tryz.results198, go_sem, a0, a1, af]) rfl ⟨_, rfl, HP3.out.ps, HP3.out.kf, .mp bq _ p hbF HB3.out HX3.out⟩
set_option maxRecDepth 100000 in
set_option maxHeartbeats 4000000 in
theorem rootMl_ (w0 : World) (pb d : Nat) (p : Pg) (bs r : List Nat) (big : Bool) (w : World)
    (hC : ∀ w', PS w0 pb w' bs big → Calls Tryz.prog 214 #[.pointer (some ⟨pb, 0, none⟩), .int .u8 d] w' (GPost w0 pb w' r big MlR p)) (h : PS w0 pb w bs big) :
    Calls Tryz.prog 198 #[.pointer (some ⟨pb, 0, none⟩), .int .i64 5, .int .u8 d] w (GPost w0 pb w r big GeoR p) := by
  have hpl : pb < w.heap.size := by obtain ⟨_, ⟨_, _, _, hB, _⟩, _⟩ := h; exact hB.lt
  have hk1 : Stab.Keeps w (w.alloc (.cells #[.int .i64 0, .nilIface] 78)) := by with_reducible (repeat first | exact Kx.r _ | assumption | refine Kx.a ?_ _ | refine Kx.d ?_ | refine Kx.e ?_ _ | refine Kx.s (by simp <;> omega) ?_ _ | refine Kx.t ?_ (by assumption))
  have hA : Blk (w.alloc (.cells #[.int .i64 0, .nilIface] 78)) w.heap.size 78 [.int .i64 0, .nilIface] := by with_reducible (repeat first | assumption | (refine Bx.n ⟨?_, ?_⟩ <;> focus (first | rfl | (simp; done) | omega)) | refine Bx.a ?_ _ | refine Bx.d ?_ | refine Bx.e ?_ _ | refine Bx.p (by first | omega | simp <;> omega) ?_)
  have hP : PW w0 pb w _ bs big := PW.keeps ⟨h, KF.refl _ _⟩ hk1
  have hCC := hC _ hP.ps
  have HP := Lib.hid hP
  have HA := Lib.hid hA
  clear hC h hP hA hk1
  go_enter Tryz.func198, Tryz.ntmps198
  go_wp2_with fail
  generalize (w.alloc (.cells #[.int .i64 0, .nilIface] 78)) = w1 at *
  refine hCC.mono ?_
  clear hCC
  rintro e w2 ⟨cs, rfl, hs, hkf, hx⟩
  obtain ⟨aq, nq, cq, dq, rfl⟩ := hx.two
  have hkx : Stab.Keeps w2 (w2.alloc (.cells #[.slice aq nq cq, .int .u8 dq] 129)) := by with_reducible (repeat first | exact Kx.r _ | assumption | refine Kx.a ?_ _ | refine Kx.d ?_ | refine Kx.e ?_ _ | refine Kx.s (by simp <;> omega) ?_ _ | refine Kx.t ?_ (by assumption))
  have hBx : Blk (w2.alloc (.cells #[.slice aq nq cq, .int .u8 dq] 129)) w2.heap.size 129 [.slice aq nq cq, .int .u8 dq] := by with_reducible (repeat first | assumption | (refine Bx.n ⟨?_, ?_⟩ <;> focus (first | rfl | (simp; done) | omega)) | refine Bx.a ?_ _ | refine Bx.d ?_ | refine Bx.e ?_ _ | refine Bx.p (by first | omega | simp <;> omega) ?_)
  have hl1 := HA.out.lt
  have HP2 := Lib.hid ((HP.out.read hs hkf).keeps hkx)
  have HA2 := Lib.hid ((blk_kf HA.out (show w.heap.size ≠ pb by omega) hkf).keep hkx)
  have HX2 := Lib.hid (mlS.kf (mlS.mono (G := orNew no (w.heap.size + 1)) hx (fun b _ hb => no_mono (by omega) hb)) (KF.keeps hkx))
  have HBX := Lib.hid hBx
  have hl2 : w.heap.size < w2.heap.size := Nat.lt_of_lt_of_le hl1 hkf.size
  clear HP HA hs hkf hx hkx hBx hl1
  go_upto_region 17 with (fail)
  generalize (w2.alloc (.cells #[.slice aq nq cq, .int .u8 dq] 129)) = w3 at *
  generalize w2.heap.size = xb at *
  have hBx := HBX.out
  have m0 := hBx.cell (i := 0) rfl
  have m1 := hBx.cell (i := 1) rfl
  have mf := hBx.free
  have ml := hBx.lt
  go_wp2_with fail
  refine (geoMl_ aq nq cq dq _).mono ?_
  rintro e w4 ⟨bq, rfl, hk4, hbq, hB4⟩
  have hP := HP2.out.keeps hk4
  have hA := HA2.out.keep hk4
  have hx := mlS.kf HX2.out (KF.keeps hk4)
  have hxl : xb < w4.heap.size := (hBx.keep hk4).lt
  have hxl3 : xb < w3.heap.size := hBx.lt
  clear HP2 HA2 HX2 HBX hBx m0 m1 mf ml hk4
  have a0 := hA.cell (i := 0) rfl
  have a1 := hA.cell (i := 1) rfl
  have af := hA.free
  have al := hA.lt
  obtain ⟨hP3, hA3⟩ := PW.put2 hP hA hpl (Nat.le_refl _) (.int .i64 5) (.iface 197 (.pointer (some ⟨bq, 0, none⟩)))
  have hx3 := mlS.kf hx (KF.put2 (orNew no (w.heap.size + 1)) w4 (b := w.heap.size) (by simp [orNew, no]) (.int .i64 5) (.iface 197 (.pointer (some ⟨bq, 0, none⟩))))
  have hB5 := (hB4.past (a := ⟨w.heap.size, 0, none⟩) (show bq ≠ w.heap.size by omega) (.int .i64 5)).past (a := ⟨w.heap.size, 1, none⟩) (show bq ≠ w.heap.size by omega) (.iface 197 (.pointer (some ⟨bq, 0, none⟩)))
  have HP3 := Lib.hid hP3
  have HA3 := Lib.hid hA3
  have HX3 := Lib.hid (mlS.mono (G := orNew no w.heap.size) hx3 (fun b _ hb => no_mono (by omega) hb))
  have HB3 := Lib.hid hB5
  clear hP hA hx hP3 hA3 hx3 hB5 hB4
  go_wp2_with fail
  generalize (w4.setCell ⟨w.heap.size, 0, none⟩ (.int .i64 5)).setCell ⟨w.heap.size, 1, none⟩ (.iface 197 (.pointer (some ⟨bq, 0, none⟩))) = w5 at *
  clear a0 a1 af al
  have hA := HA3.out
  have a0 := hA.cell (i := 0) rfl
  have a1 := hA.cell (i := 1) rfl
  have af := hA.free
  have al := hA.lt
  have hbF : orNew no w.heap.size bq := .inr (by omega)
  refine bodyPost_ret (v := .tuple #[.agg #[.int .i64 5, .iface 197 (.pointer (some ⟨bq, 0, none⟩))], .nilIface]) (by simp [results, Tryz.results198, go_sem, a0, a1, af]) rfl ⟨_, rfl, HP3.out.ps, HP3.out.kf, .ml bq _ p hbF HB3.out HX3.out⟩
set_option maxRecDepth 100000 in
set_option maxHeartbeats 4000000 in
theorem rootMy_ (w0 : World) (pb d : Nat) (p : Pg) (bs r : List Nat) (big : Bool) (w : World)
    (hC : ∀ w', PS w0 pb w' bs big → Calls Tryz.prog 215 #[.pointer (some ⟨pb, 0, none⟩), .int .u8 d] w' (GPost w0 pb w' r big MyR p)) (h : PS w0 pb w bs big) :
    Calls Tryz.prog 198 #[.pointer (some ⟨pb, 0, none⟩), .int .i64 6, .int .u8 d] w (GPost w0 pb w r big GeoR p) := by
  have hpl : pb < w.heap.size := by obtain ⟨_, ⟨_, _, _, hB, _⟩, _⟩ := h; exact hB.lt
  have hk1 : Stab.Keeps w (w.alloc (.cells #[.int .i64 0, .nilIface] 78)) := by with_reducible (repeat first | exact Kx.r _ | assumption | refine Kx.a ?_ _ | refine Kx.d ?_ | refine Kx.e ?_ _ | refine Kx.s (by simp <;> omega) ?_ _ | refine Kx.t ?_ (by assumption))
  have hA : Blk (w.alloc (.cells #[.int .i64 0, .nilIface] 78)) w.heap.size 78 [.int .i64 0, .nilIface] := by with_reducible (repeat first | assumption | (refine Bx.n ⟨?_, ?_⟩ <;> focus (first | rfl | (simp; done) | omega)) | refine Bx.a ?_ _ | refine Bx.d ?_ | refine Bx.e ?_ _ | refine Bx.p (by first | omega | simp <;> omega) ?_)
  have hP : PW w0 pb w _ bs big := PW.keeps ⟨h, KF.refl _ _⟩ hk1
  have hCC := hC _ hP.ps
  have HP := Lib.hid hP
  have HA := Lib.hid hA
  clear hC h hP hA hk1
  go_enter Tryz.func198, Tryz.ntmps198
  go_wp2_with fail
  generalize (w.alloc (.cells #[.int .i64 0, .nilIface] 78)) = w1 at *
  refine hCC.mono ?_
  clear hCC
  rintro e w2 ⟨cs, rfl, hs, hkf, hx⟩
  obtain ⟨aq, nq, cq, dq, rfl⟩ := hx.two
  have hkx : Stab.Keeps w2 (w2.alloc (.cells #[.slice aq nq cq, .int .u8 dq] 134)) := by with_reducible (repeat first | exact Kx.r _ | assumption | refine Kx.a ?_ _ | refine Kx.d ?_ | refine Kx.e ?_ _ | refine Kx.s (by simp <;> omega) ?_ _ | refine Kx.t ?_ (by assumption))
  have hBx : Blk (w2.alloc (.cells #[.slice aq nq cq, .int .u8 dq] 134)) w2.heap.size 134 [.slice aq nq cq, .int .u8 dq] := by with_reducible (repeat first | assumption | (refine Bx.n ⟨?_, ?_⟩ <;> focus (first | rfl | (simp; done) | omega)) | refine Bx.a ?_ _ | refine Bx.d ?_ | refine Bx.e ?_ _ | refine Bx.p (by first | omega | simp <;> omega) ?_)
  have hl1 := HA.out.lt
  have HP2 := Lib.hid ((HP.out.read hs hkf).keeps hkx)
  have HA2 := Lib.hid ((blk_kf HA.out (show w.heap.size ≠ pb by omega) hkf).keep hkx)
  have HX2 := Lib.hid (myS.kf (myS.mono (G := orNew no (w.heap.size + 1)) hx (fun b _ hb => no_mono (by omega) hb)) (KF.keeps hkx))
  have HBX := Lib.hid hBx
  have hl2 : w.heap.size < w2.heap.size := Nat.lt_of_lt_of_le hl1 hkf.size
  clear HP HA hs hkf hx hkx hBx hl1
  go_upto_region 20 with (fail)
  generalize (w2.alloc (.cells #[.slice aq nq cq, .int .u8 dq] 134)) = w3 at *
  generalize w2.heap.size = xb at *
  have hBx := HBX.out
  have m0 := hBx.cell (i := 0) rfl
  have m1 := hBx.cell (i := 1) rfl
  have mf := hBx.free
  have ml := hBx.lt
  go_wp2_with fail
  refine (geoMy_ aq nq cq dq _).mono ?_
  rintro e w4 ⟨bq, rfl, hk4, hbq, hB4⟩
  have hP := HP2.out.keeps hk4
  have hA := HA2.out.keep hk4
  have hx := myS.kf HX2.out (KF.keeps hk4)
  have hxl : xb < w4.heap.size := (hBx.keep hk4).lt
  have hxl3 : xb < w3.heap.size := hBx.lt
  clear HP2 HA2 HX2 HBX hBx m0 m1 mf ml hk4
  have a0 := hA.cell (i := 0) rfl
  have a1 := hA.cell (i := 1) rfl
  have af := hA.free
  have al := hA.lt
  obtain ⟨hP3, hA3⟩ := PW.put2 hP hA hpl (Nat.le_refl _) (.int .i64 6) (.iface 199 (.pointer (some ⟨bq, 0, none⟩)))
  have hx3 := myS.kf hx (KF.put2 (orNew no (w.heap.size + 1)) w4 (b := w.heap.size) (by simp [orNew, no]) (.int .i64 6) (.iface 199 (.pointer (some ⟨bq, 0, none⟩))))
  have hB5 := (hB4.past (a := ⟨w.heap.size, 0, none⟩) (show bq ≠ w.heap.size by omega) (.int .i64 6)).past (a := ⟨w.heap.size, 1, none⟩) (show bq ≠ w.heap.size by omega) (.iface 199 (.pointer (some ⟨bq, 0, none⟩)))
  have HP3 := Lib.hid hP3
  have HA3 := Lib.hid hA3
  have HX3 := Lib.hid (myS.mono (G := orNew no w.heap.size) hx3 (fun b _ hb => no_mono (by omega) hb))
  have HB3 := Lib.hid hB5
  clear hP hA hx hP3 hA3 hx3 hB5 hB4
  go_wp2_with fail
  generalize (w4.setCell ⟨w.heap.size, 0, none⟩ (.int .i64 6)).setCell ⟨w.heap.size, 1, none⟩ (.iface 199 (.pointer (some ⟨bq, 0, none⟩))) = w5 at *
  clear a0 a1 af al
  have hA := HA3.out
  have a0 := hA.cell (i := 0) rfl
  have a1 := hA.cell (i := 1) rfl
  have af := hA.free
  have al := hA.lt
  have hbF : orNew no w.heap.size bq := .inr (by omega)
  refine bodyPost_ret (v := .tuple #[.agg #[.int .i64 6, .iface 199 (.pointer (some ⟨bq, 0, none⟩))], .nilIface]) (by simp [results, Tryz.results198, go_sem, a0, a1, af]) rfl ⟨_, rfl, HP3.out.ps, HP3.out.kf, .my bq _ p hbF HB3.out HX3.out⟩
set_option maxRecDepth 100000 in
set_option maxHeartbeats 4000000 in
theorem rootGc_ (w0 : World) (pb d : Nat) (p : Pg) (bs r : List Nat) (big : Bool) (w : World)
    (hC : ∀ w', PS w0 pb w' bs big → Calls Tryz.prog 216 #[.pointer (some ⟨pb, 0, none⟩), .int .u8 d] w' (GPost w0 pb w' r big GcR p)) (h : PS w0 pb w bs big) :
    Calls Tryz.prog 198 #[.pointer (some ⟨pb, 0, none⟩), .int .i64 0, .int .u8 d] w (GPost w0 pb w r big GeoR p) := by
  have hpl : pb < w.heap.size := by obtain ⟨_, ⟨_, _, _, hB, _⟩, _⟩ := h; exact hB.lt
  have hk1 : Stab.Keeps w (w.alloc (.cells #[.int .i64 0, .nilIface] 78)) := by with_reducible (repeat first | exact Kx.r _ | assumption | refine Kx.a ?_ _ | refine Kx.d ?_ | refine Kx.e ?_ _ | refine Kx.s (by simp <;> omega) ?_ _ | refine Kx.t ?_ (by assumption))
  have hA : Blk (w.alloc (.cells #[.int .i64 0, .nilIface] 78)) w.heap.size 78 [.int .i64 0, .nilIface] := by with_reducible (repeat first | assumption | (refine Bx.n ⟨?_, ?_⟩ <;> focus (first | rfl | (simp; done) | omega)) | refine Bx.a ?_ _ | refine Bx.d ?_ | refine Bx.e ?_ _ | refine Bx.p (by first | omega | simp <;> omega) ?_)
  have hP : PW w0 pb w _ bs big := PW.keeps ⟨h, KF.refl _ _⟩ hk1
  have hCC := hC _ hP.ps
  have HP := Lib.hid hP
  have HA := Lib.hid hA
  clear hC h hP hA hk1
  go_enter Tryz.func198, Tryz.ntmps198
  go_wp2_with fail
  generalize (w.alloc (.cells #[.int .i64 0, .nilIface] 78)) = w1 at *
  refine hCC.mono ?_
  clear hCC
  rintro e w2 ⟨cs, rfl, hs, hkf, hx⟩
  obtain ⟨aq, nq, cq, dq, rfl⟩ := hx.two
  have hkx : Stab.Keeps w2 (w2.alloc (.cells #[.slice aq nq cq, .int .u8 dq] 150)) := by with_reducible (repeat first | exact Kx.r _ | assumption | refine Kx.a ?_ _ | refine Kx.d ?_ | refine Kx.e ?_ _ | refine Kx.s (by simp <;> omega) ?_ _ | refine Kx.t ?_ (by assumption))
  have hBx : Blk (w2.alloc (.cells #[.slice aq nq cq, .int .u8 dq] 150)) w2.heap.size 150 [.slice aq nq cq, .int .u8 dq] := by with_reducible (repeat first | assumption | (refine Bx.n ⟨?_, ?_⟩ <;> focus (first | rfl | (simp; done) | omega)) | refine Bx.a ?_ _ | refine Bx.d ?_ | refine Bx.e ?_ _ | refine Bx.p (by first | omega | simp <;> omega) ?_)
  have hl1 := HA.out.lt
  have HP2 := Lib.hid ((HP.out.read hs hkf).keeps hkx)
  have HA2 := Lib.hid ((blk_kf HA.out (show w.heap.size ≠ pb by omega) hkf).keep hkx)
  have HX2 := Lib.hid (gcS.kf (gcS.mono (G := orNew no (w.heap.size + 1)) hx (fun b _ hb => no_mono (by omega) hb)) (KF.keeps hkx))
  have HBX := Lib.hid hBx
  have hl2 : w.heap.size < w2.heap.size := Nat.lt_of_lt_of_le hl1 hkf.size
  clear HP HA hs hkf hx hkx hBx hl1
  go_upto_region 23 with (fail)
  generalize (w2.alloc (.cells #[.slice aq nq cq, .int .u8 dq] 150)) = w3 at *
  generalize w2.heap.size = xb at *
  have hBx := HBX.out
  have m0 := hBx.cell (i := 0) rfl
  have m1 := hBx.cell (i := 1) rfl
  have mf := hBx.free
  have ml := hBx.lt
  go_wp2_with fail
  refine (geoGc_ aq nq cq dq _).mono ?_
  rintro e w4 ⟨bq, rfl, hk4, hbq, hB4⟩
  have hP := HP2.out.keeps hk4
  have hA := HA2.out.keep hk4
  have hx := gcS.kf HX2.out (KF.keeps hk4)
  have hxl : xb < w4.heap.size := (hBx.keep hk4).lt
  have hxl3 : xb < w3.heap.size := hBx.lt
  clear HP2 HA2 HX2 HBX hBx m0 m1 mf ml hk4
  have a0 := hA.cell (i := 0) rfl
  have a1 := hA.cell (i := 1) rfl
  have af := hA.free
  have al := hA.lt
  obtain ⟨hP3, hA3⟩ := PW.put2 hP hA hpl (Nat.le_refl _) (.int .i64 0) (.iface 210 (.pointer (some ⟨bq, 0, none⟩)))
  have hx3 := gcS.kf hx (KF.put2 (orNew no (w.heap.size + 1)) w4 (b := w.heap.size) (by simp [orNew, no]) (.int .i64 0) (.iface 210 (.pointer (some ⟨bq, 0, none⟩))))
  have hB5 := (hB4.past (a := ⟨w.heap.size, 0, none⟩) (show bq ≠ w.heap.size by omega) (.int .i64 0)).past (a := ⟨w.heap.size, 1, none⟩) (show bq ≠ w.heap.size by omega) (.iface 210 (.pointer (some ⟨bq, 0, none⟩)))
  have HP3 := Lib.hid hP3
  have HA3 := Lib.hid hA3
  have HX3 := Lib.hid (gcS.mono (G := orNew no w.heap.size) hx3 (fun b _ hb => no_mono (by omega) hb))
  have HB3 := Lib.hid hB5
  clear hP hA hx hP3 hA3 hx3 hB5 hB4
  go_wp2_with fail
  generalize (w4.setCell ⟨w.heap.size, 0, none⟩ (.int .i64 0)).setCell ⟨w.heap.size, 1, none⟩ (.iface 210 (.pointer (some ⟨bq, 0, none⟩))) = w5 at *
  clear a0 a1 af al
  have hA := HA3.out
  have a0 := hA.cell (i := 0) rfl
  have a1 := hA.cell (i := 1) rfl
  have af := hA.free
  have al := hA.lt
  have hbF : orNew no w.heap.size bq := .inr (by omega)
  refine bodyPost_ret (v := .tuple #[.agg #[.int .i64 0, .iface 210 (.pointer (some ⟨bq, 0, none⟩))], .nilIface]) (by simp [results, Tryz.results198, go_sem, a0, a1, af]) rfl ⟨_, rfl, HP3.out.ps, HP3.out.kf, GcR.geo HX3.out hbF HB3.out⟩
end Go.Proofs.YtbakhldjfplbfaaGreat
set_option linter.unusedVariables false
set_option linter.unusedSimpArgs false
namespace Go.Proofs.YtbakhldjfplbfaaGreat
open Go.RowKit Go.Fl Go.Sl Go.Pg Go.Ch Go.Kf Go.By
set_option maxRecDepth 100000 in
set_option maxHeartbeats 4000000 in
theorem run_with (p : Pg) (k d : Nat) (hk : k < 7) (hd : d < 4) (x : Bool) (bs r : List Nat) (w0 : World) (pb : Nat) (big : Bool) (w : World)
    (hroot : ∀ w', PS w0 pb w' (bs ++ r) x → Calls Tryz.prog 198 #[.pointer (some ⟨pb, 0, none⟩), .int .i64 k, .int .u8 d] w' (GPost w0 pb w' r x GeoR p))
    (h : PS w0 pb w (headE x k d ++ bs ++ r) big) :
    Calls Tryz.prog 136 #[.pointer (some ⟨pb, 0, none⟩)] w (GPost w0 pb w r x GeoR p) := by
  have hpl : pb < w.heap.size := by obtain ⟨_, ⟨_, _, _, hB, _⟩, _⟩ := h; exact hB.lt
  have hk1 : Stab.Keeps w (w.alloc (.cells #[.int .i64 0, .nilIface] 78)) := by with_reducible (repeat first | exact Kx.r _ | assumption | refine Kx.a ?_ _ | refine Kx.d ?_ | refine Kx.e ?_ _ | refine Kx.s (by simp <;> omega) ?_ _ | refine Kx.t ?_ (by assumption))
  have hA : Blk (w.alloc (.cells #[.int .i64 0, .nilIface] 78)) w.heap.size 78 [.int .i64 0, .nilIface] := by with_reducible (repeat first | assumption | (refine Bx.n ⟨?_, ?_⟩ <;> focus (first | rfl | (simp; done) | omega)) | refine Bx.a ?_ _ | refine Bx.d ?_ | refine Bx.e ?_ _ | refine Bx.p (by first | omega | simp <;> omega) ?_)
  rw [show headE x k d ++ bs ++ r = (if x then 0 else 1) :: (encB x 4 (d * 1000 + codeN k) ++ (bs ++ r)) by unfold headE; rw [Nat.add_comm (codeN k), Nat.mul_comm 1000 d, List.append_assoc, List.cons_append]] at h
  have hP : PW w0 pb w _ _ big := PW.keeps ⟨h, KF.refl _ _⟩ hk1
  have hC1 := parseByteOrder_ w0 pb x _ big _ hP.ps
  have HP := Lib.hid hP
  have HA := Lib.hid hA
  clear h hP hA hk1
  go_enter Tryz.func136, Tryz.ntmps136
  go_wp2_with fail
  generalize (w.alloc (.cells #[.int .i64 0, .nilIface] 78)) = w1 at *
  refine hC1.mono ?_
  clear hC1
  rintro e w2 ⟨rfl, hs, hkf⟩
  have hP := HP.out.read hs hkf
  have hA := blk_kf HA.out (show w.heap.size ≠ pb by omega) hkf
  have hC2 := parseType_ w0 pb k d hk hd _ x _ hP.ps
  clear HP HA hs hkf
  have HP := Lib.hid hP
  have HA := Lib.hid hA
  clear hP hA
  go_wp2_with fail
  refine hC2.mono ?_
  clear hC2
  rintro e w3 ⟨rfl, hs, hkf⟩
  have hP := HP.out.read hs hkf
  have hA := blk_kf HA.out (show w.heap.size ≠ pb by omega) hkf
  have hC3 := hroot _ hP.ps
  clear HP HA hs hkf hroot
  have HP := Lib.hid hP
  have HA := Lib.hid hA
  clear hP hA
  go_wp2_with fail
  refine hC3.mono ?_
  clear hC3
  rintro e w4 ⟨cs, rfl, hs, hkf, hx⟩
  obtain ⟨kq, tq, bq, rfl⟩ := hx.two
  have hl3 := HA.out.lt
  have hP := HP.out.read hs hkf
  have hA := blk_kf HA.out (show w.heap.size ≠ pb by omega) hkf
  clear HP HA hs hkf
  have a0 := hA.cell (i := 0) rfl
  have a1 := hA.cell (i := 1) rfl
  have af := hA.free
  have al := hA.lt
  obtain ⟨hP3, hA3⟩ := PW.put2 hP hA hpl (Nat.le_refl _) (.int .i64 kq) (.iface tq (.pointer (some ⟨bq, 0, none⟩)))
  have hx2 := geoS.mono (G := orNew no (w.heap.size + 1)) hx (fun b _ hb => no_mono (by omega) hb)
  have hx3 := geoS.kf hx2 (KF.put2 (orNew no (w.heap.size + 1)) w4 (b := w.heap.size) (by simp [orNew, no]) (.int .i64 kq) (.iface tq (.pointer (some ⟨bq, 0, none⟩))))
  have HP3 := Lib.hid hP3
  have HA3 := Lib.hid hA3
  have HX3 := Lib.hid (geoS.mono (G := orNew no w.heap.size) hx3 (fun b _ hb => no_mono (by omega) hb))
  clear hP hA hx hx2 hP3 hA3 hx3
  go_wp2_with fail
  generalize (w4.setCell ⟨w.heap.size, 0, none⟩ (.int .i64 kq)).setCell ⟨w.heap.size, 1, none⟩ (.iface tq (.pointer (some ⟨bq, 0, none⟩))) = w5 at *
  clear a0 a1 af al
  have hA := HA3.out
  have a0 := hA.cell (i := 0) rfl
  have a1 := hA.cell (i := 1) rfl
  have af := hA.free
  have al := hA.lt
  refine bodyPost_ret (v := .tuple #[.agg #[.int .i64 kq, .iface tq (.pointer (some ⟨bq, 0, none⟩))], .nilIface]) (by simp [results, Tryz.results136, go_sem, a0, a1, af]) rfl ⟨_, rfl, HP3.out.ps, HP3.out.kf, HX3.out⟩
theorem takes_kind {k : Nat} {c : Pg} (h : takes k c = true) : (k = 4 → c.kind = 1) ∧ (k = 3 ∨ k = 5 → c.kind = 2) ∧ (k = 6 → c.kind = 3) := by
  unfold takes at h
  refine ⟨fun e => ?_, fun e => ?_, fun e => ?_⟩
  · subst e; simpa using h
  · rcases e with rfl | rfl <;> simpa using h
  · subst e; simpa using h
theorem run_ok : ∀ p : Pg, PgMade p → PgB p → PgReal p → PgNum 1000 p → RunOk p := Pg.indB fun k d ps kids ih hM hB hRl hN => by
  obtain ⟨hn1, hn2, hn3⟩ : ps.length * wid d ≤ 1000 ∧ kids.length ≤ 1000 ∧ ∀ c ∈ kids, PgNum 1000 c := by cases hN; exact ⟨by assumption, by assumption, by assumption⟩
  obtain ⟨hb1, hb2⟩ : (∀ q ∈ ps, PlB q) ∧ ∀ c ∈ kids, PgB c := by cases hB; exact ⟨by assumption, by assumption⟩
  obtain ⟨hr1, hr2⟩ : (∀ q ∈ ps, PlReal q) ∧ ∀ c ∈ kids, PgReal c := by cases hRl; exact ⟨by assumption, by assumption⟩
  have hps : ps.length ≤ 200000 := by have := Nat.mul_le_mul_left ps.length (wid_pos d); omega
  intro o r w0 pb big w h
  cases hM with
  | pt d l hd hl hn =>
    rw [wkbO_one] at h
    exact run_with _ 1 d (by omega) hd _ _ r w0 pb big w (fun w' h' => rootPt_ w0 pb d _ _ r _ w' (fun w2 h2 => parsePoint_ w0 pb d hd ps hl hn (fun q hq => ⟨(hr1 q hq).nums 3 _ (by simp [Pl.nums]), (hr1 q hq).nums 3 _ (by simp [Pl.nums])⟩) hb1 r _ w2 h2) h') h
  | ls d l hd hn =>
    rw [wkbO_two] at h
    exact run_with _ 2 d (by omega) hd _ _ r w0 pb big w (fun w' h' => rootLs_ w0 pb d _ _ r _ w' (fun w2 h2 => parseLs_ w0 pb d ps r _ w2 hd hn hb1 hps h2) h') h
  | wh k d kids hk k1 k2 hd h1 h2 h3 =>
    rw [wkbO_many _ _ _ _ _ k1 k2] at h
    simp only at h
    rw [List.append_assoc (headE _ _ _)] at h
    have hK : ∀ c ∈ kids, RunOk c := fun c hc => ih c hc (h3 c hc) (hb2 c hc) (hr2 c hc) (hn3 c hc)
    have hcs : k = 0 ∨ k = 3 ∨ k = 4 ∨ k = 5 ∨ k = 6 := by omega
    refine run_with _ k d (by omega) hd _ _ r w0 pb big w ?_ h
    clear h
    intro w' h'
    rw [List.append_assoc] at h'
    rcases hcs with rfl | rfl | rfl | rfl | rfl
    · refine rootGc_ w0 pb d _ _ r _ w' (fun w2 h2 => parseGc_ w0 pb d kids o.tail r _ w2 hd (by omega) h1 h3 hK ?_) h'
      simpa [kidsO] using h2
    · refine rootPy_ w0 pb d _ _ r _ w' (fun w2 h4 => parsePy_ w0 pb d kids r _ w2 hd (by omega) h1 h3 (fun c hc => ?_) ?_) h'
      · have hc2 := (takes_kind (h2 c hc)).2.1 (.inl rfl)
        have hb := hb2 c hc
        have hn := hn3 c hc
        obtain ⟨kc, dc, pc, cc⟩ := c
        refine ⟨hc2, by cases hb; assumption, ?_⟩
        cases hn with
        | mk _ _ _ _ g1 _ _ => show pc.length ≤ 200000; have := Nat.mul_le_mul_left pc.length (wid_pos dc); omega
      · simpa [kidsO] using h4
    · refine rootMp_ w0 pb d _ _ r _ w' (fun w2 h4 => parseMp_ w0 pb d kids o.tail r _ w2 hd (by omega) h1 h3 (fun c hc => ⟨(takes_kind (h2 c hc)).1 rfl, hK c hc⟩) ?_) h'
      simpa [kidsO] using h4
    · refine rootMl_ w0 pb d _ _ r _ w' (fun w2 h4 => parseMl_ w0 pb d kids o.tail r _ w2 hd (by omega) h1 h3 (fun c hc => ⟨(takes_kind (h2 c hc)).2.1 (.inr rfl), hK c hc⟩) ?_) h'
      simpa [kidsO] using h4
    · refine rootMy_ w0 pb d _ _ r _ w' (fun w2 h4 => parseMy_ w0 pb d kids o.tail r _ w2 hd (by omega) h1 h3 (fun c hc => ⟨(takes_kind (h2 c hc)).2.2 rfl, hK c hc⟩) ?_) h'
      simpa [kidsO] using h4
end Go.Proofs.YtbakhldjfplbfaaGreat
