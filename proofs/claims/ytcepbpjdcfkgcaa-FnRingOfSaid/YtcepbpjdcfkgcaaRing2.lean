/-
  A ring put together of sequences: the walk. No condition.
-/
import Derived.Test.YtcepbpjdcfkgcaaRing1
set_option linter.unusedVariables false
set_option linter.unusedSimpArgs false
namespace Go.Proofs.Ytcepbpjdcfkgcaa
open Go.RowKit Go.Fl Go.Sl
theorem owns_take {w : World} {base k n m C T : Nat} {e : TypeId} {xs : List Value} (h : w.ownsRow base e k (.slice (some ⟨C, 0, none⟩) n T) n xs) (hm : m ≤ n) : w.ownsRow base e k (.slice (some ⟨C, 0, none⟩) m T) m (xs.take (m * k)) := by
  refine ⟨by rw [List.length_take, h.1, Nat.min_eq_left (Nat.mul_le_mul_right _ hm)], ?_⟩
  rcases h.2 with ⟨hn, _⟩ | ⟨g, cap, cur, hv, hb, hg, h1, h2, h3, h4⟩
  · cases hn
  · cases hv
    refine .inr ⟨C, T, cur, rfl, hb, hg, Nat.le_trans hm h1, h2, h3, ?_⟩
    rw [← h4, List.take_take, Nat.min_eq_left (Nat.mul_le_mul_right _ hm)]
theorem lens_ge : ∀ (ss : List (Nat × List Nat)), (∀ s ∈ ss, 4 ≤ s.2.length) → 4 * ss.length ≤ lens ss
  | [], _ => by simp [lens]
  | s :: ss, h => by
    have h1 := lens_ge ss (fun t ht => h t (by simp [ht]))
    have h2 := h s (by simp)
    simp only [lens, List.map_cons, List.sum_cons, List.length_cons] at *
    omega
theorem lens_even : ∀ (ss : List (Nat × List Nat)), (∀ s ∈ ss, s.2.length % 2 = 0) → lens ss % 2 = 0
  | [], _ => by simp [lens]
  | s :: ss, h => by
    have h1 := lens_even ss (fun t ht => h t (by simp [ht]))
    have h2 := h s (by simp)
    simp only [lens, List.map_cons, List.sum_cons] at *
    omega
set_option maxRecDepth 100000 in
set_option maxHeartbeats 2000000 in
theorem buildRing_ (a : Option Addr) (m cap : Nat) (ss : List (Nat × List Nat)) (w : World) (hm : ss.length = m) (h0 : 0 < m) (hm2 : m ≤ 20) (h : Sl w a m cap 2 (ss.flatMap sqCells)) (hs : ∀ s ∈ ss, SqAt w s) :
    Calls Try.prog 32 #[.slice a m cap] w (SeqPost w 0 ((ringN ss).length + 2) (encN (ringN ss ++ (ringN ss).take 2))) := by
  obtain ⟨i0, hi, hz0, hz1, hz2⟩ := info_parts infoFloat
  have hle := h.le
  have hmx := h.max
  unfold maxLen at hmx
  have hR := ringN_len ss (fun s hx => (hs s hx).2.1)
  have hT := lens_le ss (fun s hx => (hs s hx).2.2.1)
  have hL : ∀ s ∈ ss, ∀ w', Calls Try.prog 28 #[.agg #[.int .u8 0, .slice (some ⟨s.1, 0, none⟩) s.2.length s.2.length]] w' (One w' (.int .i64 (s.2.length / 2 : Nat))) := fun s hx w' => by
    have := length_ 0 (by omega) (some ⟨s.1, 0, none⟩) s.2.length s.2.length (Nat.le_refl _) (by unfold maxLen; have := (hs s hx).2.2.1; omega) w'
    exact this
  go_enter Try.func32, Try.ntmps32
  go_wp2_with fail
  have hkp : Stab.Keeps w (w.alloc (.cells #[.int .u8 0, .slice none 0 0] 48)) := by repeat (first | (with_reducible exact Stab.Keeps.refl _) | (with_reducible assumption) | (with_reducible refine Stab.Keeps.alloc ?_ _) | (with_reducible refine Stab.Keeps.drew ?_) | (with_reducible refine Stab.Keeps.drewN ?_ _) | ((with_reducible refine Stab.Keeps.setCell ?_ ?_ _); focus (first | (simp; done) | (simp; omega))) | (with_reducible refine Stab.Keeps.trans ?_ (by with_reducible assumption)))
  have r0 : (w.alloc (.cells #[.int .u8 0, .slice none 0 0] 48)).cell? ⟨w.heap.size, 0, none⟩ = some (.int .u8 0) := by go_simp
  have r1 : (w.alloc (.cells #[.int .u8 0, .slice none 0 0] 48)).cell? ⟨w.heap.size, 1, none⟩ = some (.slice none 0 0) := by go_simp
  have rf : ∀ j, (w.alloc (.cells #[.int .u8 0, .slice none 0 0] 48)).frozen? ⟨w.heap.size, j, none⟩ = false := fun j => by go_simp
  generalize (w.alloc (.cells #[.int .u8 0, .slice none 0 0] 48)) = w1 at *
  go_loopw [3, 12] (fun v i wr => ∃ k : Nat, k ≤ m ∧ i = .int .i64 k ∧ v = .int .i64 (lens (ss.take k) : Nat) ∧ Stab.Keeps w1 wr) (fun _ i _ => m - (intOf i).toNat)
  case atStart => exact ⟨0, Nat.zero_le _, rfl, by simp [lens], by repeat (first | (with_reducible exact Stab.Keeps.refl _) | (with_reducible assumption) | (with_reducible refine Stab.Keeps.alloc ?_ _) | (with_reducible refine Stab.Keeps.drew ?_) | (with_reducible refine Stab.Keeps.drewN ?_ _) | ((with_reducible refine Stab.Keeps.setCell ?_ ?_ _); focus (first | (simp; done) | (simp; omega))) | (with_reducible refine Stab.Keeps.trans ?_ (by with_reducible assumption)))⟩
  case round =>
    obtain ⟨k, hk, rfl, rfl, hK⟩ := hrel
    by_cases hlt : k < m
    · obtain ⟨b, off, ha, hb, hc⟩ := (h.keep (Stab.Keeps.trans hkp hK)).elem hlt
      subst ha
      have hki : k < ss.length := by omega
      have c0 : wr.cell? ⟨b, off + k * 2, none⟩ = some (.int .u8 0) := hc 0 _ (by omega) (by rw [flat_get sqCells 2 sq_len ss k 0 hki (by omega)]; rfl)
      have c1 : wr.cell? ⟨b, off + k * 2 + 1, none⟩ = some (.slice (some ⟨ss[k].1, 0, none⟩) ss[k].2.length ss[k].2.length) := hc 1 _ (by omega) (by rw [flat_get sqCells 2 sq_len ss k 1 hki (by omega)]; rfl)
      have hLk := hL ss[k] (List.getElem_mem _)
      obtain ⟨_, hs1, hs2, hs3⟩ := hs ss[k] (List.getElem_mem _)
      have hln : lens (ss.take (k + 1)) = lens (ss.take k) + ss[k].2.length := by rw [List.take_succ_eq_append_getElem hki, lens_snoc]
      have hT2 := lens_le (ss.take (k + 1)) (fun s hx => (hs s (List.mem_of_mem_take hx)).2.2.1)
      simp only [List.length_take] at hT2
      clear hc
      generalize ss[k] = x at *
      go_wp2_with fail
      refine (hLk _).mono ?_
      clear hLk hL
      rintro e w3 ⟨rfl, hk3⟩
      go_wp2_with fail
      refine ⟨⟨k + 1, by omega, by go_num, ?_, ?_⟩, by simp [intOf]; omega⟩
      · rw [hln]
        refine congrArg (Value.int .i64) ?_
        omega
      · repeat (first | (with_reducible exact Stab.Keeps.refl _) | (with_reducible assumption) | (with_reducible refine Stab.Keeps.alloc ?_ _) | (with_reducible refine Stab.Keeps.drew ?_) | (with_reducible refine Stab.Keeps.drewN ?_ _) | ((with_reducible refine Stab.Keeps.setCell ?_ ?_ _); focus (first | (simp; done) | (simp; omega))) | (with_reducible refine Stab.Keeps.trans ?_ (by with_reducible assumption)))
    · have hkm : k = m := by omega
      subst hkm
      rw [List.take_of_length_le (by omega)]
      obtain ⟨V, hV⟩ : ∃ V, V = wr := ⟨_, rfl⟩
      subst hV
      have hKw : Stab.Keeps w V := Stab.Keeps.trans hkp hK
      obtain ⟨hc, hf⟩ := Stab.own_cell hK w.heap.size (Stab.cell_lt r0)
      have s0 : V.cell? ⟨w.heap.size, 0, none⟩ = some (.int .u8 0) := by rw [hc]; exact r0
      have s1 : V.cell? ⟨w.heap.size, 1, none⟩ = some (.slice none 0 0) := by rw [hc]; exact r1
      have sf : ∀ j, V.frozen? ⟨w.heap.size, j, none⟩ = false := fun j => by rw [hf]; exact rf j
      clear hc hf hL r0 r1 rf hK hkp
      obtain ⟨T, hTd⟩ : ∃ T, (ringN ss).length + 2 = T := ⟨_, rfl⟩
      have hTT : T ≤ 2002 := by omega
      have hcap : (lens ss : Int) - 2 * (k : Int) + 2 = (T : Int) := by omega
      have hmk : ∀ w : World, (Instr.makeSlice 24 (.int .i64 0) (.int .i64 T)).run Try.prog w = .ok (.slice (some ⟨w.heap.size, 0, none⟩) 0 T) (w.alloc (.cells (madeCells #[.float .f64 0] T) 44)) := fun w => by
        have := run_make (P := Try.prog) w 24 44 i0 _ Try.underlying24 hi hz0 .i64 .i64 0 T (by omega) (by omega) (by rw [hz2]; omega) (by omega)
        rw [hz1] at this
        simpa [Value.cells] using this
      go_wp2_with fail
      have ho : (V.alloc (.cells (madeCells #[.float .f64 0] T) 44)).ownsRow V.heap.size 44 1 (.slice (some ⟨V.heap.size, 0, none⟩) 0 T) 0 (encN []) :=
        World.ownsRow_made V _ T (Nat.le_refl _) (by unfold maxLen; omega) (by simp [size_madeCells])
      have hkW : Stab.Keeps V (V.alloc (.cells (madeCells #[.float .f64 0] T) 44)) := by repeat (first | (with_reducible exact Stab.Keeps.refl _) | (with_reducible assumption) | (with_reducible refine Stab.Keeps.alloc ?_ _) | (with_reducible refine Stab.Keeps.drew ?_) | (with_reducible refine Stab.Keeps.drewN ?_ _) | ((with_reducible refine Stab.Keeps.setCell ?_ ?_ _); focus (first | (simp; done) | (simp; omega))) | (with_reducible refine Stab.Keeps.trans ?_ (by with_reducible assumption)))
      have hsl := Stab.cell_lt s0
      simp only at hsl
      have hlC : V.heap.size < (V.alloc (.cells (madeCells #[.float .f64 0] T) 44)).heap.size := by simp
      generalize (V.alloc (.cells (madeCells #[.float .f64 0] T) 44)) = W at *
      have hBW : Below V.heap.size V W := hkW
      have hCw : w.heap.size ≤ V.heap.size := hKw.size
      have hsA : ∀ s ∈ ss, Sl V (some ⟨s.1, 0, none⟩) s.2.length s.2.length 1 (encN s.2) := fun s hx => (hs s hx).1.keep hKw
      have hrow := h.keep hKw
      clear hmk
      generalize hC : V.heap.size = C at *
      replace hC : Go.RowKit.Hid _ := hC
      have hsC : ∀ s ∈ ss, s.1 < C := fun s hx => by
        obtain ⟨b, off, e, hb, _⟩ := (hsA s hx).at_ _ rfl
        cases e
        have := hC.out
        omega
      have haC : ∀ x, a = some x → x.block < C := fun x hx => by
        obtain ⟨b, off, e, hb, _⟩ := hrow.at_ _ hx
        subst e
        have := hC.out
        show b < C
        omega
      go_loopw [6, 33] (fun v i wq => ∃ j : Nat, j ≤ k ∧ i = .int .i64 j ∧ v = .slice (some ⟨C, 0, none⟩) (ringN (ss.take j)).length T ∧ Below C V wq ∧ wq.ownsRow C 44 1 (.slice (some ⟨C, 0, none⟩) (ringN (ss.take j)).length T) (ringN (ss.take j)).length (encN (ringN (ss.take j)))) (fun _ i _ => k - (intOf i).toNat)
      case atStart => exact ⟨0, Nat.zero_le _, rfl, rfl, hBW, ho⟩
      case round =>
        obtain ⟨j, hj, rfl, rfl, hB, ho2⟩ := hrel
        by_cases hlt : j < k
        · obtain ⟨b, off, ha, hb, hc⟩ := (hrow.keepB hB haC).elem hlt
          have hbC : b < C := haC _ ha
          subst ha
          have hki : j < ss.length := by omega
          have c0 : wr.cell? ⟨b, off + j * 2, none⟩ = some (.int .u8 0) := hc 0 _ (by omega) (by rw [flat_get sqCells 2 sq_len ss j 0 hki (by omega)]; rfl)
          have c1 : wr.cell? ⟨b, off + j * 2 + 1, none⟩ = some (.slice (some ⟨ss[j].1, 0, none⟩) ss[j].2.length ss[j].2.length) := hc 1 _ (by omega) (by rw [flat_get sqCells 2 sq_len ss j 1 hki (by omega)]; rfl)
          obtain ⟨_, hs1, hs2, hs3⟩ := hs ss[j] (List.getElem_mem _)
          have hsl2 := (hsA ss[j] (List.getElem_mem _)).keepB hB (fun x hx => by cases hx; exact hsC _ (List.getElem_mem _))
          have hjC := hsC ss[j] (List.getElem_mem _)
          have hnx : ringN (ss.take (j + 1)) = ringN (ss.take j) ++ ss[j].2.take (ss[j].2.length - 2) := by rw [List.take_succ_eq_append_getElem hki, ringN_snoc]
          have hmono := ringN_mono ss (j + 1)
          rw [hnx, List.length_append, List.length_take] at hmono
          clear hc
          generalize ss[j] = x at *
          obtain ⟨cnt, hcnt⟩ : ∃ cnt, (ringN (ss.take j)).length = cnt := ⟨_, rfl⟩
          rw [hcnt] at ho2 hmono
          simp only [hcnt]
          have hA := fun w' (hk : Stab.Keeps wr w') => appendAll_ 0 x.1 x.2.length C cnt T x.2 _ w' rfl (by omega) (by omega) (by omega) hjC (hsl2.keep hk) (owns_keep ho2 hk)
          go_wp2_with fail
          refine (hA _ (by repeat (first | (with_reducible exact Stab.Keeps.refl _) | (with_reducible assumption) | (with_reducible refine Stab.Keeps.alloc ?_ _) | (with_reducible refine Stab.Keeps.drew ?_) | (with_reducible refine Stab.Keeps.drewN ?_ _) | ((with_reducible refine Stab.Keeps.setCell ?_ ?_ _); focus (first | (simp; done) | (simp; omega))) | (with_reducible refine Stab.Keeps.trans ?_ (by with_reducible assumption))))).mono ?_
          rintro e w3 ⟨rfl, hk3, ho3⟩
          clear hA
          have hB3 : Below C V w3 := Below.trans hB (Below.trans (Below.alloc (Below.refl _ _) (by have := (ho2.lt C rfl).2; omega) _) hk3)
          go_wp2_with fail
          have hlen : (ringN (ss.take (j + 1))).length = cnt + x.2.length - 2 := by rw [hnx, List.length_append, List.length_take, hcnt]; omega
          refine ⟨⟨j + 1, by omega, by go_num, by rw [hlen], hB3, ?_⟩, by simp [intOf]; omega⟩
          rw [hlen]
          have h5 := owns_take ho3 (m := cnt + x.2.length - 2) (by omega)
          have h6 : (encN (ringN (ss.take j)) ++ encN x.2).take ((cnt + x.2.length - 2) * 1) = encN (ringN (ss.take (j + 1))) := by
            rw [hnx, Nat.mul_one, List.take_append, List.take_of_length_le (by simp [encN, hcnt]; omega)]
            simp only [encN, List.map_append, List.length_map, hcnt, List.map_take]
            rw [show cnt + x.2.length - 2 - cnt = x.2.length - 2 by omega]
          rw [h6] at h5
          exact h5
        · have hjk : j = k := by omega
          subst hjk
          rw [List.take_of_length_le (by omega)] at ho2 ⊢
          obtain ⟨cnt, hcnt⟩ : ∃ cnt, (ringN ss).length = cnt := ⟨_, rfl⟩
          rw [hcnt] at ho2 hTd hR
          simp only [hcnt]
          obtain ⟨mc_, mf_⟩ := own_cellB hB (w.heap.size) (by first | (simp; done) | (simp; omega) | omega | (apply Stab.cell_lt (a := ⟨w.heap.size, 0, none⟩); assumption))
          have m0 : wr.cell? ⟨w.heap.size, 0, none⟩ = some (.int .u8 0) := by rw [mc_]; first | assumption | (go_simp; done)
          have m1 : wr.cell? ⟨w.heap.size, 1, none⟩ = some (.slice none 0 0) := by rw [mc_]; first | assumption | (go_simp; done)
          have mf : ∀ j, wr.frozen? ⟨w.heap.size, j, none⟩ = false := fun j => by rw [mf_]; first | (go_simp; done) | (apply_assumption)
          clear mc_ mf_
          have hge := lens_ge ss (fun s hx => (hs s hx).2.1)
          have hev := lens_even ss (fun s hx => (hs s hx).2.2.2)
          have h2c : 2 ≤ cnt := by omega
          subst hTd
          have hcl := fun jj uu hu => (World.ownsRow.cells ho2 (g := C) rfl jj uu hu)
          have hNS := fun w' => newSeq_ 0 (by omega) (some ⟨C, 0, none⟩) (cnt + 2) (cnt + 2) (Nat.le_refl _) (by unfold maxLen; omega) (by show (cnt + 2) % 2 = 0; omega) w'
          have hNP := fun w' => noSpare_ 0 (some ⟨C, 0, none⟩) (cnt + 2) (by omega) w'
          have hlr := (ho2.lt C rfl).2
          go_wp2_with (at_builtin; (refine append_fits (w0 := V) rfl _ _ 24 rfl C 44 i0 1 Try.underlying24 hi hz1 C cnt (cnt + 2) (encN (ringN ss)) rfl ho2 ⟨C, 0, none⟩ 2 (cnt + 2) ((encN (ringN ss)).take 2) rfl ?c1 ?c2 ?c3 (Nat.le_refl _) hB ?_))
          case c1 => simp [encN, hcnt]; omega
          case c2 =>
            intro jj uu hu
            refine hcl jj uu ?_
            rw [List.getElem?_take] at hu
            split at hu <;> simp_all
          case c3 => intro v hv; have := List.mem_of_mem_take hv; simp [encN] at this; obtain ⟨x, _, rfl⟩ := this; rfl
          intro w4 ho4 hB4 hsz4 _
          obtain ⟨nc_, nf_⟩ := own_cellB hB4 (w.heap.size) (by first | (simp; done) | (simp; omega) | omega | (apply Stab.cell_lt (a := ⟨w.heap.size, 0, none⟩); assumption))
          have n0 : w4.cell? ⟨w.heap.size, 0, none⟩ = some (.int .u8 0) := by rw [nc_]; first | assumption | (go_simp; done)
          have n1 : w4.cell? ⟨w.heap.size, 1, none⟩ = some (.slice none 0 0) := by rw [nc_]; first | assumption | (go_simp; done)
          have nf : ∀ j, w4.frozen? ⟨w.heap.size, j, none⟩ = false := fun j => by rw [nf_]; first | (go_simp; done) | (apply_assumption)
          clear nc_ nf_
          have hl4 := Stab.cell_lt n0
          simp only at hl4
          clear hcl
          go_wp2_with fail
          refine (hNS _).mono ?_
          rintro e w5 ⟨rfl, hk5⟩
          obtain ⟨pc_, pf_⟩ := Stab.own_cell hk5 (w.heap.size) (by first | (simp; done) | (simp; omega) | omega | (apply Stab.cell_lt (a := ⟨w.heap.size, 0, none⟩); assumption))
          have p0 : w5.cell? ⟨w.heap.size, 0, none⟩ = some (.int .u8 0) := by rw [pc_]; first | assumption | (go_simp; done)
          have p1 : w5.cell? ⟨w.heap.size, 1, none⟩ = some (.slice none 0 0) := by rw [pc_]; first | assumption | (go_simp; done)
          have pf : ∀ j, w5.frozen? ⟨w.heap.size, j, none⟩ = false := fun j => by rw [pf_]; first | (go_simp; done) | (apply_assumption)
          clear pc_ pf_
          have ho5 := owns_keep ho4 hk5
          have hB5 : Below C V w5 := Below.trans hB4 (Below.mono hk5 (by omega))
          clear hNS
          go_wp2_with fail
          refine (hNP _).mono ?_
          rintro e w6 ⟨rfl, hk6⟩
          have hl5 := Stab.cell_lt p0
          simp only at hl5
          obtain ⟨hc6, hf6⟩ := Stab.own_cell hk6 w5.heap.size (by simp)
          have q0 : w6.cell? ⟨w5.heap.size, 0, none⟩ = some (.int .u8 0) := by rw [hc6]; go_simp
          have q1 : w6.cell? ⟨w5.heap.size, 1, none⟩ = some (.slice (some ⟨C, 0, none⟩) (cnt + 2) (cnt + 2)) := by rw [hc6]; go_simp
          obtain ⟨hc7, hf7⟩ := Stab.own_cell hk6 w.heap.size (by simp; omega)
          have t0 : w6.cell? ⟨w.heap.size, 0, none⟩ = some (.int .u8 0) := by rw [hc7]; go_simp
          have t1 : w6.cell? ⟨w.heap.size, 1, none⟩ = some (.slice none 0 0) := by rw [hc7]; go_simp
          have tf : ∀ jj, w6.frozen? ⟨w.heap.size, jj, none⟩ = false := fun jj => by rw [hf7]; go_simp
          have ho6 : w6.ownsRow C 44 1 (.slice (some ⟨C, 0, none⟩) (cnt + 2) (cnt + 2)) (cnt + 2) (encN (ringN ss) ++ (encN (ringN ss)).take 2) := owns_keep (ho5.alloc _) hk6
          have hC5 : C ≤ w5.heap.size := by have := hB5.size; have := hC.out; omega
          have hB6 : Below C V w6 := Below.trans (Below.alloc hB5 hC5 _) (Below.mono hk6 (by simp; omega))
          clear hc6 hf6 hc7 hf7 hNP
          go_wp2_with fail
          have hSl := owns_set (u := .slice (some ⟨C, 0, none⟩) (cnt + 2) (cnt + 2)) (i := 1) (owns_set (u := .int .u8 0) (i := 0) ho6 hsl) hsl
          have hxs : encN (ringN ss) ++ (encN (ringN ss)).take 2 = encN (ringN ss ++ (ringN ss).take 2) := by simp [encN]
          rw [hxs] at hSl
          subst hcnt
          refine bodyPost_ret (v := .agg #[.int .u8 0, .slice (some ⟨C, 0, none⟩) ((ringN ss).length + 2) ((ringN ss).length + 2)]) (by simp [results, Try.results32, go_sem, *]) rfl ⟨C, rfl, ?_, owns_base hSl hCw⟩
          have hfin : Stab.Keeps w w6 := Below.trans hKw (Below.mono hB6 (by omega))
          repeat (first | (with_reducible exact Stab.Keeps.refl _) | (with_reducible assumption) | (with_reducible refine Stab.Keeps.alloc ?_ _) | (with_reducible refine Stab.Keeps.drew ?_) | (with_reducible refine Stab.Keeps.drewN ?_ _) | ((with_reducible refine Stab.Keeps.setCell ?_ ?_ _); focus (first | (simp; done) | (simp; omega))) | (with_reducible refine Stab.Keeps.trans ?_ (by with_reducible assumption)))
end Go.Proofs.Ytcepbpjdcfkgcaa
