/-
  The laws of trees: whether items are good, walked. No condition.
-/
import Derived.Test.YtokofimfinhnbaaDoorTr20
set_option linter.unusedVariables false
set_option linter.unusedSimpArgs false
namespace Go.Proofs.YtokofimfinhnbaaDoor
open Go.RowKit Go.Fl Go.Sl Go.Ch Go.Fr Go.Mb
def GoodL (L : List It) : Prop := L.length ≤ 400 ∧ (∀ t ∈ L, boxB t.box = true) ∧ (L.map It.id).Nodup
def KItems (w : World) (L : List It) (e : Ending) (w' : World) : Prop := ∃ t, e = .returned (.bool t) ∧ (t = true → GoodL L) ∧ Stab.Keeps w w'
theorem zeroBool (w : World) : (zeroValue 4).run Tryd.prog w = .ok (.bool false) w := by kernel_rfl
set_option maxRecDepth 100000 in
set_option maxHeartbeats 1000000 in
theorem kItems_ (a : Option Addr) (n cap : Nat) (L : List It) (w : World) (hl : L.length = n) (h : Sz w a n cap 5 (enc L)) (hid : ∀ t ∈ L, (Lit.int .i64 t.id).wf = true) :
    Calls Tryd.prog 6 #[.slice a n cap] w (KItems w L) := by
  have hle := h.le
  have hmx := h.max
  unfold maxLen at hmx
  have hmm : ∀ w : World, (Instr.makeMap 48 none).run Tryd.prog w = .ok (.map (some w.heap.size)) (w.alloc (.map #[] 0)) := fun w => run_makeMap 48 w
  by_cases h4 : n ≤ 400
  · have g1 : decide ((n : Int) > 400) = false := by simp; omega
    have HL := Lib.hid hl
    clear hl
    go_enter Tryd.func6, Tryd.ntmps6
    go_wp2
    have hM := MB.made (P := Tryd.prog) (k := 3) (e := 4) w
    have hK : Stab.Keeps w (w.alloc (.map #[] 0)) := by repeat (first | (with_reducible exact Stab.Keeps.refl _) | (with_reducible assumption) | (with_reducible refine Stab.Keeps.alloc ?_ _) | (with_reducible refine Stab.Keeps.drew ?_) | (with_reducible refine Stab.Keeps.drewN ?_ _) | ((with_reducible refine Stab.Keeps.setCell ?_ ?_ _); focus (first | (simp; done) | (simp; omega))) | (with_reducible refine Stab.Keeps.trans ?_ (by with_reducible assumption)))
    generalize w.alloc (.map #[] 0) = W at hM hK ⊢
    clear hmm
    go_loopw [12] (fun iv wr => ∃ k : Nat, k ≤ n ∧ iv = .int .i64 k ∧ Stab.Keeps w wr ∧ MB Tryd.prog 3 4 wr w.heap.size k ((L.take k).map It.id) ∧ (∀ t ∈ L.take k, boxB t.box = true) ∧ ((L.take k).map It.id).Nodup) (fun iv _ => n - (intOf iv).toNat)
    case atStart => exact ⟨0, by omega, rfl, hK, by simpa using hM, fun t ht => by simp at ht, by simp⟩
    case round =>
      clear hM hK
      obtain ⟨k, k2, rfl, hK, hM, hgood, hnd⟩ := hrel
      by_cases hlt : k < n
      · obtain ⟨b, off, ha, hb, hc⟩ := (h.keep hK).elem hlt
        subst ha
        have hkL : k < L.length := by have := HL.out; omega
        have eg := fun j hj => enc_get L k j hkL hj
        have c0 : wr.cell? ⟨b, off + k * 5, none⟩ = some (.float .f64 L[k].box.a) := hc 0 _ (by omega) (by rw [eg 0 (by omega)]; rfl)
        have c1 : wr.cell? ⟨b, off + k * 5 + 1, none⟩ = some (.float .f64 L[k].box.b) := hc 1 _ (by omega) (by rw [eg 1 (by omega)]; rfl)
        have c2 : wr.cell? ⟨b, off + k * 5 + 2, none⟩ = some (.float .f64 L[k].box.c) := hc 2 _ (by omega) (by rw [eg 2 (by omega)]; rfl)
        have c3 : wr.cell? ⟨b, off + k * 5 + 3, none⟩ = some (.float .f64 L[k].box.d) := hc 3 _ (by omega) (by rw [eg 3 (by omega)]; rfl)
        have c4 : wr.cell? ⟨b, off + k * 5 + 4, none⟩ = some (.int .i64 L[k].id) := hc 4 _ (by omega) (by rw [eg 4 (by omega)]; rfl)
        have hcut : L.take (k + 1) = L.take k ++ [L[k]] := List.take_succ_eq_append_getElem hkL
        have hwf := hid L[k] (List.getElem_mem _)
        have HC := Lib.hid hcut
        clear eg hc hcut
        generalize L[k] = t at *
        have hkb := fun w => kBox_ t.box w
        simp only [B4.val] at hkb
        go_wp2_with fail
        refine (hkb _).mono ?_
        clear hkb
        rintro e w2 ⟨rfl, hk2⟩
        cases hv : boxB t.box with
        | false =>
          go_wp2
          go_ret
          refine ⟨_, rfl, (fun h => by cases h), ?_⟩
          repeat (first | (with_reducible exact Stab.Keeps.refl _) | (with_reducible assumption) | (with_reducible refine Stab.Keeps.alloc ?_ _) | (with_reducible refine Stab.Keeps.drew ?_) | (with_reducible refine Stab.Keeps.drewN ?_ _) | ((with_reducible refine Stab.Keeps.setCell ?_ ?_ _); focus (first | (simp; done) | (simp; omega))) | (with_reducible refine Stab.Keeps.trans ?_ (by with_reducible assumption)))
        | true =>
          obtain ⟨mc_, mf_⟩ := Stab.own_cell hk2 (wr.heap.size) (by first | (simp; done) | (simp; omega) | omega | (apply Stab.cell_lt (a := ⟨wr.heap.size, 0, none⟩); assumption))
          have m0 : w2.cell? ⟨wr.heap.size, 0, none⟩ = some (.float .f64 t.box.a) := by rw [mc_]; first | assumption | (go_simp; done)
          have m1 : w2.cell? ⟨wr.heap.size, 1, none⟩ = some (.float .f64 t.box.b) := by rw [mc_]; first | assumption | (go_simp; done)
          have m2 : w2.cell? ⟨wr.heap.size, 2, none⟩ = some (.float .f64 t.box.c) := by rw [mc_]; first | assumption | (go_simp; done)
          have m3 : w2.cell? ⟨wr.heap.size, 3, none⟩ = some (.float .f64 t.box.d) := by rw [mc_]; first | assumption | (go_simp; done)
          have m4 : w2.cell? ⟨wr.heap.size, 4, none⟩ = some (.int .i64 t.id) := by rw [mc_]; first | assumption | (go_simp; done)
          have mf : ∀ j, w2.frozen? ⟨wr.heap.size, j, none⟩ = false := fun j => by rw [mf_]; first | (go_simp; done) | (apply_assumption)
          clear mc_ mf_
          have hkk : Stab.Keeps wr w2 := by repeat (first | (with_reducible exact Stab.Keeps.refl _) | (with_reducible assumption) | (with_reducible refine Stab.Keeps.alloc ?_ _) | (with_reducible refine Stab.Keeps.drew ?_) | (with_reducible refine Stab.Keeps.drewN ?_ _) | ((with_reducible refine Stab.Keeps.setCell ?_ ?_ _); focus (first | (simp; done) | (simp; omega))) | (with_reducible refine Stab.Keeps.trans ?_ (by with_reducible assumption)))
          have hM2 := hM.keep hkk
          have hlook := hM2.lookup (t := 48) Tryd.underlying48 Tryd.underlying3 Tryd.underlying4 (zeroBool w2) t.id hwf
          have hMl := hM2.lt
          by_cases hin : t.id ∈ (L.take k).map It.id
          · rw [decide_eq_true hin] at hlook
            clear hM hM2 hgood hnd
            go_wp2
            go_ret
            refine ⟨_, rfl, (fun h => by cases h), ?_⟩
            repeat (first | (with_reducible exact Stab.Keeps.refl _) | (with_reducible assumption) | (with_reducible refine Stab.Keeps.alloc ?_ _) | (with_reducible refine Stab.Keeps.drew ?_) | (with_reducible refine Stab.Keeps.drewN ?_ _) | ((with_reducible refine Stab.Keeps.setCell ?_ ?_ _); focus (first | (simp; done) | (simp; omega))) | (with_reducible refine Stab.Keeps.trans ?_ (by with_reducible assumption)))
          · rw [decide_eq_false hin] at hlook
            clear hM
            go_wp2_with ((with_reducible_and_instances refine MB.put rfl _ _ _ 48 rfl Tryd.underlying48 Tryd.underlying3 Tryd.underlying4 rfl hM2 ?c1 t.id hwf rfl rfl ?_))
            case c1 => unfold maxLen; omega
            intro w3 hM3 hg3
            have hk3 : Stab.Keeps w w3 := by
              have h1 : Stab.Keeps w w2 := by repeat (first | (with_reducible exact Stab.Keeps.refl _) | (with_reducible assumption) | (with_reducible refine Stab.Keeps.alloc ?_ _) | (with_reducible refine Stab.Keeps.drew ?_) | (with_reducible refine Stab.Keeps.drewN ?_ _) | ((with_reducible refine Stab.Keeps.setCell ?_ ?_ _); focus (first | (simp; done) | (simp; omega))) | (with_reducible refine Stab.Keeps.trans ?_ (by with_reducible assumption)))
              exact Below.grown h1 hg3 h1.size (fun g hg => by cases hg; exact Nat.le_refl _)
            have hmap : (L.take (k + 1)).map It.id = (L.take k).map It.id ++ [t.id] := by rw [HC.out]; simp
            have hM4 : MB Tryd.prog 3 4 w3 w.heap.size (k + 1) ((L.take (k + 1)).map It.id) := by rw [hmap, List.map_take]; simpa using hM3
            clear hM3
            have hnd' : ((L.take (k + 1)).map It.id).Nodup := by
              rw [hmap]
              exact List.nodup_append.2 ⟨hnd, by simp, fun x hx y hy => by simp at hy; subst hy; rintro rfl; exact hin hx⟩
            have hgood' : ∀ x ∈ L.take (k + 1), boxB x.box = true := fun x hx => by
              rw [HC.out] at hx
              rcases List.mem_append.1 hx with hx | hx
              · exact hgood x hx
              · simp at hx; subst hx; exact hv
            clear hmap hM2 hlook
            go_wp2_with fail
            go_roundw
            case rel => exact ⟨k + 1, by omega, by go_num, hk3, hM4, hgood', hnd'⟩
            case measure => simp [intOf]; omega
      · have hkn : k = n := by omega
        subst hkn
        rw [List.take_of_length_le (by rw [HL.out]; exact Nat.le_refl _)] at hgood hnd
        go_wp2_with fail
        go_ret
        exact ⟨true, rfl, fun _ => ⟨by rw [HL.out]; exact h4, hgood, hnd⟩, hK⟩
  · have g1 : decide ((n : Int) > 400) = true := by simp; omega
    go_enter Tryd.func6, Tryd.ntmps6
    go_wp2
    go_ret
    refine ⟨_, rfl, (fun h => by cases h), ?_⟩
    repeat (first | (with_reducible exact Stab.Keeps.refl _) | (with_reducible assumption) | (with_reducible refine Stab.Keeps.alloc ?_ _) | (with_reducible refine Stab.Keeps.drew ?_) | (with_reducible refine Stab.Keeps.drewN ?_ _) | ((with_reducible refine Stab.Keeps.setCell ?_ ?_ _); focus (first | (simp; done) | (simp; omega))) | (with_reducible refine Stab.Keeps.trans ?_ (by with_reducible assumption)))
end Go.Proofs.YtokofimfinhnbaaDoor
