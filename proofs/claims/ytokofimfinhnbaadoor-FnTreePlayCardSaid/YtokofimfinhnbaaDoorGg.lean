/-
  The search through a box, walked, over whatever callback. No condition.
  The search through a box, walked, over whatever callback: the whole tree. No condition.
  A question's callback, walked, stopped or not. No condition.
  The nearest item, the extent, the count, walked. No condition.
  The extent, the count, walked. No condition.
  A question that is a search, stopped or not, walked. No condition.
  A question, whatever it is, walked. No condition.
-/
import Derived.Test.YtokofimfinhnbaaDoorGf
import Derived.Deep.Cut
set_option linter.unusedVariables false
set_option linter.unusedSimpArgs false
namespace Go.Proofs.YtokofimfinhnbaaDoor
open Go.RowKit Go.Fl Go.Sl Go.Ch Go.Fr Go.Mb Go.Hp
/-- what a search holds in blocks of its own -/
structure REG (w : World) (st : Addr) (F c1 c2 bx cb rc : Nat) (y : B4) : Prop where
  hbx : Blk w bx 56 y.cells
  hcb : Blk w cb 67 [.func (.func F) #[] #[.pointer (some ⟨c1, 0, none⟩), .pointer (some ⟨c2, 0, none⟩)]]
  hrc : Blk w rc 79 [.func (.func 27) #[] #[.pointer (some ⟨bx, 0, none⟩), .pointer (some ⟨cb, 0, none⟩), .pointer (some ⟨rc, 0, none⟩)]]
  hst : StopE st w
theorem REG.kc {X : Nat → Prop} {base : Nat} {w w' : World} {st : Addr} {F c1 c2 bx cb rc : Nat} {y : B4} (h : REG w st F c1 c2 bx cb rc y) (hk : Kc X base w w') (h0 : 0 < base) (x1 : ¬ X bx) (x2 : ¬ X cb) (x3 : ¬ X rc) : REG w' st F c1 c2 bx cb rc y :=
  ⟨hk.ch.blk h.hbx x1 (by decide), hk.ch.blk h.hcb x2 (by decide), hk.ch.blk h.hrc x3 (by decide), h.hst.below hk.bel h0⟩
/-- what a search goes on with: m has been found, or a part of it, till it was ended -/
def RgPost (st : Addr) (X : Nat → Prop) (base : Nat) (I : List Int → World → Prop) (J : List Int → Int → World → Prop) (ids m : List Int) (w : World) (e : Ending) (w' : World) : Prop :=
  Kc X base w w' ∧ ((e = .returned .nilIface ∧ I (ids ++ m) w') ∨ ∃ m1 m2 h, m = m1 ++ m2 ∧ m1 ≠ [] ∧ e = .returned (if h = 0 ∨ h = 1 then .nilIface else errV st h) ∧ J (ids ++ m1) h w')
def Goes (J : List Int → Int → World → Prop) (t : RT) : Prop := (∀ ids h w, J ids h w → ¬ (h = 0 ∨ h = 1)) ∨ ∃ l, t = .leaf l
def RngG (st : Addr) (F c1 c2 : Nat) (X : Nat → Prop) (base bx cb rc lo : Nat) (y : B4) (I : List Int → World → Prop) (J : List Int → Int → World → Prop) (t : RT) : Prop := ∀ (p : Nat) (ids : List Int) (w : World), NodeAt w lo p t → REG w st F c1 c2 bx cb rc y → I ids w →
    base ≤ w.heap.size → ids.length + (rs y t).length < 1000000 → Goes J t →
    Calls Tryd.prog 27 #[.pointer (some ⟨p, 0, none⟩), .pointer (some ⟨bx, 0, none⟩), .pointer (some ⟨cb, 0, none⟩), .pointer (some ⟨rc, 0, none⟩)] w (RgPost st X base I J ids (rs y t) w)
set_option maxRecDepth 100000 in
set_option maxHeartbeats 4000000 in
theorem rloopG_ (st : Addr) (F c1 c2 : Nat) (X : Nat → Prop) (base B bx cb rc lo p : Nat) (y : B4) (I : List Int → World → Prop) (J : List Int → Int → World → Prop) (t : RT) (K : List (Ent × Option RT)) (ids : List Int) (w : World)
    (hC : CbS st F c1 c2 X base B I J) (hK : Kids w lo p t K) (hE : REG w st F c1 c2 bx cb rc y) (hI : I ids w) (hb0 : 0 < base) (hbw : base ≤ w.heap.size) (x1 : ¬ X bx) (x2 : ¬ X cb) (x3 : ¬ X rc) (hl : ids.length + (rs y t).length < 1000000)
    (hrec : ∀ k ∈ K, ∀ t', k.2 = some t' → (∀ ids h w, J ids h w → ¬ (h = 0 ∨ h = 1)) ∧ RngG st F c1 c2 X base bx cb rc lo y I J t') :
    Calls Tryd.prog 27 #[.pointer (some ⟨p, 0, none⟩), .pointer (some ⟨bx, 0, none⟩), .pointer (some ⟨cb, 0, none⟩), .pointer (some ⟨rc, 0, none⟩)] w (RgPost st X base I J ids (rs y t) w) := by
  have hB := hK.blk
  have hB4 := hK.len
  have hok := hK.ok
  have hrs := hK.rs
  clear hK
  rw [← hrs y] at hl ⊢
  have hpl := hB.lt
  have HG := Lib.hid (fun k (hk : k < K.length) => (by
    have hcut : (K.take (k + 1)).flatMap (fun k => rk y k.1.box k.1.id k.2) = (K.take k).flatMap (fun k => rk y k.1.box k.1.id k.2) ++ rk y K[k].1.box K[k].1.id K[k].2 := by
      rw [List.take_succ_eq_append_getElem hk, List.flatMap_append, List.flatMap_cons, List.flatMap_nil, List.append_nil]
    have h1 : K.flatMap (fun k => rk y k.1.box k.1.id k.2) = (K.take (k + 1)).flatMap (fun k => rk y k.1.box k.1.id k.2) ++ (K.drop (k + 1)).flatMap (fun k => rk y k.1.box k.1.id k.2) := by
      rw [← List.flatMap_append, List.take_append_drop]
    exact ⟨hcut, (K.drop (k + 1)).flatMap (fun k => rk y k.1.box k.1.id k.2), by rw [h1, hcut]⟩ :
      (K.take (k + 1)).flatMap (fun k => rk y k.1.box k.1.id k.2) = (K.take k).flatMap (fun k => rk y k.1.box k.1.id k.2) ++ rk y K[k].1.box K[k].1.id K[k].2 ∧ ∃ rest, K.flatMap (fun k => rk y k.1.box k.1.id k.2) = ((K.take k).flatMap (fun k => rk y k.1.box k.1.id k.2) ++ rk y K[k].1.box K[k].1.id K[k].2) ++ rest))
  have hlk : (K.map (·.1)).length = K.length := by simp
  go_enter Tryd.func27, Tryd.ntmps27
  go_wp2
  go_loopw [6] (fun iv wr => ∃ k : Nat, k ≤ K.length ∧ iv = .int .i64 k ∧ Kc X base w wr ∧ I (ids ++ (K.take k).flatMap (fun k => rk y k.1.box k.1.id k.2)) wr ∧ base ≤ wr.heap.size) (fun iv _ => K.length - (intOf iv).toNat)
  case atStart => exact ⟨0, by omega, rfl, Kc.refl _ _ _, by simpa using hI, hbw⟩
  case round =>
    obtain ⟨k, k2, rfl, hK, hO, hsz⟩ := hrel
    have hBr := hK.node _ _ hB
    have hEr := hE.kc hK hb0 x1 x2 x3
    have hn : wr.cell? ⟨p, 24, none⟩ = some (.int .i64 K.length) := by rw [← hlk]; exact hBr.cell (nodeC_num _ _ hB4)
    have hplr := hBr.lt
    by_cases hlt : k < K.length
    · obtain ⟨e0, e1, e2, e3, e4, e5⟩ := ent_cells hBr hB4 (i := k) (by simpa using hlt)
      rw [List.getElem_map] at e0 e1 e2 e3 e4 e5
      have hxk := hrec K[k] (List.getElem_mem _)
      have hki := KidOk.of hK.node (hok K[k] (List.getElem_mem _))
      obtain ⟨hcut, rest, hrest⟩ := HG.out k hlt
      have b0 := hEr.hbx.cell (i := 0) rfl
      have b1 := hEr.hbx.cell (i := 1) rfl
      have b2 := hEr.hbx.cell (i := 2) rfl
      have b3 := hEr.hbx.cell (i := 3) rfl
      have hbxl := hEr.hbx.lt
      generalize K[k] = x at *
      obtain ⟨⟨bxx, ch, id⟩, ot⟩ := x
      have hov := fun w => overlap_ bxx y w
      simp only [B4.val] at hov
      simp only at e0 e1 e2 e3 e4 e5 hxk hki hcut hrest
      have hlen : (ids ++ (K.take k).flatMap (fun k => rk y k.1.box k.1.id k.2)).length + (rk y bxx id ot).length < 1000000 := by
        rw [hrest] at hl
        simp only [List.length_append] at hl ⊢
        omega
      have HC := Lib.hid hcut
      have HR := Lib.hid hrest
      have HL := Lib.hid hlen
      have HK := Lib.hid hki
      clear hcut hlen hBr hrest hki
      generalize (K.take k).flatMap (fun k => rk y k.1.box k.1.id k.2) = done at *
      go_wp2_with fail
      refine (hov _).mono ?_
      rintro e w2 ⟨rfl, hk2⟩
      clear hov
      have hkk : Stab.Keeps wr w2 := by repeat (first | (with_reducible exact Stab.Keeps.refl _) | (with_reducible assumption) | (with_reducible refine Stab.Keeps.alloc ?_ _) | (with_reducible refine Stab.Keeps.drew ?_) | (with_reducible refine Stab.Keeps.drewN ?_ _) | ((with_reducible refine Stab.Keeps.setCell ?_ ?_ _); focus (first | (simp; done) | (simp; omega))) | (with_reducible refine Stab.Keeps.trans ?_ (by with_reducible assumption)))
      cases hv : ovl bxx y with
      | false =>
        have hadd : rk y bxx id ot = [] := by unfold rk; rw [hv]; rfl
        have hO2 := hC.keep _ _ _ hkk hO
        have hfin : I (ids ++ (K.take (k + 1)).flatMap (fun k => rk y k.1.box k.1.id k.2)) w2 := by rw [HC.out, hadd, List.append_nil]; exact hO2
        have hKf : Kc X base w w2 := hK.trans (Kc.of_keeps hkk hsz)
        have hsz2 := Nat.le_trans hsz hkk.size
        clear hxk hadd hO hO2 hv HK HL HR HC
        go_wp2_with fail
        go_roundw
        case rel => exact ⟨k + 1, by omega, by go_num, hKf, hfin, hsz2⟩
        case measure => simp [intOf]; omega
      | true =>
        obtain ⟨mc_, mf_⟩ := Stab.own_cell hk2 (wr.heap.size) (by first | (simp; done) | (simp; omega) | omega | (apply Stab.cell_lt (a := ⟨wr.heap.size, 0, none⟩); assumption))
        have m0 : w2.cell? ⟨wr.heap.size, 0, none⟩ = some (.float .f64 bxx.a) := by rw [mc_]; first | assumption | (go_simp; done)
        have m1 : w2.cell? ⟨wr.heap.size, 1, none⟩ = some (.float .f64 bxx.b) := by rw [mc_]; first | assumption | (go_simp; done)
        have m2 : w2.cell? ⟨wr.heap.size, 2, none⟩ = some (.float .f64 bxx.c) := by rw [mc_]; first | assumption | (go_simp; done)
        have m3 : w2.cell? ⟨wr.heap.size, 3, none⟩ = some (.float .f64 bxx.d) := by rw [mc_]; first | assumption | (go_simp; done)
        have m4 : w2.cell? ⟨wr.heap.size, 4, none⟩ = some (.pointer (ch.map fun p => ⟨p, 0, none⟩)) := by rw [mc_]; first | assumption | (go_simp; done)
        have m5 : w2.cell? ⟨wr.heap.size, 5, none⟩ = some (.int .i64 id) := by rw [mc_]; first | assumption | (go_simp; done)
        have mf : ∀ j, w2.frozen? ⟨wr.heap.size, j, none⟩ = false := fun j => by rw [mf_]; first | (go_simp; done) | (apply_assumption)
        clear mc_ mf_
        have hE2 := hEr.kc (Kc.of_keeps (X := X) hkk hsz) hb0 x1 x2 x3
        have hO2 := hC.keep _ _ _ hkk hO
        have hKk := hK.trans (Kc.of_keeps hkk hsz)
        have hsz2 := Nat.le_trans hsz hkk.size
        have c0 := hE2.hcb.cell (i := 0) rfl
        have hcl := hE2.hcb.lt
        have r0 := hE2.hrc.cell (i := 0) rfl
        have hrl := hE2.hrc.lt
        cases ot with
        | none =>
          have hch : ch = none := HK.out
          subst hch
          have hadd : rk y bxx id none = [id] := by unfold rk; rw [hv]; rfl
          rw [hadd] at HC HL HR
          have hcall := hC.call (ids ++ done) id w2 hO2 hE2.hst (by have := HL.out; omega)
          have hent := hC.enter
          have m4' : w2.cell? ⟨wr.heap.size, 4, none⟩ = some (.pointer none) := m4
          clear hxk m4 hadd hv HK
          go_wp2_with fail
          refine hcall.mono ?_
          clear hcall hent
          rintro e w3 ⟨hK3, ⟨rfl, hO3⟩ | ⟨h, rfl, hJ3⟩⟩
          · have hE3 := hE2.kc hK3 hb0 x1 x2 x3
            have s0 := hE3.hst
            unfold StopE at s0
            have hfin : I (ids ++ (K.take (k + 1)).flatMap (fun k => rk y k.1.box k.1.id k.2)) w3 := by rw [HC.out, ← List.append_assoc]; exact hO3
            have hKf : Kc X base w w3 := hKk.trans hK3
            have h0l : 0 < w3.heap.size := Stab.cell_lt s0
            have hsz3 := Nat.le_trans hsz2 hK3.ch.size
            clear hO3 hE3 hO2 hE2 hK3 hO hEr m0 m1 m2 m3 m4' m5 mf HC HR HL
            go_wp2_with fail
            refine (is_nil _ _ _).mono ?_
            rintro e w4 ⟨rfl, rfl⟩
            go_wp2_with fail
            go_roundw
            case rel => exact ⟨k + 1, by omega, by go_num, hKf, hfin, hsz3⟩
            case measure => simp [intOf]; omega
          · have hE3 := hE2.kc hK3 hb0 x1 x2 x3
            have s0 := hE3.hst
            unfold StopE at s0
            have h0l : 0 < w3.heap.size := Stab.cell_lt s0
            have hKf : Kc X base w w3 := hKk.trans hK3
            have hsz3 := Nat.le_trans hsz2 hK3.ch.size
            obtain ⟨tt, tv, htv⟩ := errV_iface st h
            have hIs := is_err st h w3
            have HTV := Lib.hid htv
            rw [htv] at hIs
            simp only [htv]
            have hJ3' : J (ids ++ (done ++ [id])) h w3 := by rw [← List.append_assoc]; exact hJ3
            clear hE3 hO2 hE2 hK3 hO hEr m0 m1 m2 m3 m4' m5 mf HL htv hJ3
            go_wp2_with fail
            refine hIs.mono ?_
            clear hIs
            rintro e' w4 ⟨rfl, hk4⟩
            have hJ4 := hC.keepJ _ _ _ _ hk4 hJ3'
            have hKf4 : Kc X base w w4 := hKf.trans (Kc.of_keeps hk4 hsz3)
            by_cases hh : h = 0 ∨ h = 1
            · have hd := decide_eq_true hh
              have HH := Lib.hid hh
              clear hh hJ3'
              go_wp2_with fail
              go_ret
              exact ⟨hKf4, .inr ⟨_, rest, h, HR.out, by simp, by rw [if_pos HH.out]; rfl, hJ4⟩⟩
            · have hd := decide_eq_false hh
              have HH := Lib.hid hh
              clear hh hJ3'
              go_wp2_with fail
              go_ret
              exact ⟨hKf4, .inr ⟨_, rest, h, HR.out, by simp, by rw [if_neg HH.out, HTV.out]; rfl, hJ4⟩⟩
        | some t' =>
          obtain ⟨p', hch, hN', hbe⟩ := HK.out
          subst hch
          have hadd : rk y bxx id (some t') = rs y t' := by unfold rk; rw [hv]; rfl
          rw [hadd] at HC HL HR
          obtain ⟨hJn, hrec'⟩ := hxk t' rfl
          have m4' : w2.cell? ⟨wr.heap.size, 4, none⟩ = some (.pointer (some ⟨p', 0, none⟩)) := m4
          have hcall := hrec' p' (ids ++ done) w2 (hN'.keep hkk) hE2 hO2 hsz2 HL.out (.inl hJn)
          clear m4 hxk hrec' hadd hbe HK hN' hv
          go_wp2_with fail
          refine hcall.mono ?_
          clear hcall
          rintro e w3 ⟨hK3, ⟨rfl, hO3⟩ | ⟨m1', m2', h, hmm, hm1, rfl, hJ3⟩⟩
          · have hfin : I (ids ++ (K.take (k + 1)).flatMap (fun k => rk y k.1.box k.1.id k.2)) w3 := by rw [HC.out, ← List.append_assoc]; exact hO3
            have hKf : Kc X base w w3 := hKk.trans hK3
            have hsz3 := Nat.le_trans hsz2 hK3.ch.size
            clear hO3 hO2 hE2 hK3 hO hEr m0 m1 m2 m3 m4' m5 mf HC HR HL
            go_wp2_with fail
            go_roundw
            case rel => exact ⟨k + 1, by omega, by go_num, hKf, hfin, hsz3⟩
            case measure => simp [intOf]; omega
          · have hh := hJn _ _ _ hJ3
            rw [if_neg hh]
            obtain ⟨tt, tv, htv⟩ := errV_iface st h
            have HTV := Lib.hid htv
            simp only [htv]
            have hKf : Kc X base w w3 := hKk.trans hK3
            have hJ3' : J (ids ++ (done ++ m1')) h w3 := by rw [← List.append_assoc]; exact hJ3
            have hwh : K.flatMap (fun k => rk y k.1.box k.1.id k.2) = (done ++ m1') ++ (m2' ++ rest) := by rw [HR.out, hmm]; simp
            have HW := Lib.hid hwh
            have HH := Lib.hid hh
            clear hO2 hE2 hK3 hO hEr m0 m1 m2 m3 m4' m5 mf HL htv hJ3 hmm hwh hh HC HR
            go_wp2_with fail
            go_ret
            exact ⟨hKf, .inr ⟨_, _, h, HW.out, by simp [hm1], by rw [if_neg HH.out, HTV.out]; rfl, hJ3'⟩⟩
    · have hkn : k = K.length := by omega
      subst hkn
      rw [List.take_length] at hO
      clear HG
      go_wp2_with fail
      go_ret
      exact ⟨hK, .inl ⟨rfl, hO⟩⟩
end Go.Proofs.YtokofimfinhnbaaDoor
set_option linter.unusedVariables false
set_option linter.unusedSimpArgs false
namespace Go.Proofs.YtokofimfinhnbaaDoor
open Go.RowKit Go.Fl Go.Sl Go.Ch Go.Fr Go.Mb Go.Hp
theorem Goes.kid {J : List Int → Int → World → Prop} {t : RT} (h : Goes J t) (hn : ∀ l, t ≠ .leaf l) (t' : RT) : Goes J t' := by
  rcases h with h | ⟨l, rfl⟩
  · exact .inl h
  · exact absurd rfl (hn l)
theorem le_sum : ∀ (l : List Nat) (x : Nat), x ∈ l → x ≤ l.sum
  | [], x, h => by simp at h
  | y :: l, x, h => by
    rw [List.sum_cons]
    rcases List.mem_cons.1 h with rfl | h
    · omega
    · have := le_sum l x h
      omega
theorem rangeG_ (st : Addr) (F c1 c2 : Nat) (X : Nat → Prop) (base B bx cb rc lo : Nat) (y : B4) (I : List Int → World → Prop) (J : List Int → Int → World → Prop)
    (hC : CbS st F c1 c2 X base B I J) (hb0 : 0 < base) (x1 : ¬ X bx) (x2 : ¬ X cb) (x3 : ¬ X rc) : ∀ (t : RT), RngG st F c1 c2 X base bx cb rc lo y I J t := by
  have main : ∀ (n : Nat) (t : RT), t.wt ≤ n → RngG st F c1 c2 X base bx cb rc lo y I J t := by
    intro n
    induction n with
    | zero => intro t ht; cases t <;> simp [RT.wt] at ht
    | succ n ih =>
      intro t ht p ids w hN hE hI hbw hl hG
      obtain ⟨K, hK⟩ := hN.kids
      refine rloopG_ st F c1 c2 X base B bx cb rc lo p y I J t K ids w hC hK hE hI hb0 hbw x1 x2 x3 hl (fun k hk t' hkt => ?_)
      have hw : t'.wt ≤ n := by
        have h1 := hK.wt
        have h2 : t'.wt ≤ (K.map fun k => kwt k.2).sum := by
          have := le_sum _ _ (List.mem_map_of_mem (f := fun k : Ent × Option RT => kwt k.2) hk)
          rw [hkt] at this
          exact this
        omega
      refine ⟨?_, ih t' hw⟩
      rcases hG with h | ⟨l, rfl⟩
      · exact h
      · exfalso
        have h3 := hK.ok k hk
        rw [hkt] at h3
        obtain ⟨c, hc, hn, _⟩ := h3
        obtain ⟨_, l1, l2, hb⟩ := hN
        have h4 := hK.blk
        have : nodeC (K.map (·.1)) (K.map (·.1)).length = nodeC (leafE l) l.length := by
          unfold Blk at h4 hb
          rw [h4] at hb
          injection hb with hb
          injection hb with hb _
          simpa using congrArg Array.toList hb
        obtain ⟨i, hi, rfl⟩ := List.mem_iff_getElem.1 hk
        have hlen : K.length = l.length := by
          have e1 := nodeC_num (K.map (·.1)) (K.map (·.1)).length hK.len
          have e2 := nodeC_num (leafE l) l.length (by simpa [leafE] using l2)
          rw [this, e2] at e1
          have e3 : (K.length : Int) = l.length := by simpa using e1.symm
          omega
        have e1 := nodeC_ent (K.map (·.1)) (K.map (·.1)).length i 4 hK.len (by simpa using hi) (by omega)
        have e2 := nodeC_ent (leafE l) l.length i 4 (by simpa [leafE] using l2) (by simp [leafE]; omega) (by omega)
        rw [this, e2] at e1
        simp [leafE, Ent.cells, hc] at e1
  exact fun t => main t.wt t (Nat.le_refl _)
set_option maxRecDepth 100000 in
set_option maxHeartbeats 1000000 in
theorem searchG_ (st : Addr) (F c1 c2 : Nat) (X : Nat → Prop) (base lo p n : Nat) (y : B4) (I : List Int → World → Prop) (J : List Int → Int → World → Prop) (tr : Option RT) (ids : List Int) (w : World)
    (hC : CbS st F c1 c2 X base w.heap.size I J) (hT : TreeAt w lo p n tr) (hS : StopE st w) (hI : I ids w) (hb0 : 0 < base) (hbw : base ≤ w.heap.size) (hX : ∀ b, X b → b < w.heap.size) (hl : ids.length + (rsO y tr).length < 1000000) (hJ : ∀ t, tr = some t → Goes J t) :
    Calls Tryd.prog 21 #[.pointer (some ⟨p, 0, none⟩), y.val, .func (.func F) #[] #[.pointer (some ⟨c1, 0, none⟩), .pointer (some ⟨c2, 0, none⟩)]] w (RgPost st X base I J ids (rsO y tr) w) := by
  have hmf : ∀ (fn : Fn) (first cap : Array Value) (w : World), (Instr.makeFunc fn first cap).run Tryd.prog w = .ok (.func fn first cap) w := fun _ _ _ _ => rfl
  obtain ⟨y0, y1, y2, y3⟩ := y
  simp only [B4.val]
  cases tr with
  | none =>
    obtain ⟨_, _, hp⟩ := hT
    have p0 := hp.cell (i := 0) rfl
    have hpl := hp.lt
    go_enter Tryd.func21, Tryd.ntmps21
    go_wp2
    go_ret
    have hk : Stab.Keeps w ((w.alloc (.cells #[.float .f64 y0, .float .f64 y1, .float .f64 y2, .float .f64 y3] 56)).alloc (.cells #[.func (.func F) #[] #[.pointer (some ⟨c1, 0, none⟩), .pointer (some ⟨c2, 0, none⟩)]] 67)) := by repeat (first | (with_reducible exact Stab.Keeps.refl _) | (with_reducible assumption) | (with_reducible refine Stab.Keeps.alloc ?_ _) | (with_reducible refine Stab.Keeps.drew ?_) | (with_reducible refine Stab.Keeps.drewN ?_ _) | ((with_reducible refine Stab.Keeps.setCell ?_ ?_ _); focus (first | (simp; done) | (simp; omega))) | (with_reducible refine Stab.Keeps.trans ?_ (by with_reducible assumption)))
    exact ⟨Kc.of_keeps hk hbw, .inl ⟨rfl, by simpa [rsO] using hC.keep _ _ _ hk hI⟩⟩
  | some t =>
    obtain ⟨_, rt, hp, hN⟩ := hT
    have p0 := hp.cell (i := 0) rfl
    have hpl := hp.lt
    have hGo := hJ t rfl
    clear hJ
    go_enter Tryd.func21, Tryd.ntmps21
    go_wp2_with fail
    have hk : Stab.Keeps w (((w.alloc (.cells #[.float .f64 y0, .float .f64 y1, .float .f64 y2, .float .f64 y3] 56)).alloc (.cells #[.func (.func F) #[] #[.pointer (some ⟨c1, 0, none⟩), .pointer (some ⟨c2, 0, none⟩)]] 67)).alloc (.cells #[.func (.func 27) #[] #[.pointer (some ⟨w.heap.size, 0, none⟩), .pointer (some ⟨w.heap.size + 1, 0, none⟩), .pointer (some ⟨w.heap.size + 1 + 1, 0, none⟩)]] 79)) := by repeat (first | (with_reducible exact Stab.Keeps.refl _) | (with_reducible assumption) | (with_reducible refine Stab.Keeps.alloc ?_ _) | (with_reducible refine Stab.Keeps.drew ?_) | (with_reducible refine Stab.Keeps.drewN ?_ _) | ((with_reducible refine Stab.Keeps.setCell ?_ ?_ _); focus (first | (simp; done) | (simp; omega))) | (with_reducible refine Stab.Keeps.trans ?_ (by with_reducible assumption)))
    have hE : REG (((w.alloc (.cells #[.float .f64 y0, .float .f64 y1, .float .f64 y2, .float .f64 y3] 56)).alloc (.cells #[.func (.func F) #[] #[.pointer (some ⟨c1, 0, none⟩), .pointer (some ⟨c2, 0, none⟩)]] 67)).alloc (.cells #[.func (.func 27) #[] #[.pointer (some ⟨w.heap.size, 0, none⟩), .pointer (some ⟨w.heap.size + 1, 0, none⟩), .pointer (some ⟨w.heap.size + 1 + 1, 0, none⟩)]] 79)) st F c1 c2 w.heap.size (w.heap.size + 1) (w.heap.size + 1 + 1) ⟨y0, y1, y2, y3⟩ :=
      ⟨((Blk.new w [_, _, _, _] _ _ rfl).alloc _).alloc _, (Blk.new _ [_] _ _ (by simp)).alloc _, Blk.new _ [_] _ _ (by simp), hS.below hk (Stab.cell_lt hS)⟩
    generalize (((w.alloc (.cells #[.float .f64 y0, .float .f64 y1, .float .f64 y2, .float .f64 y3] 56)).alloc (.cells #[.func (.func F) #[] #[.pointer (some ⟨c1, 0, none⟩), .pointer (some ⟨c2, 0, none⟩)]] 67)).alloc (.cells #[.func (.func 27) #[] #[.pointer (some ⟨w.heap.size, 0, none⟩), .pointer (some ⟨w.heap.size + 1, 0, none⟩), .pointer (some ⟨w.heap.size + 1 + 1, 0, none⟩)]] 79)) = W at *
    have e0 := hE.hrc.cell (i := 0) rfl
    have hel := hE.hrc.lt
    have p0' := (hp.keep hk).cell (i := 0) rfl
    have hpl' := (hp.keep hk).lt
    have hsz := hk.size
    have hR := fun w' (hk' : Stab.Keeps W w') => rangeG_ st F c1 c2 X base w.heap.size w.heap.size (w.heap.size + 1) (w.heap.size + 1 + 1) lo ⟨y0, y1, y2, y3⟩ I J hC hb0 (fun h => by have := hX _ h; omega) (fun h => by have := hX _ h; omega) (fun h => by have := hX _ h; omega) t rt ids w' (hN.keep (Stab.Keeps.trans hk hk')) (hE.kc (Kc.of_keeps (X := X) hk' (Nat.le_trans hbw hsz)) hb0 (fun h => by have := hX _ h; omega) (fun h => by have := hX _ h; omega) (fun h => by have := hX _ h; omega)) (hC.keep _ _ _ (Stab.Keeps.trans hk hk') hI) (Nat.le_trans hbw (Nat.le_trans hsz hk'.size)) hl hGo
    clear hmf
    refine Stab.keep_tail 5 (fun _ _ _ => True) (fun _ => false) (fun k => false) Stab.pre_none (by kernel_rfl) (by kernel_rfl) fun hcx => ?_
    simp only [List.take_succ_cons, List.take_zero, List.drop_succ_cons, List.drop_zero]
    repeat (first
      | (refine Stab.quiet rfl rfl rfl (fun K hK => ?_); go_big_quiet_op; refine hK _ ?_; clear hK K)
      | (refine Stab.one rfl rfl rfl ?_
         apply Exists.intro
         refine ⟨fun w1 hw1 => ?_, fun K hK => ?_⟩
         · go_simp
           first | fail
         go_simp
         refine hK _ ?_
         clear hK K)
      | (refine Stab.skip rfl (fun K hK => ?_); go_simp; refine hK _ ?_; clear hK K))
    refine Stab.nil fun w' hw' _ => ?_
    clear hcx
    have hK0 : Kc X base w w' := Kc.of_keeps (Stab.Keeps.trans hk hw') hbw
    go_wp2_with fail
    refine (hR w' hw').mono ?_
    clear hR
    rintro e w3 ⟨hK3, ⟨rfl, hI3⟩ | ⟨m1, m2, h, hm, hm1, rfl, hJ3⟩⟩
    · go_wp2_with fail
      go_ret
      exact ⟨hK0.trans hK3, .inl ⟨rfl, hI3⟩⟩
    · have HM := Lib.hid hm
      clear hm
      generalize hv : (if h = 0 ∨ h = 1 then Value.nilIface else errV st h) = ev at *
      have HV := Lib.hid hv
      clear hv
      go_wp2_with fail
      go_ret
      exact ⟨hK0.trans hK3, .inr ⟨m1, m2, h, HM.out, hm1, by rw [HV.out]; rfl, hJ3⟩⟩
end Go.Proofs.YtokofimfinhnbaaDoor
set_option linter.unusedVariables false
set_option linter.unusedSimpArgs false
namespace Go.Proofs.YtokofimfinhnbaaDoor
open Go.RowKit Go.Fl Go.Sl Go.Ch Go.Fr Go.Mb Go.Hp
theorem OutAt.kq {w w' : World} {base o B q : Nat} {ids : List Int} {r : Rest} {us : List Value} (h : OutAt w base o ids r) (ho : o < B) (hq : Blk w q 89 us) (hk : Kq B q w w') : OutAt w' base o ids r := by
  obtain ⟨a, cap, h1, h2, h3⟩ := h
  refine ⟨a, cap, h1.below hk.bel ho, h2, ?_⟩
  rcases h3 with h3 | ⟨g, cap', cur, hv, hg, hc, rest⟩
  · exact .inl h3
  · refine .inr ⟨g, cap', cur, hv, hg, ?_, rest⟩
    rw [hk.ch.block g (lt_of_block hc) (fun e => by subst e; unfold Blk at hq; rw [hq] at hc; injection hc with hc; injection hc with _ hc; exact absurd hc (by decide)) (fun c e z he => by rw [hc] at he; injection he with he; injection he with _ he; rw [← he]; decide)]
    exact hc
/-- the question is not to be stopped yet -/
def On (q : Ask) (n : Nat) : Prop := q.stop ≤ 0 ∨ (n : Int) < q.stop
def TI (base o ask : Nat) (r : Rest) (q : Ask) (ids : List Int) (w : World) : Prop := OutAt w base o ids r ∧ Blk w ask 30 q.cells ∧ On q ids.length
def TJ (base o : Nat) (r : Rest) (q : Ask) (ids : List Int) (h : Int) (w : World) : Prop := OutAt w base o ids r ∧ h = q.how ∧ (ids.length : Int) = q.stop
def Kcall (base o ask : Nat) (ids : List Int) (r : Rest) (q : Ask) (st : Addr) (w : World) (e : Ending) (w' : World) : Prop :=
  Kc (· = o) base w w' ∧ OutAt w' base o ids r ∧ Blk w' ask 30 q.cells ∧ e = .returned (if (ids.length : Int) = q.stop then errV st q.how else .nilIface)
set_option maxRecDepth 100000 in
set_option maxHeartbeats 1000000 in
theorem call_ (st : Addr) (base o ask : Nat) (ids : List Int) (r : Rest) (q : Ask) (id : Int) (w : World) (ho : OutAt w base o ids r) (hq : Blk w ask 30 q.cells) (hS : StopE st w) (hb : base ≤ o) (hb0 : 0 < base) (hl : ids.length < 1000000) :
    Calls Tryd.prog 20 #[.int .i64 id, .pointer (some ⟨o, 0, none⟩), .pointer (some ⟨ask, 0, none⟩)] w (Kcall base o ask (ids ++ [id]) r q st w) := by
  obtain ⟨i0, hi, hz0, hz1, hz2⟩ := info_parts infoInt
  obtain ⟨a, cap, hB, hown⟩ := ho
  have o0 := hB.cell (i := 0) rfl
  have of := hB.free
  have hol := hB.lt
  have hql := hq.lt
  have hqo : ask ≠ o := hq.ne hB (by decide)
  have hown1 := hown.alloc (.cells #[.int .i64 id] 3)
  have hlen : ((ids ++ [id]).length : Int) = ids.length + 1 := by simp
  have hI1 : IntKind.i64.wrap ((ids.length : Int) + 1) = ids.length + 1 := IntWalk.i64_in _ (by omega)
  unfold Kcall
  rw [hlen]
  clear hlen
  generalize hev : (if (ids.length : Int) + 1 = q.stop then errV st q.how else Value.nilIface) = ev
  have HE := Lib.hid hev
  clear hev
  go_enter Tryd.func20, Tryd.ntmps20
  go_wp2_with (at_builtin; (refine Sl.append_own (w0 := w) rfl _ _ 37 rfl base 3 i0 _ 1 8 Tryd.underlying37 hi hz0 hz1 hz2 rfl (by decide) _ ids.length _ rfl hown1 ⟨w.heap.size, 0, none⟩ 1 1 [.int .i64 id] rfl rfl ?c1 ?c2 ?c3 ?c4 ?c5 ?c6 ?_))
  case c1 => exact new_cells _ _ _ _ (by simp)
  case c2 => intro u hu; simp at hu; subst hu; rfl
  case c3 => unfold maxLen; omega
  case c4 => omega
  case c5 => simp; omega
  case c6 => exact Below.alloc (Below.refl _ _) (by omega) _
  intro al' c' w5 hown' hk5 hsz5 hgr
  have hB5 := (hB.alloc (.cells #[.int .i64 id] 3)).grown hgr (owns_ne hown1 (hB.alloc _) (by decide))
  have hq5 := (hq.alloc (.cells #[.int .i64 id] 3)).grown hgr (owns_ne hown1 (hq.alloc _) (by decide))
  have hch : Ch (· = 3) (· = o) w w5 := ((Ch.refl _ _ w).alloc _).grown hgr (fun g hg => .inr (.inr (owns_row hown1 g hg)))
  have hne := owns_ne hown' hB5 (by decide)
  have p0 := hB5.cell (i := 0) rfl
  have pf := hB5.free
  have hol5 := hB5.lt
  have q5 := hq5.cell (i := 5) rfl
  have q6 := hq5.cell (i := 6) rfl
  have hfin : OutAt (w5.setCell ⟨o, 0, none⟩ (.slice al' (ids.length + 1) c')) base o (ids ++ [id]) r := by
    refine ⟨al', c', ?_, ?_⟩
    · have := hB5.set 0 (.slice al' (ids.length + 1) c')
      simpa using this
    · have := ownsRow_setCell_other hown' (a := ⟨o, 0, none⟩) (fun e => hne e.symm) (.slice al' (ids.length + 1) c')
      simpa [encI] using this
  have hqf : Blk (w5.setCell ⟨o, 0, none⟩ (.slice al' (ids.length + 1) c')) ask 30 q.cells := hq5.past hqo _
  have hkf : Kc (· = o) base w (w5.setCell ⟨o, 0, none⟩ (.slice al' (ids.length + 1) c')) := ⟨hch.setCell (.inl rfl) _, hk5.setCell hb _, fun b vs hb' =>
    ((hb'.alloc (.cells #[.int .i64 id] 3)).grown hgr (owns_ne hown1 (hb'.alloc _) (by decide))).past (hb'.ne hB (by decide)) _⟩
  have hsf : StopE st w5 := hS.below hk5 hb0
  unfold StopE at hsf
  have h0l := Stab.cell_lt hsf
  simp only at h0l
  have ho0 : o ≠ 0 := by omega
  clear hB hown hown1 o0 of hgr hq hB5 hq5 hown' hne hi hz0 hz1 hz2 hch hS hk5
  by_cases hs : (ids.length : Int) + 1 = q.stop
  · have g1 : ((ids.length : Int) + 1 != q.stop) = false := by simpa using hs
    have HS := Lib.hid ((if_pos hs).symm.trans HE.out)
    clear hs
    by_cases h0 : q.how = 0
    · have g2 : (q.how == 0) = true := by simpa using h0
      have e0 : errV st q.how = .iface 132 (.pointer (some st)) := by rw [h0]; rfl
      have HV := Lib.hid (e0.symm.trans HS.out)
      clear h0 e0
      go_wp2_with fail
      go_ret
      exact ⟨hkf, hfin, hqf, by rw [← HV.out]; rfl⟩
    have g2 : (q.how == 0) = false := by simpa using h0
    by_cases h1 : q.how = 1
    · have g3 : (q.how == 1) = true := by simpa using h1
      have e0 : errV st q.how = .iface 64 (.agg #[.iface 132 (.pointer (some st))]) := by rw [h1]; rfl
      have HV := Lib.hid (e0.symm.trans HS.out)
      clear h0 h1 e0
      go_wp2_with fail
      go_ret
      exact ⟨hkf, hfin, hqf, by rw [← HV.out]; rfl⟩
    have g3 : (q.how == 1) = false := by simpa using h1
    by_cases h2 : q.how = 2
    · have g4 : (q.how == 2) = true := by simpa using h2
      have e0 : errV st q.how = .iface 66 (.agg #[]) := by rw [h2]; rfl
      have HV := Lib.hid (e0.symm.trans HS.out)
      clear h0 h1 h2 e0
      go_wp2_with fail
      go_ret
      exact ⟨hkf, hfin, hqf, by rw [← HV.out]; rfl⟩
    · have g4 : (q.how == 2) = false := by simpa using h2
      have e0 : errV st q.how = .iface 64 (.agg #[.iface 66 (.agg #[])]) := by
        unfold errV
        split <;> first | contradiction | rfl
      have HV := Lib.hid (e0.symm.trans HS.out)
      clear h0 h1 h2 e0
      go_wp2_with fail
      go_ret
      exact ⟨hkf, hfin, hqf, by rw [← HV.out]; rfl⟩
  · have g1 : ((ids.length : Int) + 1 != q.stop) = true := by simpa using hs
    have HV := Lib.hid ((if_neg hs).symm.trans HE.out)
    clear hs
    go_wp2_with fail
    go_ret
    exact ⟨hkf, hfin, hqf, by rw [← HV.out]; rfl⟩
theorem enter_told (args : Array Value) (w : World) : (callFunc 20 args).run Tryd.prog w = .ok (.enter 20 args) w := by kernel_rfl
theorem told_cb (st : Addr) (base o ask B : Nat) (r : Rest) (q : Ask) (hb : base ≤ o) (hb0 : 0 < base) (ho : o < B) (ha : ask < B) : CbS st 20 o ask (· = o) base B (TI base o ask r q) (TJ base o r q) where
  enter := enter_told
  keep := fun ids w w' hk h => ⟨h.1.keep hk, h.2.1.keep hk, h.2.2⟩
  keepJ := fun ids h w w' hk h => ⟨h.1.keep hk, h.2.1, h.2.2⟩
  kq := fun ids q' us w w' hq hB hk h => ⟨h.1.kq ho hB hk, h.2.1.below hk.bel ha, h.2.2⟩
  call := fun ids id w h hS hl => by
    refine (call_ st base o ask ids r q id w h.1 h.2.1 hS hb hb0 hl).mono ?_
    rintro e w' ⟨hk, hO, hq, rfl⟩
    refine ⟨hk, ?_⟩
    by_cases hs : ((ids ++ [id]).length : Int) = q.stop
    · refine .inr ⟨q.how, by rw [if_pos hs], hO, rfl, hs⟩
    · refine .inl ⟨by rw [if_neg hs], hO, hq, ?_⟩
      rcases h.2.2 with h | h
      · exact .inl h
      · refine .inr ?_
        simp only [List.length_append, List.length_cons, List.length_nil] at hs ⊢
        omega
end Go.Proofs.YtokofimfinhnbaaDoor
set_option linter.unusedVariables false
set_option linter.unusedSimpArgs false
namespace Go.Proofs.YtokofimfinhnbaaDoor
open Go.RowKit Go.Fl Go.Sl Go.Ch Go.Fr Go.Mb Go.Hp
def NI (c1 c2 : Nat) (ids : List Int) (w : World) : Prop := ids = [] ∧ Blk w c1 3 [.int .i64 0] ∧ Blk w c2 4 [.bool false]
def NJ (c1 c2 : Nat) (ids : List Int) (h : Int) (w : World) : Prop := h = 0 ∧ ∃ id, ids = [id] ∧ Blk w c1 3 [.int .i64 id] ∧ Blk w c2 4 [.bool true]
theorem enter_near (args : Array Value) (w : World) : (callFunc 33 args).run Tryd.prog w = .ok (.enter 33 args) w := by kernel_rfl
set_option maxRecDepth 100000 in
theorem near_cb (st : Addr) (base c1 c2 B : Nat) (hb0 : 0 < base) (hb1 : base ≤ c1) (hb2 : base ≤ c2) (h12 : c1 ≠ c2) (h1 : c1 < B) (h2 : c2 < B) : CbS st 33 c1 c2 (fun b => b = c1 ∨ b = c2) base B (NI c1 c2) (NJ c1 c2) where
  enter := enter_near
  keep := fun ids w w' hk h => ⟨h.1, h.2.1.keep hk, h.2.2.keep hk⟩
  keepJ := fun ids h w w' hk hh => by
    obtain ⟨h0, id, he, g1, g2⟩ := hh
    exact ⟨h0, id, he, g1.keep hk, g2.keep hk⟩
  kq := fun ids q' us w w' hq hB hk h => ⟨h.1, h.2.1.below hk.bel h1, h.2.2.below hk.bel h2⟩
  call := fun ids id w h hS hl => by
    obtain ⟨rfl, g1, g2⟩ := h
    have f1 := g1.free
    have f2 := g2.free
    have l1 := g1.lt
    have l2 := g2.lt
    have p1 := g1.cell (i := 0) rfl
    have p2 := g2.cell (i := 0) rfl
    have hs0 : StopE st w := hS
    unfold StopE at hS
    have h0l := Stab.cell_lt hS
    simp only at h0l
    have n1 : c1 ≠ 0 := by omega
    have n2 : c2 ≠ 0 := by omega
    have n3 : c2 ≠ c1 := Ne.symm h12
    have b1 : Blk ((w.setCell ⟨c1, 0, none⟩ (.int .i64 id)).setCell ⟨c2, 0, none⟩ (.bool true)) c1 3 [.int .i64 id] := (g1.set 0 _).past (by simpa using h12) _
    have b2 : Blk ((w.setCell ⟨c1, 0, none⟩ (.int .i64 id)).setCell ⟨c2, 0, none⟩ (.bool true)) c2 4 [.bool true] := (g2.past (by simpa using n3) _).set 0 _
    have hkf : Kc (fun b => b = c1 ∨ b = c2) base w ((w.setCell ⟨c1, 0, none⟩ (.int .i64 id)).setCell ⟨c2, 0, none⟩ (.bool true)) :=
      ⟨((Ch.refl _ _ w).setCell (.inl (.inl rfl)) _).setCell (.inl (.inr rfl)) _, ((Below.refl _ _).setCell hb1 _).setCell hb2 _, fun b vs hb' => (hb'.past (hb'.ne g1 (by decide)) _).past (hb'.ne g2 (by decide)) _⟩
    clear g1 g2
    go_enter Tryd.func33, Tryd.ntmps33
    go_wp2_with fail
    go_ret
    exact ⟨hkf, .inr ⟨0, rfl, rfl, id, rfl, b1, b2⟩⟩
def NearPost (yq : Q4) (all : List It) (w : World) (e : Ending) (w' : World) : Prop := Stab.Keeps w w' ∧ ∃ id f, e = .returned (.tuple #[.int .i64 id, .bool f]) ∧ ((f = false ∧ id = 0 ∧ all = []) ∨ (f = true ∧ ∃ s ∈ all, s.id = id ∧ ∀ r ∈ all, far1 yq s ≤ far1 yq r))
set_option maxRecDepth 100000 in
set_option maxHeartbeats 1000000 in
theorem near_ (st : Addr) (lo p n : Nat) (y : B4) (yq : Q4) (tr : Option RT) (w : World) (hT : TreeAt w lo p n tr) (hg : ∀ i ∈ itemsO tr, boxB i.box = true) (hn : (itemsO tr).length < 800000) (hy : ZB y yq) (hyo : yq.ok) (hS : StopE st w) :
    Calls Tryd.prog 23 #[.pointer (some ⟨p, 0, none⟩), y.val] w (NearPost yq (itemsO tr) w) := by
  have hmf : ∀ (fn : Fn) (first cap : Array Value) (w : World), (Instr.makeFunc fn first cap).run Tryd.prog w = .ok (.func fn first cap) w := fun _ _ _ _ => rfl
  obtain ⟨y0, y1, y2, y3⟩ := y
  have h0 := Stab.cell_lt hS
  simp only at h0
  simp only [B4.val]
  go_enter Tryd.func23, Tryd.ntmps23
  go_wp2_with fail
  have hk : Stab.Keeps w (((w.alloc (.cells #[.float .f64 y0, .float .f64 y1, .float .f64 y2, .float .f64 y3] 56)).alloc (.cells #[.int .i64 0] 3)).alloc (.cells #[.bool false] 4)) := by repeat (first | (with_reducible exact Stab.Keeps.refl _) | (with_reducible assumption) | (with_reducible refine Stab.Keeps.alloc ?_ _) | (with_reducible refine Stab.Keeps.drew ?_) | (with_reducible refine Stab.Keeps.drewN ?_ _) | ((with_reducible refine Stab.Keeps.setCell ?_ ?_ _); focus (first | (simp; done) | (simp; omega))) | (with_reducible refine Stab.Keeps.trans ?_ (by with_reducible assumption)))
  have hsz : (((w.alloc (.cells #[.float .f64 y0, .float .f64 y1, .float .f64 y2, .float .f64 y3] 56)).alloc (.cells #[.int .i64 0] 3)).alloc (.cells #[.bool false] 4)).heap.size = w.heap.size + 3 := by simp
  have g1 : Blk (((w.alloc (.cells #[.float .f64 y0, .float .f64 y1, .float .f64 y2, .float .f64 y3] 56)).alloc (.cells #[.int .i64 0] 3)).alloc (.cells #[.bool false] 4)) (w.heap.size + 1) 3 [.int .i64 0] := (Blk.new _ [_] _ _ (by simp)).alloc _
  have g2 : Blk (((w.alloc (.cells #[.float .f64 y0, .float .f64 y1, .float .f64 y2, .float .f64 y3] 56)).alloc (.cells #[.int .i64 0] 3)).alloc (.cells #[.bool false] 4)) (w.heap.size + 1 + 1) 4 [.bool false] := Blk.new _ [_] _ _ (by simp)
  generalize (((w.alloc (.cells #[.float .f64 y0, .float .f64 y1, .float .f64 y2, .float .f64 y3] 56)).alloc (.cells #[.int .i64 0] 3)).alloc (.cells #[.bool false] 4)) = W at hk hsz g1 g2 ⊢
  have hP := prio_ st 33 (w.heap.size + 1) (w.heap.size + 1 + 1) (fun b => b = w.heap.size + 1 ∨ b = w.heap.size + 1 + 1) w.heap.size lo p n (NI (w.heap.size + 1) (w.heap.size + 1 + 1)) (NJ (w.heap.size + 1) (w.heap.size + 1 + 1)) ⟨y0, y1, y2, y3⟩ yq tr W
    (near_cb st w.heap.size (w.heap.size + 1) (w.heap.size + 1 + 1) W.heap.size h0 (by omega) (by omega) (by omega) (by omega) (by omega)) (hT.keep hk) hg hn hy hyo (hS.below hk h0) ⟨rfl, g1, g2⟩ h0 hk.size (fun b hb => by rcases hb with rfl | rfl <;> omega)
  clear g1 g2 hsz
  refine hP.mono ?_
  clear hP hmf
  rintro e w3 ⟨hk3, S, R, hseg, ⟨rfl, hR, hn0, g1, g2⟩ | ⟨hne, h, rfl, hh, id, hid, g1, g2⟩⟩
  · have hSn : S = [] := by simpa using hn0
    subst hSn hR
    have hall : itemsO tr = [] := by have := hseg.perm.length_eq; simp at this; exact List.length_eq_zero_iff.1 this.symm
    have hkf : Stab.Keeps w w3 := Below.trans hk hk3.bel
    have p1 := g1.cell (i := 0) rfl
    have p2 := g2.cell (i := 0) rfl
    have f1 := g1.free
    have f2 := g2.free
    have l2 := g2.lt
    have HA := Lib.hid hall
    clear g1 g2 hall hseg hn0
    go_wp2
    go_region
    all_goals
      go_wp2_with fail
      refine bodyPost_ret (v := .tuple #[.int .i64 0, .bool false]) (by simp [results, Tryd.results23, go_sem, *]) rfl ⟨?_, _, _, rfl, .inl ⟨rfl, rfl, HA.out⟩⟩
      repeat (first | (with_reducible exact Stab.Keeps.refl _) | (with_reducible assumption) | (with_reducible refine Stab.Keeps.alloc ?_ _) | (with_reducible refine Stab.Keeps.drew ?_) | (with_reducible refine Stab.Keeps.drewN ?_ _) | ((with_reducible refine Stab.Keeps.setCell ?_ ?_ _); focus (first | (simp; done) | (simp; omega))) | (with_reducible refine Stab.Keeps.trans ?_ (by with_reducible assumption)))
  · have hkf : Stab.Keeps w w3 := Below.trans hk hk3.bel
    obtain ⟨s, rfl⟩ : ∃ s, S = [s] := by
      have : S.length = 1 := by have := congrArg List.length hid; simpa using this
      exact List.length_eq_one_iff.1 this
    have hsid : s.id = id := by simpa using hid
    have hmem : s ∈ itemsO tr := hseg.perm.mem_iff.1 (by simp)
    have hle : ∀ r ∈ itemsO tr, far1 yq s ≤ far1 yq r := fun r hr => by
      have := hseg.perm.mem_iff.2 hr
      simp at this
      rcases this with rfl | this
      · exact Int.le_refl _
      · exact hseg.le s (by simp) r this
    have p1 := g1.cell (i := 0) rfl
    have p2 := g2.cell (i := 0) rfl
    have f1 := g1.free
    have f2 := g2.free
    have l2 := g2.lt
    have HS := Lib.hid hsid
    have HL := Lib.hid hle
    clear g1 g2 hseg hid hsid hle
    go_wp2
    go_region
    all_goals
      go_wp2_with fail
      refine bodyPost_ret (v := .tuple #[.int .i64 id, .bool true]) (by simp [results, Tryd.results23, go_sem, *]) rfl ⟨?_, _, _, rfl, .inr ⟨rfl, s, hmem, HS.out, HL.out⟩⟩
      repeat (first | (with_reducible exact Stab.Keeps.refl _) | (with_reducible assumption) | (with_reducible refine Stab.Keeps.alloc ?_ _) | (with_reducible refine Stab.Keeps.drew ?_) | (with_reducible refine Stab.Keeps.drewN ?_ _) | ((with_reducible refine Stab.Keeps.setCell ?_ ?_ _); focus (first | (simp; done) | (simp; omega))) | (with_reducible refine Stab.Keeps.trans ?_ (by with_reducible assumption)))
end Go.Proofs.YtokofimfinhnbaaDoor
set_option linter.unusedVariables false
set_option linter.unusedSimpArgs false
namespace Go.Proofs.YtokofimfinhnbaaDoor
open Go.RowKit Go.Fl Go.Sl Go.Ch Go.Fr Go.Mb Go.Hp
def extB : Option RT → B4
  | none => ⟨0, 0, 0, 0⟩
  | some t => t.box
def extV (tr : Option RT) : Value := .tuple #[(extB tr).val, .bool tr.isSome]
set_option maxRecDepth 100000 in
theorem extent_ (lo p n : Nat) (tr : Option RT) (w : World) (hT : TreeAt w lo p n tr) : Calls Tryd.prog 24 #[.pointer (some ⟨p, 0, none⟩)] w (One w (extV tr)) := by
  cases tr with
  | none =>
    obtain ⟨_, _, hp⟩ := hT
    have p0 := hp.cell (i := 0) rfl
    have hpl := hp.lt
    simp only [extV, extB, B4.val, Option.isSome_none]
    go_enter Tryd.func24, Tryd.ntmps24
    go_wp2
    refine bodyPost_ret (v := .tuple #[.agg #[.float .f64 0, .float .f64 0, .float .f64 0, .float .f64 0], .bool false]) (by simp [results, Tryd.results24, go_sem, *]) rfl ⟨rfl, ?_⟩
    repeat (first | (with_reducible exact Stab.Keeps.refl _) | (with_reducible assumption) | (with_reducible refine Stab.Keeps.alloc ?_ _) | (with_reducible refine Stab.Keeps.drew ?_) | (with_reducible refine Stab.Keeps.drewN ?_ _) | ((with_reducible refine Stab.Keeps.setCell ?_ ?_ _); focus (first | (simp; done) | (simp; omega))) | (with_reducible refine Stab.Keeps.trans ?_ (by with_reducible assumption)))
  | some t =>
    obtain ⟨_, rt, hp, hN⟩ := hT
    have p0 := hp.cell (i := 0) rfl
    have hpl := hp.lt
    obtain ⟨es, h0, h4, hb, hbx⟩ := hN.blk
    have c24 := hb.cell (nodeC_num es es.length h4)
    have hbl := hb.lt
    have g1 : ((es.length : Int) == 0) = false := beq_eq_false_iff_ne.2 (by omega)
    have hC := fun w' (hk : Stab.Keeps w w') => calc_ rt es w' (hb.keep hk) h4 h0
    rw [hbx] at hC
    simp only [extV, extB, Option.isSome_some]
    generalize t.box = x at *
    obtain ⟨x0, x1, x2, x3⟩ := x
    simp only [B4.val] at hC ⊢
    clear hb
    go_enter Tryd.func24, Tryd.ntmps24
    go_wp2_with fail
    refine (hC _ (by repeat (first | (with_reducible exact Stab.Keeps.refl _) | (with_reducible assumption) | (with_reducible refine Stab.Keeps.alloc ?_ _) | (with_reducible refine Stab.Keeps.drew ?_) | (with_reducible refine Stab.Keeps.drewN ?_ _) | ((with_reducible refine Stab.Keeps.setCell ?_ ?_ _); focus (first | (simp; done) | (simp; omega))) | (with_reducible refine Stab.Keeps.trans ?_ (by with_reducible assumption))))).mono ?_
    clear hC
    rintro e w3 ⟨rfl, hk3⟩
    obtain ⟨mc_, mf_⟩ := Stab.own_cell hk3 (w.heap.size) (by first | (simp; done) | (simp; omega) | omega | (apply Stab.cell_lt (a := ⟨w.heap.size, 0, none⟩); assumption))
    have m0 : w3.cell? ⟨w.heap.size, 0, none⟩ = some (.float .f64 0) := by rw [mc_]; first | assumption | (go_simp; done)
    have m1 : w3.cell? ⟨w.heap.size, 1, none⟩ = some (.float .f64 0) := by rw [mc_]; first | assumption | (go_simp; done)
    have m2 : w3.cell? ⟨w.heap.size, 2, none⟩ = some (.float .f64 0) := by rw [mc_]; first | assumption | (go_simp; done)
    have m3 : w3.cell? ⟨w.heap.size, 3, none⟩ = some (.float .f64 0) := by rw [mc_]; first | assumption | (go_simp; done)
    have mf : ∀ j, w3.frozen? ⟨w.heap.size, j, none⟩ = false := fun j => by rw [mf_]; first | (go_simp; done) | (apply_assumption)
    clear mc_ mf_
    have hl3 := hk3.size
    simp at hl3
    go_wp2
    refine bodyPost_ret (v := .tuple #[.agg #[.float .f64 x0, .float .f64 x1, .float .f64 x2, .float .f64 x3], .bool true]) (by simp [results, Tryd.results24, go_sem, *]) rfl ⟨rfl, ?_⟩
    repeat (first | (with_reducible exact Stab.Keeps.refl _) | (with_reducible assumption) | (with_reducible refine Stab.Keeps.alloc ?_ _) | (with_reducible refine Stab.Keeps.drew ?_) | (with_reducible refine Stab.Keeps.drewN ?_ _) | ((with_reducible refine Stab.Keeps.setCell ?_ ?_ _); focus (first | (simp; done) | (simp; omega))) | (with_reducible refine Stab.Keeps.trans ?_ (by with_reducible assumption)))
theorem count_ (lo p n : Nat) (tr : Option RT) (w : World) (hT : TreeAt w lo p n tr) : Calls Tryd.prog 25 #[.pointer (some ⟨p, 0, none⟩)] w (One w (.int .i64 n)) := by
  cases tr with
  | none =>
    obtain ⟨_, hn, hp⟩ := hT
    subst hn
    have p1 := hp.cell (i := 1) rfl
    have hpl := hp.lt
    go_enter Tryd.func25, Tryd.ntmps25
    go_wp2
    go_ret
    refine ⟨rfl, ?_⟩
    repeat (first | (with_reducible exact Stab.Keeps.refl _) | (with_reducible assumption) | (with_reducible refine Stab.Keeps.alloc ?_ _) | (with_reducible refine Stab.Keeps.drew ?_) | (with_reducible refine Stab.Keeps.drewN ?_ _) | ((with_reducible refine Stab.Keeps.setCell ?_ ?_ _); focus (first | (simp; done) | (simp; omega))) | (with_reducible refine Stab.Keeps.trans ?_ (by with_reducible assumption)))
  | some t =>
    obtain ⟨_, rt, hp, hN⟩ := hT
    have p1 := hp.cell (i := 1) rfl
    have hpl := hp.lt
    go_enter Tryd.func25, Tryd.ntmps25
    go_wp2
    go_ret
    refine ⟨rfl, ?_⟩
    repeat (first | (with_reducible exact Stab.Keeps.refl _) | (with_reducible assumption) | (with_reducible refine Stab.Keeps.alloc ?_ _) | (with_reducible refine Stab.Keeps.drew ?_) | (with_reducible refine Stab.Keeps.drewN ?_ _) | ((with_reducible refine Stab.Keeps.setCell ?_ ?_ _); focus (first | (simp; done) | (simp; omega))) | (with_reducible refine Stab.Keeps.trans ?_ (by with_reducible assumption)))
end Go.Proofs.YtokofimfinhnbaaDoor
set_option linter.unusedVariables false
set_option linter.unusedSimpArgs false
namespace Go.Proofs.YtokofimfinhnbaaDoor
open Go.RowKit Go.Fl Go.Sl Go.Ch Go.Fr Go.Mb Go.Hp
theorem ass_w0 (w : World) : (Instr.typeAssert .nilIface 62 64 true).run Tryd.prog w = .ok (.tuple #[.agg #[.nilIface], .bool false]) w := by kernel_rfl
theorem ass_o0 (w : World) : (Instr.typeAssert .nilIface 62 66 true).run Tryd.prog w = .ok (.tuple #[.agg #[], .bool false]) w := by kernel_rfl
theorem ass_w1 (w : World) : (Instr.typeAssert (.iface 66 (.agg #[])) 62 64 true).run Tryd.prog w = .ok (.tuple #[.agg #[.nilIface], .bool false]) w := by kernel_rfl
theorem ass_o1 (w : World) : (Instr.typeAssert (.iface 66 (.agg #[])) 62 66 true).run Tryd.prog w = .ok (.tuple #[.agg #[], .bool true]) w := by kernel_rfl
theorem ass_w2 (w : World) : (Instr.typeAssert (.iface 64 (.agg #[.iface 66 (.agg #[])])) 62 64 true).run Tryd.prog w = .ok (.tuple #[.agg #[.iface 66 (.agg #[])], .bool true]) w := by kernel_rfl
def Rest.bad : Rest := ⟨true, true, false, 0, ⟨0, 0, 0, 0⟩, 0⟩
/-- how a search has ended: A: what has been gone through, and whether it was ended -/
def Ended (A : List Int → Bool → Prop) (q : Ask) (ids : List Int) (r : Rest) : Prop :=
  (A ids false ∧ On q ids.length ∧ r = Rest.zero) ∨ (A ids true ∧ (ids.length : Int) = q.stop ∧ r = if q.how = 0 ∨ q.how = 1 then Rest.zero else Rest.bad)
def SPost (st : Addr) (X : Nat → Prop) (base : Nat) (I : List Int → World → Prop) (J : List Int → Int → World → Prop) (A : List Int → Bool → Prop) (w : World) (e : Ending) (w' : World) : Prop :=
  Kc X base w w' ∧ ((e = .returned .nilIface ∧ ∃ ids, A ids false ∧ I ids w') ∨ ∃ ids h, A ids true ∧ e = .returned (if h = 0 ∨ h = 1 then .nilIface else errV st h) ∧ J ids h w')
def srchF (d : Int) : Nat := if d = 0 then 21 else 22
def ToldE (A : List Int → Bool → Prop) (q : Ask) (w : World) (e : Ending) (w' : World) : Prop := ∃ ids r, Ended A q ids r ∧ ToldPost w ids r e w'
/-- the error that is left: none, the other one, one that wraps it -/
theorem err_three (st : Addr) (h : Int) : ((h = 0 ∨ h = 1) ∧ (if h = 0 ∨ h = 1 then Value.nilIface else errV st h) = .nilIface) ∨ (¬ (h = 0 ∨ h = 1) ∧ (if h = 0 ∨ h = 1 then Value.nilIface else errV st h) = .iface 66 (.agg #[])) ∨ (¬ (h = 0 ∨ h = 1) ∧ (if h = 0 ∨ h = 1 then Value.nilIface else errV st h) = .iface 64 (.agg #[.iface 66 (.agg #[])])) := by
  by_cases hh : h = 0 ∨ h = 1
  · exact .inl ⟨hh, by rw [if_pos hh]⟩
  · rw [if_neg hh]
    by_cases h2 : h = 2
    · exact .inr (.inl ⟨hh, by rw [h2]; rfl⟩)
    · refine .inr (.inr ⟨hh, ?_⟩)
      unfold errV
      split
      · exact absurd (.inl rfl) hh
      · exact absurd (.inr rfl) hh
      · exact absurd rfl h2
      · rfl
set_option maxRecDepth 100000 in
set_option maxHeartbeats 4000000 in
theorem told01_ (st : Addr) (p : Nat) (d : Int) (y : B4) (stp hw : Int) (A : List Int → Bool → Prop) (w : World) (h0 : 0 < w.heap.size) (hd : d = 0 ∨ d = 1) (hst : stp ≤ 0 ∨ 0 < stp)
    (hC : ∀ (w2 : World) (o ask : Nat), Stab.Keeps w w2 → w.heap.size ≤ o → o < w2.heap.size → ask < w2.heap.size → TI w.heap.size o ask Rest.zero ⟨d, y, stp, hw⟩ [] w2 →
      Calls Tryd.prog (srchF d) #[.pointer (some ⟨p, 0, none⟩), y.val, .func (.func 20) #[] #[.pointer (some ⟨o, 0, none⟩), .pointer (some ⟨ask, 0, none⟩)]] w2
        (SPost st (· = o) w.heap.size (TI w.heap.size o ask Rest.zero ⟨d, y, stp, hw⟩) (TJ w.heap.size o Rest.zero ⟨d, y, stp, hw⟩) A w2)) :
    Calls Tryd.prog 15 #[.pointer (some ⟨p, 0, none⟩), (Ask.mk d y stp hw).val] w (ToldE A ⟨d, y, stp, hw⟩ w) := by
  have hmf : ∀ (fn : Fn) (first cap : Array Value) (w : World), (Instr.makeFunc fn first cap).run Tryd.prog w = .ok (.func fn first cap) w := fun _ _ _ _ => rfl
  have hon : On ⟨d, y, stp, hw⟩ 0 := hst
  obtain ⟨y0, y1, y2, y3⟩ := y
  simp only [Ask.val]
  have hbx := fun w => box_ ⟨y0, y1, y2, y3⟩ w
  simp only [B4.val] at hbx hC
  rcases hd with rfl | rfl
  all_goals
    simp only [srchF, if_true, if_false, (by decide : ¬ (1 : Int) = 0)] at hC
    go_enter Tryd.func15, Tryd.ntmps15
    go_wp2_with fail
    refine (hbx _).mono ?_
    rintro e w2 ⟨rfl, hk2⟩
    go_wp2_with fail
    have hq2 : Blk w2 w.heap.size 30 (Ask.mk _ ⟨y0, y1, y2, y3⟩ stp hw).cells := (((Blk.new w [_, _, _, _, _, _, _] _ _ rfl).alloc _).alloc _).keep hk2
    have hR2 : Blk w2 (w.heap.size + 1) 39 (.slice none 0 0 :: Rest.zero.cells) := ((Blk.new _ [_, _, _, _, _, _, _, _, _, _] _ _ (by simp)).alloc _).keep hk2
    have hO2 : OutAt w2 w.heap.size (w.heap.size + 1 + 1) [] Rest.zero := ⟨none, 0, (Blk.new _ [_, _, _, _, _, _, _, _, _, _] _ _ (by simp)).keep hk2, World.ownsRow_nil _ _ _ _⟩
    have hkw : Stab.Keeps w w2 := by repeat (first | (with_reducible exact Stab.Keeps.refl _) | (with_reducible assumption) | (with_reducible refine Stab.Keeps.alloc ?_ _) | (with_reducible refine Stab.Keeps.drew ?_) | (with_reducible refine Stab.Keeps.drewN ?_ _) | ((with_reducible refine Stab.Keeps.setCell ?_ ?_ _); focus (first | (simp; done) | (simp; omega))) | (with_reducible refine Stab.Keeps.trans ?_ (by with_reducible assumption)))
    have hl2 := hk2.size
    simp at hl2
    have hS := hC w2 (w.heap.size + 1 + 1) w.heap.size hkw (by omega) (by omega) (by omega) ⟨hO2, hq2, hon⟩
    refine hS.mono ?_
    clear hS hbx hmf hq2 hC hon
    rintro e w3 ⟨hK3, ⟨rfl, ids, hA, hO3, _, hOn⟩ | ⟨ids, h, hA, rfl, hO3, hh, hst3⟩⟩
    · have hR3 := hK3.ch.blk hR2 (by simp) (by decide)
      obtain ⟨a3, c3, hB3, hown3⟩ := hO3
      have hkw3 : Stab.Keeps w w3 := Below.trans hkw hK3.bel
      have HA := Lib.hid (show Ended A _ ids Rest.zero from .inl ⟨hA, hOn, rfl⟩)
      clear hA hOn
      have hno := owns_ne hown3 hB3 (by decide)
      have hnr := owns_ne hown3 hR3 (by decide)
      have p0 := hB3.cell (i := 0) rfl
      have p1 := hB3.cell (i := 1) rfl
      have p2 := hB3.cell (i := 2) rfl
      have p3 := hB3.cell (i := 3) rfl
      have p4 := hB3.cell (i := 4) rfl
      have p5 := hB3.cell (i := 5) rfl
      have p6 := hB3.cell (i := 6) rfl
      have p7 := hB3.cell (i := 7) rfl
      have p8 := hB3.cell (i := 8) rfl
      have p9 := hB3.cell (i := 9) rfl
      have pf := hB3.free
      have r0 := hR3.cell (i := 0) rfl
      have r1 := hR3.cell (i := 1) rfl
      have r2 := hR3.cell (i := 2) rfl
      have r3 := hR3.cell (i := 3) rfl
      have r4 := hR3.cell (i := 4) rfl
      have r5 := hR3.cell (i := 5) rfl
      have r6 := hR3.cell (i := 6) rfl
      have r7 := hR3.cell (i := 7) rfl
      have r8 := hR3.cell (i := 8) rfl
      have r9 := hR3.cell (i := 9) rfl
      have rf := hR3.free
      have hl3 := hB3.lt
      clear hB3 hR3 hO2 hR2 hK3 hk2 hkw hl2
      have hl4 : w.heap.size + 1 < w3.heap.size := by omega
      have t1 := ass_w0
      have t2 := ass_o0
      have t3 := ass_w1
      have t4 := ass_o1
      have t5 := ass_w2
      go_wp2_with fail
      refine bodyPost_ret (v := toldV a3 ids.length c3 Rest.zero) (by simp [results, Tryd.results15, go_sem, toldV, Rest.zero, Rest.bad, *]) rfl ⟨ids, Rest.zero, HA.out, a3, c3, rfl, ?_, ?_⟩
      · repeat (first | (with_reducible exact hown3) | (with_reducible refine owns_more _ ?_) | (with_reducible refine owns_past hno ?_) | (with_reducible refine owns_past hnr ?_))
      · repeat (first | (with_reducible exact Stab.Keeps.refl _) | (with_reducible assumption) | (with_reducible refine Stab.Keeps.alloc ?_ _) | (with_reducible refine Stab.Keeps.drew ?_) | (with_reducible refine Stab.Keeps.drewN ?_ _) | ((with_reducible refine Stab.Keeps.setCell ?_ ?_ _); focus (first | (simp; done) | (simp; omega))) | (with_reducible refine Stab.Keeps.trans ?_ (by with_reducible assumption)))
    · have hR3 := hK3.ch.blk hR2 (by simp) (by decide)
      obtain ⟨a3, c3, hB3, hown3⟩ := hO3
      have hkw3 : Stab.Keeps w w3 := Below.trans hkw hK3.bel
      subst hh
      rcases err_three st h with ⟨hh, he⟩ | ⟨hh, he⟩ | ⟨hh, he⟩
      · have HA := Lib.hid (show Ended A _ ids Rest.zero from .inr ⟨hA, hst3, by rw [if_pos hh]⟩)
        rw [he]
        clear hA hst3 hh he
        have hno := owns_ne hown3 hB3 (by decide)
        have hnr := owns_ne hown3 hR3 (by decide)
        have p0 := hB3.cell (i := 0) rfl
        have p1 := hB3.cell (i := 1) rfl
        have p2 := hB3.cell (i := 2) rfl
        have p3 := hB3.cell (i := 3) rfl
        have p4 := hB3.cell (i := 4) rfl
        have p5 := hB3.cell (i := 5) rfl
        have p6 := hB3.cell (i := 6) rfl
        have p7 := hB3.cell (i := 7) rfl
        have p8 := hB3.cell (i := 8) rfl
        have p9 := hB3.cell (i := 9) rfl
        have pf := hB3.free
        have r0 := hR3.cell (i := 0) rfl
        have r1 := hR3.cell (i := 1) rfl
        have r2 := hR3.cell (i := 2) rfl
        have r3 := hR3.cell (i := 3) rfl
        have r4 := hR3.cell (i := 4) rfl
        have r5 := hR3.cell (i := 5) rfl
        have r6 := hR3.cell (i := 6) rfl
        have r7 := hR3.cell (i := 7) rfl
        have r8 := hR3.cell (i := 8) rfl
        have r9 := hR3.cell (i := 9) rfl
        have rf := hR3.free
        have hl3 := hB3.lt
        clear hB3 hR3 hO2 hR2 hK3 hk2 hkw hl2
        have hl4 : w.heap.size + 1 < w3.heap.size := by omega
        have t1 := ass_w0
        have t2 := ass_o0
        have t3 := ass_w1
        have t4 := ass_o1
        have t5 := ass_w2
        go_wp2_with fail
        refine bodyPost_ret (v := toldV a3 ids.length c3 Rest.zero) (by simp [results, Tryd.results15, go_sem, toldV, Rest.zero, Rest.bad, *]) rfl ⟨ids, Rest.zero, HA.out, a3, c3, rfl, ?_, ?_⟩
        · repeat (first | (with_reducible exact hown3) | (with_reducible refine owns_more _ ?_) | (with_reducible refine owns_past hno ?_) | (with_reducible refine owns_past hnr ?_))
        · repeat (first | (with_reducible exact Stab.Keeps.refl _) | (with_reducible assumption) | (with_reducible refine Stab.Keeps.alloc ?_ _) | (with_reducible refine Stab.Keeps.drew ?_) | (with_reducible refine Stab.Keeps.drewN ?_ _) | ((with_reducible refine Stab.Keeps.setCell ?_ ?_ _); focus (first | (simp; done) | (simp; omega))) | (with_reducible refine Stab.Keeps.trans ?_ (by with_reducible assumption)))
      · have HA := Lib.hid (show Ended A _ ids Rest.bad from .inr ⟨hA, hst3, by rw [if_neg hh]⟩)
        rw [he]
        clear hA hst3 hh he
        have hno := owns_ne hown3 hB3 (by decide)
        have hnr := owns_ne hown3 hR3 (by decide)
        have p0 := hB3.cell (i := 0) rfl
        have p1 := hB3.cell (i := 1) rfl
        have p2 := hB3.cell (i := 2) rfl
        have p3 := hB3.cell (i := 3) rfl
        have p4 := hB3.cell (i := 4) rfl
        have p5 := hB3.cell (i := 5) rfl
        have p6 := hB3.cell (i := 6) rfl
        have p7 := hB3.cell (i := 7) rfl
        have p8 := hB3.cell (i := 8) rfl
        have p9 := hB3.cell (i := 9) rfl
        have pf := hB3.free
        have r0 := hR3.cell (i := 0) rfl
        have r1 := hR3.cell (i := 1) rfl
        have r2 := hR3.cell (i := 2) rfl
        have r3 := hR3.cell (i := 3) rfl
        have r4 := hR3.cell (i := 4) rfl
        have r5 := hR3.cell (i := 5) rfl
        have r6 := hR3.cell (i := 6) rfl
        have r7 := hR3.cell (i := 7) rfl
        have r8 := hR3.cell (i := 8) rfl
        have r9 := hR3.cell (i := 9) rfl
        have rf := hR3.free
        have hl3 := hB3.lt
        clear hB3 hR3 hO2 hR2 hK3 hk2 hkw hl2
        have hl4 : w.heap.size + 1 < w3.heap.size := by omega
        have t1 := ass_w0
        have t2 := ass_o0
        have t3 := ass_w1
        have t4 := ass_o1
        have t5 := ass_w2
        go_wp2_with fail
        refine bodyPost_ret (v := toldV a3 ids.length c3 Rest.bad) (by simp [results, Tryd.results15, go_sem, toldV, Rest.zero, Rest.bad, *]) rfl ⟨ids, Rest.bad, HA.out, a3, c3, rfl, ?_, ?_⟩
        · repeat (first | (with_reducible exact hown3) | (with_reducible refine owns_more _ ?_) | (with_reducible refine owns_past hno ?_) | (with_reducible refine owns_past hnr ?_))
        · repeat (first | (with_reducible exact Stab.Keeps.refl _) | (with_reducible assumption) | (with_reducible refine Stab.Keeps.alloc ?_ _) | (with_reducible refine Stab.Keeps.drew ?_) | (with_reducible refine Stab.Keeps.drewN ?_ _) | ((with_reducible refine Stab.Keeps.setCell ?_ ?_ _); focus (first | (simp; done) | (simp; omega))) | (with_reducible refine Stab.Keeps.trans ?_ (by with_reducible assumption)))
      · have HA := Lib.hid (show Ended A _ ids Rest.bad from .inr ⟨hA, hst3, by rw [if_neg hh]⟩)
        rw [he]
        clear hA hst3 hh he
        have hno := owns_ne hown3 hB3 (by decide)
        have hnr := owns_ne hown3 hR3 (by decide)
        have p0 := hB3.cell (i := 0) rfl
        have p1 := hB3.cell (i := 1) rfl
        have p2 := hB3.cell (i := 2) rfl
        have p3 := hB3.cell (i := 3) rfl
        have p4 := hB3.cell (i := 4) rfl
        have p5 := hB3.cell (i := 5) rfl
        have p6 := hB3.cell (i := 6) rfl
        have p7 := hB3.cell (i := 7) rfl
        have p8 := hB3.cell (i := 8) rfl
        have p9 := hB3.cell (i := 9) rfl
        have pf := hB3.free
        have r0 := hR3.cell (i := 0) rfl
        have r1 := hR3.cell (i := 1) rfl
        have r2 := hR3.cell (i := 2) rfl
        have r3 := hR3.cell (i := 3) rfl
        have r4 := hR3.cell (i := 4) rfl
        have r5 := hR3.cell (i := 5) rfl
        have r6 := hR3.cell (i := 6) rfl
        have r7 := hR3.cell (i := 7) rfl
        have r8 := hR3.cell (i := 8) rfl
        have r9 := hR3.cell (i := 9) rfl
        have rf := hR3.free
        have hl3 := hB3.lt
        clear hB3 hR3 hO2 hR2 hK3 hk2 hkw hl2
        have hl4 : w.heap.size + 1 < w3.heap.size := by omega
        have t1 := ass_w0
        have t2 := ass_o0
        have t3 := ass_w1
        have t4 := ass_o1
        have t5 := ass_w2
        go_wp2_with fail
        refine bodyPost_ret (v := toldV a3 ids.length c3 Rest.bad) (by simp [results, Tryd.results15, go_sem, toldV, Rest.zero, Rest.bad, *]) rfl ⟨ids, Rest.bad, HA.out, a3, c3, rfl, ?_, ?_⟩
        · repeat (first | (with_reducible exact hown3) | (with_reducible refine owns_more _ ?_) | (with_reducible refine owns_past hno ?_) | (with_reducible refine owns_past hnr ?_))
        · repeat (first | (with_reducible exact Stab.Keeps.refl _) | (with_reducible assumption) | (with_reducible refine Stab.Keeps.alloc ?_ _) | (with_reducible refine Stab.Keeps.drew ?_) | (with_reducible refine Stab.Keeps.drewN ?_ _) | ((with_reducible refine Stab.Keeps.setCell ?_ ?_ _); focus (first | (simp; done) | (simp; omega))) | (with_reducible refine Stab.Keeps.trans ?_ (by with_reducible assumption)))
end Go.Proofs.YtokofimfinhnbaaDoor
set_option linter.unusedVariables false
set_option linter.unusedSimpArgs false
namespace Go.Proofs.YtokofimfinhnbaaDoor
open Go.RowKit Go.Fl Go.Sl Go.Ch Go.Fr Go.Mb Go.Hp
/-- what a search through a box goes through: all, or a part -/
def AR (y : B4) (tr : Option RT) (ids : List Int) (b : Bool) : Prop := (b = false ∧ ids = rsO y tr) ∨ (b = true ∧ ids ≠ [] ∧ ∃ m, rsO y tr = ids ++ m)
/-- a search by distance -/
def AP (yq : Q4) (tr : Option RT) (ids : List Int) (b : Bool) : Prop := ∃ S R, ids = S.map It.id ∧ Seg yq (itemsO tr) S R ∧ (b = false → R = []) ∧ (b = true → S ≠ [])
/-- the answer to a question -/
def TAns (n : Nat) (tr : Option RT) (yq : Q4) (q : Ask) (ids : List Int) (r : Rest) : Prop :=
  (q.dO = 0 ∧ Ended (AR q.box tr) q ids r) ∨ (q.dO = 1 ∧ Ended (AP yq tr) q ids r) ∨
  (q.dO = 2 ∧ ids = [] ∧ ∃ id f, r = ⟨false, false, f, id, ⟨0, 0, 0, 0⟩, 0⟩ ∧ ((f = false ∧ id = 0 ∧ itemsO tr = []) ∨ (f = true ∧ ∃ s ∈ itemsO tr, s.id = id ∧ ∀ r ∈ itemsO tr, far1 yq s ≤ far1 yq r))) ∨
  (q.dO = 3 ∧ ids = [] ∧ r = ⟨false, false, tr.isSome, 0, extB tr, 0⟩) ∨
  (q.dO = 4 ∧ ids = [] ∧ r = ⟨false, false, false, 0, ⟨0, 0, 0, 0⟩, n⟩)
def TellP (n : Nat) (tr : Option RT) (yq : Q4) (q : Ask) (w : World) (e : Ending) (w' : World) : Prop := ∃ ids r, TAns n tr yq q ids r ∧ ToldPost w ids r e w'
theorem rsO_le (y : B4) (tr : Option RT) : (rsO y tr).length ≤ (itemsO tr).length := by
  cases tr with
  | none => simp [rsO]
  | some t => exact rs_le y t
theorem goes_of (base o : Nat) (r : Rest) (q : Ask) (t : RT) (h : q.stop ≤ 0 ∨ ¬ (q.how = 0 ∨ q.how = 1) ∨ ∃ l, t = .leaf l) : Goes (TJ base o r q) t ∨ q.stop ≤ 0 := by
  rcases h with h | h | h
  · exact .inr h
  · refine .inl (.inl fun ids h' w hj => ?_)
    rw [hj.2.1]
    exact h
  · exact .inl (.inr h)
set_option maxRecDepth 100000 in
set_option maxHeartbeats 1000000 in
theorem tell0_ (st : Addr) (lo p n : Nat) (tr : Option RT) (y : B4) (yq : Q4) (stp hw : Int) (w : World) (hT : TreeAt w lo p n tr) (hg : ∀ i ∈ itemsO tr, boxB i.box = true) (hn : (itemsO tr).length < 800000) (hy : ZB y yq) (hyo : yq.ok) (hS : StopE st w) (h0 : 0 < w.heap.size) (hst : stp ≤ 0 ∨ 0 < stp) (hgo : ∀ t, tr = some t → stp ≤ 0 ∨ ¬ (hw = 0 ∨ hw = 1) ∨ ∃ l, t = .leaf l) :
    Calls Tryd.prog 15 #[.pointer (some ⟨p, 0, none⟩), (Ask.mk 0 y stp hw).val] w (TellP n tr yq ⟨0, y, stp, hw⟩ w) := by
  · refine (told01_ st p 0 y stp hw (AR y tr) w h0 (.inl rfl) hst (fun w2 o ask hk ho hol hal hI => ?_)).mono (fun e w' ⟨ids, r, h1, h2⟩ => ⟨ids, r, .inl ⟨rfl, h1⟩, h2⟩)
    by_cases hs0 : stp ≤ 0
    · -- it is never ended
      have hC := told_cb st w.heap.size o ask w2.heap.size Rest.zero ⟨0, y, stp, hw⟩ ho h0 hol hal
      have hC' : CbS st 20 o ask (· = o) w.heap.size w2.heap.size (TI w.heap.size o ask Rest.zero ⟨0, y, stp, hw⟩) (fun _ _ _ => False) :=
        ⟨hC.enter, hC.keep, fun _ _ _ _ _ h => h, hC.kq, fun ids id w1 h1 h2 h3 => (hC.call ids id w1 h1 h2 h3).mono fun e w' ⟨a, b⟩ => ⟨a, by
          rcases b with b | ⟨h, b1, b2, b3, b4⟩
          · exact .inl b
          · simp only [List.length_append, List.length_cons, List.length_nil] at b4
            omega⟩⟩
      refine (searchG_ st _ o ask (· = o) w.heap.size lo p n y _ _ tr [] w2 hC' (hT.keep hk) (hS.below hk h0) hI h0 hk.size (fun b hb => by omega) (by have := rsO_le y tr; simp; omega) (fun t ht => .inl fun _ _ _ h => h.elim)).mono ?_
      rintro e w' ⟨hk', ⟨rfl, hi⟩ | ⟨m1, m2, h, _, _, _, hj⟩⟩
      · exact ⟨hk', .inl ⟨rfl, _, .inl ⟨rfl, rfl⟩, by simpa using hi⟩⟩
      · exact hj.elim
    · refine (searchG_ st _ o ask (· = o) w.heap.size lo p n y _ _ tr [] w2 (told_cb st w.heap.size o ask w2.heap.size Rest.zero ⟨0, y, stp, hw⟩ ho h0 hol hal) (hT.keep hk) (hS.below hk h0) hI h0 hk.size (fun b hb => by omega) (by have := rsO_le y tr; simp; omega) (fun t ht => ?_)).mono ?_
      · rcases goes_of w.heap.size o Rest.zero ⟨0, y, stp, hw⟩ t (hgo t ht) with h | h
        · exact h
        · exact absurd h hs0
      · rintro e w' ⟨hk', ⟨rfl, hi⟩ | ⟨m1, m2, h, hm, hm1, rfl, hj⟩⟩
        · exact ⟨hk', .inl ⟨rfl, _, .inl ⟨rfl, rfl⟩, by simpa using hi⟩⟩
        · exact ⟨hk', .inr ⟨m1, h, .inr ⟨rfl, hm1, m2, hm⟩, rfl, by simpa using hj⟩⟩
set_option maxRecDepth 100000 in
set_option maxHeartbeats 1000000 in
theorem tell1_ (st : Addr) (lo p n : Nat) (tr : Option RT) (y : B4) (yq : Q4) (stp hw : Int) (w : World) (hT : TreeAt w lo p n tr) (hg : ∀ i ∈ itemsO tr, boxB i.box = true) (hn : (itemsO tr).length < 800000) (hy : ZB y yq) (hyo : yq.ok) (hS : StopE st w) (h0 : 0 < w.heap.size) (hst : stp ≤ 0 ∨ 0 < stp) :
    Calls Tryd.prog 15 #[.pointer (some ⟨p, 0, none⟩), (Ask.mk 1 y stp hw).val] w (TellP n tr yq ⟨1, y, stp, hw⟩ w) := by
  · refine (told01_ st p 1 y stp hw (AP yq tr) w h0 (.inr rfl) hst (fun w2 o ask hk ho hol hal hI => ?_)).mono (fun e w' ⟨ids, r, h1, h2⟩ => ⟨ids, r, .inr (.inl ⟨rfl, h1⟩), h2⟩)
    refine (prio_ st _ o ask (· = o) w.heap.size lo p n _ _ y yq tr w2 (told_cb st w.heap.size o ask w2.heap.size Rest.zero ⟨1, y, stp, hw⟩ ho h0 hol hal) (hT.keep hk) hg hn hy hyo (hS.below hk h0) hI h0 hk.size (fun b hb => by omega)).mono ?_
    rintro e w' ⟨hk', S, R, hseg, ⟨rfl, hR, hi⟩ | ⟨hSn, h, rfl, hj⟩⟩
    · exact ⟨hk', .inl ⟨rfl, _, ⟨S, R, rfl, hseg, fun _ => hR, (fun h => by cases h)⟩, hi⟩⟩
    · exact ⟨hk', .inr ⟨_, h, ⟨S, R, rfl, hseg, (fun h => by cases h), fun _ => hSn⟩, rfl, hj⟩⟩
set_option maxRecDepth 100000 in
set_option maxHeartbeats 1000000 in
theorem tell2_ (st : Addr) (lo p n : Nat) (tr : Option RT) (y : B4) (yq : Q4) (stp hw : Int) (w : World) (hT : TreeAt w lo p n tr) (hg : ∀ i ∈ itemsO tr, boxB i.box = true) (hn : (itemsO tr).length < 800000) (hy : ZB y yq) (hyo : yq.ok) (hS : StopE st w) (h0 : 0 < w.heap.size) :
    Calls Tryd.prog 15 #[.pointer (some ⟨p, 0, none⟩), (Ask.mk 2 y stp hw).val] w (TellP n tr yq ⟨2, y, stp, hw⟩ w) := by
  · skip
    have hN := fun w' (hk : Stab.Keeps w w') => near_ st lo p n y yq tr w' (hT.keep hk) hg hn hy hyo (hS.below hk h0)
    have hmf : ∀ (fn : Fn) (first cap : Array Value) (w : World), (Instr.makeFunc fn first cap).run Tryd.prog w = .ok (.func fn first cap) w := fun _ _ _ _ => rfl
    obtain ⟨y0, y1, y2, y3⟩ := y
    simp only [Ask.val]
    have hbx := fun w => box_ ⟨y0, y1, y2, y3⟩ w
    simp only [B4.val] at hbx hN
    go_enter Tryd.func15, Tryd.ntmps15
    go_wp2_with fail
    refine (hbx _).mono ?_
    rintro e w2 ⟨rfl, hk2⟩
    go_wp2_with fail
    have hR2 : Blk w2 (w.heap.size + 1) 39 (.slice none 0 0 :: Rest.zero.cells) := ((Blk.new _ [_, _, _, _, _, _, _, _, _, _] _ _ (by simp)).alloc _).keep hk2
    have hB2 : Blk w2 (w.heap.size + 1 + 1) 39 (.slice none 0 0 :: Rest.zero.cells) := (Blk.new _ [_, _, _, _, _, _, _, _, _, _] _ _ (by simp)).keep hk2
    have hkw : Stab.Keeps w w2 := by repeat (first | (with_reducible exact Stab.Keeps.refl _) | (with_reducible assumption) | (with_reducible refine Stab.Keeps.alloc ?_ _) | (with_reducible refine Stab.Keeps.drew ?_) | (with_reducible refine Stab.Keeps.drewN ?_ _) | ((with_reducible refine Stab.Keeps.setCell ?_ ?_ _); focus (first | (simp; done) | (simp; omega))) | (with_reducible refine Stab.Keeps.trans ?_ (by with_reducible assumption)))
    refine (hN w2 hkw).mono ?_
    clear hN hbx hmf hk2
    rintro e w3 ⟨hk3, id, f, rfl, hnear⟩
    have hB := hB2.keep hk3
    have hR := hR2.keep hk3
    have hkf := Stab.Keeps.trans hkw hk3
    have HA := Lib.hid hnear
    clear hB2 hR2 hkw hk3 hnear
    have p0 := hB.cell (i := 0) rfl
    have p1 := hB.cell (i := 1) rfl
    have p2 := hB.cell (i := 2) rfl
    have p3 := hB.cell (i := 3) rfl
    have p4 := hB.cell (i := 4) rfl
    have p5 := hB.cell (i := 5) rfl
    have p6 := hB.cell (i := 6) rfl
    have p7 := hB.cell (i := 7) rfl
    have p8 := hB.cell (i := 8) rfl
    have p9 := hB.cell (i := 9) rfl
    have pf := hB.free
    have r0 := hR.cell (i := 0) rfl
    have r1 := hR.cell (i := 1) rfl
    have r2 := hR.cell (i := 2) rfl
    have r3 := hR.cell (i := 3) rfl
    have r4 := hR.cell (i := 4) rfl
    have r5 := hR.cell (i := 5) rfl
    have r6 := hR.cell (i := 6) rfl
    have r7 := hR.cell (i := 7) rfl
    have r8 := hR.cell (i := 8) rfl
    have r9 := hR.cell (i := 9) rfl
    have rf := hR.free
    have hl3 := hB.lt
    have hl4 := hR.lt
    clear hB hR
    have t1 := ass_w0
    have t2 := ass_o0
    go_wp2_with fail
    refine bodyPost_ret (v := toldV none ([] : List Int).length 0 ⟨false, false, f, id, ⟨0, 0, 0, 0⟩, 0⟩) (by simp [results, Tryd.results15, go_sem, toldV, Rest.zero, *]) rfl ⟨[], ⟨false, false, f, id, ⟨0, 0, 0, 0⟩, 0⟩, .inr (.inr (.inl ⟨rfl, rfl, id, f, rfl, HA.out⟩)), none, 0, rfl, World.ownsRow_nil _ _ _ _, ?_⟩
    repeat (first | (with_reducible exact Stab.Keeps.refl _) | (with_reducible assumption) | (with_reducible refine Stab.Keeps.alloc ?_ _) | (with_reducible refine Stab.Keeps.drew ?_) | (with_reducible refine Stab.Keeps.drewN ?_ _) | ((with_reducible refine Stab.Keeps.setCell ?_ ?_ _); focus (first | (simp; done) | (simp; omega))) | (with_reducible refine Stab.Keeps.trans ?_ (by with_reducible assumption)))
set_option maxRecDepth 100000 in
set_option maxHeartbeats 1000000 in
theorem tell3_ (st : Addr) (lo p n : Nat) (tr : Option RT) (y : B4) (yq : Q4) (stp hw : Int) (w : World) (hT : TreeAt w lo p n tr) (hg : ∀ i ∈ itemsO tr, boxB i.box = true) (hn : (itemsO tr).length < 800000) (hy : ZB y yq) (hyo : yq.ok) (hS : StopE st w) (h0 : 0 < w.heap.size) :
    Calls Tryd.prog 15 #[.pointer (some ⟨p, 0, none⟩), (Ask.mk 3 y stp hw).val] w (TellP n tr yq ⟨3, y, stp, hw⟩ w) := by
  · skip
    have hN := fun w' (hk : Stab.Keeps w w') => extent_ lo p n tr w' (hT.keep hk)
    generalize hex : extB tr = ex at *
    have hmf : ∀ (fn : Fn) (first cap : Array Value) (w : World), (Instr.makeFunc fn first cap).run Tryd.prog w = .ok (.func fn first cap) w := fun _ _ _ _ => rfl
    obtain ⟨y0, y1, y2, y3⟩ := y
    simp only [Ask.val]
    obtain ⟨e0, e1, e2, e3⟩ := ex
    simp only [extV, hex, B4.val] at hN
    have HX := Lib.hid hex
    clear hex
    go_enter Tryd.func15, Tryd.ntmps15
    go_wp2_with fail
    refine (hN _ (by repeat (first | (with_reducible exact Stab.Keeps.refl _) | (with_reducible assumption) | (with_reducible refine Stab.Keeps.alloc ?_ _) | (with_reducible refine Stab.Keeps.drew ?_) | (with_reducible refine Stab.Keeps.drewN ?_ _) | ((with_reducible refine Stab.Keeps.setCell ?_ ?_ _); focus (first | (simp; done) | (simp; omega))) | (with_reducible refine Stab.Keeps.trans ?_ (by with_reducible assumption))))).mono ?_
    rintro e w2 ⟨rfl, hk2⟩
    have hR : Blk w2 (w.heap.size + 1) 39 (.slice none 0 0 :: Rest.zero.cells) := ((Blk.new _ [_, _, _, _, _, _, _, _, _, _] _ _ (by simp)).alloc _).keep hk2
    have hB : Blk w2 (w.heap.size + 1 + 1) 39 (.slice none 0 0 :: Rest.zero.cells) := (Blk.new _ [_, _, _, _, _, _, _, _, _, _] _ _ (by simp)).keep hk2
    have hkf : Stab.Keeps w w2 := by repeat (first | (with_reducible exact Stab.Keeps.refl _) | (with_reducible assumption) | (with_reducible refine Stab.Keeps.alloc ?_ _) | (with_reducible refine Stab.Keeps.drew ?_) | (with_reducible refine Stab.Keeps.drewN ?_ _) | ((with_reducible refine Stab.Keeps.setCell ?_ ?_ _); focus (first | (simp; done) | (simp; omega))) | (with_reducible refine Stab.Keeps.trans ?_ (by with_reducible assumption)))
    clear hN hmf hk2
    generalize hsm : tr.isSome = sm at *
    have HSM := Lib.hid hsm
    clear hsm
    have p0 := hB.cell (i := 0) rfl
    have p1 := hB.cell (i := 1) rfl
    have p2 := hB.cell (i := 2) rfl
    have p3 := hB.cell (i := 3) rfl
    have p4 := hB.cell (i := 4) rfl
    have p5 := hB.cell (i := 5) rfl
    have p6 := hB.cell (i := 6) rfl
    have p7 := hB.cell (i := 7) rfl
    have p8 := hB.cell (i := 8) rfl
    have p9 := hB.cell (i := 9) rfl
    have pf := hB.free
    have r0 := hR.cell (i := 0) rfl
    have r1 := hR.cell (i := 1) rfl
    have r2 := hR.cell (i := 2) rfl
    have r3 := hR.cell (i := 3) rfl
    have r4 := hR.cell (i := 4) rfl
    have r5 := hR.cell (i := 5) rfl
    have r6 := hR.cell (i := 6) rfl
    have r7 := hR.cell (i := 7) rfl
    have r8 := hR.cell (i := 8) rfl
    have r9 := hR.cell (i := 9) rfl
    have rf := hR.free
    have hl3 := hB.lt
    have hl4 := hR.lt
    have t1 := ass_w0
    have t2 := ass_o0
    go_upto_region 21 with (fail)
    have hBf : Blk (((((((((w2.setCell ⟨w.heap.size + 1 + 1, 5, none⟩ (.float .f64 e0)).setCell ⟨w.heap.size + 1 + 1, 6, none⟩ (.float .f64 e1)).setCell ⟨w.heap.size + 1 + 1, 7, none⟩ (.float .f64 e2)).setCell ⟨w.heap.size + 1 + 1, 8, none⟩ (.float .f64 e3)).setCell ⟨w.heap.size + 1 + 1, 3, none⟩ (.bool sm)).setCell ⟨w.heap.size + 1 + 1, 1, none⟩ (.bool false)).setCell ⟨w.heap.size + 1 + 1, 2, none⟩ (.bool false)).alloc (.cells #[.float .f64 e0, .float .f64 e1, .float .f64 e2, .float .f64 e3] 56)).alloc (.cells #[.nilIface] 64)) (w.heap.size + 1 + 1) 39 [.slice none 0 0, .bool false, .bool false, .bool sm, .int .i64 0, .float .f64 e0, .float .f64 e1, .float .f64 e2, .float .f64 e3, .int .i64 0] := ((((((((hB.set 5 _).set 6 _).set 7 _).set 8 _).set 3 _).set 1 _).set 2 _).alloc _).alloc _
    have hRf : Blk (((((((((w2.setCell ⟨w.heap.size + 1 + 1, 5, none⟩ (.float .f64 e0)).setCell ⟨w.heap.size + 1 + 1, 6, none⟩ (.float .f64 e1)).setCell ⟨w.heap.size + 1 + 1, 7, none⟩ (.float .f64 e2)).setCell ⟨w.heap.size + 1 + 1, 8, none⟩ (.float .f64 e3)).setCell ⟨w.heap.size + 1 + 1, 3, none⟩ (.bool sm)).setCell ⟨w.heap.size + 1 + 1, 1, none⟩ (.bool false)).setCell ⟨w.heap.size + 1 + 1, 2, none⟩ (.bool false)).alloc (.cells #[.float .f64 e0, .float .f64 e1, .float .f64 e2, .float .f64 e3] 56)).alloc (.cells #[.nilIface] 64)) (w.heap.size + 1) 39 (.slice none 0 0 :: Rest.zero.cells) := ((((((((hR.past (by simp) _).past (by simp) _).past (by simp) _).past (by simp) _).past (by simp) _).past (by simp) _).past (by simp) _).alloc _).alloc _
    have hkF : Stab.Keeps w (((((((((w2.setCell ⟨w.heap.size + 1 + 1, 5, none⟩ (.float .f64 e0)).setCell ⟨w.heap.size + 1 + 1, 6, none⟩ (.float .f64 e1)).setCell ⟨w.heap.size + 1 + 1, 7, none⟩ (.float .f64 e2)).setCell ⟨w.heap.size + 1 + 1, 8, none⟩ (.float .f64 e3)).setCell ⟨w.heap.size + 1 + 1, 3, none⟩ (.bool sm)).setCell ⟨w.heap.size + 1 + 1, 1, none⟩ (.bool false)).setCell ⟨w.heap.size + 1 + 1, 2, none⟩ (.bool false)).alloc (.cells #[.float .f64 e0, .float .f64 e1, .float .f64 e2, .float .f64 e3] 56)).alloc (.cells #[.nilIface] 64)) := by repeat (first | (with_reducible exact Stab.Keeps.refl _) | (with_reducible assumption) | (with_reducible refine Stab.Keeps.alloc ?_ _) | (with_reducible refine Stab.Keeps.drew ?_) | (with_reducible refine Stab.Keeps.drewN ?_ _) | ((with_reducible refine Stab.Keeps.setCell ?_ ?_ _); focus (first | (simp; done) | (simp; omega))) | (with_reducible refine Stab.Keeps.trans ?_ (by with_reducible assumption)))
    generalize (((((((((w2.setCell ⟨w.heap.size + 1 + 1, 5, none⟩ (.float .f64 e0)).setCell ⟨w.heap.size + 1 + 1, 6, none⟩ (.float .f64 e1)).setCell ⟨w.heap.size + 1 + 1, 7, none⟩ (.float .f64 e2)).setCell ⟨w.heap.size + 1 + 1, 8, none⟩ (.float .f64 e3)).setCell ⟨w.heap.size + 1 + 1, 3, none⟩ (.bool sm)).setCell ⟨w.heap.size + 1 + 1, 1, none⟩ (.bool false)).setCell ⟨w.heap.size + 1 + 1, 2, none⟩ (.bool false)).alloc (.cells #[.float .f64 e0, .float .f64 e1, .float .f64 e2, .float .f64 e3] 56)).alloc (.cells #[.nilIface] 64)) = WF at hBf hRf hkF ⊢
    clear hB hR hkf p0 p1 p2 p3 p4 p5 p6 p7 p8 p9 pf r0 r1 r2 r3 r4 r5 r6 r7 r8 r9 rf hl3 hl4 t1 t2
    have p0 := hBf.cell (i := 0) rfl
    have p1 := hBf.cell (i := 1) rfl
    have p2 := hBf.cell (i := 2) rfl
    have p3 := hBf.cell (i := 3) rfl
    have p4 := hBf.cell (i := 4) rfl
    have p5 := hBf.cell (i := 5) rfl
    have p6 := hBf.cell (i := 6) rfl
    have p7 := hBf.cell (i := 7) rfl
    have p8 := hBf.cell (i := 8) rfl
    have p9 := hBf.cell (i := 9) rfl
    have pf := hBf.free
    have r0 := hRf.cell (i := 0) rfl
    have r1 := hRf.cell (i := 1) rfl
    have r2 := hRf.cell (i := 2) rfl
    have r3 := hRf.cell (i := 3) rfl
    have r4 := hRf.cell (i := 4) rfl
    have r5 := hRf.cell (i := 5) rfl
    have r6 := hRf.cell (i := 6) rfl
    have r7 := hRf.cell (i := 7) rfl
    have r8 := hRf.cell (i := 8) rfl
    have r9 := hRf.cell (i := 9) rfl
    have rf := hRf.free
    have hl3 := hBf.lt
    have hl4 := hRf.lt
    clear hBf hRf
    go_wp2_with fail
    refine bodyPost_ret (v := toldV none ([] : List Int).length 0 ⟨false, false, sm, 0, ⟨e0, e1, e2, e3⟩, 0⟩) (by simp [results, Tryd.results15, go_sem, toldV, Rest.zero, *]) rfl ⟨[], ⟨false, false, sm, 0, ⟨e0, e1, e2, e3⟩, 0⟩, .inr (.inr (.inr (.inl ⟨rfl, rfl, by rw [HX.out, HSM.out]⟩))), none, 0, rfl, World.ownsRow_nil _ _ _ _, ?_⟩
    repeat (first | (with_reducible exact Stab.Keeps.refl _) | (with_reducible assumption) | (with_reducible refine Stab.Keeps.alloc ?_ _) | (with_reducible refine Stab.Keeps.drew ?_) | (with_reducible refine Stab.Keeps.drewN ?_ _) | ((with_reducible refine Stab.Keeps.setCell ?_ ?_ _); focus (first | (simp; done) | (simp; omega))) | (with_reducible refine Stab.Keeps.trans ?_ (by with_reducible assumption)))
set_option maxRecDepth 100000 in
set_option maxHeartbeats 1000000 in
theorem tell4_ (st : Addr) (lo p n : Nat) (tr : Option RT) (y : B4) (yq : Q4) (stp hw : Int) (w : World) (hT : TreeAt w lo p n tr) (hg : ∀ i ∈ itemsO tr, boxB i.box = true) (hn : (itemsO tr).length < 800000) (hy : ZB y yq) (hyo : yq.ok) (hS : StopE st w) (h0 : 0 < w.heap.size) :
    Calls Tryd.prog 15 #[.pointer (some ⟨p, 0, none⟩), (Ask.mk 4 y stp hw).val] w (TellP n tr yq ⟨4, y, stp, hw⟩ w) := by
  · skip
    have hN := fun w' (hk : Stab.Keeps w w') => count_ lo p n tr w' (hT.keep hk)
    have hmf : ∀ (fn : Fn) (first cap : Array Value) (w : World), (Instr.makeFunc fn first cap).run Tryd.prog w = .ok (.func fn first cap) w := fun _ _ _ _ => rfl
    obtain ⟨y0, y1, y2, y3⟩ := y
    simp only [Ask.val]
    go_enter Tryd.func15, Tryd.ntmps15
    go_wp2_with fail
    refine (hN _ (by repeat (first | (with_reducible exact Stab.Keeps.refl _) | (with_reducible assumption) | (with_reducible refine Stab.Keeps.alloc ?_ _) | (with_reducible refine Stab.Keeps.drew ?_) | (with_reducible refine Stab.Keeps.drewN ?_ _) | ((with_reducible refine Stab.Keeps.setCell ?_ ?_ _); focus (first | (simp; done) | (simp; omega))) | (with_reducible refine Stab.Keeps.trans ?_ (by with_reducible assumption))))).mono ?_
    rintro e w2 ⟨rfl, hk2⟩
    have hR : Blk w2 (w.heap.size + 1) 39 (.slice none 0 0 :: Rest.zero.cells) := ((Blk.new _ [_, _, _, _, _, _, _, _, _, _] _ _ (by simp)).alloc _).keep hk2
    have hB : Blk w2 (w.heap.size + 1 + 1) 39 (.slice none 0 0 :: Rest.zero.cells) := (Blk.new _ [_, _, _, _, _, _, _, _, _, _] _ _ (by simp)).keep hk2
    have hkf : Stab.Keeps w w2 := by repeat (first | (with_reducible exact Stab.Keeps.refl _) | (with_reducible assumption) | (with_reducible refine Stab.Keeps.alloc ?_ _) | (with_reducible refine Stab.Keeps.drew ?_) | (with_reducible refine Stab.Keeps.drewN ?_ _) | ((with_reducible refine Stab.Keeps.setCell ?_ ?_ _); focus (first | (simp; done) | (simp; omega))) | (with_reducible refine Stab.Keeps.trans ?_ (by with_reducible assumption)))
    clear hN hmf hk2
    have p0 := hB.cell (i := 0) rfl
    have p1 := hB.cell (i := 1) rfl
    have p2 := hB.cell (i := 2) rfl
    have p3 := hB.cell (i := 3) rfl
    have p4 := hB.cell (i := 4) rfl
    have p5 := hB.cell (i := 5) rfl
    have p6 := hB.cell (i := 6) rfl
    have p7 := hB.cell (i := 7) rfl
    have p8 := hB.cell (i := 8) rfl
    have p9 := hB.cell (i := 9) rfl
    have pf := hB.free
    have r0 := hR.cell (i := 0) rfl
    have r1 := hR.cell (i := 1) rfl
    have r2 := hR.cell (i := 2) rfl
    have r3 := hR.cell (i := 3) rfl
    have r4 := hR.cell (i := 4) rfl
    have r5 := hR.cell (i := 5) rfl
    have r6 := hR.cell (i := 6) rfl
    have r7 := hR.cell (i := 7) rfl
    have r8 := hR.cell (i := 8) rfl
    have r9 := hR.cell (i := 9) rfl
    have rf := hR.free
    have hl3 := hB.lt
    have hl4 := hR.lt
    clear hB hR
    have t1 := ass_w0
    have t2 := ass_o0
    go_wp2_with fail
    refine bodyPost_ret (v := toldV none ([] : List Int).length 0 ⟨false, false, false, 0, ⟨0, 0, 0, 0⟩, n⟩) (by simp [results, Tryd.results15, go_sem, toldV, Rest.zero, *]) rfl ⟨[], ⟨false, false, false, 0, ⟨0, 0, 0, 0⟩, n⟩, .inr (.inr (.inr (.inr ⟨rfl, rfl, rfl⟩))), none, 0, rfl, World.ownsRow_nil _ _ _ _, ?_⟩
    repeat (first | (with_reducible exact Stab.Keeps.refl _) | (with_reducible assumption) | (with_reducible refine Stab.Keeps.alloc ?_ _) | (with_reducible refine Stab.Keeps.drew ?_) | (with_reducible refine Stab.Keeps.drewN ?_ _) | ((with_reducible refine Stab.Keeps.setCell ?_ ?_ _); focus (first | (simp; done) | (simp; omega))) | (with_reducible refine Stab.Keeps.trans ?_ (by with_reducible assumption)))
theorem tell_ (st : Addr) (lo p n : Nat) (tr : Option RT) (yq : Q4) (q : Ask) (w : World) (hT : TreeAt w lo p n tr) (hg : ∀ i ∈ itemsO tr, boxB i.box = true) (hn : (itemsO tr).length < 800000) (hy : ZB q.box yq) (hyo : yq.ok) (hS : StopE st w)
    (hd0 : 0 ≤ q.dO) (hd4 : q.dO ≤ 4) (hgo : q.dO = 0 → ∀ t, tr = some t → q.stop ≤ 0 ∨ ¬ (q.how = 0 ∨ q.how = 1) ∨ ∃ l, t = .leaf l) :
    Calls Tryd.prog 15 #[.pointer (some ⟨p, 0, none⟩), q.val] w (TellP n tr yq q w) := by
  have h0 := Stab.cell_lt hS
  simp only at h0
  obtain ⟨d, y, stp, hw⟩ := q
  simp only at hy hd0 hd4 hgo
  have hst : stp ≤ 0 ∨ 0 < stp := by omega
  have h5 : d = 0 ∨ d = 1 ∨ d = 2 ∨ d = 3 ∨ d = 4 := by omega
  rcases h5 with rfl | rfl | rfl | rfl | rfl
  · exact tell0_ st lo p n tr y yq stp hw w hT hg hn hy hyo hS h0 hst (hgo rfl)
  · exact tell1_ st lo p n tr y yq stp hw w hT hg hn hy hyo hS h0 hst
  · exact tell2_ st lo p n tr y yq stp hw w hT hg hn hy hyo hS h0
  · exact tell3_ st lo p n tr y yq stp hw w hT hg hn hy hyo hS h0
  · exact tell4_ st lo p n tr y yq stp hw w hT hg hn hy hyo hS h0
end Go.Proofs.YtokofimfinhnbaaDoor
