/-
  The reader of binary forms: forms one behind another. No condition.
  The reference's look whether geometries are the same data: of like data it says so. No condition.
  FnManyOrders: the walk of the law. No condition.
  FnManyOrders: the arguments opened, the walk in the row's form. No condition.
-/
import Derived.Test.YtbakhldjfplbfaaGreatXDb
import Derived.Test.YtbakhldjfplbfaaGreatXR2
import Derived.Test.YtbakhldjfplbfaaGreatXBc
import Derived.Test.YtbakhldjfplbfaaGreatXOpSz
import Derived.Test.YtbakhldjfplbfaaGreatRows
set_option linter.unusedVariables false
set_option linter.unusedSimpArgs false
namespace Go.Proofs.YtbakhldjfplbfaaGreat
open Go.RowKit Go.Fl Go.Sl Go.Pg Go.Ch Go.Kf Go.By
def DoorPost (w : World) (rl : Nat) (p : Pg) (e : Ending) (w' : World) : Prop := ∃ cs, e = .returned (.tuple #[.agg cs.toArray, .int .i64 rl, .nilIface]) ∧ Stab.Keeps w w' ∧ GeoR w' (orNew no w.heap.size) cs p
set_option maxRecDepth 100000 in
set_option maxHeartbeats 4000000 in
theorem door_ (p : Pg) (hR : RunOk p) (o : List Bool) (r : List Nat) (a : Option Addr) (n c : Nat) (w : World) (h : Sz w a n c 1 (bytesV ((wkbO o p).1 ++ r))) :
    Calls Tryz.prog 64 #[.slice a n c] w (DoorPost w r.length p) := by
  have hk2 : Stab.Keeps w ((w.alloc (.cells #[.int .i64 0, .nilIface] 78)).alloc (.cells #[.slice a n c, .int .u8 0, .bool false] 183)) := by with_reducible (repeat first | exact Kx.r _ | assumption | refine Kx.a ?_ _ | refine Kx.d ?_ | refine Kx.e ?_ _ | refine Kx.s (by simp <;> omega) ?_ _ | refine Kx.t ?_ (by assumption))
  have hG : Blk ((w.alloc (.cells #[.int .i64 0, .nilIface] 78)).alloc (.cells #[.slice a n c, .int .u8 0, .bool false] 183)) w.heap.size 78 [.int .i64 0, .nilIface] := by with_reducible (repeat first | assumption | (refine Bx.n ⟨?_, ?_⟩ <;> focus (first | rfl | (simp; done) | omega)) | refine Bx.a ?_ _ | refine Bx.d ?_ | refine Bx.e ?_ _ | refine Bx.p (by first | omega | simp <;> omega) ?_)
  have hI : Blk ((w.alloc (.cells #[.int .i64 0, .nilIface] 78)).alloc (.cells #[.slice a n c, .int .u8 0, .bool false] 183)) (w.heap.size + 1) 183 [.slice a n c, .int .u8 0, .bool false] := by with_reducible (repeat first | assumption | (refine Bx.n ⟨?_, ?_⟩ <;> focus (first | rfl | (simp; done) | omega)) | refine Bx.a ?_ _ | refine Bx.d ?_ | refine Bx.e ?_ _ | refine Bx.p (by first | omega | simp <;> omega) ?_)
  have hRun := hR o r w (w.heap.size + 1) true _ ⟨hk2, ⟨a, n, c, hI, h⟩, by omega⟩
  have hsz : ((w.alloc (.cells #[.int .i64 0, .nilIface] 78)).alloc (.cells #[.slice a n c, .int .u8 0, .bool false] 183)).heap.size = w.heap.size + 2 := by simp
  have HG := Lib.hid hG
  have HSZ := Lib.hid hsz
  clear hI hR hk2 hG hsz h
  go_enter Tryz.func64, Tryz.ntmps64
  go_upto_region 2 with (fail)
  generalize ((w.alloc (.cells #[.int .i64 0, .nilIface] 78)).alloc (.cells #[.slice a n c, .int .u8 0, .bool false] 183)) = w2 at *
  go_wp2_with fail
  refine hRun.mono ?_
  clear hRun
  rintro e w3 ⟨cs, rfl, ⟨hs1, ⟨a3, n3, c3, hI3, hO3⟩, hs3⟩, hk3, hx3⟩
  obtain ⟨kq, tq, bq, rfl⟩ := hx3.two
  have hn3 : n3 = r.length := by have := hO3.len; rw [bytesV_len] at this; omega
  have HN3 := Lib.hid hn3
  have hG3 := blk_kf HG.out (show w.heap.size ≠ w.heap.size + 1 by omega) hk3
  have hk4 : Stab.Keeps w3 (w3.alloc (.cells #[.int .i64 kq, .iface tq (.pointer (some ⟨bq, 0, none⟩))] 78)) := by with_reducible (repeat first | exact Kx.r _ | assumption | refine Kx.a ?_ _ | refine Kx.d ?_ | refine Kx.e ?_ _ | refine Kx.s (by simp <;> omega) ?_ _ | refine Kx.t ?_ (by assumption))
  have hQ : Blk (w3.alloc (.cells #[.int .i64 kq, .iface tq (.pointer (some ⟨bq, 0, none⟩))] 78)) w3.heap.size 78 [.int .i64 kq, .iface tq (.pointer (some ⟨bq, 0, none⟩))] := by with_reducible (repeat first | assumption | (refine Bx.n ⟨?_, ?_⟩ <;> focus (first | rfl | (simp; done) | omega)) | refine Bx.a ?_ _ | refine Bx.d ?_ | refine Bx.e ?_ _ | refine Bx.p (by first | omega | simp <;> omega) ?_)
  have hsz3 := hk3.size
  have hx4 := geoS.kf hx3 (KF.keeps hk4)
  rw [HSZ.out] at hx4
  have HX := Lib.hid hx4
  have hI4 := hI3.keep hk4
  have hG4 := hG3.keep hk4
  have HK4 := Lib.hid (Stab.Keeps.trans hs1 hk4)
  clear hx3 hx4 hI3 hG3 hs1 hk3 hk4 HG hO3 hn3
  go_upto_region 3 with (fail)
  generalize (w3.alloc (.cells #[.int .i64 kq, .iface tq (.pointer (some ⟨bq, 0, none⟩))] 78)) = w4 at *
  have hqs : w.heap.size + 2 ≤ w3.heap.size := by have := HSZ.out; omega
  generalize w3.heap.size = qb at *
  have m0 := hI4.cell (i := 0) rfl
  have m1 := hI4.cell (i := 1) rfl
  have m2 := hI4.cell (i := 2) rfl
  have mf := hI4.free
  have ml := hI4.lt
  have p0 := hG4.cell (i := 0) rfl
  have p1 := hG4.cell (i := 1) rfl
  have pf := hG4.free
  have pl := hG4.lt
  have q0 := hQ.cell (i := 0) rfl
  have q1 := hQ.cell (i := 1) rfl
  have qf := hQ.free
  have ql := hQ.lt
  go_region
  all_goals (
    have hG6 := (hG4.set 0 (.int .i64 kq)).set 1 (.iface tq (.pointer (some ⟨bq, 0, none⟩)))
    simp only [List.set] at hG6
    have hG7 := hG6.drew
    have hK6 := Stab.Keeps.drew (Stab.Keeps.setCell (p := ⟨w.heap.size, 1, none⟩) (Nat.le_refl _) (Stab.Keeps.setCell (p := ⟨w.heap.size, 0, none⟩) (Nat.le_refl _) HK4.out (.int .i64 kq)) (.iface tq (.pointer (some ⟨bq, 0, none⟩))))
    have hF6 := (KF.put2 (orNew no (w.heap.size + 2)) w4 (b := w.heap.size) (by simp [orNew, no]) (.int .i64 kq) (.iface tq (.pointer (some ⟨bq, 0, none⟩)))).drew
    generalize ((w4.setCell ⟨w.heap.size, 0, none⟩ (.int .i64 kq)).setCell ⟨w.heap.size, 1, none⟩ (.iface tq (.pointer (some ⟨bq, 0, none⟩)))).drew = w6 at *
    clear hG6 m0 m1 m2 mf ml p0 p1 pf pl q0 q1 qf ql
    have g0 := hG7.cell (i := 0) rfl
    have g1 := hG7.cell (i := 1) rfl
    have gf := hG7.free
    have gl := hG7.lt
    have hx := geoS.mono (G := orNew no w.heap.size) (geoS.kf HX.out hF6) (fun b _ hb => no_mono (by omega) hb)
    go_wp2_with fail
    refine bodyPost_ret (v := .tuple #[.agg #[.int .i64 kq, .iface tq (.pointer (some ⟨bq, 0, none⟩))], .int .i64 n3, .nilIface]) (by simp [results, Tryz.results64, go_sem, g0, g1, gf]) rfl ⟨_, by rw [HN3.out], hK6, hx⟩)
def encO (x : List Bool × Pg) : List Nat := (wkbO x.1 x.2).1
def ReadPost (w : World) (left : Nat) (ps : List Pg) (e : Ending) (w' : World) : Prop := ∃ al c css, e = .returned (.tuple #[.slice al ps.length c, .int .i64 left]) ∧ Stab.Keeps w w' ∧ Go.Kf.Rows w' (fun b => w.heap.size ≤ b) GmR al ps.length c 4 css ps
set_option maxRecDepth 100000 in
set_option maxHeartbeats 4000000 in
theorem readMany_ (a : Option Addr) (n cap : Nat) (ls : List (List Bool × Pg)) (w : World) (h : Sz w a n cap 1 (bytesV (ls.flatMap encO))) (hR : ∀ x ∈ ls, RunOk x.2) (h0 : ∀ x ∈ ls, 0 < (encO x).length) (hm : ls.length ≤ 1000) :
    Calls Tryz.prog 36 #[.slice a n cap] w (ReadPost w 0 (ls.map (·.2))) := by
  obtain ⟨i0, hi, hz0, hz1, hz2⟩ := info_parts infoGm
  have HI := Lib.hid hi
  have HZ := Lib.hid hz0
  have HZ1 := Lib.hid hz1
  have HZ2 := Lib.hid hz2
  obtain ⟨m, hml⟩ : ∃ m, ls.length = m := ⟨_, rfl⟩
  have HM := Lib.hid hml
  rw [hml] at hm
  clear hi hz0 hz1 hz2 hml
  go_enter Tryz.func36, Tryz.ntmps36
  go_wp2_with fail
  go_loopw [0, 2] (fun bv v wr => ∃ (k : Nat) (ak : Option Addr) (nk ck : Nat), k ≤ m ∧ bv = .slice ak nk ck ∧ Sz w ak nk ck 1 (bytesV ((ls.drop k).flatMap encO)) ∧ Grow w wr GmR 25 4 k v ((ls.map (·.2)).take k)) (fun bv _ _ => match bv with | .slice _ nk _ => nk | _ => 0)
  case atStart => exact ⟨0, a, n, cap, by omega, rfl, by simpa using h, by simpa using Grow.nil w w GmR 25 4 (Stab.Keeps.refl _)⟩
  case round =>
    clear h
    obtain ⟨k, ak, nk, ck, hk, rfl, hS, hG⟩ := hrel
    obtain ⟨al, c, rfl, hkc, hcm⟩ := hG.shape
    have hK := hG.keeps
    by_cases hlt : k < m
    · have hki : k < ls.length := by have := HM.out; omega
      have hmem := List.getElem_mem hki
      have hdr : (ls.drop k).flatMap encO = encO ls[k] ++ (ls.drop (k + 1)).flatMap encO := by rw [List.drop_eq_getElem_cons hki, List.flatMap_cons]
      have hts : (ls.map (·.2)).take (k + 1) = (ls.map (·.2)).take k ++ [ls[k].2] := by rw [List.take_succ_eq_append_getElem (by simpa using hki), List.getElem_map]
      have hrk := hR _ hmem
      have h0k := h0 _ hmem
      rw [hdr] at hS
      generalize hrr : (ls.drop (k + 1)).flatMap encO = rr at *
      have HRR := Lib.hid hrr
      have HTS := Lib.hid hts
      generalize ls[k] = x at *
      obtain ⟨o, p⟩ := x
      simp only [encO] at hS h0k hrk
      obtain ⟨en, hen⟩ : ∃ en, (wkbO o p).1.length = en := ⟨_, rfl⟩
      obtain ⟨rl, hrl⟩ : ∃ rl, rr.length = rl := ⟨_, rfl⟩
      have hnl : nk = en + rl := by have := hS.len; rw [bytesV_len, List.length_append] at this; omega
      rw [hen] at h0k
      have hC := fun w' (hk' : Stab.Keeps w w') => door_ p hrk o rr ak nk ck w' (hS.keep hk')
      rw [hrl] at hC
      have hlen := hS.le
      have hmx := hS.max
      unfold maxLen at hmx
      have hdrop := hS.drop en (by omega)
      rw [bytesV_app, Nat.mul_one, ← hen, ← bytesV_len (wkbO o p).1, List.drop_left, bytesV_len, hen] at hdrop
      obtain ⟨A1, hA1⟩ : ∃ A1 : Option Addr, (if ck = en then ak else ak.map (·.add en)) = A1 := ⟨_, rfl⟩
      rw [hA1] at hdrop
      have hsL : ∀ w, (Instr.slice 54 (.slice ak nk ck) (some (.int .i64 en)) none none).run Tryz.prog w = .ok (.slice A1 (nk - en) (ck - en)) w := fun w => by
        rw [run_from (P := Tryz.prog) w 54 5 ak nk ck 1 en Tryz.underlying54 (u8_size w) (by omega), Nat.mul_one, hA1]
      have hsub : (nk : Int) - (rl : Int) = (en : Int) := by omega
      have hpos : 0 < nk := by omega
      have hown := fun g (hg : (Value.slice al k c).ownBlock = some g) => (hG.own hg).2
      have HG := Lib.hid hG
      have HDR := Lib.hid hdrop
      clear hG hS hrr hts hdr hen hrl hnl hdrop hA1 hrk
      go_wp2_with fail
      refine (hC _ hK).mono ?_
      clear hC
      rintro e w2 ⟨cs, rfl, hk2, hx⟩
      obtain ⟨kq, tq, bq, rfl⟩ := hx.two
      have hk3 : Stab.Keeps w2 (w2.alloc (.cells #[.int .i64 kq, .iface tq (.pointer (some ⟨bq, 0, none⟩))] 78)) := by with_reducible (repeat first | exact Kx.r _ | assumption | refine Kx.a ?_ _ | refine Kx.d ?_ | refine Kx.e ?_ _ | refine Kx.s (by simp <;> omega) ?_ _ | refine Kx.t ?_ (by assumption))
      have hQ : Blk (w2.alloc (.cells #[.int .i64 kq, .iface tq (.pointer (some ⟨bq, 0, none⟩))] 78)) w2.heap.size 78 [.int .i64 kq, .iface tq (.pointer (some ⟨bq, 0, none⟩))] := by with_reducible (repeat first | assumption | (refine Bx.n ⟨?_, ?_⟩ <;> focus (first | rfl | (simp; done) | omega)) | refine Bx.a ?_ _ | refine Bx.d ?_ | refine Bx.e ?_ _ | refine Bx.p (by first | omega | simp <;> omega) ?_)
      have hPl := fun w' (hk' : Stab.Keeps (w2.alloc (.cells #[.int .i64 kq, .iface tq (.pointer (some ⟨bq, 0, none⟩))] 78)) w') => plainGeo_ p _ _ w' (geoS.kf hx (KF.keeps (Stab.Keeps.trans hk3 hk')))
      have hk23 := Stab.Keeps.trans hk2 hk3
      clear hx hk2 hk3
      go_upto_region 5 with (fail)
      generalize (w2.alloc (.cells #[.int .i64 kq, .iface tq (.pointer (some ⟨bq, 0, none⟩))] 78)) = w3 at *
      generalize w2.heap.size = qb at *
      have q0 := hQ.cell (i := 0) rfl
      have q1 := hQ.cell (i := 1) rfl
      have qf := hQ.free
      have ql := hQ.lt
      go_wp2_with fail
      refine (hPl _ (Stab.Keeps.refl _)).mono ?_
      clear hPl
      rintro e w4 ⟨cs, rfl, hk4, hx⟩
      have hk5 : Stab.Keeps wr w4 := Stab.Keeps.trans hk23 hk4
      have hs4 := hk5.size
      have hs34 := hk4.size
      obtain ⟨zk, zd, zna, znn, znc, zka, zkn, zkc, rfl⟩ := hx.four
      have hxb : GmR (w4.alloc (.cells #[.int .i64 zk, .int .i64 zd, .slice zna znn znc, .slice zka zkn zkc] 25)) (fun b => wr.heap.size ≤ b ∧ b < w4.heap.size) [.int .i64 zk, .int .i64 zd, .slice zna znn znc, .slice zka zkn zkc] p := gmS.kf (gmS.mono hx (fun b hb hf => hf.elim (fun h => h.elim) (fun h => ⟨by have := hk23.size; omega, hb⟩))) ((KF.refl _ _).alloc _)
      have hGb := HG.out.keep gmS (hk5.alloc (.cells #[.int .i64 zk, .int .i64 zd, .slice zna znn znc, .slice zka zkn zkc] 25))
      have HGB := Lib.hid hGb
      have hone := hx.ones
      have hszw := hK.size
      clear HG hGb hx hk4 q0 q1 qf ql hQ hk23
      go_wp2_with (at_builtin; (refine append_grow (w0 := w) gmS rfl _ _ 23 rfl 25 i0 _ 4 64 Tryz.underlying23 HI.out HZ.out HZ1.out HZ2.out rfl (by decide) _ k _ rfl HGB.out ⟨w4.heap.size, 0, none⟩ 1 [.int .i64 zk, .int .i64 zd, .slice zna znn znc, .slice zka zkn zkc] rfl rfl (new_cells _ _ _ _ rfl) hone ?c2 ?c3 p _ hxb ?c4 ?c5 ?_))
      case c2 => unfold maxLen; omega
      case c3 => omega
      case c4 => exact fun b hb => ⟨by omega, by simp; omega⟩
      case c5 => exact fun g hg hb => by have := hown g hg; omega
      intro al' c' w6 hG6 hsz6
      rw [← HTS.out] at hG6
      have HG6 := Lib.hid hG6
      clear HGB hxb hk5 hG6
      go_wp2_with fail
      exact ⟨⟨k + 1, A1, nk - en, ck - en, by omega, rfl, by rw [HRR.out]; exact HDR.out, HG6.out⟩, by simp; omega⟩
    · obtain rfl : m = k := by omega
      have hmn := HM.out
      rw [List.take_of_length_le (by rw [List.length_map]; omega)] at hG
      rw [List.drop_eq_nil_of_le (by omega)] at hS
      have hn0 : nk = 0 := by have := hS.len; simpa [bytesV] using this.symm
      subst hn0
      obtain ⟨css, hRw⟩ := hG.toRows gmS
      have hl : (ls.map (·.2)).length = m := by rw [List.length_map, hmn]
      clear hS hG
      go_wp2_with fail
      refine bodyPost_ret (v := .tuple #[.slice al m c, .int .i64 0]) (by simp [results, Tryz.results36, go_sem]) rfl ⟨al, c, css, by rw [hl]; rfl, hK, by rw [hl]; exact hRw⟩
end Go.Proofs.YtbakhldjfplbfaaGreat
set_option linter.unusedVariables false
set_option linter.unusedSimpArgs false
namespace Go.Proofs.YtbakhldjfplbfaaGreat
open Go.RowKit Go.Fl Go.Sl Go.Pg Go.Ch Go.Kf Go.By
set_option maxRecDepth 100000 in
set_option maxHeartbeats 2000000 in
theorem sameNums_ (xs : List Nat) (a b : Option Addr) (n ca cb : Nat) (w : World) (hn : xs.length = n) (hA : Sz w a n ca 1 (encN xs)) (hB : Sz w b n cb 1 (encN xs)) :
    Calls Tryz.prog 137 #[.slice a n ca, .slice b n cb] w (One w (.bool true)) := by
  have hle := hA.le
  have hmx := hA.max
  unfold maxLen at hmx
  go_enter Tryz.func137, Tryz.ntmps137
  go_wp2
  go_loopw [14] (fun i wr => ∃ k : Nat, k ≤ n ∧ i = .int .i64 k ∧ Stab.Keeps w wr) (fun i _ => n - (intOf i).toNat)
  case atStart => exact ⟨0, Nat.zero_le _, rfl, by with_reducible (repeat first | exact Kx.r _ | assumption | refine Kx.a ?_ _ | refine Kx.d ?_ | refine Kx.e ?_ _ | refine Kx.s (by simp <;> omega) ?_ _ | refine Kx.t ?_ (by assumption))⟩
  case round =>
    obtain ⟨k, hk, rfl, hK⟩ := hrel
    by_cases hlt : k < n
    · obtain ⟨ba, oa, ha, hba, hca⟩ := (hA.keep hK).elem hlt
      obtain ⟨bb, ob, hb, hbb, hcb⟩ := (hB.keep hK).elem hlt
      subst ha
      subst hb
      have c0 : wr.cell? ⟨ba, oa + k, none⟩ = some (.float .f64 xs[k]) := by have := hca 0 _ (by omega) (encN_get xs k (by omega)); simpa using this
      have c1 : wr.cell? ⟨bb, ob + k, none⟩ = some (.float .f64 xs[k]) := by have := hcb 0 _ (by omega) (encN_get xs k (by omega)); simpa using this
      have hbits := ext_bits xs[k]
      clear hca hcb
      generalize xs[k] = x at *
      go_upto_region 6 with (fail)
      refine Stab.keep_region (fun _ _ _ => True) (fun _ => false) (fun k => k == 1 || k == 6) Stab.pre_none (by kernel_rfl) (by kernel_rfl) fun hcx => ?_
      (with_reducible refine Stab.quiet ?_ ?_ ?_ ?_); rfl; rfl; rfl; intro K hK; go_big_quiet_op; refine hK _ ?_; clear hK K
      (with_reducible refine Stab.one ?_ ?_ ?_ ?_); rfl; rfl; rfl
      apply Exists.intro
      refine ⟨fun w1 hw1 => ?_, fun K hK => ?_⟩
      · go_simp
        exact ⟨Stab.Keeps.refl _, rfl⟩
      go_simp
      refine hK _ ?_
      clear hK K
      iterate 4 ((with_reducible refine Stab.quiet ?_ ?_ ?_ ?_); rfl; rfl; rfl; intro K hK; go_big_quiet_op; refine hK _ ?_; clear hK K)
      (with_reducible refine Stab.one ?_ ?_ ?_ ?_); rfl; rfl; rfl
      apply Exists.intro
      refine ⟨fun w1 hw1 => ?_, fun K hK => ?_⟩
      · go_simp
        exact ⟨Stab.Keeps.refl _, rfl⟩
      go_simp
      refine hK _ ?_
      clear hK K
      (with_reducible refine Stab.quiet ?_ ?_ ?_ ?_); rfl; rfl; rfl; intro K hK; go_big_quiet_op; refine hK _ ?_; clear hK K
      refine Stab.nil fun w6 hk6 _ => ?_
      have hK6 := Stab.Keeps.trans hK hk6
      clear hcx hk6 hK
      go_wp2_with fail
      exact ⟨⟨k + 1, by omega, by simp, hK6⟩, by simp [intOf]; omega⟩
    · have : k = n := by omega
      subst this
      go_wp2
      go_ret
      exact ⟨rfl, hK⟩
def SameOk (p : Pg) : Prop := ∀ (t u : GT) (w : World), t.At w → u.At w → t.Is p → u.Is p → Calls Tryz.prog 65 #[t.hd.val, u.hd.val] w (One w (.bool true))
set_option maxRecDepth 100000 in
set_option maxHeartbeats 2000000 in
theorem sameGeomsW_ (ks : List Pg) (ih : ∀ p ∈ ks, SameOk p) (kids kids' : List GT) (ka ka' : Option Addr) (kn kc kc' : Nat) (w : World) (hn : ks.length = kn) (akn : kids.length = kn) (bkn : kids'.length = kn) (a2 : Sz w ka kn kc 4 (kids.flatMap GT.cells)) (b2 : Sz w ka' kn kc' 4 (kids'.flatMap GT.cells))
    (a3 : ∀ t ∈ kids, t.At w) (b3 : ∀ t ∈ kids', t.At w) (i5 : ∀ i (h1 : i < kids.length) (h2 : i < ks.length), kids[i].Is ks[i]) (j5 : ∀ i (h1 : i < kids'.length) (h2 : i < ks.length), kids'[i].Is ks[i]) :
    Calls Tryz.prog 37 #[.slice ka kn kc, .slice ka' kn kc'] w (One w (.bool true)) := by
  have hle2 := a2.le
  have hm2 := a2.max
  unfold maxLen at hm2
  have hI := fun i (a : i < kids.length) (b : i < kids'.length) (w' : World) (hk : Stab.Keeps w w') => ih (ks[i]'(by omega)) (List.getElem_mem _) kids[i] kids'[i] w' ((a3 _ (List.getElem_mem _)).keep hk) ((b3 _ (List.getElem_mem _)).keep hk) (i5 i a (by omega)) (j5 i b (by omega))
  have HI := Lib.hid hI
  clear hI ih i5 j5 a3 b3
  go_enter Tryz.func37, Tryz.ntmps37
  go_wp2_with fail
  go_loopw [14] (fun i wr => ∃ j : Nat, j ≤ kn ∧ i = .int .i64 j ∧ Stab.Keeps w wr) (fun i _ => kn - (intOf i).toNat)
  case atStart => exact ⟨0, Nat.zero_le _, rfl, by with_reducible (repeat first | exact Kx.r _ | assumption | refine Kx.a ?_ _ | refine Kx.d ?_ | refine Kx.e ?_ _ | refine Kx.s (by simp <;> omega) ?_ _ | refine Kx.t ?_ (by assumption))⟩
  case round =>
    obtain ⟨j, hj, rfl, hK⟩ := hrel
    by_cases hlt : j < kn
    · obtain ⟨bx, ox, ha, hbx, hcx⟩ := (a2.keep hK).elem hlt
      obtain ⟨bz, oz, hb, hbz, hcz⟩ := (b2.keep hK).elem hlt
      subst ha
      subst hb
      have hki : j < kids.length := by omega
      have hkj : j < kids'.length := by omega
      obtain ⟨c0, c1, c2, c3⟩ := kid_cells (T := []) hki akn hcx
      obtain ⟨d0, d1, d2, d3⟩ := kid_cells (T := []) hkj bkn hcz
      have hI := fun w' => HI.out j hki hkj w'
      clear hcx hcz
      generalize kids[j] = x at *
      generalize kids'[j] = z at *
      obtain ⟨⟨xk, xd, xna, xnn, xnc, xka, xkn, xkc⟩, xnums, xkids⟩ := x
      obtain ⟨⟨zk, zd, zna, znn, znc, zka, zkn, zkc⟩, znums, zkids⟩ := z
      simp only [GT.hd, Gm.val] at c0 c1 c2 c3 d0 d1 d2 d3 hI
      go_upto_region 6 with (fail)
      have hkX : Stab.Keeps wr (wr.alloc (.cells #[.int .i64 xk, .int .i64 xd, .slice xna xnn xnc, .slice xka xkn xkc] 25)) := by with_reducible (repeat first | exact Kx.r _ | assumption | refine Kx.a ?_ _ | refine Kx.d ?_ | refine Kx.e ?_ _ | refine Kx.s (by simp <;> omega) ?_ _ | refine Kx.t ?_ (by assumption))
      have hBX : Blk (wr.alloc (.cells #[.int .i64 xk, .int .i64 xd, .slice xna xnn xnc, .slice xka xkn xkc] 25)) wr.heap.size 25 [.int .i64 xk, .int .i64 xd, .slice xna xnn xnc, .slice xka xkn xkc] := by with_reducible (repeat first | assumption | (refine Bx.n ⟨?_, ?_⟩ <;> focus (first | rfl | (simp; done) | omega)) | refine Bx.a ?_ _ | refine Bx.d ?_ | refine Bx.e ?_ _ | refine Bx.p (by first | omega | simp <;> omega) ?_)
      have hzc := Stab.own_cell hkX bz hbz
      generalize (wr.alloc (.cells #[.int .i64 xk, .int .i64 xd, .slice xna xnn xnc, .slice xka xkn xkc] 25)) = W1 at *
      have f0 : W1.cell? ⟨bz, oz + j * 4, none⟩ = some (.int .i64 zk) := by rw [hzc.1]; exact d0
      have f1 : W1.cell? ⟨bz, oz + j * 4 + 1, none⟩ = some (.int .i64 zd) := by rw [hzc.1]; exact d1
      have f2 : W1.cell? ⟨bz, oz + j * 4 + 2, none⟩ = some (.slice zna znn znc) := by rw [hzc.1]; exact d2
      have f3 : W1.cell? ⟨bz, oz + j * 4 + 3, none⟩ = some (.slice zka zkn zkc) := by rw [hzc.1]; exact d3
      have hK1 := Stab.Keeps.trans hK hkX
      have hbz1 : bz < W1.heap.size := by have := hkX.size; omega
      clear hzc c0 c1 c2 c3 d0 d1 d2 d3 hkX hK
      have t0 := hBX.cell (i := 0) rfl
      have t1 := hBX.cell (i := 1) rfl
      have t2 := hBX.cell (i := 2) rfl
      have t3 := hBX.cell (i := 3) rfl
      have tf := hBX.free
      have tl := hBX.lt
      refine Stab.keep_region (fun _ _ _ => True) (fun _ => false) (fun k => k == 5) Stab.pre_none (by kernel_rfl) (by kernel_rfl) fun hcx => ?_
      iterate 5 ((with_reducible refine Stab.quiet ?_ ?_ ?_ ?_); rfl; rfl; rfl; intro K hK; go_big_quiet_op; refine hK _ ?_; clear hK K)
      (with_reducible refine Stab.one ?_ ?_ ?_ ?_); rfl; rfl; rfl
      apply Exists.intro
      refine ⟨fun w1 hw1 => ?_, fun K hK => ?_⟩
      · go_simp
        (go_at_call 65; exact hI _ (by with_reducible (repeat first | exact Kx.r _ | assumption | refine Kx.a ?_ _ | refine Kx.d ?_ | refine Kx.e ?_ _ | refine Kx.s (by simp <;> omega) ?_ _ | refine Kx.t ?_ (by assumption))))
      go_simp
      refine hK _ ?_
      clear hK K
      (with_reducible refine Stab.quiet ?_ ?_ ?_ ?_); rfl; rfl; rfl; intro K hK; go_big_quiet_op; refine hK _ ?_; clear hK K
      refine Stab.nil fun w6 hk6 _ => ?_
      have hK6 := Stab.Keeps.trans hK1 hk6
      clear hcx hk6 hBX f0 f1 f2 f3 t0 t1 t2 t3 tf tl
      go_wp2_with fail
      exact ⟨⟨j + 1, by omega, by simp, hK6⟩, by simp [intOf]; omega⟩
    · obtain rfl : j = kn := by omega
      go_wp2
      go_ret
      exact ⟨rfl, hK⟩
set_option maxRecDepth 100000 in
set_option maxHeartbeats 2000000 in
theorem same_ : ∀ p, SameOk p := Pg.ind fun k d ps ks ih t u w hA hB hI hJ => by
  cases hI with
  | mk h nums kids _ _ _ _ i1 i2 i3 i4 i5 =>
  cases hJ with
  | mk h' nums' kids' _ _ _ _ j1 j2 j3 j4 j5 =>
  subst i3
  subst j3
  cases hA with
  | mk _ _ _ an akn a1 a2 a3 =>
  cases hB with
  | mk _ _ _ bn bkn b1 b2 b3 =>
  obtain ⟨kind, dim, na, nn, nc, ka, kn, kc⟩ := h
  obtain ⟨kind', dim', na', nn', nc', ka', kn', kc'⟩ := h'
  simp only at i1 i2 j1 j2 an akn a1 a2 bn bkn b1 b2
  subst i1 i2 j1 j2
  obtain rfl : nn' = nn := by omega
  obtain rfl : kn' = kn := by omega
  have hE := fun w' (hk : Stab.Keeps w w') => sameNums_ (numsOf d ps) na na' nn' nc nc' w' an (a1.keep hk) (b1.keep hk)
  have hG := fun w' (hk : Stab.Keeps w w') => sameGeomsW_ ks ih kids kids' ka ka' kn' kc kc' w' (by omega) akn bkn (a2.keep hk) (b2.keep hk) (fun t ht => (a3 t ht).keep hk) (fun t ht => (b3 t ht).keep hk) i5 j5
  have HG := Lib.hid hG
  have HE := Lib.hid hE
  clear hG hE ih i5 j5 a3 b3 a1 b1 an bn akn bkn
  simp only [GT.hd, Gm.val]
  have hkA : Stab.Keeps w ((w.alloc (.cells #[.int .i64 k, .int .i64 d, .slice na nn' nc, .slice ka kn' kc] 25)).alloc (.cells #[.int .i64 k, .int .i64 d, .slice na' nn' nc', .slice ka' kn' kc'] 25)) := by with_reducible (repeat first | exact Kx.r _ | assumption | refine Kx.a ?_ _ | refine Kx.d ?_ | refine Kx.e ?_ _ | refine Kx.s (by simp <;> omega) ?_ _ | refine Kx.t ?_ (by assumption))
  have hB0 : Blk ((w.alloc (.cells #[.int .i64 k, .int .i64 d, .slice na nn' nc, .slice ka kn' kc] 25)).alloc (.cells #[.int .i64 k, .int .i64 d, .slice na' nn' nc', .slice ka' kn' kc'] 25)) w.heap.size 25 [.int .i64 k, .int .i64 d, .slice na nn' nc, .slice ka kn' kc] := by with_reducible (repeat first | assumption | (refine Bx.n ⟨?_, ?_⟩ <;> focus (first | rfl | (simp; done) | omega)) | refine Bx.a ?_ _ | refine Bx.d ?_ | refine Bx.e ?_ _ | refine Bx.p (by first | omega | simp <;> omega) ?_)
  have hB1 : Blk ((w.alloc (.cells #[.int .i64 k, .int .i64 d, .slice na nn' nc, .slice ka kn' kc] 25)).alloc (.cells #[.int .i64 k, .int .i64 d, .slice na' nn' nc', .slice ka' kn' kc'] 25)) (w.heap.size + 1) 25 [.int .i64 k, .int .i64 d, .slice na' nn' nc', .slice ka' kn' kc'] := by with_reducible (repeat first | assumption | (refine Bx.n ⟨?_, ?_⟩ <;> focus (first | rfl | (simp; done) | omega)) | refine Bx.a ?_ _ | refine Bx.d ?_ | refine Bx.e ?_ _ | refine Bx.p (by first | omega | simp <;> omega) ?_)
  go_enter Tryz.func65, Tryz.ntmps65
  go_upto_region 1 with (fail)
  generalize ((w.alloc (.cells #[.int .i64 k, .int .i64 d, .slice na nn' nc, .slice ka kn' kc] 25)).alloc (.cells #[.int .i64 k, .int .i64 d, .slice na' nn' nc', .slice ka' kn' kc'] 25)) = w1 at *
  have t0 := hB0.cell (i := 0) rfl
  have t1 := hB0.cell (i := 1) rfl
  have t2 := hB0.cell (i := 2) rfl
  have t3 := hB0.cell (i := 3) rfl
  have tf := hB0.free
  have tl := hB0.lt
  have y0 := hB1.cell (i := 0) rfl
  have y1 := hB1.cell (i := 1) rfl
  have y2 := hB1.cell (i := 2) rfl
  have y3 := hB1.cell (i := 3) rfl
  have yf := hB1.free
  have yl := hB1.lt
  go_wp2_with fail
  refine (HE.out _ hkA).mono ?_
  rintro e w2 ⟨rfl, hk2⟩
  have hB02 := hB0.keep hk2
  have hB12 := hB1.keep hk2
  have hkw := Stab.Keeps.trans hkA hk2
  clear hB0 hB1 t0 t1 t2 t3 tf tl y0 y1 y2 y3 yf yl hkA hk2
  have t0 := hB02.cell (i := 0) rfl
  have t1 := hB02.cell (i := 1) rfl
  have t2 := hB02.cell (i := 2) rfl
  have t3 := hB02.cell (i := 3) rfl
  have tf := hB02.free
  have tl := hB02.lt
  have y0 := hB12.cell (i := 0) rfl
  have y1 := hB12.cell (i := 1) rfl
  have y2 := hB12.cell (i := 2) rfl
  have y3 := hB12.cell (i := 3) rfl
  have yf := hB12.free
  have yl := hB12.lt
  go_wp2_with fail
  refine (HG.out _ hkw).mono ?_
  rintro e w3 ⟨rfl, hk3⟩
  go_wp2_with fail
  go_ret
  exact ⟨rfl, Stab.Keeps.trans hkw hk3⟩
/-- two slices of the same plain data -/
theorem sameRows_ {F G : Nat → Prop} (a b : Option Addr) (n ca cb : Nat) (css css' : List (List Value)) (ps : List Pg) (w : World) (hA : Go.Kf.Rows w F GmR a n ca 4 css ps) (hB : Go.Kf.Rows w G GmR b n cb 4 css' ps) :
    Calls Tryz.prog 37 #[.slice a n ca, .slice b n cb] w (One w (.bool true)) := by
  have hT : ∀ {H : Nat → Prop} {x : Option Addr} {c : Nat} {cs : List (List Value)}, Go.Kf.Rows w H GmR x n c 4 cs ps → ∃ q : List GT, q.length = n ∧ Sz w x n c 4 (q.flatMap GT.cells) ∧ (∀ t ∈ q, t.At w) ∧ ∀ i (h1 : i < q.length) (h2 : i < ps.length), q[i].Is ps[i] := by
    intro H x c cs hR
    obtain ⟨q, hq1, hq2⟩ := choose_list (p := fun (i : Nat) (t : GT) => ∀ (h1 : i < cs.length) (h2 : i < ps.length), cs[i] = t.cells ∧ t.At w ∧ t.Is ps[i]) (List.range n) (fun i hi => by
      have hi' : i < n := by simpa using hi
      obtain ⟨t, ht⟩ := (hR.is i (by rw [hR.lc]; exact hi') (by rw [hR.lx]; exact hi')).gt
      exact ⟨t, fun _ _ => ht⟩)
    simp at hq1
    have hlc := hR.lc
    have hlx := hR.lx
    have hq3 : ∀ i (h : i < q.length) (h1 : i < cs.length) (h2 : i < ps.length), cs[i] = q[i].cells ∧ q[i].At w ∧ q[i].Is ps[i] := fun i h h1 h2 => by
      have := hq2 i (by simp; omega) h
      simp only [List.getElem_range] at this
      exact this h1 h2
    have hfl : cs.flatten = q.flatMap GT.cells := by
      have : cs = q.map GT.cells := List.ext_getElem (by simp; omega) fun i h1 h2 => by rw [List.getElem_map]; exact (hq3 i (by simpa using h2) h1 (by omega)).1
      rw [this, List.flatMap_def]
    refine ⟨q, hq1, by rw [← hfl]; exact hR.sz.sz, fun t ht => ?_, fun i h1 h2 => (hq3 i h1 (by omega) h2).2.2⟩
    obtain ⟨j, hj, rfl⟩ := List.getElem_of_mem ht
    exact (hq3 j hj (by omega) (by omega)).2.1
  obtain ⟨q, q1, q2, q3, q4⟩ := hT hA
  obtain ⟨z, z1, z2, z3, z4⟩ := hT hB
  exact sameGeomsW_ ps (fun p _ => same_ p) q z a b n ca cb w hA.lx q1 z1 q2 z2 q3 z3 q4 z4
end Go.Proofs.YtbakhldjfplbfaaGreat
set_option linter.unusedVariables false
set_option linter.unusedSimpArgs false
namespace Go.Proofs.YtbakhldjfplbfaaGreat
open Go.RowKit Go.Fl Go.Sl Go.Pg Go.Ch Go.Kf Go.By
theorem ringE_len (b b' : Bool) (l : List Pg) : (l.flatMap (ringE b)).length = (l.flatMap (ringE b')).length := by
  induction l with
  | nil => rfl
  | cons c l ih => rw [List.flatMap_cons, List.flatMap_cons, List.length_append, List.length_append, ih]; unfold ringE; rw [seqE_len, seqE_len]
/-- a form's length does not hang on the orders -/
theorem wkbO_len : ∀ p : Pg, ∀ o o' : List Bool, (wkbO o p).1.length = (wkbO o' p).1.length := Pg.indB fun k d ps kids ih o o' => by
  by_cases h1 : k = 1
  · subst h1
    rw [wkbO_one, wkbO_one]
    simp only [List.length_append, headE_len]
    unfold ptE
    rw [encN8_len, encN8_len]
  by_cases h2 : k = 2
  · subst h2
    rw [wkbO_two, wkbO_two]
    simp only [List.length_append, headE_len, seqE_len]
  rw [wkbO_many _ _ _ _ _ h1 h2, wkbO_many _ _ _ _ _ h1 h2]
  simp only [List.length_append, headE_len, encB_len]
  have hL : ∀ (l : List Pg), (∀ c ∈ l, ∀ o o' : List Bool, (wkbO o c).1.length = (wkbO o' c).1.length) → ∀ o o', (wkbOs o l).1.length = (wkbOs o' l).1.length := by
    intro l
    induction l with
    | nil => intro _ o o'; rw [wkbOs, wkbOs]
    | cons c l ihl =>
      intro hc o o'
      rw [wkbOs_cons, wkbOs_cons, List.length_append, List.length_append, hc c (by simp) o o', ihl (fun x hx => hc x (by simp [hx])) _ (wkbO o' c).2]
  unfold kidsO
  split
  · rw [ringE_len]
  · rw [hL kids ih _ o'.tail]
theorem wkbO_pos (p : Pg) (o : List Bool) : 0 < (wkbO o p).1.length := by
  obtain ⟨k, d, ps, kids⟩ := p
  by_cases h1 : k = 1
  · subst h1; rw [wkbO_one]; simp only [List.length_append, headE_len]; omega
  by_cases h2 : k = 2
  · subst h2; rw [wkbO_two]; simp only [List.length_append, headE_len]; omega
  rw [wkbO_many _ _ _ _ _ h1 h2]
  simp only [List.length_append, headE_len]; omega
/-- the geometries with the orders that each is written with -/
def itemsO (l : List Bool) (on : Nat) (ps : List Pg) : List (List Bool × Pg) := ps.mapIdx fun i p => (l.drop (i * on / 10), p)
theorem itemsO_len (l : List Bool) (on : Nat) (ps : List Pg) : (itemsO l on ps).length = ps.length := by simp [itemsO]
theorem itemsO_snd (l : List Bool) (on : Nat) (ps : List Pg) : (itemsO l on ps).map (·.2) = ps := by
  refine List.ext_getElem (by simp [itemsO]) fun i h1 h2 => ?_
  simp [itemsO]
theorem itemsO_get (l : List Bool) (on : Nat) (ps : List Pg) (i : Nat) (h : i < (itemsO l on ps).length) : (itemsO l on ps)[i] = (l.drop (i * on / 10), ps[i]'(by simpa [itemsO] using h)) := by simp [itemsO]
theorem itemsO_mem {l : List Bool} {on : Nat} {ps : List Pg} {x : List Bool × Pg} (h : x ∈ itemsO l on ps) : x.2 ∈ ps := by
  rw [← itemsO_snd l on ps]
  exact List.mem_map_of_mem h
theorem items_le {l : List (List Bool × Pg)} (h : ∀ x ∈ l, (encO x).length ≤ 24000) : (l.flatMap encO).length ≤ 24000 * l.length := by
  induction l with
  | nil => simp
  | cons t l ih =>
    have h1 := h t (by simp)
    have h2 := ih (fun x hx => h x (by simp [hx]))
    simp only [List.flatMap_cons, List.length_append, List.length_cons]
    omega
/-- bytes handed back, their number named -/
def FormPost (w : World) (lw : Nat) (E : List Nat) (e : Ending) (w' : World) : Prop := ∃ al cap, e = .returned (.slice al lw cap) ∧ Stab.Keeps w w' ∧ Sz w' al lw cap 1 (bytesV E)
theorem FormPost.of {w : World} {E : List Nat} {lw : Nat} (hl : E.length = lw) {e : Ending} {w' : World} (h : BytesPost w E e w') : FormPost w lw E e w' := by
  obtain ⟨al, cap, rfl, hk, hown⟩ := h
  obtain ⟨_, _, he, hs, _, _⟩ := of_owns hown
  cases he
  subst hl
  exact ⟨al, cap, rfl, hk, hs.toSz⟩
def ReadN (w : World) (n : Nat) (ps : List Pg) (e : Ending) (w' : World) : Prop := ∃ al c css, e = .returned (.tuple #[.slice al n c, .int .i64 0]) ∧ Stab.Keeps w w' ∧ Go.Kf.Rows w' (fun b => w.heap.size ≤ b) GmR al n c 4 css ps
theorem ReadN.of {w : World} {ps : List Pg} {n : Nat} (hl : ps.length = n) {e : Ending} {w' : World} (h : ReadPost w 0 ps e w') : ReadN w n ps e w' := by
  obtain ⟨al, c, css, rfl, hk, hR⟩ := h
  subst hl
  exact ⟨al, c, css, rfl, hk, hR⟩
def MadeN (w : World) (n : Nat) (ps : List Pg) (e : Ending) (w' : World) : Prop := ∃ al c css, e = .returned (.slice al n c) ∧ Stab.Keeps w w' ∧ Go.Kf.Rows w' (fun b => w.heap.size ≤ b) GmR al n c 4 css ps
theorem MadeN.of {w : World} {ps : List Pg} {n : Nat} (hl : ps.length = n) {e : Ending} {w' : World} (h : MadePost w ps e w') : MadeN w n ps e w' := by
  obtain ⟨al, c, css, rfl, hk, hR⟩ := h
  subst hl
  exact ⟨al, c, css, rfl, hk, hR⟩
set_option maxRecDepth 100000 in
theorem bool_size (w : World) : (sizeOf 4).run Tryz.prog w = .ok 1 w := by rfl
def pg0 : Pg := .node 0 0 [] []
theorem pg0_made : PgMade pg0 := .wh 0 0 [] (by omega) (by omega) (by omega) (by omega) (by simp) (by simp) (by simp)
theorem pg0_B : PgB pg0 := .mk _ _ _ _ (by simp) (by simp)
theorem pg0_num : PgNum 1000 pg0 := .mk _ _ _ _ (by simp) (by simp) (by simp)
theorem pg0_real : PgReal pg0 := .mk _ _ _ _ (by simp) (by simp)
theorem pg0_at (w : World) : GmR w no [.int .i64 (0 : Nat), .int .i64 (0 : Nat), .slice none 0 0, .slice none 0 0] pg0 := .mk 0 0 [] [] none none 0 0 0 0 [] rfl (SzF.nil _ _ _) rfl rfl (by simp) (SzF.nil _ _ _) (fun i h1 => by simp at h1)
theorem pg0_len : (wkbO [] pg0).1.length = 9 := by rw [wkbO_nil pg0_made]; unfold pg0; rw [wkb_many 0 0 [] [] (by decide) (by decide) (by decide)]; rfl
set_option maxRecDepth 100000 in
set_option maxHeartbeats 8000000 in
theorem ordersLaw_ (a : Option Addr) (n cap : Nat) (ts : List GT) (oa : Option Addr) (on oc : Nat) (l : List Bool) (w : World) (hm : ts.length = n) (h : Sz w a n cap 4 (ts.flatMap GT.cells)) (hA : ∀ t ∈ ts, t.At w) (hR : ∀ t ∈ ts, t.Reach) (hBi : ∀ t ∈ ts, t.Bits) (hO : Sz w oa on oc 1 (boolsV l)) :
    Calls Tryz.prog 8 #[.slice a n cap, .slice oa on oc] w (LawPost w) := by
  have hKG := fun w' (hk : Stab.Keeps w w') => kGeoms_ a n cap ts w' hm (h.keep hk) (fun t ht => (hA t ht).keep hk) hR
  have hle := h.le
  have hmx := h.max
  have hleO := hO.le
  have hmxO := hO.max
  unfold maxLen at hmx hmxO
  by_cases c1 : (2147483647 : Int) < n
  · have d1 : decide ((2147483647 : Int) < (n : Int)) = true := by simpa using c1
    clear hKG h hO hA hR c1
    go_enter Tryz.func8, Tryz.ntmps8
    go_wp2_with fail
    go_ret
    exact ⟨rfl, by with_reducible (repeat first | exact Kx.r _ | assumption | refine Kx.a ?_ _ | refine Kx.d ?_ | refine Kx.e ?_ _ | refine Kx.s (by simp <;> omega) ?_ _ | refine Kx.t ?_ (by assumption))⟩
  have d1 : decide ((2147483647 : Int) < (n : Int)) = false := by simpa using c1
  by_cases c2 : (2147483647 : Int) < on
  · have d2 : decide ((2147483647 : Int) < (on : Int)) = true := by simpa using c2
    clear hKG h hO hA hR c1 c2
    go_enter Tryz.func8, Tryz.ntmps8
    go_wp2_with fail
    go_ret
    exact ⟨rfl, by with_reducible (repeat first | exact Kx.r _ | assumption | refine Kx.a ?_ _ | refine Kx.d ?_ | refine Kx.e ?_ _ | refine Kx.s (by simp <;> omega) ?_ _ | refine Kx.t ?_ (by assumption))⟩
  have d2 : decide ((2147483647 : Int) < (on : Int)) = false := by simpa using c2
  by_cases c3 : (4000 : Int) < on
  · have d3 : decide ((4000 : Int) < (on : Int)) = true := by simpa using c3
    clear hKG h hO hA hR c1 c2 c3
    go_enter Tryz.func8, Tryz.ntmps8
    go_wp2_with fail
    go_ret
    exact ⟨rfl, by with_reducible (repeat first | exact Kx.r _ | assumption | refine Kx.a ?_ _ | refine Kx.d ?_ | refine Kx.e ?_ _ | refine Kx.s (by simp <;> omega) ?_ _ | refine Kx.t ?_ (by assumption))⟩
  have d3 : decide ((4000 : Int) < (on : Int)) = false := by simpa using c3
  have hon : on ≤ 4000 := by omega
  clear c1 c2 c3
  go_enter Tryz.func8, Tryz.ntmps8
  go_wp2_with fail
  refine (hKG _ (by with_reducible (repeat first | exact Kx.r _ | assumption | refine Kx.a ?_ _ | refine Kx.d ?_ | refine Kx.e ?_ _ | refine Kx.s (by simp <;> omega) ?_ _ | refine Kx.t ?_ (by assumption)))).mono ?_
  clear hKG
  rintro e w2 ⟨⟨v, rfl, hv⟩, hk2⟩
  cases v with
  | false =>
    clear h hO hA hR
    go_wp2_with fail
    go_ret
    exact ⟨rfl, hk2⟩
  | true =>
    obtain ⟨hn10, hFew⟩ := hv rfl
    obtain ⟨PS, hPS⟩ : ∃ PS, ts.map newP = PS := ⟨_, rfl⟩
    have hpl : PS.length = n := by rw [← hPS, List.length_map]; exact hm
    have hMk := fun w' (hk : Stab.Keeps w w') => (kMade_ a n cap ts w' hm (h.keep hk) (fun t ht => (hA t ht).keep hk) (fun t ht => small_few (hFew t ht)) (by omega)).mono (fun e w'' h => show MadeN w' n PS e w'' by rw [hPS] at h; exact MadeN.of hpl h)
    have hPM : ∀ p ∈ PS, PgMade p ∧ PgB p ∧ PgNum 1000 p ∧ PgReal p ∧ (wkb p).length ≤ 24000 := by
      intro p hp
      rw [← hPS] at hp
      obtain ⟨t, ht, rfl⟩ := List.mem_map.1 hp
      exact ⟨newP_made t, newP_B t (hBi t ht), newP_num t (small_few (hFew t ht)), newP_real t (hFew t ht).2, len_few (hFew t ht)⟩
    have hcall := hMk _ hk2
    have HMK := Lib.hid hMk
    have HPM := Lib.hid hPM
    have HPL := Lib.hid hpl
    clear hMk hPM hPS hpl h hA hR hBi hv hFew hm d1 d2 d3 hle hmx
    go_wp2_with fail
    refine hcall.mono ?_
    clear hcall
    rintro e w4 ⟨alm, cm, cssm, rfl, hk4, hRm⟩
    have hkw4 := Stab.Keeps.trans hk2 hk4
    have hRm2 := hRm.mono (G := fun b => w2.heap.size ≤ b ∧ b < w4.heap.size) (fun b hb hf => ⟨hf, hb⟩) (fun _ _ hr => gmS.mono hr (fun b hb hf => ⟨hf, hb⟩))
    have hlem := hRm2.sz.sz.le
    have hmxm := hRm2.sz.sz.max
    unfold maxLen at hmxm
    clear hk2 hk4 hRm
    obtain ⟨i0, hi, hz0, hz1, hz2⟩ := info_parts infoU8
    have HI := Lib.hid hi
    have HZ := Lib.hid hz0
    have HZ1 := Lib.hid hz1
    have HZ2 := Lib.hid hz2
    obtain ⟨IT, hIT⟩ : ∃ IT, itemsO l on PS = IT := ⟨_, rfl⟩
    have HIT := Lib.hid hIT
    clear hi hz0 hz1 hz2 hIT
    go_wp2_with fail
    go_loopw [5, 31] (fun v iv wr => ∃ k : Nat, k ≤ n ∧ iv = .int .i64 k ∧ Stab.Keeps w wr ∧ w4.heap.size ≤ wr.heap.size ∧ wr.ownsRow w.heap.size 5 1 v ((IT.take k).flatMap encO).length (bytesV ((IT.take k).flatMap encO)) ∧ Go.Kf.Rows wr (fun b => w2.heap.size ≤ b ∧ b < w4.heap.size) GmR alm n cm 4 cssm PS ∧ ∀ g, v.ownBlock = some g → ¬ (w2.heap.size ≤ g ∧ g < w4.heap.size)) (fun _ iv _ => n - (intOf iv).toNat)
    case atStart => exact ⟨0, by omega, rfl, hkw4, Nat.le_refl _, by simpa [bytesV] using World.ownsRow_nil _ _ _ _, hRm2, fun g hg => by cases hg⟩
    case round =>
      clear hkw4 hRm2
      obtain ⟨k, hk, rfl, hK, hszr, hown, hRr, hap⟩ := hrel
      by_cases hlt : k < n
      · obtain ⟨b, off, c, ha, hbw, _, _, hclen, hcc, hx⟩ := hRr.elem hlt
        subst ha
        have hki : k < PS.length := by have := HPL.out; omega
        have hkI : k < IT.length := by rw [← HIT.out, itemsO_len]; exact hki
        obtain ⟨hM, hB, hN, _, hLk⟩ := HPM.out _ (List.getElem_mem hki)
        obtain ⟨q, hq⟩ : ∃ q, k * on / 10 = q := ⟨_, rfl⟩
        have hqle : q ≤ on := by
          have h1 : k * on ≤ 10 * on := Nat.mul_le_mul_right on (by omega)
          rw [← hq]; omega
        have hts := flat_take_succ encO IT k hkI
        have hxk : encO (IT[k]'hkI) = (wkbO (l.drop q) (PS[k]'hki)).1 := by
          have := HIT.out
          subst this
          rw [itemsO_get]
          subst hq
          rfl
        have hmul : (k : Int) * (on : Int) = ((k * on : Nat) : Int) := by rw [Int.natCast_mul]
        have hmb : k * on ≤ 40000 := by have := Nat.mul_le_mul (show k ≤ 10 by omega) hon; omega
        have hquo : ((k * on : Nat) : Int).tdiv 10 = (q : Int) := by rw [← hq, Int.tdiv_eq_ediv_of_nonneg (by omega)]; omega
        have hmin : ¬ (on : Int) < (q : Int) := by omega
        generalize k * on = kon at *
        rw [hxk] at hts
        have hlw0 : (wkbO (l.drop q) (PS[k]'hki)).1.length ≤ 24000 := by rw [wkbO_len _ _ [], wkbO_nil hM]; exact hLk
        have hpre0 : ((IT.take k).flatMap encO).length ≤ 24000 * 10 := by
          have h1 := items_le (l := IT.take k) (fun x hx => by
            have h2 := List.mem_of_mem_take hx
            rw [← HIT.out] at h2
            obtain ⟨hM', _, _, _, hL'⟩ := HPM.out _ (itemsO_mem h2)
            unfold encO
            rw [wkbO_len _ _ [], wkbO_nil hM']
            exact hL')
          have h2 : (IT.take k).length ≤ 10 := by rw [List.length_take]; omega
          omega
        have hWr := fun w' (oa' : Option Addr) (on' oc' : Nat) (hk : Stab.Keeps wr w') (hO' : Sz w' oa' on' oc' 1 (boolsV (l.drop q))) => (writeAs_ c PS[k] oa' on' oc' (l.drop q) w' (gmS.kf hx (KF.keeps hk)) hM hB hN hO' (by omega))
        generalize hpre : (IT.take k).flatMap encO = pre at *
        generalize hE : (wkbO (l.drop q) (PS[k]'hki)).1 = E at *
        obtain ⟨lw, hlw⟩ : ∃ lw, E.length = lw := ⟨_, rfl⟩
        have hdrop := hO.drop q hqle
        rw [show (boolsV l).drop (q * 1) = boolsV (l.drop q) by unfold boolsV; rw [Nat.mul_one, List.map_drop]] at hdrop
        obtain ⟨A1, hA1⟩ : ∃ A1 : Option Addr, (if oc = q then oa else oa.map (·.add (q * 1))) = A1 := ⟨_, rfl⟩
        rw [hA1] at hdrop
        have hsL : ∀ w, (Instr.slice 66 (.slice oa on oc) (some (.int .i64 q)) none none).run Tryz.prog w = .ok (.slice A1 (on - q) (oc - q)) w := fun w => by
          rw [run_from (P := Tryz.prog) w 66 4 oa on oc 1 q Tryz.underlying66 (bool_size w) hqle, hA1]
        have hW := fun w' (hk : Stab.Keeps wr w') => (hWr w' A1 (on - q) (oc - q) hk (hdrop.keep (Stab.Keeps.trans hK hk))).mono (fun e w'' h => FormPost.of hlw h)
        obtain ⟨xk, xd, xna, xnn, xnc, xka, xkn, xkc, rfl⟩ := hx.four
        have c0 : wr.cell? ⟨b, off + k * 4, none⟩ = some (.int .i64 xk) := hcc 0 _ rfl
        have c1 : wr.cell? ⟨b, off + k * 4 + 1, none⟩ = some (.int .i64 xd) := hcc 1 _ rfl
        have c2 : wr.cell? ⟨b, off + k * 4 + 2, none⟩ = some (.slice xna xnn xnc) := hcc 2 _ rfl
        have c3 : wr.cell? ⟨b, off + k * 4 + 3, none⟩ = some (.slice xka xkn xkc) := hcc 3 _ rfl
        have hkA : Stab.Keeps wr (wr.alloc (.cells #[.int .i64 xk, .int .i64 xd, .slice xna xnn xnc, .slice xka xkn xkc] 25)) := by with_reducible (repeat first | exact Kx.r _ | assumption | refine Kx.a ?_ _ | refine Kx.d ?_ | refine Kx.e ?_ _ | refine Kx.s (by simp <;> omega) ?_ _ | refine Kx.t ?_ (by assumption))
        have hBA : Blk (wr.alloc (.cells #[.int .i64 xk, .int .i64 xd, .slice xna xnn xnc, .slice xka xkn xkc] 25)) wr.heap.size 25 [.int .i64 xk, .int .i64 xd, .slice xna xnn xnc, .slice xka xkn xkc] := by with_reducible (repeat first | assumption | (refine Bx.n ⟨?_, ?_⟩ <;> focus (first | rfl | (simp; done) | omega)) | refine Bx.a ?_ _ | refine Bx.d ?_ | refine Bx.e ?_ _ | refine Bx.p (by first | omega | simp <;> omega) ?_)
        have HW := Lib.hid (fun w' (hk : Stab.Keeps (wr.alloc (.cells #[.int .i64 xk, .int .i64 xd, .slice xna xnn xnc, .slice xka xkn xkc] 25)) w') => hW w' (Stab.Keeps.trans hkA hk))
        have HRR := Lib.hid (hRr.kf (KF.keeps hkA) (fun _ _ hr => gmS.kf hr (KF.keeps hkA)))
        obtain ⟨al, cp, rfl, _, _, _⟩ := of_owns hown
        have HOWN := Lib.hid (owns_keep hown hkA)
        have hltr := fun g (hg : (Value.slice al pre.length cp).ownBlock = some g) => (hown.lt g hg)
        have hKA := Stab.Keeps.trans hK hkA
        have hsA : w4.heap.size ≤ (wr.alloc (.cells #[.int .i64 xk, .int .i64 xd, .slice xna xnn xnc, .slice xka xkn xkc] 25)).heap.size := Nat.le_trans hszr hkA.size
        obtain ⟨len, hlen⟩ : ∃ len, pre.length = len := ⟨_, rfl⟩
        rw [hlen] at HOWN hpre0 hltr hap ⊢
        rw [hlw] at hlw0
        have HPRE := Lib.hid hpre
        have HTS := Lib.hid hts
        have HLW := Lib.hid hlw
        have HLEN := Lib.hid hlen
        have HHL := Lib.hid hltr
        have HAP := Lib.hid hap
        have hdrp : q ≤ on := hqle
        clear hW hWr hcc hx hM hB hN hLk hdrop hA1 hown hRr hK hkA hszr hq hE hlen hlw hts hpre hxk hltr hap
        go_upto_region 9 with (fail)
        generalize (wr.alloc (.cells #[.int .i64 xk, .int .i64 xd, .slice xna xnn xnc, .slice xka xkn xkc] 25)) = wA at *
        generalize wr.heap.size = gA at *
        clear c0 c1 c2 c3
        have g0 := hBA.cell (i := 0) rfl
        have g1 := hBA.cell (i := 1) rfl
        have g2 := hBA.cell (i := 2) rfl
        have g3 := hBA.cell (i := 3) rfl
        have gf := hBA.free
        have gl := hBA.lt
        have hwk : IntKind.i64.wrap (kon : Int) = (kon : Int) := IntWalk.i64_in _ (by omega)
        have hwq : IntKind.i64.wrap (q : Int) = (q : Int) := IntWalk.i64_in _ (by omega)
        go_region_law (first
          | (go_simp; go_at_call 35; (refine (HW.out _ (by with_reducible (repeat first | exact Kx.r _ | assumption | refine Kx.a ?_ _ | refine Kx.d ?_ | refine Kx.e ?_ _ | refine Kx.s (by simp <;> omega) ?_ _ | refine Kx.t ?_ (by assumption)))).mono ?_); rintro e w5 ⟨al5, cp5, rfl, hk5, hsl5⟩; have hk5' : Stab.Keeps wA w5 := by with_reducible (repeat first | exact Kx.r _ | assumption | refine Kx.a ?_ _ | refine Kx.d ?_ | refine Kx.e ?_ _ | refine Kx.s (by simp <;> omega) ?_ _ | refine Kx.t ?_ (by assumption)))
          | (refine step_append_sz (by rfl) _ _ 54 (by rfl) w.heap.size 5 i0 _ 1 1 Tryz.underlying54 HI.out HZ.out HZ1.out HZ2.out (by rfl) (by decide) _ len (bytesV pre) (by rfl) (owns_keep HOWN.out hk5') _ _ _ _ (by rfl) hsl5 (bytesV_one _) (by unfold maxLen; omega) (by omega) (Nat.le_trans hKA.size hk5'.size) ?_; intro al6 cp6 w6 hown6 hgr6 hat6))
        all_goals (
          have hltr := HHL.out
          have hap := HAP.out
          have hK6 : Stab.Keeps w w6 := Below.grown (Stab.Keeps.trans hKA hk5') hgr6 (Nat.le_trans hKA.size hk5'.size) (fun g hg => (hltr g hg).1)
          have hR5 := HRR.out.kf (KF.keeps hk5') (fun _ _ hr => gmS.kf hr (KF.keeps hk5'))
          have hkf : KF (fun b => w2.heap.size ≤ b ∧ b < w4.heap.size) w5 w6 := (KF.refl _ _).grown hgr6 (fun g hg => hap g hg)
          have hR6 := hR5.kf hkf (fun _ _ hr => gmS.kf hr hkf)
          have hap6 : ∀ g, (Value.slice al6 (len + lw) cp6).ownBlock = some g → ¬ (w2.heap.size ≤ g ∧ g < w4.heap.size) := fun g hg hb => by
            rcases hat6 with h6 | h6
            · exact hap g (by rw [← h6]; exact hg) hb
            · rw [h6] at hg
              cases hg
              have := hk5'.size
              omega
          have hs6 : w4.heap.size ≤ w6.heap.size := Nat.le_trans hsA (Nat.le_trans hk5'.size hgr6.size)
          have e5 : pre ++ E = (IT.take (k + 1)).flatMap encO := by rw [HTS.out]
          rw [← bytesV_app, e5] at hown6
          have hl6 : len + lw = ((IT.take (k + 1)).flatMap encO).length := by rw [← e5, List.length_append, HLEN.out, HLW.out]
          have HL6 := Lib.hid hl6
          have HO6 := Lib.hid hown6
          clear HRR HOWN hk5' hgr6 hat6 hR5 hkf e5 hl6 hown6 hap hltr HTS HPRE HHL HAP HW g0 g1 g2 g3 gf gl hBA hsl5 hk5 hwk hwq hmul hquo hmin hsL
          go_wp2_with fail
          exact ⟨⟨k + 1, by omega, by go_num, hK6, hs6, by rw [← HL6.out]; exact HO6.out, hR6, hap6⟩, by simp [intOf]; omega⟩)
      · obtain rfl : n = k := by omega
        have hIL : IT.length = n := by rw [← HIT.out, itemsO_len]; exact HPL.out
        rw [List.take_of_length_le (by omega)] at hown
        have hsnd : IT.map (·.2) = PS := by rw [← HIT.out]; exact itemsO_snd _ _ _
        obtain ⟨al, cp, rfl, _, _, _⟩ := of_owns hown
        obtain ⟨_, _, he, hs, _, _⟩ := of_owns hown
        cases he
        have hread := (readMany_ al _ cp IT wr hs.toSz (fun x hx => by
          rw [← HIT.out] at hx
          obtain ⟨h1, h2, h3, h4, _⟩ := HPM.out _ (itemsO_mem hx)
          exact run_ok x.2 h1 h2 h4 h3) (fun x _ => wkbO_pos x.2 x.1) (by omega)).mono (fun e w'' h => show ReadN wr n PS e w'' by rw [hsnd] at h; exact ReadN.of HPL.out h)
        have hZ : ∀ w', Calls Tryz.prog 28 #[.agg #[.int .i64 0, .int .i64 0, .slice none 0 0, .slice none 0 0]] w' (FormPost w' 9 (wkbO [] pg0).1) := fun w' => (writeWKB_ _ pg0 w' (pg0_at w') pg0_made pg0_B pg0_num (by rw [pg0_len]; omega)).mono (fun e w'' h => FormPost.of pg0_len h)
        have HZZ := Lib.hid hZ
        generalize ((IT.flatMap encO).length) = len at *
        clear hs hown hRr hap hsnd hIL hZ
        go_wp2_with fail
        refine hread.mono ?_
        clear hread
        rintro e w7 ⟨al7, c7, css7, rfl, hk7, hR7⟩
        have hK7 := Stab.Keeps.trans hK hk7
        have hm7 := hR7.sz.sz.le
        have hx7 := hR7.sz.sz.max
        unfold maxLen at hx7
        clear hk7 hK
        go_wp2_with fail
        refine (HZZ.out _).mono ?_
        rintro e w8 ⟨al8, cp8, rfl, hk8, hs8⟩
        have hR8 := hR7.kf (KF.keeps hk8) (fun _ _ hr => gmS.kf hr (KF.keeps hk8))
        have hK8 := Stab.Keeps.trans hK7 hk8
        have hone := (readMany_ al8 9 cp8 [([], pg0)] w8 (by simpa [encO] using hs8) (fun x hx => by rw [List.mem_singleton.1 hx]; exact run_ok pg0 pg0_made pg0_B pg0_real pg0_num) (fun x _ => wkbO_pos x.2 x.1) (by simp)).mono (fun e w'' h => ReadN.of (n := 1) rfl h)
        clear hk8 hK7 hR7 HZZ hs8
        go_wp2_with fail
        refine hone.mono ?_
        clear hone
        rintro e w9 ⟨al9, c9, css9, rfl, hk9, _⟩
        have hR9 := hR8.kf (KF.keeps hk9) (fun _ _ hr => gmS.kf hr (KF.keeps hk9))
        have hK9 := Stab.Keeps.trans hK8 hk9
        have hmade := HMK.out _ hK9
        clear hR8 hK8 hk9
        go_wp2_with fail
        refine hmade.mono ?_
        clear hmade
        rintro e wa ⟨ala, ca, cssa, rfl, hka, hRa⟩
        have hRb := hR9.kf (KF.keeps hka) (fun _ _ hr => gmS.kf hr (KF.keeps hka))
        have hKa := Stab.Keeps.trans hK9 hka
        have hsame := sameRows_ al7 ala n c7 ca css7 cssa PS wa hRb hRa
        clear hR9 hK9 hka hRa hRb
        go_wp2_with fail
        refine hsame.mono ?_
        rintro e wb ⟨rfl, hkb⟩
        go_wp2_with fail
        go_ret
        exact ⟨rfl, Stab.Keeps.trans hKa hkb⟩
end Go.Proofs.YtbakhldjfplbfaaGreat
set_option linter.unusedVariables false
set_option linter.unusedSimpArgs false
namespace Go.Proofs.YtbakhldjfplbfaaGreat
open Go.ChangeShapes Go.WideShapes Go.ChangeAt Go.Op2 Go.RowKit Go.Sl Go.By
theorem cBoolB : Tryz.prog.cellsOf 4 = 1 := by kernel_rfl
set_option maxRecDepth 100000 in
theorem open_boolsV {H : Type} {enc : TypeId × Value → H} {W : World} {base b2 : Nat} {sp : Nat → Bool} {hd : Bool} {r : Reach} {v : Value} {d : DataW H} {p : List MemPlace}
    (o : Value.okWide Tryz.prog W r base 66 v) (h : DataW.Trod enc Tryz.prog W b2 sp hd 66 v d p) : ∃ a n cap, v = .slice a n cap ∧ ∃ l : List Bool, l.length = n ∧ Sz W a n cap 1 (boolsV l) := by
  obtain ⟨a, n, cap, rfl⟩ := okWide_slice Tryz.underlying66 o
  obtain ⟨fuel, hf⟩ := h
  obtain ⟨a', n', cap', h1, xs, hS, _, m, _, es, hle, hxe, hm⟩ := trod_rowsS (by decide) Tryz.underlying66 cBoolB hf
  simp [Value.cells] at h1
  obtain ⟨rfl, rfl, rfl⟩ := h1
  refine ⟨a, n, cap, rfl, ?_⟩
  obtain ⟨l, h1, h2⟩ := chunks (α := Bool) (fun b => [Value.bool b]) 1 (fun _ => rfl) n xs hS.len (fun i hi => by
    obtain ⟨y, _, hy⟩ := hm i hi
    obtain ⟨q, e0⟩ := trod_bool' Tryz.underlying4 hy
    exact ⟨q, e0⟩)
  have e : l.flatMap (fun b => [Value.bool b]) = boolsV l := by
    unfold boolsV
    clear h1 h2 hS
    induction l with
    | nil => rfl
    | cons x l ih => simp [List.flatMap_cons, ih]
  rw [h2, e] at hS
  exact ⟨l, h1, hS⟩
namespace fnManyOrders
set_option maxRecDepth 100000 in
theorem walkT {H : Type} (enc : TypeId × Value → H) (W : World) (base : Nat) {v0 v1 : Value} {d0 d1 : DataW H} {p0 p1 : List MemPlace}
    (o0 : Value.okWide Tryz.prog W .any base 23 v0) (o1 : Value.okWide Tryz.prog W .any base 66 v1)
    (h0 : DataW.Trod enc Tryz.prog W 0 (fun _ => true) true 23 v0 d0 p0) (l0 : Light Tryz.prog 23 d0) (h1 : DataW.Trod enc Tryz.prog W 0 (fun _ => true) true 66 v1 d1 p1) (l1 : Light Tryz.prog 66 d1) :
    Calls Tryz.prog 8 #[v0, v1] W (LawPost W) := by
  obtain ⟨a, n, cap, rfl, ts, hn, hS, hA, hR, hB⟩ := open_geomsB o0 h0 l0
  obtain ⟨oa, on, oc, rfl, l, hl, hs⟩ := open_boolsV o1 h1
  exact ordersLaw_ a n cap ts oa on oc l W hn hS hA hR hB hs
end fnManyOrders
end Go.Proofs.YtbakhldjfplbfaaGreat
