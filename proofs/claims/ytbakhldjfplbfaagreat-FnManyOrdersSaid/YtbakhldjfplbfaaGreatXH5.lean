/-
  Geometries taken as what they are; their types of coordinates. No condition.
-/
import Derived.Test.YtbakhldjfplbfaaGreatXH4
set_option linter.unusedVariables false
set_option linter.unusedSimpArgs false
namespace Go.Proofs.YtbakhldjfplbfaaGreat
open Go.RowKit Go.Fl Go.Sl Go.Pg Go.Ch Go.Kf
set_option maxRecDepth 100000 in
theorem check_ (k : Int) (T : TypeId) (b : Nat) (w : World) : Calls Tryz.prog 143 #[.agg #[.int .i64 k, .iface T (.pointer (some ⟨b, 0, none⟩))], .int .i64 k] w (One w (.tuple #[])) := by
  go_enter Tryz.func143, Tryz.ntmps143
  go_wp2
  refine bodyPost_ret (v := .tuple #[]) (by simp [results, Tryz.results143, go_sem]) rfl ⟨rfl, ?_⟩
  with_reducible (repeat first | exact Kx.r _ | assumption | refine Kx.a ?_ _ | refine Kx.d ?_ | refine Kx.e ?_ _ | refine Kx.s (by simp <;> omega) ?_ _ | refine Kx.t ?_ (by assumption))
theorem eqGc_ (b : Nat) (w : World) : (binOp .eql 20 (.iface 210 (.pointer (some ⟨b, 0, none⟩))) .nilIface).run Tryz.prog w = .ok (.bool false) w := by kernel_rfl
theorem eqGcG_ (b : Nat) (w : World) (x y : Operand) : (eqGuard .eql 20 x y (.iface 210 (.pointer (some ⟨b, 0, none⟩))) .nilIface).run Tryz.prog w = .ok () w := by kernel_rfl
theorem assPt_ (b : Nat) (w : World) : (Instr.typeAssert (.iface 204 (.pointer (some ⟨b, 0, none⟩))) 20 204 false).run Tryz.prog w = .ok (.pointer (some ⟨b, 0, none⟩)) w := by kernel_rfl
set_option maxRecDepth 100000 in
theorem mustPt_ (x y z m d : Nat) (f : Bool) (b : Nat) (w : World) (hB : Blk w b 141 [.float .f64 x, .float .f64 y, .float .f64 z, .float .f64 m, .int .u8 d, .bool f]) : Calls Tryz.prog 102 #[.agg #[.int .i64 1, .iface 204 (.pointer (some ⟨b, 0, none⟩))]] w (One w (.agg #[.float .f64 x, .float .f64 y, .float .f64 z, .float .f64 m, .int .u8 d, .bool f])) := by
  have hA := fun w' => assPt_ b w'
  have hC := fun w' => check_ 1 204 b w'
  have hlt := hB.lt
  go_enter Tryz.func102, Tryz.ntmps102
  go_wp2_with fail
  refine (hC _).mono ?_
  clear hC
  rintro e w2 ⟨rfl, hk2⟩
  have hG : Blk w2 w.heap.size 78 [.int .i64 1, .iface 204 (.pointer (some ⟨b, 0, none⟩))] := Blk.keep (by with_reducible (repeat first | assumption | (refine Bx.n ⟨?_, ?_⟩ <;> focus (first | rfl | (simp; done) | omega)) | refine Bx.a ?_ _ | refine Bx.d ?_ | refine Bx.e ?_ _ | refine Bx.p (by first | omega | simp <;> omega) ?_)) hk2
  have hR : Blk w2 (w.heap.size + 1) 141 [.float .f64 0, .float .f64 0, .float .f64 0, .float .f64 0, .int .u8 0, .bool false] := Blk.keep (by with_reducible (repeat first | assumption | (refine Bx.n ⟨?_, ?_⟩ <;> focus (first | rfl | (simp; done) | omega)) | refine Bx.a ?_ _ | refine Bx.d ?_ | refine Bx.e ?_ _ | refine Bx.p (by first | omega | simp <;> omega) ?_)) hk2
  have hB2 : Blk w2 b 141 [.float .f64 x, .float .f64 y, .float .f64 z, .float .f64 m, .int .u8 d, .bool f] := Blk.keep (by with_reducible (repeat first | assumption | (refine Bx.n ⟨?_, ?_⟩ <;> focus (first | rfl | (simp; done) | omega)) | refine Bx.a ?_ _ | refine Bx.d ?_ | refine Bx.e ?_ _ | refine Bx.p (by first | omega | simp <;> omega) ?_)) hk2
  have hkk : Stab.Keeps w w2 := by with_reducible (repeat first | exact Kx.r _ | assumption | refine Kx.a ?_ _ | refine Kx.d ?_ | refine Kx.e ?_ _ | refine Kx.s (by simp <;> omega) ?_ _ | refine Kx.t ?_ (by assumption))
  clear hB hk2 hlt
  have g0 := hG.cell (i := 0) rfl
  have g1 := hG.cell (i := 1) rfl
  have gf := hG.free
  have gl := hG.lt
  have r0 := hR.cell (i := 0) rfl
  have r1 := hR.cell (i := 1) rfl
  have r2 := hR.cell (i := 2) rfl
  have r3 := hR.cell (i := 3) rfl
  have r4 := hR.cell (i := 4) rfl
  have r5 := hR.cell (i := 5) rfl
  have rf := hR.free
  have rl := hR.lt
  have b0 := hB2.cell (i := 0) rfl
  have b1 := hB2.cell (i := 1) rfl
  have b2 := hB2.cell (i := 2) rfl
  have b3 := hB2.cell (i := 3) rfl
  have b4 := hB2.cell (i := 4) rfl
  have b5 := hB2.cell (i := 5) rfl
  have bf := hB2.free
  have bl := hB2.lt
  go_wp2_with fail
  refine bodyPost_ret (v := .agg #[.float .f64 x, .float .f64 y, .float .f64 z, .float .f64 m, .int .u8 d, .bool f]) (by simp [results, Tryz.results102, go_sem, *]) rfl ⟨rfl, ?_⟩
  with_reducible (repeat first | exact Kx.r _ | assumption | refine Kx.a ?_ _ | refine Kx.d ?_ | refine Kx.e ?_ _ | refine Kx.s (by simp <;> omega) ?_ _ | refine Kx.t ?_ (by assumption))
theorem assLs_ (b : Nat) (w : World) : (Instr.typeAssert (.iface 190 (.pointer (some ⟨b, 0, none⟩))) 20 190 false).run Tryz.prog w = .ok (.pointer (some ⟨b, 0, none⟩)) w := by kernel_rfl
set_option maxRecDepth 100000 in
theorem mustLs_ (a : Option Addr) (n c d : Nat) (b : Nat) (w : World) (hB : Blk w b 99 [.int .u8 d, .slice a n c]) : Calls Tryz.prog 68 #[.agg #[.int .i64 2, .iface 190 (.pointer (some ⟨b, 0, none⟩))]] w (One w (.agg #[.int .u8 d, .slice a n c])) := by
  have hA := fun w' => assLs_ b w'
  have hC := fun w' => check_ 2 190 b w'
  have hlt := hB.lt
  go_enter Tryz.func68, Tryz.ntmps68
  go_wp2_with fail
  refine (hC _).mono ?_
  clear hC
  rintro e w2 ⟨rfl, hk2⟩
  have hG : Blk w2 w.heap.size 78 [.int .i64 2, .iface 190 (.pointer (some ⟨b, 0, none⟩))] := Blk.keep (by with_reducible (repeat first | assumption | (refine Bx.n ⟨?_, ?_⟩ <;> focus (first | rfl | (simp; done) | omega)) | refine Bx.a ?_ _ | refine Bx.d ?_ | refine Bx.e ?_ _ | refine Bx.p (by first | omega | simp <;> omega) ?_)) hk2
  have hR : Blk w2 (w.heap.size + 1) 99 [.int .u8 0, .slice none 0 0] := Blk.keep (by with_reducible (repeat first | assumption | (refine Bx.n ⟨?_, ?_⟩ <;> focus (first | rfl | (simp; done) | omega)) | refine Bx.a ?_ _ | refine Bx.d ?_ | refine Bx.e ?_ _ | refine Bx.p (by first | omega | simp <;> omega) ?_)) hk2
  have hB2 : Blk w2 b 99 [.int .u8 d, .slice a n c] := Blk.keep (by with_reducible (repeat first | assumption | (refine Bx.n ⟨?_, ?_⟩ <;> focus (first | rfl | (simp; done) | omega)) | refine Bx.a ?_ _ | refine Bx.d ?_ | refine Bx.e ?_ _ | refine Bx.p (by first | omega | simp <;> omega) ?_)) hk2
  have hkk : Stab.Keeps w w2 := by with_reducible (repeat first | exact Kx.r _ | assumption | refine Kx.a ?_ _ | refine Kx.d ?_ | refine Kx.e ?_ _ | refine Kx.s (by simp <;> omega) ?_ _ | refine Kx.t ?_ (by assumption))
  clear hB hk2 hlt
  have g0 := hG.cell (i := 0) rfl
  have g1 := hG.cell (i := 1) rfl
  have gf := hG.free
  have gl := hG.lt
  have r0 := hR.cell (i := 0) rfl
  have r1 := hR.cell (i := 1) rfl
  have rf := hR.free
  have rl := hR.lt
  have b0 := hB2.cell (i := 0) rfl
  have b1 := hB2.cell (i := 1) rfl
  have bf := hB2.free
  have bl := hB2.lt
  go_wp2_with fail
  refine bodyPost_ret (v := .agg #[.int .u8 d, .slice a n c]) (by simp [results, Tryz.results68, go_sem, *]) rfl ⟨rfl, ?_⟩
  with_reducible (repeat first | exact Kx.r _ | assumption | refine Kx.a ?_ _ | refine Kx.d ?_ | refine Kx.e ?_ _ | refine Kx.s (by simp <;> omega) ?_ _ | refine Kx.t ?_ (by assumption))
theorem assPy_ (b : Nat) (w : World) : (Instr.typeAssert (.iface 191 (.pointer (some ⟨b, 0, none⟩))) 20 191 false).run Tryz.prog w = .ok (.pointer (some ⟨b, 0, none⟩)) w := by kernel_rfl
set_option maxRecDepth 100000 in
theorem mustPy_ (a : Option Addr) (n c d : Nat) (b : Nat) (w : World) (hB : Blk w b 121 [.slice a n c, .int .u8 d]) : Calls Tryz.prog 70 #[.agg #[.int .i64 3, .iface 191 (.pointer (some ⟨b, 0, none⟩))]] w (One w (.agg #[.slice a n c, .int .u8 d])) := by
  have hA := fun w' => assPy_ b w'
  have hC := fun w' => check_ 3 191 b w'
  have hlt := hB.lt
  go_enter Tryz.func70, Tryz.ntmps70
  go_wp2_with fail
  refine (hC _).mono ?_
  clear hC
  rintro e w2 ⟨rfl, hk2⟩
  have hG : Blk w2 w.heap.size 78 [.int .i64 3, .iface 191 (.pointer (some ⟨b, 0, none⟩))] := Blk.keep (by with_reducible (repeat first | assumption | (refine Bx.n ⟨?_, ?_⟩ <;> focus (first | rfl | (simp; done) | omega)) | refine Bx.a ?_ _ | refine Bx.d ?_ | refine Bx.e ?_ _ | refine Bx.p (by first | omega | simp <;> omega) ?_)) hk2
  have hR : Blk w2 (w.heap.size + 1) 121 [.slice none 0 0, .int .u8 0] := Blk.keep (by with_reducible (repeat first | assumption | (refine Bx.n ⟨?_, ?_⟩ <;> focus (first | rfl | (simp; done) | omega)) | refine Bx.a ?_ _ | refine Bx.d ?_ | refine Bx.e ?_ _ | refine Bx.p (by first | omega | simp <;> omega) ?_)) hk2
  have hB2 : Blk w2 b 121 [.slice a n c, .int .u8 d] := Blk.keep (by with_reducible (repeat first | assumption | (refine Bx.n ⟨?_, ?_⟩ <;> focus (first | rfl | (simp; done) | omega)) | refine Bx.a ?_ _ | refine Bx.d ?_ | refine Bx.e ?_ _ | refine Bx.p (by first | omega | simp <;> omega) ?_)) hk2
  have hkk : Stab.Keeps w w2 := by with_reducible (repeat first | exact Kx.r _ | assumption | refine Kx.a ?_ _ | refine Kx.d ?_ | refine Kx.e ?_ _ | refine Kx.s (by simp <;> omega) ?_ _ | refine Kx.t ?_ (by assumption))
  clear hB hk2 hlt
  have g0 := hG.cell (i := 0) rfl
  have g1 := hG.cell (i := 1) rfl
  have gf := hG.free
  have gl := hG.lt
  have r0 := hR.cell (i := 0) rfl
  have r1 := hR.cell (i := 1) rfl
  have rf := hR.free
  have rl := hR.lt
  have b0 := hB2.cell (i := 0) rfl
  have b1 := hB2.cell (i := 1) rfl
  have bf := hB2.free
  have bl := hB2.lt
  go_wp2_with fail
  refine bodyPost_ret (v := .agg #[.slice a n c, .int .u8 d]) (by simp [results, Tryz.results70, go_sem, *]) rfl ⟨rfl, ?_⟩
  with_reducible (repeat first | exact Kx.r _ | assumption | refine Kx.a ?_ _ | refine Kx.d ?_ | refine Kx.e ?_ _ | refine Kx.s (by simp <;> omega) ?_ _ | refine Kx.t ?_ (by assumption))
theorem assMp_ (b : Nat) (w : World) : (Instr.typeAssert (.iface 192 (.pointer (some ⟨b, 0, none⟩))) 20 192 false).run Tryz.prog w = .ok (.pointer (some ⟨b, 0, none⟩)) w := by kernel_rfl
set_option maxRecDepth 100000 in
theorem mustMp_ (a : Option Addr) (n c d : Nat) (b : Nat) (w : World) (hB : Blk w b 126 [.slice a n c, .int .u8 d]) : Calls Tryz.prog 72 #[.agg #[.int .i64 4, .iface 192 (.pointer (some ⟨b, 0, none⟩))]] w (One w (.agg #[.slice a n c, .int .u8 d])) := by
  have hA := fun w' => assMp_ b w'
  have hC := fun w' => check_ 4 192 b w'
  have hlt := hB.lt
  go_enter Tryz.func72, Tryz.ntmps72
  go_wp2_with fail
  refine (hC _).mono ?_
  clear hC
  rintro e w2 ⟨rfl, hk2⟩
  have hG : Blk w2 w.heap.size 78 [.int .i64 4, .iface 192 (.pointer (some ⟨b, 0, none⟩))] := Blk.keep (by with_reducible (repeat first | assumption | (refine Bx.n ⟨?_, ?_⟩ <;> focus (first | rfl | (simp; done) | omega)) | refine Bx.a ?_ _ | refine Bx.d ?_ | refine Bx.e ?_ _ | refine Bx.p (by first | omega | simp <;> omega) ?_)) hk2
  have hR : Blk w2 (w.heap.size + 1) 126 [.slice none 0 0, .int .u8 0] := Blk.keep (by with_reducible (repeat first | assumption | (refine Bx.n ⟨?_, ?_⟩ <;> focus (first | rfl | (simp; done) | omega)) | refine Bx.a ?_ _ | refine Bx.d ?_ | refine Bx.e ?_ _ | refine Bx.p (by first | omega | simp <;> omega) ?_)) hk2
  have hB2 : Blk w2 b 126 [.slice a n c, .int .u8 d] := Blk.keep (by with_reducible (repeat first | assumption | (refine Bx.n ⟨?_, ?_⟩ <;> focus (first | rfl | (simp; done) | omega)) | refine Bx.a ?_ _ | refine Bx.d ?_ | refine Bx.e ?_ _ | refine Bx.p (by first | omega | simp <;> omega) ?_)) hk2
  have hkk : Stab.Keeps w w2 := by with_reducible (repeat first | exact Kx.r _ | assumption | refine Kx.a ?_ _ | refine Kx.d ?_ | refine Kx.e ?_ _ | refine Kx.s (by simp <;> omega) ?_ _ | refine Kx.t ?_ (by assumption))
  clear hB hk2 hlt
  have g0 := hG.cell (i := 0) rfl
  have g1 := hG.cell (i := 1) rfl
  have gf := hG.free
  have gl := hG.lt
  have r0 := hR.cell (i := 0) rfl
  have r1 := hR.cell (i := 1) rfl
  have rf := hR.free
  have rl := hR.lt
  have b0 := hB2.cell (i := 0) rfl
  have b1 := hB2.cell (i := 1) rfl
  have bf := hB2.free
  have bl := hB2.lt
  go_wp2_with fail
  refine bodyPost_ret (v := .agg #[.slice a n c, .int .u8 d]) (by simp [results, Tryz.results72, go_sem, *]) rfl ⟨rfl, ?_⟩
  with_reducible (repeat first | exact Kx.r _ | assumption | refine Kx.a ?_ _ | refine Kx.d ?_ | refine Kx.e ?_ _ | refine Kx.s (by simp <;> omega) ?_ _ | refine Kx.t ?_ (by assumption))
theorem assMl_ (b : Nat) (w : World) : (Instr.typeAssert (.iface 197 (.pointer (some ⟨b, 0, none⟩))) 20 197 false).run Tryz.prog w = .ok (.pointer (some ⟨b, 0, none⟩)) w := by kernel_rfl
set_option maxRecDepth 100000 in
theorem mustMl_ (a : Option Addr) (n c d : Nat) (b : Nat) (w : World) (hB : Blk w b 129 [.slice a n c, .int .u8 d]) : Calls Tryz.prog 74 #[.agg #[.int .i64 5, .iface 197 (.pointer (some ⟨b, 0, none⟩))]] w (One w (.agg #[.slice a n c, .int .u8 d])) := by
  have hA := fun w' => assMl_ b w'
  have hC := fun w' => check_ 5 197 b w'
  have hlt := hB.lt
  go_enter Tryz.func74, Tryz.ntmps74
  go_wp2_with fail
  refine (hC _).mono ?_
  clear hC
  rintro e w2 ⟨rfl, hk2⟩
  have hG : Blk w2 w.heap.size 78 [.int .i64 5, .iface 197 (.pointer (some ⟨b, 0, none⟩))] := Blk.keep (by with_reducible (repeat first | assumption | (refine Bx.n ⟨?_, ?_⟩ <;> focus (first | rfl | (simp; done) | omega)) | refine Bx.a ?_ _ | refine Bx.d ?_ | refine Bx.e ?_ _ | refine Bx.p (by first | omega | simp <;> omega) ?_)) hk2
  have hR : Blk w2 (w.heap.size + 1) 129 [.slice none 0 0, .int .u8 0] := Blk.keep (by with_reducible (repeat first | assumption | (refine Bx.n ⟨?_, ?_⟩ <;> focus (first | rfl | (simp; done) | omega)) | refine Bx.a ?_ _ | refine Bx.d ?_ | refine Bx.e ?_ _ | refine Bx.p (by first | omega | simp <;> omega) ?_)) hk2
  have hB2 : Blk w2 b 129 [.slice a n c, .int .u8 d] := Blk.keep (by with_reducible (repeat first | assumption | (refine Bx.n ⟨?_, ?_⟩ <;> focus (first | rfl | (simp; done) | omega)) | refine Bx.a ?_ _ | refine Bx.d ?_ | refine Bx.e ?_ _ | refine Bx.p (by first | omega | simp <;> omega) ?_)) hk2
  have hkk : Stab.Keeps w w2 := by with_reducible (repeat first | exact Kx.r _ | assumption | refine Kx.a ?_ _ | refine Kx.d ?_ | refine Kx.e ?_ _ | refine Kx.s (by simp <;> omega) ?_ _ | refine Kx.t ?_ (by assumption))
  clear hB hk2 hlt
  have g0 := hG.cell (i := 0) rfl
  have g1 := hG.cell (i := 1) rfl
  have gf := hG.free
  have gl := hG.lt
  have r0 := hR.cell (i := 0) rfl
  have r1 := hR.cell (i := 1) rfl
  have rf := hR.free
  have rl := hR.lt
  have b0 := hB2.cell (i := 0) rfl
  have b1 := hB2.cell (i := 1) rfl
  have bf := hB2.free
  have bl := hB2.lt
  go_wp2_with fail
  refine bodyPost_ret (v := .agg #[.slice a n c, .int .u8 d]) (by simp [results, Tryz.results74, go_sem, *]) rfl ⟨rfl, ?_⟩
  with_reducible (repeat first | exact Kx.r _ | assumption | refine Kx.a ?_ _ | refine Kx.d ?_ | refine Kx.e ?_ _ | refine Kx.s (by simp <;> omega) ?_ _ | refine Kx.t ?_ (by assumption))
theorem assMy_ (b : Nat) (w : World) : (Instr.typeAssert (.iface 199 (.pointer (some ⟨b, 0, none⟩))) 20 199 false).run Tryz.prog w = .ok (.pointer (some ⟨b, 0, none⟩)) w := by kernel_rfl
set_option maxRecDepth 100000 in
theorem mustMy_ (a : Option Addr) (n c d : Nat) (b : Nat) (w : World) (hB : Blk w b 134 [.slice a n c, .int .u8 d]) : Calls Tryz.prog 76 #[.agg #[.int .i64 6, .iface 199 (.pointer (some ⟨b, 0, none⟩))]] w (One w (.agg #[.slice a n c, .int .u8 d])) := by
  have hA := fun w' => assMy_ b w'
  have hC := fun w' => check_ 6 199 b w'
  have hlt := hB.lt
  go_enter Tryz.func76, Tryz.ntmps76
  go_wp2_with fail
  refine (hC _).mono ?_
  clear hC
  rintro e w2 ⟨rfl, hk2⟩
  have hG : Blk w2 w.heap.size 78 [.int .i64 6, .iface 199 (.pointer (some ⟨b, 0, none⟩))] := Blk.keep (by with_reducible (repeat first | assumption | (refine Bx.n ⟨?_, ?_⟩ <;> focus (first | rfl | (simp; done) | omega)) | refine Bx.a ?_ _ | refine Bx.d ?_ | refine Bx.e ?_ _ | refine Bx.p (by first | omega | simp <;> omega) ?_)) hk2
  have hR : Blk w2 (w.heap.size + 1) 134 [.slice none 0 0, .int .u8 0] := Blk.keep (by with_reducible (repeat first | assumption | (refine Bx.n ⟨?_, ?_⟩ <;> focus (first | rfl | (simp; done) | omega)) | refine Bx.a ?_ _ | refine Bx.d ?_ | refine Bx.e ?_ _ | refine Bx.p (by first | omega | simp <;> omega) ?_)) hk2
  have hB2 : Blk w2 b 134 [.slice a n c, .int .u8 d] := Blk.keep (by with_reducible (repeat first | assumption | (refine Bx.n ⟨?_, ?_⟩ <;> focus (first | rfl | (simp; done) | omega)) | refine Bx.a ?_ _ | refine Bx.d ?_ | refine Bx.e ?_ _ | refine Bx.p (by first | omega | simp <;> omega) ?_)) hk2
  have hkk : Stab.Keeps w w2 := by with_reducible (repeat first | exact Kx.r _ | assumption | refine Kx.a ?_ _ | refine Kx.d ?_ | refine Kx.e ?_ _ | refine Kx.s (by simp <;> omega) ?_ _ | refine Kx.t ?_ (by assumption))
  clear hB hk2 hlt
  have g0 := hG.cell (i := 0) rfl
  have g1 := hG.cell (i := 1) rfl
  have gf := hG.free
  have gl := hG.lt
  have r0 := hR.cell (i := 0) rfl
  have r1 := hR.cell (i := 1) rfl
  have rf := hR.free
  have rl := hR.lt
  have b0 := hB2.cell (i := 0) rfl
  have b1 := hB2.cell (i := 1) rfl
  have bf := hB2.free
  have bl := hB2.lt
  go_wp2_with fail
  refine bodyPost_ret (v := .agg #[.slice a n c, .int .u8 d]) (by simp [results, Tryz.results76, go_sem, *]) rfl ⟨rfl, ?_⟩
  with_reducible (repeat first | exact Kx.r _ | assumption | refine Kx.a ?_ _ | refine Kx.d ?_ | refine Kx.e ?_ _ | refine Kx.s (by simp <;> omega) ?_ _ | refine Kx.t ?_ (by assumption))
theorem assGc_ (b : Nat) (w : World) : (Instr.typeAssert (.iface 210 (.pointer (some ⟨b, 0, none⟩))) 20 210 false).run Tryz.prog w = .ok (.pointer (some ⟨b, 0, none⟩)) w := by kernel_rfl
set_option maxRecDepth 100000 in
theorem mustGc_ (a : Option Addr) (n c d : Nat) (b : Nat) (w : World) (hB : Blk w b 150 [.slice a n c, .int .u8 d]) : Calls Tryz.prog 109 #[.agg #[.int .i64 0, .iface 210 (.pointer (some ⟨b, 0, none⟩))]] w (One w (.agg #[.slice a n c, .int .u8 d])) := by
  have hA := fun w' => assGc_ b w'
  have hQ := fun w' => eqGc_ b w'
  have hQ2 := fun w' x y => eqGcG_ b w' x y
  have hC := fun w' => check_ 0 210 b w'
  have hlt := hB.lt
  go_enter Tryz.func109, Tryz.ntmps109
  go_wp2_with fail
  refine (hC _).mono ?_
  clear hC
  rintro e w2 ⟨rfl, hk2⟩
  have hG : Blk w2 w.heap.size 78 [.int .i64 0, .iface 210 (.pointer (some ⟨b, 0, none⟩))] := Blk.keep (by with_reducible (repeat first | assumption | (refine Bx.n ⟨?_, ?_⟩ <;> focus (first | rfl | (simp; done) | omega)) | refine Bx.a ?_ _ | refine Bx.d ?_ | refine Bx.e ?_ _ | refine Bx.p (by first | omega | simp <;> omega) ?_)) hk2
  have hR : Blk w2 (w.heap.size + 1) 150 [.slice none 0 0, .int .u8 0] := Blk.keep (by with_reducible (repeat first | assumption | (refine Bx.n ⟨?_, ?_⟩ <;> focus (first | rfl | (simp; done) | omega)) | refine Bx.a ?_ _ | refine Bx.d ?_ | refine Bx.e ?_ _ | refine Bx.p (by first | omega | simp <;> omega) ?_)) hk2
  have hB2 : Blk w2 b 150 [.slice a n c, .int .u8 d] := Blk.keep (by with_reducible (repeat first | assumption | (refine Bx.n ⟨?_, ?_⟩ <;> focus (first | rfl | (simp; done) | omega)) | refine Bx.a ?_ _ | refine Bx.d ?_ | refine Bx.e ?_ _ | refine Bx.p (by first | omega | simp <;> omega) ?_)) hk2
  have hkk : Stab.Keeps w w2 := by with_reducible (repeat first | exact Kx.r _ | assumption | refine Kx.a ?_ _ | refine Kx.d ?_ | refine Kx.e ?_ _ | refine Kx.s (by simp <;> omega) ?_ _ | refine Kx.t ?_ (by assumption))
  clear hB hk2 hlt
  have g0 := hG.cell (i := 0) rfl
  have g1 := hG.cell (i := 1) rfl
  have gf := hG.free
  have gl := hG.lt
  have r0 := hR.cell (i := 0) rfl
  have r1 := hR.cell (i := 1) rfl
  have rf := hR.free
  have rl := hR.lt
  have b0 := hB2.cell (i := 0) rfl
  have b1 := hB2.cell (i := 1) rfl
  have bf := hB2.free
  have bl := hB2.lt
  go_wp2_with fail
  refine bodyPost_ret (v := .agg #[.slice a n c, .int .u8 d]) (by simp [results, Tryz.results109, go_sem, *]) rfl ⟨rfl, ?_⟩
  with_reducible (repeat first | exact Kx.r _ | assumption | refine Kx.a ?_ _ | refine Kx.d ?_ | refine Kx.e ?_ _ | refine Kx.s (by simp <;> omega) ?_ _ | refine Kx.t ?_ (by assumption))
set_option maxRecDepth 100000 in
theorem typeMp_ {F : Nat → Prop} (cs : List Value) (p : Pg) (w w0 : World) (h : MpR w0 F cs p) : Calls Tryz.prog 144 #[.agg cs.toArray] w (One w (.int .u8 p.dim)) := by
  obtain ⟨d, a, n, cap, css, kids, rfl, rfl, h⟩ := h
  show Calls _ _ _ _ (One w (.int .u8 d))
  go_enter Tryz.func144, Tryz.ntmps144
  go_wp2
  go_ret
  refine ⟨rfl, ?_⟩
  with_reducible (repeat first | exact Kx.r _ | assumption | refine Kx.a ?_ _ | refine Kx.d ?_ | refine Kx.e ?_ _ | refine Kx.s (by simp <;> omega) ?_ _ | refine Kx.t ?_ (by assumption))
set_option maxRecDepth 100000 in
theorem typeMl_ {F : Nat → Prop} (cs : List Value) (p : Pg) (w w0 : World) (h : MlR w0 F cs p) : Calls Tryz.prog 176 #[.agg cs.toArray] w (One w (.int .u8 p.dim)) := by
  obtain ⟨d, a, n, cap, css, kids, rfl, rfl, h⟩ := h
  show Calls _ _ _ _ (One w (.int .u8 d))
  go_enter Tryz.func176, Tryz.ntmps176
  go_wp2
  go_ret
  refine ⟨rfl, ?_⟩
  with_reducible (repeat first | exact Kx.r _ | assumption | refine Kx.a ?_ _ | refine Kx.d ?_ | refine Kx.e ?_ _ | refine Kx.s (by simp <;> omega) ?_ _ | refine Kx.t ?_ (by assumption))
set_option maxRecDepth 100000 in
theorem typeMy_ {F : Nat → Prop} (cs : List Value) (p : Pg) (w w0 : World) (h : MyR w0 F cs p) : Calls Tryz.prog 177 #[.agg cs.toArray] w (One w (.int .u8 p.dim)) := by
  obtain ⟨d, a, n, cap, css, kids, rfl, rfl, h⟩ := h
  show Calls _ _ _ _ (One w (.int .u8 d))
  go_enter Tryz.func177, Tryz.ntmps177
  go_wp2
  go_ret
  refine ⟨rfl, ?_⟩
  with_reducible (repeat first | exact Kx.r _ | assumption | refine Kx.a ?_ _ | refine Kx.d ?_ | refine Kx.e ?_ _ | refine Kx.s (by simp <;> omega) ?_ _ | refine Kx.t ?_ (by assumption))
set_option maxRecDepth 100000 in
theorem typeGc_ {F : Nat → Prop} (cs : List Value) (p : Pg) (w w0 : World) (h : GcR w0 F cs p) : Calls Tryz.prog 178 #[.agg cs.toArray] w (One w (.int .u8 p.dim)) := by
  obtain ⟨d, a, n, cap, css, kids, rfl, rfl, h⟩ := h
  show Calls _ _ _ _ (One w (.int .u8 d))
  go_enter Tryz.func178, Tryz.ntmps178
  go_wp2
  go_ret
  refine ⟨rfl, ?_⟩
  with_reducible (repeat first | exact Kx.r _ | assumption | refine Kx.a ?_ _ | refine Kx.d ?_ | refine Kx.e ?_ _ | refine Kx.s (by simp <;> omega) ?_ _ | refine Kx.t ?_ (by assumption))
set_option maxRecDepth 100000 in
set_option maxHeartbeats 2000000 in
theorem typeGeo_ {F : Nat → Prop} (cs : List Value) (p : Pg) (w w0 : World) (hk : Stab.Keeps w0 w) (h : GeoR w0 F cs p) : Calls Tryz.prog 168 #[.agg cs.toArray] w (One w (.int .u8 p.dim)) := by
  cases h with
  | pt b cs p hF hB h =>
    obtain ⟨x, y, z, m, d, f, rfl⟩ := h.six
    have hM := fun w' (hk' : Stab.Keeps w w') => mustPt_ x y z m d f b w' (Blk.keep (Blk.keep hB hk) hk')
    have hT := fun w' => typePt_ [.float .f64 x, .float .f64 y, .float .f64 z, .float .f64 m, .int .u8 d, .bool f] _ w' w0 h
    generalize Pg.dim _ = D at *
    clear hB h
    go_enter Tryz.func168, Tryz.ntmps168
    go_wp2_with fail
    refine (hM _ (by with_reducible (repeat first | exact Kx.r _ | assumption | refine Kx.a ?_ _ | refine Kx.d ?_ | refine Kx.e ?_ _ | refine Kx.s (by simp <;> omega) ?_ _ | refine Kx.t ?_ (by assumption)))).mono ?_
    clear hM
    rintro e w2 ⟨rfl, hk2⟩
    go_wp2_with fail
    refine (hT _).mono ?_
    clear hT
    rintro e w3 ⟨rfl, hk3⟩
    go_wp2_with fail
    go_ret
    refine ⟨rfl, ?_⟩
    with_reducible (repeat first | exact Kx.r _ | assumption | refine Kx.a ?_ _ | refine Kx.d ?_ | refine Kx.e ?_ _ | refine Kx.s (by simp <;> omega) ?_ _ | refine Kx.t ?_ (by assumption))
  | ls b cs p hF hB h =>
    obtain ⟨d, a, n, c, rfl⟩ := h.two
    have hM := fun w' (hk' : Stab.Keeps w w') => mustLs_ a n c d b w' (Blk.keep (Blk.keep hB hk) hk')
    have hT := fun w' => typeLs_ [.int .u8 d, .slice a n c] _ w' w0 h
    generalize Pg.dim _ = D at *
    clear hB h
    go_enter Tryz.func168, Tryz.ntmps168
    go_wp2_with fail
    refine (hM _ (by with_reducible (repeat first | exact Kx.r _ | assumption | refine Kx.a ?_ _ | refine Kx.d ?_ | refine Kx.e ?_ _ | refine Kx.s (by simp <;> omega) ?_ _ | refine Kx.t ?_ (by assumption)))).mono ?_
    clear hM
    rintro e w2 ⟨rfl, hk2⟩
    go_wp2_with fail
    refine (hT _).mono ?_
    clear hT
    rintro e w3 ⟨rfl, hk3⟩
    go_wp2_with fail
    go_ret
    refine ⟨rfl, ?_⟩
    with_reducible (repeat first | exact Kx.r _ | assumption | refine Kx.a ?_ _ | refine Kx.d ?_ | refine Kx.e ?_ _ | refine Kx.s (by simp <;> omega) ?_ _ | refine Kx.t ?_ (by assumption))
  | py b cs p hF hB h =>
    obtain ⟨a, n, c, d, rfl⟩ := h.two
    have hM := fun w' (hk' : Stab.Keeps w w') => mustPy_ a n c d b w' (Blk.keep (Blk.keep hB hk) hk')
    have hT := fun w' => typePy_ [.slice a n c, .int .u8 d] _ w' w0 h
    generalize Pg.dim _ = D at *
    clear hB h
    go_enter Tryz.func168, Tryz.ntmps168
    go_wp2_with fail
    refine (hM _ (by with_reducible (repeat first | exact Kx.r _ | assumption | refine Kx.a ?_ _ | refine Kx.d ?_ | refine Kx.e ?_ _ | refine Kx.s (by simp <;> omega) ?_ _ | refine Kx.t ?_ (by assumption)))).mono ?_
    clear hM
    rintro e w2 ⟨rfl, hk2⟩
    go_wp2_with fail
    refine (hT _).mono ?_
    clear hT
    rintro e w3 ⟨rfl, hk3⟩
    go_wp2_with fail
    go_ret
    refine ⟨rfl, ?_⟩
    with_reducible (repeat first | exact Kx.r _ | assumption | refine Kx.a ?_ _ | refine Kx.d ?_ | refine Kx.e ?_ _ | refine Kx.s (by simp <;> omega) ?_ _ | refine Kx.t ?_ (by assumption))
  | mp b cs p hF hB h =>
    obtain ⟨a, n, c, d, rfl⟩ := h.two
    have hM := fun w' (hk' : Stab.Keeps w w') => mustMp_ a n c d b w' (Blk.keep (Blk.keep hB hk) hk')
    have hT := fun w' => typeMp_ [.slice a n c, .int .u8 d] _ w' w0 h
    generalize Pg.dim _ = D at *
    clear hB h
    go_enter Tryz.func168, Tryz.ntmps168
    go_wp2_with fail
    refine (hM _ (by with_reducible (repeat first | exact Kx.r _ | assumption | refine Kx.a ?_ _ | refine Kx.d ?_ | refine Kx.e ?_ _ | refine Kx.s (by simp <;> omega) ?_ _ | refine Kx.t ?_ (by assumption)))).mono ?_
    clear hM
    rintro e w2 ⟨rfl, hk2⟩
    go_wp2_with fail
    refine (hT _).mono ?_
    clear hT
    rintro e w3 ⟨rfl, hk3⟩
    go_wp2_with fail
    go_ret
    refine ⟨rfl, ?_⟩
    with_reducible (repeat first | exact Kx.r _ | assumption | refine Kx.a ?_ _ | refine Kx.d ?_ | refine Kx.e ?_ _ | refine Kx.s (by simp <;> omega) ?_ _ | refine Kx.t ?_ (by assumption))
  | ml b cs p hF hB h =>
    obtain ⟨a, n, c, d, rfl⟩ := h.two
    have hM := fun w' (hk' : Stab.Keeps w w') => mustMl_ a n c d b w' (Blk.keep (Blk.keep hB hk) hk')
    have hT := fun w' => typeMl_ [.slice a n c, .int .u8 d] _ w' w0 h
    generalize Pg.dim _ = D at *
    clear hB h
    go_enter Tryz.func168, Tryz.ntmps168
    go_wp2_with fail
    refine (hM _ (by with_reducible (repeat first | exact Kx.r _ | assumption | refine Kx.a ?_ _ | refine Kx.d ?_ | refine Kx.e ?_ _ | refine Kx.s (by simp <;> omega) ?_ _ | refine Kx.t ?_ (by assumption)))).mono ?_
    clear hM
    rintro e w2 ⟨rfl, hk2⟩
    go_wp2_with fail
    refine (hT _).mono ?_
    clear hT
    rintro e w3 ⟨rfl, hk3⟩
    go_wp2_with fail
    go_ret
    refine ⟨rfl, ?_⟩
    with_reducible (repeat first | exact Kx.r _ | assumption | refine Kx.a ?_ _ | refine Kx.d ?_ | refine Kx.e ?_ _ | refine Kx.s (by simp <;> omega) ?_ _ | refine Kx.t ?_ (by assumption))
  | my b cs p hF hB h =>
    obtain ⟨a, n, c, d, rfl⟩ := h.two
    have hM := fun w' (hk' : Stab.Keeps w w') => mustMy_ a n c d b w' (Blk.keep (Blk.keep hB hk) hk')
    have hT := fun w' => typeMy_ [.slice a n c, .int .u8 d] _ w' w0 h
    generalize Pg.dim _ = D at *
    clear hB h
    go_enter Tryz.func168, Tryz.ntmps168
    go_wp2_with fail
    refine (hM _ (by with_reducible (repeat first | exact Kx.r _ | assumption | refine Kx.a ?_ _ | refine Kx.d ?_ | refine Kx.e ?_ _ | refine Kx.s (by simp <;> omega) ?_ _ | refine Kx.t ?_ (by assumption)))).mono ?_
    clear hM
    rintro e w2 ⟨rfl, hk2⟩
    go_wp2_with fail
    refine (hT _).mono ?_
    clear hT
    rintro e w3 ⟨rfl, hk3⟩
    go_wp2_with fail
    go_ret
    refine ⟨rfl, ?_⟩
    with_reducible (repeat first | exact Kx.r _ | assumption | refine Kx.a ?_ _ | refine Kx.d ?_ | refine Kx.e ?_ _ | refine Kx.s (by simp <;> omega) ?_ _ | refine Kx.t ?_ (by assumption))
  | gc b d a n cap css kids hF hB hd hn lc lx each sz is hdim =>
    have hM := fun w' (hk' : Stab.Keeps w w') => mustGc_ a n cap d b w' (Blk.keep (Blk.keep hB hk) hk')
    have hT := fun w' => typeGc_ (F := F) [.slice a n cap, .int .u8 (d : Nat)] (.node 0 d [] kids) w' w0 ⟨d, a, n, cap, css, kids, rfl, rfl, hd, hn, ⟨lc, lx, each, sz, is⟩, hdim⟩
    show Calls _ _ _ _ (One w (.int .u8 d))
    simp only [Pg.dim] at hT
    clear hB sz is hdim each
    go_enter Tryz.func168, Tryz.ntmps168
    go_wp2_with fail
    refine (hM _ (by with_reducible (repeat first | exact Kx.r _ | assumption | refine Kx.a ?_ _ | refine Kx.d ?_ | refine Kx.e ?_ _ | refine Kx.s (by simp <;> omega) ?_ _ | refine Kx.t ?_ (by assumption)))).mono ?_
    clear hM
    rintro e w2 ⟨rfl, hk2⟩
    go_wp2_with fail
    refine (hT _).mono ?_
    clear hT
    rintro e w3 ⟨rfl, hk3⟩
    go_wp2_with fail
    go_ret
    refine ⟨rfl, ?_⟩
    with_reducible (repeat first | exact Kx.r _ | assumption | refine Kx.a ?_ _ | refine Kx.d ?_ | refine Kx.e ?_ _ | refine Kx.s (by simp <;> omega) ?_ _ | refine Kx.t ?_ (by assumption))
end Go.Proofs.YtbakhldjfplbfaaGreat
