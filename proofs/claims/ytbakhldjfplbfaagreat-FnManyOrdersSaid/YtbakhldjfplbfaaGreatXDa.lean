/-
  Numbers read out of bytes. No condition.
  The reader of binary forms: its state, numbers taken. No condition.
  The reader of binary forms: a geometry's type. No condition.
  The reader of binary forms: a point. No condition.
  The reader of binary forms: bytes taken as floats. No condition.
  The reader of binary forms: the order of bytes turned about. No condition.
  The reader of binary forms: any number of bytes taken. No condition.
  The reader of binary forms: a line string. No condition.
-/
import Derived.Test.YtbakhldjfplbfaaGreatXBb
import Derived.Lib.EndianBits
import Derived.Deep.QuietTactic
import Derived.BigRegion
import Derived.Test.YtbakhldjfplbfaaGreatXAp
import Derived.Laws.CopyOwn
set_option linter.unusedVariables false
set_option linter.unusedSimpArgs false
namespace Go.Proofs.YtbakhldjfplbfaaGreat
open Go.RowKit Go.Fl Go.Sl Go.Pg Go.Ch Go.Kf Go.By
set_option maxRecDepth 100000 in
set_option maxHeartbeats 8000000 in
theorem rdL32_ (b off n cap x : Nat) (w : World) (hn : 4 ≤ n) (hx : x < 4294967296) (hc : ∀ j u, (bytesV (encB false 4 x))[j]? = some u → w.cell? ⟨b, off + j, none⟩ = some u) :
    Calls Tryz.prog 221 #[.agg #[], .slice (some ⟨b, off, none⟩) n cap] w (One w (.int .u32 x)) := by
  obtain ⟨b0, hb0⟩ : ∃ q, q = x % 256 := ⟨_, rfl⟩
  have c0 : w.cell? ⟨b, off, none⟩ = some (.int .u8 b0) := by rw [hb0]; exact hc 0 _ rfl
  have h0 : b0 < 256 := by omega
  obtain ⟨b1, hb1⟩ : ∃ q, q = x / 256 % 256 := ⟨_, rfl⟩
  have c1 : w.cell? ⟨b, off + 1, none⟩ = some (.int .u8 b1) := by rw [hb1]; exact hc 1 _ rfl
  have h1 : b1 < 256 := by omega
  obtain ⟨b2, hb2⟩ : ∃ q, q = x / 256 / 256 % 256 := ⟨_, rfl⟩
  have c2 : w.cell? ⟨b, off + 2, none⟩ = some (.int .u8 b2) := by rw [hb2]; exact hc 2 _ rfl
  have h2 : b2 < 256 := by omega
  obtain ⟨b3, hb3⟩ : ∃ q, q = x / 256 / 256 / 256 % 256 := ⟨_, rfl⟩
  have c3 : w.cell? ⟨b, off + 3, none⟩ = some (.int .u8 b3) := by rw [hb3]; exact hc 3 _ rfl
  have h3 : b3 < 256 := by omega
  have hv : (x : Int) = (b0 : Int) + (b1 : Int) * 256 + (b2 : Int) * 65536 + (b3 : Int) * 16777216 := by omega
  have hl := Stab.cell_lt (a := ⟨b, off, none⟩) c0
  simp only at hl
  have q0 : 0 < n := by omega
  have q1 : (1 : Int) < (n : Int) := by omega
  have q2 : (2 : Int) < (n : Int) := by omega
  have q3 : (3 : Int) < (n : Int) := by omega
  have HV := Lib.hid hv
  clear hv hc hx hb0 hb1 hb2 hb3
  go_enter Tryz.func221, Tryz.ntmps221
  go_wp2
  go_quiet (fail)
  go_wp2
  go_ret
  refine ⟨?_, by with_reducible (repeat first | exact Kx.r _ | assumption | refine Kx.a ?_ _ | refine Kx.d ?_ | refine Kx.e ?_ _ | refine Kx.s (by simp <;> omega) ?_ _ | refine Kx.t ?_ (by assumption))⟩
  rw [HV.out]
  simp (disch := omega) only [u32_wrap_id, u32_or8, u32_or16, u32_or24]
  try rfl
set_option maxRecDepth 100000 in
set_option maxHeartbeats 8000000 in
theorem rdL64_ (b off n cap x : Nat) (w : World) (hn : 8 ≤ n) (hx : x < 18446744073709551616) (hc : ∀ j u, (bytesV (encB false 8 x))[j]? = some u → w.cell? ⟨b, off + j, none⟩ = some u) :
    Calls Tryz.prog 228 #[.agg #[], .slice (some ⟨b, off, none⟩) n cap] w (One w (.int .u64 x)) := by
  obtain ⟨b0, hb0⟩ : ∃ q, q = x % 256 := ⟨_, rfl⟩
  have c0 : w.cell? ⟨b, off, none⟩ = some (.int .u8 b0) := by rw [hb0]; exact hc 0 _ rfl
  have h0 : b0 < 256 := by omega
  obtain ⟨b1, hb1⟩ : ∃ q, q = x / 256 % 256 := ⟨_, rfl⟩
  have c1 : w.cell? ⟨b, off + 1, none⟩ = some (.int .u8 b1) := by rw [hb1]; exact hc 1 _ rfl
  have h1 : b1 < 256 := by omega
  obtain ⟨b2, hb2⟩ : ∃ q, q = x / 256 / 256 % 256 := ⟨_, rfl⟩
  have c2 : w.cell? ⟨b, off + 2, none⟩ = some (.int .u8 b2) := by rw [hb2]; exact hc 2 _ rfl
  have h2 : b2 < 256 := by omega
  obtain ⟨b3, hb3⟩ : ∃ q, q = x / 256 / 256 / 256 % 256 := ⟨_, rfl⟩
  have c3 : w.cell? ⟨b, off + 3, none⟩ = some (.int .u8 b3) := by rw [hb3]; exact hc 3 _ rfl
  have h3 : b3 < 256 := by omega
  obtain ⟨b4, hb4⟩ : ∃ q, q = x / 256 / 256 / 256 / 256 % 256 := ⟨_, rfl⟩
  have c4 : w.cell? ⟨b, off + 4, none⟩ = some (.int .u8 b4) := by rw [hb4]; exact hc 4 _ rfl
  have h4 : b4 < 256 := by omega
  obtain ⟨b5, hb5⟩ : ∃ q, q = x / 256 / 256 / 256 / 256 / 256 % 256 := ⟨_, rfl⟩
  have c5 : w.cell? ⟨b, off + 5, none⟩ = some (.int .u8 b5) := by rw [hb5]; exact hc 5 _ rfl
  have h5 : b5 < 256 := by omega
  obtain ⟨b6, hb6⟩ : ∃ q, q = x / 256 / 256 / 256 / 256 / 256 / 256 % 256 := ⟨_, rfl⟩
  have c6 : w.cell? ⟨b, off + 6, none⟩ = some (.int .u8 b6) := by rw [hb6]; exact hc 6 _ rfl
  have h6 : b6 < 256 := by omega
  obtain ⟨b7, hb7⟩ : ∃ q, q = x / 256 / 256 / 256 / 256 / 256 / 256 / 256 % 256 := ⟨_, rfl⟩
  have c7 : w.cell? ⟨b, off + 7, none⟩ = some (.int .u8 b7) := by rw [hb7]; exact hc 7 _ rfl
  have h7 : b7 < 256 := by omega
  have hv : (x : Int) = (b0 : Int) + (b1 : Int) * 256 + (b2 : Int) * 65536 + (b3 : Int) * 16777216 + (b4 : Int) * 4294967296 + (b5 : Int) * 1099511627776 + (b6 : Int) * 281474976710656 + (b7 : Int) * 72057594037927936 := by omega
  have hl := Stab.cell_lt (a := ⟨b, off, none⟩) c0
  simp only at hl
  have q0 : 0 < n := by omega
  have q1 : (1 : Int) < (n : Int) := by omega
  have q2 : (2 : Int) < (n : Int) := by omega
  have q3 : (3 : Int) < (n : Int) := by omega
  have q4 : (4 : Int) < (n : Int) := by omega
  have q5 : (5 : Int) < (n : Int) := by omega
  have q6 : (6 : Int) < (n : Int) := by omega
  have q7 : (7 : Int) < (n : Int) := by omega
  have HV := Lib.hid hv
  clear hv hc hx hb0 hb1 hb2 hb3 hb4 hb5 hb6 hb7
  go_enter Tryz.func228, Tryz.ntmps228
  go_wp2
  go_quiet (fail)
  go_wp2
  go_ret
  refine ⟨?_, by with_reducible (repeat first | exact Kx.r _ | assumption | refine Kx.a ?_ _ | refine Kx.d ?_ | refine Kx.e ?_ _ | refine Kx.s (by simp <;> omega) ?_ _ | refine Kx.t ?_ (by assumption))⟩
  rw [HV.out]
  simp (disch := omega) only [u64_wrap_id, u64_or8, u64_or16, u64_or24, u64_or32, u64_or40, u64_or48, u64_or56]
  try rfl
set_option maxRecDepth 100000 in
set_option maxHeartbeats 8000000 in
theorem rdB32_ (b off n cap x : Nat) (w : World) (hn : 4 ≤ n) (hx : x < 4294967296) (hc : ∀ j u, (bytesV (encB true 4 x))[j]? = some u → w.cell? ⟨b, off + j, none⟩ = some u) :
    Calls Tryz.prog 220 #[.agg #[], .slice (some ⟨b, off, none⟩) n cap] w (One w (.int .u32 x)) := by
  obtain ⟨b0, hb0⟩ : ∃ q, q = x / 256 / 256 / 256 % 256 := ⟨_, rfl⟩
  have c0 : w.cell? ⟨b, off, none⟩ = some (.int .u8 b0) := by rw [hb0]; exact hc 0 _ rfl
  have h0 : b0 < 256 := by omega
  obtain ⟨b1, hb1⟩ : ∃ q, q = x / 256 / 256 % 256 := ⟨_, rfl⟩
  have c1 : w.cell? ⟨b, off + 1, none⟩ = some (.int .u8 b1) := by rw [hb1]; exact hc 1 _ rfl
  have h1 : b1 < 256 := by omega
  obtain ⟨b2, hb2⟩ : ∃ q, q = x / 256 % 256 := ⟨_, rfl⟩
  have c2 : w.cell? ⟨b, off + 2, none⟩ = some (.int .u8 b2) := by rw [hb2]; exact hc 2 _ rfl
  have h2 : b2 < 256 := by omega
  obtain ⟨b3, hb3⟩ : ∃ q, q = x % 256 := ⟨_, rfl⟩
  have c3 : w.cell? ⟨b, off + 3, none⟩ = some (.int .u8 b3) := by rw [hb3]; exact hc 3 _ rfl
  have h3 : b3 < 256 := by omega
  have hv : (x : Int) = (b3 : Int) + (b2 : Int) * 256 + (b1 : Int) * 65536 + (b0 : Int) * 16777216 := by omega
  have hl := Stab.cell_lt (a := ⟨b, off, none⟩) c0
  simp only at hl
  have q0 : 0 < n := by omega
  have q1 : (1 : Int) < (n : Int) := by omega
  have q2 : (2 : Int) < (n : Int) := by omega
  have q3 : (3 : Int) < (n : Int) := by omega
  have HV := Lib.hid hv
  clear hv hc hx hb0 hb1 hb2 hb3
  go_enter Tryz.func220, Tryz.ntmps220
  go_wp2
  go_quiet (fail)
  go_wp2
  go_ret
  refine ⟨?_, by with_reducible (repeat first | exact Kx.r _ | assumption | refine Kx.a ?_ _ | refine Kx.d ?_ | refine Kx.e ?_ _ | refine Kx.s (by simp <;> omega) ?_ _ | refine Kx.t ?_ (by assumption))⟩
  rw [HV.out]
  simp (disch := omega) only [u32_wrap_id, u32_or8, u32_or16, u32_or24]
  try rfl
set_option maxRecDepth 100000 in
set_option maxHeartbeats 8000000 in
theorem rdB64_ (b off n cap x : Nat) (w : World) (hn : 8 ≤ n) (hx : x < 18446744073709551616) (hc : ∀ j u, (bytesV (encB true 8 x))[j]? = some u → w.cell? ⟨b, off + j, none⟩ = some u) :
    Calls Tryz.prog 227 #[.agg #[], .slice (some ⟨b, off, none⟩) n cap] w (One w (.int .u64 x)) := by
  obtain ⟨b0, hb0⟩ : ∃ q, q = x / 256 / 256 / 256 / 256 / 256 / 256 / 256 % 256 := ⟨_, rfl⟩
  have c0 : w.cell? ⟨b, off, none⟩ = some (.int .u8 b0) := by rw [hb0]; exact hc 0 _ rfl
  have h0 : b0 < 256 := by omega
  obtain ⟨b1, hb1⟩ : ∃ q, q = x / 256 / 256 / 256 / 256 / 256 / 256 % 256 := ⟨_, rfl⟩
  have c1 : w.cell? ⟨b, off + 1, none⟩ = some (.int .u8 b1) := by rw [hb1]; exact hc 1 _ rfl
  have h1 : b1 < 256 := by omega
  obtain ⟨b2, hb2⟩ : ∃ q, q = x / 256 / 256 / 256 / 256 / 256 % 256 := ⟨_, rfl⟩
  have c2 : w.cell? ⟨b, off + 2, none⟩ = some (.int .u8 b2) := by rw [hb2]; exact hc 2 _ rfl
  have h2 : b2 < 256 := by omega
  obtain ⟨b3, hb3⟩ : ∃ q, q = x / 256 / 256 / 256 / 256 % 256 := ⟨_, rfl⟩
  have c3 : w.cell? ⟨b, off + 3, none⟩ = some (.int .u8 b3) := by rw [hb3]; exact hc 3 _ rfl
  have h3 : b3 < 256 := by omega
  obtain ⟨b4, hb4⟩ : ∃ q, q = x / 256 / 256 / 256 % 256 := ⟨_, rfl⟩
  have c4 : w.cell? ⟨b, off + 4, none⟩ = some (.int .u8 b4) := by rw [hb4]; exact hc 4 _ rfl
  have h4 : b4 < 256 := by omega
  obtain ⟨b5, hb5⟩ : ∃ q, q = x / 256 / 256 % 256 := ⟨_, rfl⟩
  have c5 : w.cell? ⟨b, off + 5, none⟩ = some (.int .u8 b5) := by rw [hb5]; exact hc 5 _ rfl
  have h5 : b5 < 256 := by omega
  obtain ⟨b6, hb6⟩ : ∃ q, q = x / 256 % 256 := ⟨_, rfl⟩
  have c6 : w.cell? ⟨b, off + 6, none⟩ = some (.int .u8 b6) := by rw [hb6]; exact hc 6 _ rfl
  have h6 : b6 < 256 := by omega
  obtain ⟨b7, hb7⟩ : ∃ q, q = x % 256 := ⟨_, rfl⟩
  have c7 : w.cell? ⟨b, off + 7, none⟩ = some (.int .u8 b7) := by rw [hb7]; exact hc 7 _ rfl
  have h7 : b7 < 256 := by omega
  have hv : (x : Int) = (b7 : Int) + (b6 : Int) * 256 + (b5 : Int) * 65536 + (b4 : Int) * 16777216 + (b3 : Int) * 4294967296 + (b2 : Int) * 1099511627776 + (b1 : Int) * 281474976710656 + (b0 : Int) * 72057594037927936 := by omega
  have hl := Stab.cell_lt (a := ⟨b, off, none⟩) c0
  simp only at hl
  have q0 : 0 < n := by omega
  have q1 : (1 : Int) < (n : Int) := by omega
  have q2 : (2 : Int) < (n : Int) := by omega
  have q3 : (3 : Int) < (n : Int) := by omega
  have q4 : (4 : Int) < (n : Int) := by omega
  have q5 : (5 : Int) < (n : Int) := by omega
  have q6 : (6 : Int) < (n : Int) := by omega
  have q7 : (7 : Int) < (n : Int) := by omega
  have HV := Lib.hid hv
  clear hv hc hx hb0 hb1 hb2 hb3 hb4 hb5 hb6 hb7
  go_enter Tryz.func227, Tryz.ntmps227
  go_wp2
  go_quiet (fail)
  go_wp2
  go_ret
  refine ⟨?_, by with_reducible (repeat first | exact Kx.r _ | assumption | refine Kx.a ?_ _ | refine Kx.d ?_ | refine Kx.e ?_ _ | refine Kx.s (by simp <;> omega) ?_ _ | refine Kx.t ?_ (by assumption))⟩
  rw [HV.out]
  simp (disch := omega) only [u64_wrap_id, u64_or8, u64_or16, u64_or24, u64_or32, u64_or40, u64_or48, u64_or56]
  try rfl
end Go.Proofs.YtbakhldjfplbfaaGreat
set_option linter.unusedVariables false
set_option linter.unusedSimpArgs false
namespace Go.Proofs.YtbakhldjfplbfaaGreat
open Go.RowKit Go.Fl Go.Sl Go.Pg Go.Ch Go.Kf Go.By
def boB (big : Bool) : Nat := if big then 0 else 1
/-- the reader at pb, begun in w0, what it has ahead of it -/
structure PS (w0 : World) (pb : Nat) (wk : World) (bs : List Nat) (big : Bool) : Prop where
  keep : Stab.Keeps w0 wk
  blk : ∃ a n c, Blk wk pb 183 [.slice a n c, .int .u8 (boB big), .bool (!big)] ∧ Sz w0 a n c 1 (bytesV bs)
  ge : w0.heap.size ≤ pb
def PPost (w0 : World) (pb : Nat) (wk : World) (v : Value) (bs : List Nat) (big : Bool) (e : Ending) (w' : World) : Prop := e = .returned v ∧ PS w0 pb w' bs big ∧ KF (fun b => b ≠ pb) wk w'
theorem PS.keeps {w0 wk w' : World} {pb : Nat} {bs : List Nat} {big : Bool} (h : PS w0 pb wk bs big) (hk : Stab.Keeps wk w') : PS w0 pb w' bs big := by
  obtain ⟨h1, ⟨oa, on, oc, h2, h3⟩, h4⟩ := h
  exact ⟨Stab.Keeps.trans h1 hk, ⟨oa, on, oc, h2.keep hk, h3⟩, h4⟩
theorem keeps_set {w0 w : World} {b : Nat} {u : Value} {i : Nat} (h : Stab.Keeps w0 w) (hb : w0.heap.size ≤ b) : Stab.Keeps w0 (w.setCell ⟨b, i, none⟩ u) := Stab.Keeps.setCell hb h _
/-- the first bytes and what is left when they are taken -/
theorem PS.head {w0 wk : World} {pb : Nat} {x r : List Nat} {big : Bool} (h : PS w0 pb wk (x ++ r) big) (hx : 0 < x.length) (l : Nat) (hl : x.length = l) :
    ∃ B off n c, Blk wk pb 183 [.slice (some ⟨B, off, none⟩) n c, .int .u8 (boB big), .bool (!big)] ∧ (∀ j u, (bytesV x)[j]? = some u → wk.cell? ⟨B, off + j, none⟩ = some u) ∧ n = l + r.length ∧ n ≤ c ∧ c ≤ 9223372036854775807 ∧ B < w0.heap.size ∧
      ∀ wx, Stab.Keeps wk wx → PS w0 pb (wx.setCell ⟨pb, 0, none⟩ (.slice (if c = l then some ⟨B, off, none⟩ else some ⟨B, off + l, none⟩) (n - l) (c - l))) r big ∧ KF (fun b => b ≠ pb) wk (wx.setCell ⟨pb, 0, none⟩ (.slice (if c = l then some ⟨B, off, none⟩ else some ⟨B, off + l, none⟩) (n - l) (c - l))) := by
  obtain ⟨hk, ⟨oa, on, oc, hB, hO⟩, hge⟩ := h
  have hon : on = l + r.length := by have := hO.len; simp [bytesV] at this; omega
  obtain ⟨B, off, rfl, hbl, _⟩ := hO.elem (i := 0) (by omega)
  obtain ⟨b', o', e', hb', hcc⟩ := (hO.some_ (by omega)).at_ _ rfl
  cases e'
  have hmx := hO.max
  unfold maxLen at hmx
  refine ⟨B, off, on, oc, hB, fun j u hu => ?_, hon, hO.le, by omega, hbl, fun wx hwx => ⟨?_, ?_⟩⟩
  · have hj : j < x.length := by
      rcases Nat.lt_or_ge j x.length with h | h
      · exact h
      · rw [List.getElem?_eq_none (by rw [bytesV_len]; exact h)] at hu; cases hu
    have h1 := hcc j u (by rw [bytesV_app, List.getElem?_append_left (by rw [bytesV_len]; exact hj)]; exact hu)
    rw [World.cell?_of_block (a := ⟨B, off + j, none⟩) (hk.block B hbl)]
    exact h1
  · have hkx := Stab.Keeps.trans hk hwx
    have hd := hO.drop l (by omega)
    have hb2 := (hB.keep hwx).set 0 (.slice (if oc = l then some ⟨B, off, none⟩ else some ⟨B, off + l, none⟩) (on - l) (oc - l))
    simp only [List.set] at hb2
    refine ⟨keeps_set hkx hge, ⟨_, _, _, hb2, ?_⟩, hge⟩
    have e2 : (bytesV (x ++ r)).drop (l * 1) = bytesV r := by rw [bytesV_app, Nat.mul_one, ← hl, ← bytesV_len x, List.drop_left]
    rw [e2] at hd
    by_cases hcl : oc = l
    · simp only [if_pos hcl] at hd ⊢; exact hd
    · simp only [if_neg hcl, Option.map_some, Nat.mul_one, add_none] at hd ⊢; exact hd
  · exact KF.set (by simp) (KF.keeps hwx)
set_option maxRecDepth 100000 in
set_option maxHeartbeats 2000000 in
theorem readByte_ (w0 : World) (pb x : Nat) (r : List Nat) (big : Bool) (w : World) (h : PS w0 pb w (x :: r) big) :
    Calls Tryz.prog 208 #[.pointer (some ⟨pb, 0, none⟩)] w (PPost w0 pb w (.tuple #[.int .u8 x, .nilIface]) r big) := by
  obtain ⟨B, off, n, c, hB, hcx, hn, hnc, hcm, hBl, hS2⟩ := PS.head (x := [x]) h (by simp) 1 rfl
  have c0 : w.cell? ⟨B, off, none⟩ = some (.int .u8 x) := hcx 0 _ rfl
  have hBl2 := Stab.cell_lt (a := ⟨B, off, none⟩) c0
  simp only at hBl2
  have m0 := hB.cell (i := 0) rfl
  have m1 := hB.cell (i := 1) rfl
  have m2 := hB.cell (i := 2) rfl
  have mf := hB.free
  have ml := hB.lt
  have h1n : (1 : Int) ≤ (n : Int) := by omega
  have h0n : 0 < n := by omega
  have hnz : (n : Int) ≠ 0 := by omega
  have hnz2 : n ≠ 0 := by omega
  clear hn hcx
  by_cases hc1 : c = 1
  · simp only [if_pos hc1] at hS2
    subst hc1
    obtain rfl : n = 1 := by omega
    go_enter Tryz.func208, Tryz.ntmps208
    go_wp2_with fail
    exact bodyPost_ret (v := .tuple #[.int .u8 x, .nilIface]) (by simp [results, Tryz.results208, go_sem]) rfl ⟨rfl, hS2 w (Stab.Keeps.refl _)⟩
  · simp only [if_neg hc1] at hS2
    go_enter Tryz.func208, Tryz.ntmps208
    go_wp2_with fail
    exact bodyPost_ret (v := .tuple #[.int .u8 x, .nilIface]) (by simp [results, Tryz.results208, go_sem]) rfl ⟨rfl, hS2 w (Stab.Keeps.refl _)⟩
set_option maxRecDepth 100000 in
set_option maxHeartbeats 2000000 in
theorem parseByteOrder_ (w0 : World) (pb : Nat) (x : Bool) (r : List Nat) (big : Bool) (w : World) (h : PS w0 pb w ((if x then 0 else 1) :: r) big) :
    Calls Tryz.prog 196 #[.pointer (some ⟨pb, 0, none⟩)] w (PPost w0 pb w .nilIface r x) := by
  have hC := readByte_ w0 pb (if x then 0 else 1) r big w h
  clear h
  cases x with
  | true =>
    simp only [if_true] at hC
    go_enter Tryz.func196, Tryz.ntmps196
    go_wp2_with fail
    refine hC.mono ?_
    rintro e w2 ⟨rfl, ⟨hk, ⟨a, n, c, hB, hO⟩, hge⟩, hK⟩
    have hb2 := (hB.set 1 (.int .u8 0)).set 2 (.bool false)
    simp only [List.set] at hb2
    have hk2 := keeps_set (u := .bool false) (i := 2) (keeps_set (u := .int .u8 0) (i := 1) hk hge) hge
    have hK2 : KF (fun b => b ≠ pb) w ((w2.setCell ⟨pb, 1, none⟩ (.int .u8 0)).setCell ⟨pb, 2, none⟩ (.bool false)) := KF.set (by simp) (KF.set (by simp) hK)
    have HB2 := Lib.hid hb2
    have HK := Lib.hid hk2
    have HKF := Lib.hid hK2
    have m0 := hB.cell (i := 0) rfl
    have m1 := hB.cell (i := 1) rfl
    have m2 := hB.cell (i := 2) rfl
    have mf := hB.free
    have ml := hB.lt
    clear hb2 hk2 hK2 hk hK
    go_wp2_with fail
    go_ret
    exact ⟨rfl, ⟨HK.out, ⟨a, n, c, HB2.out, hO⟩, hge⟩, HKF.out⟩
  | false =>
    simp only [Bool.false_eq_true, if_false] at hC
    go_enter Tryz.func196, Tryz.ntmps196
    go_wp2_with fail
    refine hC.mono ?_
    rintro e w2 ⟨rfl, ⟨hk, ⟨a, n, c, hB, hO⟩, hge⟩, hK⟩
    have hb2 := (hB.set 1 (.int .u8 1)).set 2 (.bool true)
    simp only [List.set] at hb2
    have hk2 := keeps_set (u := .bool true) (i := 2) (keeps_set (u := .int .u8 1) (i := 1) hk hge) hge
    have hK2 : KF (fun b => b ≠ pb) w ((w2.setCell ⟨pb, 1, none⟩ (.int .u8 1)).setCell ⟨pb, 2, none⟩ (.bool true)) := KF.set (by simp) (KF.set (by simp) hK)
    have HB2 := Lib.hid hb2
    have HK := Lib.hid hk2
    have HKF := Lib.hid hK2
    have m0 := hB.cell (i := 0) rfl
    have m1 := hB.cell (i := 1) rfl
    have m2 := hB.cell (i := 2) rfl
    have mf := hB.free
    have ml := hB.lt
    clear hb2 hk2 hK2 hk hK
    go_wp2_with fail
    go_ret
    exact ⟨rfl, ⟨HK.out, ⟨a, n, c, HB2.out, hO⟩, hge⟩, HKF.out⟩
set_option maxRecDepth 100000 in
set_option maxHeartbeats 4000000 in
theorem parseUint32_ (w0 : World) (pb x : Nat) (r : List Nat) (big : Bool) (w : World) (hx : x < 4294967296) (h : PS w0 pb w (encB big 4 x ++ r) big) :
    Calls Tryz.prog 209 #[.pointer (some ⟨pb, 0, none⟩)] w (PPost w0 pb w (.tuple #[.int .u32 x, .nilIface]) r big) := by
  obtain ⟨B, off, n, c, hB, hcx, hn, hnc, hcm, hBl, hS2⟩ := PS.head h (by rw [encB_len]; omega) 4 (encB_len _ _ _)
  have hcx2 : ∀ w2, Stab.Keeps w w2 → ∀ j u, (bytesV (encB big 4 x))[j]? = some u → w2.cell? ⟨B, off + j, none⟩ = some u := fun w2 hk j u hu => by
    rw [World.cell?_of_block (a := ⟨B, off + j, none⟩) (hk.block B (Nat.lt_of_lt_of_le hBl h.keep.size))]; exact hcx j u hu
  have m0 := hB.cell (i := 0) rfl
  have m1 := hB.cell (i := 1) rfl
  have m2 := hB.cell (i := 2) rfl
  have mf := hB.free
  have ml := hB.lt
  have hln : (4 : Int) ≤ (n : Int) := by omega
  have hn4 : 4 ≤ n := by omega
  have hng : ¬ (n : Int) < 4 := by omega
  have hfx : ∀ w : World, (callFunc 60 #[.int .u64 x]).run Tryz.prog w = .ok (.value (.float .f64 x)) w := ext_from x
  clear hn hcx h
  cases big with
  | true =>
    simp only [boB, if_true, Bool.false_eq_true, if_false, Bool.not_true, Bool.not_false] at *
    have hC : ∀ w2, Stab.Keeps w w2 → Calls Tryz.prog 220 #[.agg #[], .slice (some ⟨B, off, none⟩) n c] w2 (One w2 (.int .u32 x)) := fun w2 hk => rdB32_ B off n c x w2 hn4 hx (hcx2 w2 hk)
    by_cases hc1 : c = 4
    · simp only [if_pos hc1] at hS2
      subst hc1
      obtain rfl : n = 4 := by omega
      clear hcx2
      go_enter Tryz.func209, Tryz.ntmps209
      go_upto_region 5 with (fail)
      refine Stab.keep_region (fun _ _ _ => True) (fun _ => false) (fun k => k == 5) Stab.pre_none (by kernel_rfl) (by kernel_rfl) fun hcx => ?_
      iterate 5 ((with_reducible refine Stab.quiet ?_ ?_ ?_ ?_); rfl; rfl; rfl; intro K hK; go_big_quiet_op; refine hK _ ?_; clear hK K)
      (with_reducible refine Stab.one ?_ ?_ ?_ ?_); rfl; rfl; rfl
      apply Exists.intro
      refine ⟨fun w1 hw1 => ?_, fun K hK => ?_⟩
      · go_simp
        (go_at_call 220; exact hC _ hw1)
      go_simp
      refine hK _ ?_
      clear hK K
      (with_reducible refine Stab.quiet ?_ ?_ ?_ ?_); rfl; rfl; rfl; intro K hK; go_big_quiet_op; refine hK _ ?_; clear hK K
      refine Stab.nil fun w2 hk2 _ => ?_
      have hSK := hS2 w2 hk2
      have HSK := Lib.hid hSK
      replace hB := hB.keep hk2
      clear hcx hSK hS2 hC m0 m1 m2 mf ml
      have m0 := hB.cell (i := 0) rfl
      have m1 := hB.cell (i := 1) rfl
      have m2 := hB.cell (i := 2) rfl
      have mf := hB.free
      have ml := hB.lt
      go_wp2_with fail
      exact bodyPost_ret (v := .tuple #[.int .u32 x, .nilIface]) (by simp [results, Tryz.results209, go_sem]) rfl ⟨rfl, HSK.out⟩
    · simp only [if_neg hc1] at hS2
      clear hcx2
      go_enter Tryz.func209, Tryz.ntmps209
      go_upto_region 5 with (fail)
      refine Stab.keep_region (fun _ _ _ => True) (fun _ => false) (fun k => k == 5) Stab.pre_none (by kernel_rfl) (by kernel_rfl) fun hcx => ?_
      iterate 5 ((with_reducible refine Stab.quiet ?_ ?_ ?_ ?_); rfl; rfl; rfl; intro K hK; go_big_quiet_op; refine hK _ ?_; clear hK K)
      (with_reducible refine Stab.one ?_ ?_ ?_ ?_); rfl; rfl; rfl
      apply Exists.intro
      refine ⟨fun w1 hw1 => ?_, fun K hK => ?_⟩
      · go_simp
        (go_at_call 220; exact hC _ hw1)
      go_simp
      refine hK _ ?_
      clear hK K
      (with_reducible refine Stab.quiet ?_ ?_ ?_ ?_); rfl; rfl; rfl; intro K hK; go_big_quiet_op; refine hK _ ?_; clear hK K
      refine Stab.nil fun w2 hk2 _ => ?_
      have hSK := hS2 w2 hk2
      have HSK := Lib.hid hSK
      replace hB := hB.keep hk2
      clear hcx hSK hS2 hC m0 m1 m2 mf ml
      have m0 := hB.cell (i := 0) rfl
      have m1 := hB.cell (i := 1) rfl
      have m2 := hB.cell (i := 2) rfl
      have mf := hB.free
      have ml := hB.lt
      go_wp2_with fail
      exact bodyPost_ret (v := .tuple #[.int .u32 x, .nilIface]) (by simp [results, Tryz.results209, go_sem]) rfl ⟨rfl, HSK.out⟩
  | false =>
    simp only [boB, if_true, Bool.false_eq_true, if_false, Bool.not_true, Bool.not_false] at *
    have hC : ∀ w2, Stab.Keeps w w2 → Calls Tryz.prog 221 #[.agg #[], .slice (some ⟨B, off, none⟩) n c] w2 (One w2 (.int .u32 x)) := fun w2 hk => rdL32_ B off n c x w2 hn4 hx (hcx2 w2 hk)
    by_cases hc1 : c = 4
    · simp only [if_pos hc1] at hS2
      subst hc1
      obtain rfl : n = 4 := by omega
      clear hcx2
      go_enter Tryz.func209, Tryz.ntmps209
      go_upto_region 6 with (fail)
      refine Stab.keep_region (fun _ _ _ => True) (fun _ => false) (fun k => k == 5) Stab.pre_none (by kernel_rfl) (by kernel_rfl) fun hcx => ?_
      iterate 5 ((with_reducible refine Stab.quiet ?_ ?_ ?_ ?_); rfl; rfl; rfl; intro K hK; go_big_quiet_op; refine hK _ ?_; clear hK K)
      (with_reducible refine Stab.one ?_ ?_ ?_ ?_); rfl; rfl; rfl
      apply Exists.intro
      refine ⟨fun w1 hw1 => ?_, fun K hK => ?_⟩
      · go_simp
        (go_at_call 221; exact hC _ hw1)
      go_simp
      refine hK _ ?_
      clear hK K
      (with_reducible refine Stab.quiet ?_ ?_ ?_ ?_); rfl; rfl; rfl; intro K hK; go_big_quiet_op; refine hK _ ?_; clear hK K
      refine Stab.nil fun w2 hk2 _ => ?_
      have hSK := hS2 w2 hk2
      have HSK := Lib.hid hSK
      replace hB := hB.keep hk2
      clear hcx hSK hS2 hC m0 m1 m2 mf ml
      have m0 := hB.cell (i := 0) rfl
      have m1 := hB.cell (i := 1) rfl
      have m2 := hB.cell (i := 2) rfl
      have mf := hB.free
      have ml := hB.lt
      go_wp2_with fail
      exact bodyPost_ret (v := .tuple #[.int .u32 x, .nilIface]) (by simp [results, Tryz.results209, go_sem]) rfl ⟨rfl, HSK.out⟩
    · simp only [if_neg hc1] at hS2
      clear hcx2
      go_enter Tryz.func209, Tryz.ntmps209
      go_upto_region 6 with (fail)
      refine Stab.keep_region (fun _ _ _ => True) (fun _ => false) (fun k => k == 5) Stab.pre_none (by kernel_rfl) (by kernel_rfl) fun hcx => ?_
      iterate 5 ((with_reducible refine Stab.quiet ?_ ?_ ?_ ?_); rfl; rfl; rfl; intro K hK; go_big_quiet_op; refine hK _ ?_; clear hK K)
      (with_reducible refine Stab.one ?_ ?_ ?_ ?_); rfl; rfl; rfl
      apply Exists.intro
      refine ⟨fun w1 hw1 => ?_, fun K hK => ?_⟩
      · go_simp
        (go_at_call 221; exact hC _ hw1)
      go_simp
      refine hK _ ?_
      clear hK K
      (with_reducible refine Stab.quiet ?_ ?_ ?_ ?_); rfl; rfl; rfl; intro K hK; go_big_quiet_op; refine hK _ ?_; clear hK K
      refine Stab.nil fun w2 hk2 _ => ?_
      have hSK := hS2 w2 hk2
      have HSK := Lib.hid hSK
      replace hB := hB.keep hk2
      clear hcx hSK hS2 hC m0 m1 m2 mf ml
      have m0 := hB.cell (i := 0) rfl
      have m1 := hB.cell (i := 1) rfl
      have m2 := hB.cell (i := 2) rfl
      have mf := hB.free
      have ml := hB.lt
      go_wp2_with fail
      exact bodyPost_ret (v := .tuple #[.int .u32 x, .nilIface]) (by simp [results, Tryz.results209, go_sem]) rfl ⟨rfl, HSK.out⟩
set_option maxRecDepth 100000 in
set_option maxHeartbeats 4000000 in
theorem parseFloat64_ (w0 : World) (pb x : Nat) (r : List Nat) (big : Bool) (w : World) (hx : x < 18446744073709551616) (h : PS w0 pb w (encB big 8 x ++ r) big) :
    Calls Tryz.prog 222 #[.pointer (some ⟨pb, 0, none⟩)] w (PPost w0 pb w (.tuple #[.float .f64 x, .nilIface]) r big) := by
  obtain ⟨B, off, n, c, hB, hcx, hn, hnc, hcm, hBl, hS2⟩ := PS.head h (by rw [encB_len]; omega) 8 (encB_len _ _ _)
  have hcx2 : ∀ w2, Stab.Keeps w w2 → ∀ j u, (bytesV (encB big 8 x))[j]? = some u → w2.cell? ⟨B, off + j, none⟩ = some u := fun w2 hk j u hu => by
    rw [World.cell?_of_block (a := ⟨B, off + j, none⟩) (hk.block B (Nat.lt_of_lt_of_le hBl h.keep.size))]; exact hcx j u hu
  have m0 := hB.cell (i := 0) rfl
  have m1 := hB.cell (i := 1) rfl
  have m2 := hB.cell (i := 2) rfl
  have mf := hB.free
  have ml := hB.lt
  have hln : (8 : Int) ≤ (n : Int) := by omega
  have hn4 : 8 ≤ n := by omega
  have hng : ¬ (n : Int) < 8 := by omega
  have hfx : ∀ w : World, (callFunc 60 #[.int .u64 x]).run Tryz.prog w = .ok (.value (.float .f64 x)) w := ext_from x
  clear hn hcx h
  cases big with
  | true =>
    simp only [boB, if_true, Bool.false_eq_true, if_false, Bool.not_true, Bool.not_false] at *
    have hC : ∀ w2, Stab.Keeps w w2 → Calls Tryz.prog 227 #[.agg #[], .slice (some ⟨B, off, none⟩) n c] w2 (One w2 (.int .u64 x)) := fun w2 hk => rdB64_ B off n c x w2 hn4 hx (hcx2 w2 hk)
    by_cases hc1 : c = 8
    · simp only [if_pos hc1] at hS2
      subst hc1
      obtain rfl : n = 8 := by omega
      clear hcx2
      go_enter Tryz.func222, Tryz.ntmps222
      go_upto_region 5 with (fail)
      refine Stab.keep_region (fun _ _ _ => True) (fun _ => false) (fun k => k == 5) Stab.pre_none (by kernel_rfl) (by kernel_rfl) fun hcx => ?_
      iterate 5 ((with_reducible refine Stab.quiet ?_ ?_ ?_ ?_); rfl; rfl; rfl; intro K hK; go_big_quiet_op; refine hK _ ?_; clear hK K)
      (with_reducible refine Stab.one ?_ ?_ ?_ ?_); rfl; rfl; rfl
      apply Exists.intro
      refine ⟨fun w1 hw1 => ?_, fun K hK => ?_⟩
      · go_simp
        (go_at_call 227; exact hC _ hw1)
      go_simp
      refine hK _ ?_
      clear hK K
      (with_reducible refine Stab.quiet ?_ ?_ ?_ ?_); rfl; rfl; rfl; intro K hK; go_big_quiet_op; refine hK _ ?_; clear hK K
      refine Stab.nil fun w2 hk2 _ => ?_
      have hSK := hS2 w2 hk2
      have HSK := Lib.hid hSK
      replace hB := hB.keep hk2
      clear hcx hSK hS2 hC m0 m1 m2 mf ml
      have m0 := hB.cell (i := 0) rfl
      have m1 := hB.cell (i := 1) rfl
      have m2 := hB.cell (i := 2) rfl
      have mf := hB.free
      have ml := hB.lt
      go_wp2_with fail
      exact bodyPost_ret (v := .tuple #[.float .f64 x, .nilIface]) (by simp [results, Tryz.results222, go_sem]) rfl ⟨rfl, HSK.out⟩
    · simp only [if_neg hc1] at hS2
      clear hcx2
      go_enter Tryz.func222, Tryz.ntmps222
      go_upto_region 5 with (fail)
      refine Stab.keep_region (fun _ _ _ => True) (fun _ => false) (fun k => k == 5) Stab.pre_none (by kernel_rfl) (by kernel_rfl) fun hcx => ?_
      iterate 5 ((with_reducible refine Stab.quiet ?_ ?_ ?_ ?_); rfl; rfl; rfl; intro K hK; go_big_quiet_op; refine hK _ ?_; clear hK K)
      (with_reducible refine Stab.one ?_ ?_ ?_ ?_); rfl; rfl; rfl
      apply Exists.intro
      refine ⟨fun w1 hw1 => ?_, fun K hK => ?_⟩
      · go_simp
        (go_at_call 227; exact hC _ hw1)
      go_simp
      refine hK _ ?_
      clear hK K
      (with_reducible refine Stab.quiet ?_ ?_ ?_ ?_); rfl; rfl; rfl; intro K hK; go_big_quiet_op; refine hK _ ?_; clear hK K
      refine Stab.nil fun w2 hk2 _ => ?_
      have hSK := hS2 w2 hk2
      have HSK := Lib.hid hSK
      replace hB := hB.keep hk2
      clear hcx hSK hS2 hC m0 m1 m2 mf ml
      have m0 := hB.cell (i := 0) rfl
      have m1 := hB.cell (i := 1) rfl
      have m2 := hB.cell (i := 2) rfl
      have mf := hB.free
      have ml := hB.lt
      go_wp2_with fail
      exact bodyPost_ret (v := .tuple #[.float .f64 x, .nilIface]) (by simp [results, Tryz.results222, go_sem]) rfl ⟨rfl, HSK.out⟩
  | false =>
    simp only [boB, if_true, Bool.false_eq_true, if_false, Bool.not_true, Bool.not_false] at *
    have hC : ∀ w2, Stab.Keeps w w2 → Calls Tryz.prog 228 #[.agg #[], .slice (some ⟨B, off, none⟩) n c] w2 (One w2 (.int .u64 x)) := fun w2 hk => rdL64_ B off n c x w2 hn4 hx (hcx2 w2 hk)
    by_cases hc1 : c = 8
    · simp only [if_pos hc1] at hS2
      subst hc1
      obtain rfl : n = 8 := by omega
      clear hcx2
      go_enter Tryz.func222, Tryz.ntmps222
      go_upto_region 6 with (fail)
      refine Stab.keep_region (fun _ _ _ => True) (fun _ => false) (fun k => k == 5) Stab.pre_none (by kernel_rfl) (by kernel_rfl) fun hcx => ?_
      iterate 5 ((with_reducible refine Stab.quiet ?_ ?_ ?_ ?_); rfl; rfl; rfl; intro K hK; go_big_quiet_op; refine hK _ ?_; clear hK K)
      (with_reducible refine Stab.one ?_ ?_ ?_ ?_); rfl; rfl; rfl
      apply Exists.intro
      refine ⟨fun w1 hw1 => ?_, fun K hK => ?_⟩
      · go_simp
        (go_at_call 228; exact hC _ hw1)
      go_simp
      refine hK _ ?_
      clear hK K
      (with_reducible refine Stab.quiet ?_ ?_ ?_ ?_); rfl; rfl; rfl; intro K hK; go_big_quiet_op; refine hK _ ?_; clear hK K
      refine Stab.nil fun w2 hk2 _ => ?_
      have hSK := hS2 w2 hk2
      have HSK := Lib.hid hSK
      replace hB := hB.keep hk2
      clear hcx hSK hS2 hC m0 m1 m2 mf ml
      have m0 := hB.cell (i := 0) rfl
      have m1 := hB.cell (i := 1) rfl
      have m2 := hB.cell (i := 2) rfl
      have mf := hB.free
      have ml := hB.lt
      go_wp2_with fail
      exact bodyPost_ret (v := .tuple #[.float .f64 x, .nilIface]) (by simp [results, Tryz.results222, go_sem]) rfl ⟨rfl, HSK.out⟩
    · simp only [if_neg hc1] at hS2
      clear hcx2
      go_enter Tryz.func222, Tryz.ntmps222
      go_upto_region 6 with (fail)
      refine Stab.keep_region (fun _ _ _ => True) (fun _ => false) (fun k => k == 5) Stab.pre_none (by kernel_rfl) (by kernel_rfl) fun hcx => ?_
      iterate 5 ((with_reducible refine Stab.quiet ?_ ?_ ?_ ?_); rfl; rfl; rfl; intro K hK; go_big_quiet_op; refine hK _ ?_; clear hK K)
      (with_reducible refine Stab.one ?_ ?_ ?_ ?_); rfl; rfl; rfl
      apply Exists.intro
      refine ⟨fun w1 hw1 => ?_, fun K hK => ?_⟩
      · go_simp
        (go_at_call 228; exact hC _ hw1)
      go_simp
      refine hK _ ?_
      clear hK K
      (with_reducible refine Stab.quiet ?_ ?_ ?_ ?_); rfl; rfl; rfl; intro K hK; go_big_quiet_op; refine hK _ ?_; clear hK K
      refine Stab.nil fun w2 hk2 _ => ?_
      have hSK := hS2 w2 hk2
      have HSK := Lib.hid hSK
      replace hB := hB.keep hk2
      clear hcx hSK hS2 hC m0 m1 m2 mf ml
      have m0 := hB.cell (i := 0) rfl
      have m1 := hB.cell (i := 1) rfl
      have m2 := hB.cell (i := 2) rfl
      have mf := hB.free
      have ml := hB.lt
      go_wp2_with fail
      exact bodyPost_ret (v := .tuple #[.float .f64 x, .nilIface]) (by simp [results, Tryz.results222, go_sem]) rfl ⟨rfl, HSK.out⟩
end Go.Proofs.YtbakhldjfplbfaaGreat
set_option linter.unusedVariables false
set_option linter.unusedSimpArgs false
namespace Go.Proofs.YtbakhldjfplbfaaGreat
open Go.RowKit Go.Fl Go.Sl Go.Pg Go.Ch Go.Kf Go.By
set_option maxRecDepth 100000 in
set_option maxHeartbeats 8000000 in
theorem parseType_ (w0 : World) (pb k d : Nat) (hk : k < 7) (hd : d < 4) (r : List Nat) (big : Bool) (w : World) (h : PS w0 pb w (encB big 4 (d * 1000 + codeN k) ++ r) big) :
    Calls Tryz.prog 197 #[.pointer (some ⟨pb, 0, none⟩)] w (PPost w0 pb w (.tuple #[.int .i64 k, .int .u8 d, .nilIface]) r big) := by
  have hC := parseUint32_ w0 pb (d * 1000 + codeN k) r big w (by unfold codeN; split <;> omega) h
  clear h
  obtain ⟨X, hX⟩ : ∃ X, X = d * 1000 + codeN k := ⟨_, rfl⟩
  rw [← hX] at hC
  go_enter Tryz.func197, Tryz.ntmps197
  go_wp2_with fail
  refine hC.mono ?_
  rintro e w2 ⟨rfl, hP⟩
  have HP := Lib.hid hP
  clear hP hC
  have h4 : d = 0 ∨ d = 1 ∨ d = 2 ∨ d = 3 := by omega
  have h7 : k = 0 ∨ k = 1 ∨ k = 2 ∨ k = 3 ∨ k = 4 ∨ k = 5 ∨ k = 6 := by omega
  clear hk hd
  rcases h7 with rfl | rfl | rfl | rfl | rfl | rfl | rfl <;> rcases h4 with rfl | rfl | rfl | rfl
  all_goals (
    simp only [codeN, reduceIte, Nat.reduceMul, Nat.reduceAdd, Nat.reduceEqDiff] at hX
    subst hX
    go_wp2_with fail
    exact bodyPost_ret (by simp [results, Tryz.results197, go_sem]) rfl ⟨rfl, HP.out⟩)
end Go.Proofs.YtbakhldjfplbfaaGreat
set_option linter.unusedVariables false
set_option linter.unusedSimpArgs false
namespace Go.Proofs.YtbakhldjfplbfaaGreat
open Go.RowKit Go.Fl Go.Sl Go.Pg Go.Ch Go.Kf Go.By
/-- the reader's answer: a thing, and no error -/
def GPost (w0 : World) (pb : Nat) (wk : World) (bs : List Nat) (big : Bool) (R : World → (Nat → Prop) → List Value → Pg → Prop) (p : Pg) (e : Ending) (w' : World) : Prop :=
  ∃ cs, e = .returned (.tuple #[.agg cs.toArray, .nilIface]) ∧ PS w0 pb w' bs big ∧ KF (fun b => b ≠ pb) wk w' ∧ R w' (orNew no wk.heap.size) cs p
theorem PS.put {w0 wk : World} {pb b i : Nat} {u : Value} {bs : List Nat} {big : Bool} (h : PS w0 pb wk bs big) (hne : b ≠ pb) (hb : w0.heap.size ≤ b) : PS w0 pb (wk.setCell ⟨b, i, none⟩ u) bs big := by
  obtain ⟨h1, ⟨oa, on, oc, h2, h3⟩, h4⟩ := h
  exact ⟨keeps_set h1 hb, ⟨oa, on, oc, h2.past (a := ⟨b, i, none⟩) (Ne.symm hne) _, h3⟩, h4⟩
/-- what a walk of the reader's methods carries -/
structure PW (w0 : World) (pb : Nat) (w wk : World) (bs : List Nat) (big : Bool) : Prop where
  ps : PS w0 pb wk bs big
  kf : KF (fun b => b ≠ pb) w wk
theorem PW.read {w0 w wk w' : World} {pb : Nat} {bs bs' : List Nat} {big big' : Bool} (h : PW w0 pb w wk bs big) (h1 : PS w0 pb w' bs' big') (h2 : KF (fun b => b ≠ pb) wk w') : PW w0 pb w w' bs' big' := ⟨h1, h.kf.trans h2⟩
theorem PW.keeps {w0 w wk w' : World} {pb : Nat} {bs : List Nat} {big : Bool} (h : PW w0 pb w wk bs big) (hk : Stab.Keeps wk w') : PW w0 pb w w' bs big := ⟨h.ps.keeps hk, h.kf.trans (KF.keeps hk)⟩
/-- a block that is newer than the walk's first world is written -/
theorem PW.put {w0 w wk : World} {pb b i : Nat} {u : Value} {bs : List Nat} {big : Bool} (h : PW w0 pb w wk bs big) (hp : pb < w.heap.size) (hb : w.heap.size ≤ b) : PW w0 pb w (wk.setCell ⟨b, i, none⟩ u) bs big :=
  ⟨h.ps.put (by omega) (by have := h.ps.ge; omega), ⟨by simp; exact h.kf.size, fun c hc hf => by rw [Below.heap_setCell _ _ _ _ (fun e => by simp only at e; omega)]; exact h.kf.block c hc hf⟩⟩
theorem PW.put6 {w0 w wk : World} {pb b : Nat} {bs : List Nat} {big : Bool} {T : TypeId} {a0 a1 a2 a3 a4 a5 : Value} (h : PW w0 pb w wk bs big) (hA : Blk wk b T [a0, a1, a2, a3, a4, a5]) (hp : pb < w.heap.size) (hb : w.heap.size ≤ b) (v0 v1 v2 v3 v4 v5 : Value) :
    PW w0 pb w ((((((wk.setCell ⟨b, 0, none⟩ v0).setCell ⟨b, 1, none⟩ v1).setCell ⟨b, 2, none⟩ v2).setCell ⟨b, 3, none⟩ v3).setCell ⟨b, 4, none⟩ v4).setCell ⟨b, 5, none⟩ v5) bs big ∧
    Blk ((((((wk.setCell ⟨b, 0, none⟩ v0).setCell ⟨b, 1, none⟩ v1).setCell ⟨b, 2, none⟩ v2).setCell ⟨b, 3, none⟩ v3).setCell ⟨b, 4, none⟩ v4).setCell ⟨b, 5, none⟩ v5) b T [v0, v1, v2, v3, v4, v5] :=
  ⟨(((((((h.put hp hb).put hp hb).put hp hb).put hp hb).put hp hb)).put hp hb), (((((hA.set 0 v0).set 1 v1).set 2 v2).set 3 v3).set 4 v4).set 5 v5⟩
theorem isNaN_ (x : Nat) (w : World) : Calls Tryz.prog 223 #[.float .f64 x] w (One w (.bool (isNaN x))) := by
  have ho : (FloatKind.f64.format.order x x != some .eq) = isNaN x := isNaN_neq x
  go_enter Tryz.func223, Tryz.ntmps223
  go_wp2
  go_ret
  refine ⟨?_, by with_reducible (repeat first | exact Kx.r _ | assumption | refine Kx.a ?_ _ | refine Kx.d ?_ | refine Kx.e ?_ _ | refine Kx.s (by simp <;> omega) ?_ _ | refine Kx.t ?_ (by assumption))⟩
  try rw [← ho]
  try rfl
set_option maxRecDepth 100000 in
set_option maxHeartbeats 8000000 in
theorem parsePt0_ (w0 : World) (pb : Nat) (x y z m : Nat) (r : List Nat) (big N : Bool) (w : World) (hx : x < 18446744073709551616) (hy : y < 18446744073709551616) (hz : z < 18446744073709551616) (hm : m < 18446744073709551616) (hNx : isNaN x = N) (hNy : isNaN y = N)
    (h : PS w0 pb w (encB big 8 x ++ (encB big 8 y ++ r)) big) :
    Calls Tryz.prog 210 #[.pointer (some ⟨pb, 0, none⟩), .int .u8 0] w (fun e w' => e = .returned (.tuple #[.agg (ptC 0 (if N then [] else [⟨x, y, 0, 0⟩])).toArray, .nilIface]) ∧ PW w0 pb w w' r big) := by
  have hpl : pb < w.heap.size := by obtain ⟨_, ⟨_, _, _, hB, _⟩, _⟩ := h; exact hB.lt
  have hge := h.ge
  obtain ⟨w1, hw1⟩ : ∃ w1, w1 = (w.alloc (.cells #[.float .f64 0, .float .f64 0, .float .f64 0, .float .f64 0, .int .u8 0, .bool false] 141)).alloc (.cells #[.float .f64 0, .float .f64 0, .float .f64 0, .float .f64 0, .int .u8 0] 139) := ⟨_, rfl⟩
  have hk1 : Stab.Keeps w w1 := by rw [hw1]; with_reducible (repeat first | exact Kx.r _ | assumption | refine Kx.a ?_ _ | refine Kx.d ?_ | refine Kx.e ?_ _ | refine Kx.s (by simp <;> omega) ?_ _ | refine Kx.t ?_ (by assumption))
  have hA : Blk w1 w.heap.size 141 [.float .f64 0, .float .f64 0, .float .f64 0, .float .f64 0, .int .u8 0, .bool false] := by rw [hw1]; with_reducible (repeat first | assumption | (refine Bx.n ⟨?_, ?_⟩ <;> focus (first | rfl | (simp; done) | omega)) | refine Bx.a ?_ _ | refine Bx.d ?_ | refine Bx.e ?_ _ | refine Bx.p (by first | omega | simp <;> omega) ?_)
  have hC : Blk w1 (w.heap.size + 1) 139 [.float .f64 0, .float .f64 0, .float .f64 0, .float .f64 0, .int .u8 0] := by rw [hw1]; with_reducible (repeat first | assumption | (refine Bx.n ⟨?_, ?_⟩ <;> focus (first | rfl | (simp; done) | omega)) | refine Bx.a ?_ _ | refine Bx.d ?_ | refine Bx.e ?_ _ | refine Bx.p (by first | omega | simp <;> omega) ?_)
  have hP : PW w0 pb w w1 _ big := PW.keeps ⟨h, KF.refl _ _⟩ hk1
  have HW := Lib.hid hw1
  clear h hk1 hw1
  go_enter Tryz.func210, Tryz.ntmps210
  go_wp2_with fail
  rw [← HW.out]
  refine (parseFloat64_ w0 pb x _ big _ hx hP.ps).mono ?_
  rintro e w2 ⟨rfl, hs, hk⟩
  replace hP := hP.read hs hk
  replace hA := blk_kf hA (show w.heap.size ≠ pb by omega) hk
  replace hC := blk_kf hC (show w.heap.size + 1 ≠ pb by omega) hk
  clear hs hk
  have c0 := hC.cell (i := 0) rfl
  have c1 := hC.cell (i := 1) rfl
  have c2 := hC.cell (i := 2) rfl
  have c3 := hC.cell (i := 3) rfl
  have c4 := hC.cell (i := 4) rfl
  have cf := hC.free
  have cl := hC.lt
  have hP2 := hP.put (i := 0) (u := .float .f64 x) hpl (show w.heap.size ≤ w.heap.size + 1 by omega)
  have hC2 := hC.set 0 (.float .f64 x)
  have hA2 := hA.past (a := ⟨w.heap.size + 1, 0, none⟩) (show w.heap.size ≠ w.heap.size + 1 by omega) (.float .f64 x)
  simp only [List.set] at hC2
  have HC := Lib.hid hC2
  have HA := Lib.hid hA2
  have HP := Lib.hid hP2
  clear hP hC hA hP2 hC2 hA2
  go_wp2_with fail
  have hP := HP.out
  have hC := HC.out
  have hA := HA.out
  clear HP HC HA c0 c1 c2 c3 c4 cf cl
  refine (parseFloat64_ w0 pb y _ big _ hy hP.ps).mono ?_
  rintro e w3 ⟨rfl, hs, hk⟩
  replace hP := hP.read hs hk
  replace hA := blk_kf hA (show w.heap.size ≠ pb by omega) hk
  replace hC := blk_kf hC (show w.heap.size + 1 ≠ pb by omega) hk
  clear hs hk
  have c0 := hC.cell (i := 0) rfl
  have c1 := hC.cell (i := 1) rfl
  have c2 := hC.cell (i := 2) rfl
  have c3 := hC.cell (i := 3) rfl
  have c4 := hC.cell (i := 4) rfl
  have cf := hC.free
  have cl := hC.lt
  have hP2 := hP.put (i := 1) (u := .float .f64 y) hpl (show w.heap.size ≤ w.heap.size + 1 by omega)
  have hC2 := hC.set 1 (.float .f64 y)
  have hA2 := hA.past (a := ⟨w.heap.size + 1, 1, none⟩) (show w.heap.size ≠ w.heap.size + 1 by omega) (.float .f64 y)
  simp only [List.set] at hC2
  have HC := Lib.hid hC2
  have HA := Lib.hid hA2
  have HP := Lib.hid hP2
  clear hP hC hA hP2 hC2 hA2
  go_wp2_with fail
  have hP := HP.out
  have hC := HC.out
  have hA := HA.out
  clear HP HC HA c0 c1 c2 c3 c4 cf cl
  cases N with
  | true =>
    refine (isNaN_ x _).mono ?_
    rintro e v1 ⟨rfl, hk⟩
    replace hP := hP.keeps hk
    replace hC := hC.keep hk
    replace hA := hA.keep hk
    clear hk
    rw [hNx]
    have c0 := hC.cell (i := 0) rfl
    have c1 := hC.cell (i := 1) rfl
    have c2 := hC.cell (i := 2) rfl
    have c3 := hC.cell (i := 3) rfl
    have c4 := hC.cell (i := 4) rfl
    have cf := hC.free
    have cl := hC.lt
    go_wp2_with fail
    clear c0 c1 c2 c3 c4 cf cl
    refine (isNaN_ y _).mono ?_
    rintro e v2 ⟨rfl, hk⟩
    replace hP := hP.keeps hk
    replace hC := hC.keep hk
    replace hA := hA.keep hk
    clear hk
    rw [hNy]
    have c0 := hC.cell (i := 0) rfl
    have c1 := hC.cell (i := 1) rfl
    have c2 := hC.cell (i := 2) rfl
    have c3 := hC.cell (i := 3) rfl
    have c4 := hC.cell (i := 4) rfl
    have cf := hC.free
    have cl := hC.lt
    go_wp2_with fail
    clear c0 c1 c2 c3 c4 cf cl
    have hF : ∀ w, Calls Tryz.prog 200 #[.agg #[.float .f64 0, .float .f64 0, .float .f64 0, .float .f64 0, .int .u8 0, .bool false], .int .u8 (0 : Nat)] w (One w (.agg (ptC 0 []).toArray)) := fun w => ptForce_ 0 0 (by decide) (by decide) [] (by simp) w
    refine (hF _).mono ?_
    rintro e v5 ⟨rfl, hk⟩
    replace hP := hP.keeps hk
    replace hA := hA.keep hk
    clear hk hC hx hy hz hm hNx hNy HW
    have a0 := hA.cell (i := 0) rfl
    have a1 := hA.cell (i := 1) rfl
    have a2 := hA.cell (i := 2) rfl
    have a3 := hA.cell (i := 3) rfl
    have a4 := hA.cell (i := 4) rfl
    have a5 := hA.cell (i := 5) rfl
    have af := hA.free
    have al := hA.lt
    have HP := Lib.hid hP
    have HA := Lib.hid hA
    clear hP hA
    simp only [ptC, List.map_nil]
    go_wp2_with fail
    clear a0 a1 a2 a3 a4 a5 af al
    obtain ⟨hP6, hA6⟩ := PW.put6 HP.out HA.out hpl (Nat.le_refl _) (.float .f64 0) (.float .f64 0) (.float .f64 0) (.float .f64 0) (.int .u8 0) (.bool false)
    clear HP HA
    generalize (((((v5.setCell ⟨w.heap.size, 0, none⟩ (.float .f64 0)).setCell ⟨w.heap.size, 1, none⟩ (.float .f64 0)).setCell ⟨w.heap.size, 2, none⟩ (.float .f64 0)).setCell ⟨w.heap.size, 3, none⟩ (.float .f64 0)).setCell ⟨w.heap.size, 4, none⟩ (.int .u8 0)).setCell ⟨w.heap.size, 5, none⟩ (.bool false) = v6 at *
    have a0 := hA6.cell (i := 0) rfl
    have a1 := hA6.cell (i := 1) rfl
    have a2 := hA6.cell (i := 2) rfl
    have a3 := hA6.cell (i := 3) rfl
    have a4 := hA6.cell (i := 4) rfl
    have a5 := hA6.cell (i := 5) rfl
    have af := hA6.free
    have al := hA6.lt
    refine bodyPost_ret (v := .tuple #[.agg #[.float .f64 0, .float .f64 0, .float .f64 0, .float .f64 0, .int .u8 0, .bool false], .nilIface]) (by simp [results, Tryz.results210, go_sem, a0, a1, a2, a3, a4, a5, af]) rfl ⟨rfl, hP6⟩
  | false =>
    refine (isNaN_ x _).mono ?_
    rintro e v1 ⟨rfl, hk⟩
    replace hP := hP.keeps hk
    replace hC := hC.keep hk
    replace hA := hA.keep hk
    clear hk
    rw [hNx]
    have c0 := hC.cell (i := 0) rfl
    have c1 := hC.cell (i := 1) rfl
    have c2 := hC.cell (i := 2) rfl
    have c3 := hC.cell (i := 3) rfl
    have c4 := hC.cell (i := 4) rfl
    have cf := hC.free
    have cl := hC.lt
    go_wp2_with fail
    clear c0 c1 c2 c3 c4 cf cl
    refine (isNaN_ x _).mono ?_
    rintro e v2 ⟨rfl, hk⟩
    replace hP := hP.keeps hk
    replace hC := hC.keep hk
    replace hA := hA.keep hk
    clear hk
    rw [hNx]
    have c0 := hC.cell (i := 0) rfl
    have c1 := hC.cell (i := 1) rfl
    have c2 := hC.cell (i := 2) rfl
    have c3 := hC.cell (i := 3) rfl
    have c4 := hC.cell (i := 4) rfl
    have cf := hC.free
    have cl := hC.lt
    go_wp2_with fail
    clear c0 c1 c2 c3 c4 cf cl
    refine (isNaN_ y _).mono ?_
    rintro e v3 ⟨rfl, hk⟩
    replace hP := hP.keeps hk
    replace hC := hC.keep hk
    replace hA := hA.keep hk
    clear hk
    rw [hNy]
    have c0 := hC.cell (i := 0) rfl
    have c1 := hC.cell (i := 1) rfl
    have c2 := hC.cell (i := 2) rfl
    have c3 := hC.cell (i := 3) rfl
    have c4 := hC.cell (i := 4) rfl
    have cf := hC.free
    have cl := hC.lt
    go_wp2_with fail
    clear c0 c1 c2 c3 c4 cf cl
    have hF : ∀ w, Calls Tryz.prog 155 #[.agg #[.float .f64 x, .float .f64 y, .float .f64 0, .float .f64 0, .int .u8 (0 : Nat)]] w (One w (.agg (ptC 0 [⟨x, y, 0, 0⟩]).toArray)) := fun w => newPoint_ 0 ⟨x, y, 0, 0⟩ w
    refine (hF _).mono ?_
    rintro e v5 ⟨rfl, hk⟩
    replace hP := hP.keeps hk
    replace hA := hA.keep hk
    clear hk hC hx hy hz hm hNx hNy HW
    have a0 := hA.cell (i := 0) rfl
    have a1 := hA.cell (i := 1) rfl
    have a2 := hA.cell (i := 2) rfl
    have a3 := hA.cell (i := 3) rfl
    have a4 := hA.cell (i := 4) rfl
    have a5 := hA.cell (i := 5) rfl
    have af := hA.free
    have al := hA.lt
    have HP := Lib.hid hP
    have HA := Lib.hid hA
    clear hP hA
    simp only [ptC, List.map_nil]
    go_wp2_with fail
    clear a0 a1 a2 a3 a4 a5 af al
    obtain ⟨hP6, hA6⟩ := PW.put6 HP.out HA.out hpl (Nat.le_refl _) (.float .f64 x) (.float .f64 y) (.float .f64 0) (.float .f64 0) (.int .u8 0) (.bool true)
    clear HP HA
    generalize (((((v5.setCell ⟨w.heap.size, 0, none⟩ (.float .f64 x)).setCell ⟨w.heap.size, 1, none⟩ (.float .f64 y)).setCell ⟨w.heap.size, 2, none⟩ (.float .f64 0)).setCell ⟨w.heap.size, 3, none⟩ (.float .f64 0)).setCell ⟨w.heap.size, 4, none⟩ (.int .u8 0)).setCell ⟨w.heap.size, 5, none⟩ (.bool true) = v6 at *
    have a0 := hA6.cell (i := 0) rfl
    have a1 := hA6.cell (i := 1) rfl
    have a2 := hA6.cell (i := 2) rfl
    have a3 := hA6.cell (i := 3) rfl
    have a4 := hA6.cell (i := 4) rfl
    have a5 := hA6.cell (i := 5) rfl
    have af := hA6.free
    have al := hA6.lt
    refine bodyPost_ret (v := .tuple #[.agg #[.float .f64 x, .float .f64 y, .float .f64 0, .float .f64 0, .int .u8 0, .bool true], .nilIface]) (by simp [results, Tryz.results210, go_sem, a0, a1, a2, a3, a4, a5, af]) rfl ⟨rfl, hP6⟩
set_option maxRecDepth 100000 in
set_option maxHeartbeats 8000000 in
theorem parsePt1_ (w0 : World) (pb : Nat) (x y z m : Nat) (r : List Nat) (big N : Bool) (w : World) (hx : x < 18446744073709551616) (hy : y < 18446744073709551616) (hz : z < 18446744073709551616) (hm : m < 18446744073709551616) (hNx : isNaN x = N) (hNy : isNaN y = N)
    (h : PS w0 pb w (encB big 8 x ++ (encB big 8 y ++ (encB big 8 z ++ r))) big) :
    Calls Tryz.prog 210 #[.pointer (some ⟨pb, 0, none⟩), .int .u8 1] w (fun e w' => e = .returned (.tuple #[.agg (ptC 1 (if N then [] else [⟨x, y, z, 0⟩])).toArray, .nilIface]) ∧ PW w0 pb w w' r big) := by
  have hpl : pb < w.heap.size := by obtain ⟨_, ⟨_, _, _, hB, _⟩, _⟩ := h; exact hB.lt
  have hge := h.ge
  obtain ⟨w1, hw1⟩ : ∃ w1, w1 = (w.alloc (.cells #[.float .f64 0, .float .f64 0, .float .f64 0, .float .f64 0, .int .u8 0, .bool false] 141)).alloc (.cells #[.float .f64 0, .float .f64 0, .float .f64 0, .float .f64 0, .int .u8 1] 139) := ⟨_, rfl⟩
  have hk1 : Stab.Keeps w w1 := by rw [hw1]; with_reducible (repeat first | exact Kx.r _ | assumption | refine Kx.a ?_ _ | refine Kx.d ?_ | refine Kx.e ?_ _ | refine Kx.s (by simp <;> omega) ?_ _ | refine Kx.t ?_ (by assumption))
  have hA : Blk w1 w.heap.size 141 [.float .f64 0, .float .f64 0, .float .f64 0, .float .f64 0, .int .u8 0, .bool false] := by rw [hw1]; with_reducible (repeat first | assumption | (refine Bx.n ⟨?_, ?_⟩ <;> focus (first | rfl | (simp; done) | omega)) | refine Bx.a ?_ _ | refine Bx.d ?_ | refine Bx.e ?_ _ | refine Bx.p (by first | omega | simp <;> omega) ?_)
  have hC : Blk w1 (w.heap.size + 1) 139 [.float .f64 0, .float .f64 0, .float .f64 0, .float .f64 0, .int .u8 1] := by rw [hw1]; with_reducible (repeat first | assumption | (refine Bx.n ⟨?_, ?_⟩ <;> focus (first | rfl | (simp; done) | omega)) | refine Bx.a ?_ _ | refine Bx.d ?_ | refine Bx.e ?_ _ | refine Bx.p (by first | omega | simp <;> omega) ?_)
  have hP : PW w0 pb w w1 _ big := PW.keeps ⟨h, KF.refl _ _⟩ hk1
  have HW := Lib.hid hw1
  clear h hk1 hw1
  go_enter Tryz.func210, Tryz.ntmps210
  go_wp2_with fail
  rw [← HW.out]
  refine (parseFloat64_ w0 pb x _ big _ hx hP.ps).mono ?_
  rintro e w2 ⟨rfl, hs, hk⟩
  replace hP := hP.read hs hk
  replace hA := blk_kf hA (show w.heap.size ≠ pb by omega) hk
  replace hC := blk_kf hC (show w.heap.size + 1 ≠ pb by omega) hk
  clear hs hk
  have c0 := hC.cell (i := 0) rfl
  have c1 := hC.cell (i := 1) rfl
  have c2 := hC.cell (i := 2) rfl
  have c3 := hC.cell (i := 3) rfl
  have c4 := hC.cell (i := 4) rfl
  have cf := hC.free
  have cl := hC.lt
  have hP2 := hP.put (i := 0) (u := .float .f64 x) hpl (show w.heap.size ≤ w.heap.size + 1 by omega)
  have hC2 := hC.set 0 (.float .f64 x)
  have hA2 := hA.past (a := ⟨w.heap.size + 1, 0, none⟩) (show w.heap.size ≠ w.heap.size + 1 by omega) (.float .f64 x)
  simp only [List.set] at hC2
  have HC := Lib.hid hC2
  have HA := Lib.hid hA2
  have HP := Lib.hid hP2
  clear hP hC hA hP2 hC2 hA2
  go_wp2_with fail
  have hP := HP.out
  have hC := HC.out
  have hA := HA.out
  clear HP HC HA c0 c1 c2 c3 c4 cf cl
  refine (parseFloat64_ w0 pb y _ big _ hy hP.ps).mono ?_
  rintro e w3 ⟨rfl, hs, hk⟩
  replace hP := hP.read hs hk
  replace hA := blk_kf hA (show w.heap.size ≠ pb by omega) hk
  replace hC := blk_kf hC (show w.heap.size + 1 ≠ pb by omega) hk
  clear hs hk
  have c0 := hC.cell (i := 0) rfl
  have c1 := hC.cell (i := 1) rfl
  have c2 := hC.cell (i := 2) rfl
  have c3 := hC.cell (i := 3) rfl
  have c4 := hC.cell (i := 4) rfl
  have cf := hC.free
  have cl := hC.lt
  have hP2 := hP.put (i := 1) (u := .float .f64 y) hpl (show w.heap.size ≤ w.heap.size + 1 by omega)
  have hC2 := hC.set 1 (.float .f64 y)
  have hA2 := hA.past (a := ⟨w.heap.size + 1, 1, none⟩) (show w.heap.size ≠ w.heap.size + 1 by omega) (.float .f64 y)
  simp only [List.set] at hC2
  have HC := Lib.hid hC2
  have HA := Lib.hid hA2
  have HP := Lib.hid hP2
  clear hP hC hA hP2 hC2 hA2
  go_wp2_with fail
  have hP := HP.out
  have hC := HC.out
  have hA := HA.out
  clear HP HC HA c0 c1 c2 c3 c4 cf cl
  refine (parseFloat64_ w0 pb z _ big _ hz hP.ps).mono ?_
  rintro e w4 ⟨rfl, hs, hk⟩
  replace hP := hP.read hs hk
  replace hA := blk_kf hA (show w.heap.size ≠ pb by omega) hk
  replace hC := blk_kf hC (show w.heap.size + 1 ≠ pb by omega) hk
  clear hs hk
  have c0 := hC.cell (i := 0) rfl
  have c1 := hC.cell (i := 1) rfl
  have c2 := hC.cell (i := 2) rfl
  have c3 := hC.cell (i := 3) rfl
  have c4 := hC.cell (i := 4) rfl
  have cf := hC.free
  have cl := hC.lt
  have hP2 := hP.put (i := 2) (u := .float .f64 z) hpl (show w.heap.size ≤ w.heap.size + 1 by omega)
  have hC2 := hC.set 2 (.float .f64 z)
  have hA2 := hA.past (a := ⟨w.heap.size + 1, 2, none⟩) (show w.heap.size ≠ w.heap.size + 1 by omega) (.float .f64 z)
  simp only [List.set] at hC2
  have HC := Lib.hid hC2
  have HA := Lib.hid hA2
  have HP := Lib.hid hP2
  clear hP hC hA hP2 hC2 hA2
  go_wp2_with fail
  have hP := HP.out
  have hC := HC.out
  have hA := HA.out
  clear HP HC HA c0 c1 c2 c3 c4 cf cl
  cases N with
  | true =>
    refine (isNaN_ x _).mono ?_
    rintro e v1 ⟨rfl, hk⟩
    replace hP := hP.keeps hk
    replace hC := hC.keep hk
    replace hA := hA.keep hk
    clear hk
    rw [hNx]
    have c0 := hC.cell (i := 0) rfl
    have c1 := hC.cell (i := 1) rfl
    have c2 := hC.cell (i := 2) rfl
    have c3 := hC.cell (i := 3) rfl
    have c4 := hC.cell (i := 4) rfl
    have cf := hC.free
    have cl := hC.lt
    go_wp2_with fail
    clear c0 c1 c2 c3 c4 cf cl
    refine (isNaN_ y _).mono ?_
    rintro e v2 ⟨rfl, hk⟩
    replace hP := hP.keeps hk
    replace hC := hC.keep hk
    replace hA := hA.keep hk
    clear hk
    rw [hNy]
    have c0 := hC.cell (i := 0) rfl
    have c1 := hC.cell (i := 1) rfl
    have c2 := hC.cell (i := 2) rfl
    have c3 := hC.cell (i := 3) rfl
    have c4 := hC.cell (i := 4) rfl
    have cf := hC.free
    have cl := hC.lt
    go_wp2_with fail
    clear c0 c1 c2 c3 c4 cf cl
    have hF : ∀ w, Calls Tryz.prog 200 #[.agg #[.float .f64 0, .float .f64 0, .float .f64 0, .float .f64 0, .int .u8 0, .bool false], .int .u8 (1 : Nat)] w (One w (.agg (ptC 1 []).toArray)) := fun w => ptForce_ 0 1 (by decide) (by decide) [] (by simp) w
    refine (hF _).mono ?_
    rintro e v5 ⟨rfl, hk⟩
    replace hP := hP.keeps hk
    replace hA := hA.keep hk
    clear hk hC hx hy hz hm hNx hNy HW
    have a0 := hA.cell (i := 0) rfl
    have a1 := hA.cell (i := 1) rfl
    have a2 := hA.cell (i := 2) rfl
    have a3 := hA.cell (i := 3) rfl
    have a4 := hA.cell (i := 4) rfl
    have a5 := hA.cell (i := 5) rfl
    have af := hA.free
    have al := hA.lt
    have HP := Lib.hid hP
    have HA := Lib.hid hA
    clear hP hA
    simp only [ptC, List.map_nil]
    go_wp2_with fail
    clear a0 a1 a2 a3 a4 a5 af al
    obtain ⟨hP6, hA6⟩ := PW.put6 HP.out HA.out hpl (Nat.le_refl _) (.float .f64 0) (.float .f64 0) (.float .f64 0) (.float .f64 0) (.int .u8 1) (.bool false)
    clear HP HA
    generalize (((((v5.setCell ⟨w.heap.size, 0, none⟩ (.float .f64 0)).setCell ⟨w.heap.size, 1, none⟩ (.float .f64 0)).setCell ⟨w.heap.size, 2, none⟩ (.float .f64 0)).setCell ⟨w.heap.size, 3, none⟩ (.float .f64 0)).setCell ⟨w.heap.size, 4, none⟩ (.int .u8 1)).setCell ⟨w.heap.size, 5, none⟩ (.bool false) = v6 at *
    have a0 := hA6.cell (i := 0) rfl
    have a1 := hA6.cell (i := 1) rfl
    have a2 := hA6.cell (i := 2) rfl
    have a3 := hA6.cell (i := 3) rfl
    have a4 := hA6.cell (i := 4) rfl
    have a5 := hA6.cell (i := 5) rfl
    have af := hA6.free
    have al := hA6.lt
    refine bodyPost_ret (v := .tuple #[.agg #[.float .f64 0, .float .f64 0, .float .f64 0, .float .f64 0, .int .u8 1, .bool false], .nilIface]) (by simp [results, Tryz.results210, go_sem, a0, a1, a2, a3, a4, a5, af]) rfl ⟨rfl, hP6⟩
  | false =>
    refine (isNaN_ x _).mono ?_
    rintro e v1 ⟨rfl, hk⟩
    replace hP := hP.keeps hk
    replace hC := hC.keep hk
    replace hA := hA.keep hk
    clear hk
    rw [hNx]
    have c0 := hC.cell (i := 0) rfl
    have c1 := hC.cell (i := 1) rfl
    have c2 := hC.cell (i := 2) rfl
    have c3 := hC.cell (i := 3) rfl
    have c4 := hC.cell (i := 4) rfl
    have cf := hC.free
    have cl := hC.lt
    go_wp2_with fail
    clear c0 c1 c2 c3 c4 cf cl
    refine (isNaN_ x _).mono ?_
    rintro e v2 ⟨rfl, hk⟩
    replace hP := hP.keeps hk
    replace hC := hC.keep hk
    replace hA := hA.keep hk
    clear hk
    rw [hNx]
    have c0 := hC.cell (i := 0) rfl
    have c1 := hC.cell (i := 1) rfl
    have c2 := hC.cell (i := 2) rfl
    have c3 := hC.cell (i := 3) rfl
    have c4 := hC.cell (i := 4) rfl
    have cf := hC.free
    have cl := hC.lt
    go_wp2_with fail
    clear c0 c1 c2 c3 c4 cf cl
    refine (isNaN_ y _).mono ?_
    rintro e v3 ⟨rfl, hk⟩
    replace hP := hP.keeps hk
    replace hC := hC.keep hk
    replace hA := hA.keep hk
    clear hk
    rw [hNy]
    have c0 := hC.cell (i := 0) rfl
    have c1 := hC.cell (i := 1) rfl
    have c2 := hC.cell (i := 2) rfl
    have c3 := hC.cell (i := 3) rfl
    have c4 := hC.cell (i := 4) rfl
    have cf := hC.free
    have cl := hC.lt
    go_wp2_with fail
    clear c0 c1 c2 c3 c4 cf cl
    have hF : ∀ w, Calls Tryz.prog 155 #[.agg #[.float .f64 x, .float .f64 y, .float .f64 z, .float .f64 0, .int .u8 (1 : Nat)]] w (One w (.agg (ptC 1 [⟨x, y, z, 0⟩]).toArray)) := fun w => newPoint_ 1 ⟨x, y, z, 0⟩ w
    refine (hF _).mono ?_
    rintro e v5 ⟨rfl, hk⟩
    replace hP := hP.keeps hk
    replace hA := hA.keep hk
    clear hk hC hx hy hz hm hNx hNy HW
    have a0 := hA.cell (i := 0) rfl
    have a1 := hA.cell (i := 1) rfl
    have a2 := hA.cell (i := 2) rfl
    have a3 := hA.cell (i := 3) rfl
    have a4 := hA.cell (i := 4) rfl
    have a5 := hA.cell (i := 5) rfl
    have af := hA.free
    have al := hA.lt
    have HP := Lib.hid hP
    have HA := Lib.hid hA
    clear hP hA
    simp only [ptC, List.map_nil]
    go_wp2_with fail
    clear a0 a1 a2 a3 a4 a5 af al
    obtain ⟨hP6, hA6⟩ := PW.put6 HP.out HA.out hpl (Nat.le_refl _) (.float .f64 x) (.float .f64 y) (.float .f64 z) (.float .f64 0) (.int .u8 1) (.bool true)
    clear HP HA
    generalize (((((v5.setCell ⟨w.heap.size, 0, none⟩ (.float .f64 x)).setCell ⟨w.heap.size, 1, none⟩ (.float .f64 y)).setCell ⟨w.heap.size, 2, none⟩ (.float .f64 z)).setCell ⟨w.heap.size, 3, none⟩ (.float .f64 0)).setCell ⟨w.heap.size, 4, none⟩ (.int .u8 1)).setCell ⟨w.heap.size, 5, none⟩ (.bool true) = v6 at *
    have a0 := hA6.cell (i := 0) rfl
    have a1 := hA6.cell (i := 1) rfl
    have a2 := hA6.cell (i := 2) rfl
    have a3 := hA6.cell (i := 3) rfl
    have a4 := hA6.cell (i := 4) rfl
    have a5 := hA6.cell (i := 5) rfl
    have af := hA6.free
    have al := hA6.lt
    refine bodyPost_ret (v := .tuple #[.agg #[.float .f64 x, .float .f64 y, .float .f64 z, .float .f64 0, .int .u8 1, .bool true], .nilIface]) (by simp [results, Tryz.results210, go_sem, a0, a1, a2, a3, a4, a5, af]) rfl ⟨rfl, hP6⟩
set_option maxRecDepth 100000 in
set_option maxHeartbeats 8000000 in
theorem parsePt2_ (w0 : World) (pb : Nat) (x y z m : Nat) (r : List Nat) (big N : Bool) (w : World) (hx : x < 18446744073709551616) (hy : y < 18446744073709551616) (hz : z < 18446744073709551616) (hm : m < 18446744073709551616) (hNx : isNaN x = N) (hNy : isNaN y = N)
    (h : PS w0 pb w (encB big 8 x ++ (encB big 8 y ++ (encB big 8 m ++ r))) big) :
    Calls Tryz.prog 210 #[.pointer (some ⟨pb, 0, none⟩), .int .u8 2] w (fun e w' => e = .returned (.tuple #[.agg (ptC 2 (if N then [] else [⟨x, y, 0, m⟩])).toArray, .nilIface]) ∧ PW w0 pb w w' r big) := by
  have hpl : pb < w.heap.size := by obtain ⟨_, ⟨_, _, _, hB, _⟩, _⟩ := h; exact hB.lt
  have hge := h.ge
  obtain ⟨w1, hw1⟩ : ∃ w1, w1 = (w.alloc (.cells #[.float .f64 0, .float .f64 0, .float .f64 0, .float .f64 0, .int .u8 0, .bool false] 141)).alloc (.cells #[.float .f64 0, .float .f64 0, .float .f64 0, .float .f64 0, .int .u8 2] 139) := ⟨_, rfl⟩
  have hk1 : Stab.Keeps w w1 := by rw [hw1]; with_reducible (repeat first | exact Kx.r _ | assumption | refine Kx.a ?_ _ | refine Kx.d ?_ | refine Kx.e ?_ _ | refine Kx.s (by simp <;> omega) ?_ _ | refine Kx.t ?_ (by assumption))
  have hA : Blk w1 w.heap.size 141 [.float .f64 0, .float .f64 0, .float .f64 0, .float .f64 0, .int .u8 0, .bool false] := by rw [hw1]; with_reducible (repeat first | assumption | (refine Bx.n ⟨?_, ?_⟩ <;> focus (first | rfl | (simp; done) | omega)) | refine Bx.a ?_ _ | refine Bx.d ?_ | refine Bx.e ?_ _ | refine Bx.p (by first | omega | simp <;> omega) ?_)
  have hC : Blk w1 (w.heap.size + 1) 139 [.float .f64 0, .float .f64 0, .float .f64 0, .float .f64 0, .int .u8 2] := by rw [hw1]; with_reducible (repeat first | assumption | (refine Bx.n ⟨?_, ?_⟩ <;> focus (first | rfl | (simp; done) | omega)) | refine Bx.a ?_ _ | refine Bx.d ?_ | refine Bx.e ?_ _ | refine Bx.p (by first | omega | simp <;> omega) ?_)
  have hP : PW w0 pb w w1 _ big := PW.keeps ⟨h, KF.refl _ _⟩ hk1
  have HW := Lib.hid hw1
  clear h hk1 hw1
  go_enter Tryz.func210, Tryz.ntmps210
  go_wp2_with fail
  rw [← HW.out]
  refine (parseFloat64_ w0 pb x _ big _ hx hP.ps).mono ?_
  rintro e w2 ⟨rfl, hs, hk⟩
  replace hP := hP.read hs hk
  replace hA := blk_kf hA (show w.heap.size ≠ pb by omega) hk
  replace hC := blk_kf hC (show w.heap.size + 1 ≠ pb by omega) hk
  clear hs hk
  have c0 := hC.cell (i := 0) rfl
  have c1 := hC.cell (i := 1) rfl
  have c2 := hC.cell (i := 2) rfl
  have c3 := hC.cell (i := 3) rfl
  have c4 := hC.cell (i := 4) rfl
  have cf := hC.free
  have cl := hC.lt
  have hP2 := hP.put (i := 0) (u := .float .f64 x) hpl (show w.heap.size ≤ w.heap.size + 1 by omega)
  have hC2 := hC.set 0 (.float .f64 x)
  have hA2 := hA.past (a := ⟨w.heap.size + 1, 0, none⟩) (show w.heap.size ≠ w.heap.size + 1 by omega) (.float .f64 x)
  simp only [List.set] at hC2
  have HC := Lib.hid hC2
  have HA := Lib.hid hA2
  have HP := Lib.hid hP2
  clear hP hC hA hP2 hC2 hA2
  go_wp2_with fail
  have hP := HP.out
  have hC := HC.out
  have hA := HA.out
  clear HP HC HA c0 c1 c2 c3 c4 cf cl
  refine (parseFloat64_ w0 pb y _ big _ hy hP.ps).mono ?_
  rintro e w3 ⟨rfl, hs, hk⟩
  replace hP := hP.read hs hk
  replace hA := blk_kf hA (show w.heap.size ≠ pb by omega) hk
  replace hC := blk_kf hC (show w.heap.size + 1 ≠ pb by omega) hk
  clear hs hk
  have c0 := hC.cell (i := 0) rfl
  have c1 := hC.cell (i := 1) rfl
  have c2 := hC.cell (i := 2) rfl
  have c3 := hC.cell (i := 3) rfl
  have c4 := hC.cell (i := 4) rfl
  have cf := hC.free
  have cl := hC.lt
  have hP2 := hP.put (i := 1) (u := .float .f64 y) hpl (show w.heap.size ≤ w.heap.size + 1 by omega)
  have hC2 := hC.set 1 (.float .f64 y)
  have hA2 := hA.past (a := ⟨w.heap.size + 1, 1, none⟩) (show w.heap.size ≠ w.heap.size + 1 by omega) (.float .f64 y)
  simp only [List.set] at hC2
  have HC := Lib.hid hC2
  have HA := Lib.hid hA2
  have HP := Lib.hid hP2
  clear hP hC hA hP2 hC2 hA2
  go_wp2_with fail
  have hP := HP.out
  have hC := HC.out
  have hA := HA.out
  clear HP HC HA c0 c1 c2 c3 c4 cf cl
  refine (parseFloat64_ w0 pb m _ big _ hm hP.ps).mono ?_
  rintro e w4 ⟨rfl, hs, hk⟩
  replace hP := hP.read hs hk
  replace hA := blk_kf hA (show w.heap.size ≠ pb by omega) hk
  replace hC := blk_kf hC (show w.heap.size + 1 ≠ pb by omega) hk
  clear hs hk
  have c0 := hC.cell (i := 0) rfl
  have c1 := hC.cell (i := 1) rfl
  have c2 := hC.cell (i := 2) rfl
  have c3 := hC.cell (i := 3) rfl
  have c4 := hC.cell (i := 4) rfl
  have cf := hC.free
  have cl := hC.lt
  have hP2 := hP.put (i := 3) (u := .float .f64 m) hpl (show w.heap.size ≤ w.heap.size + 1 by omega)
  have hC2 := hC.set 3 (.float .f64 m)
  have hA2 := hA.past (a := ⟨w.heap.size + 1, 3, none⟩) (show w.heap.size ≠ w.heap.size + 1 by omega) (.float .f64 m)
  simp only [List.set] at hC2
  have HC := Lib.hid hC2
  have HA := Lib.hid hA2
  have HP := Lib.hid hP2
  clear hP hC hA hP2 hC2 hA2
  go_wp2_with fail
  have hP := HP.out
  have hC := HC.out
  have hA := HA.out
  clear HP HC HA c0 c1 c2 c3 c4 cf cl
  cases N with
  | true =>
    refine (isNaN_ x _).mono ?_
    rintro e v1 ⟨rfl, hk⟩
    replace hP := hP.keeps hk
    replace hC := hC.keep hk
    replace hA := hA.keep hk
    clear hk
    rw [hNx]
    have c0 := hC.cell (i := 0) rfl
    have c1 := hC.cell (i := 1) rfl
    have c2 := hC.cell (i := 2) rfl
    have c3 := hC.cell (i := 3) rfl
    have c4 := hC.cell (i := 4) rfl
    have cf := hC.free
    have cl := hC.lt
    go_wp2_with fail
    clear c0 c1 c2 c3 c4 cf cl
    refine (isNaN_ y _).mono ?_
    rintro e v2 ⟨rfl, hk⟩
    replace hP := hP.keeps hk
    replace hC := hC.keep hk
    replace hA := hA.keep hk
    clear hk
    rw [hNy]
    have c0 := hC.cell (i := 0) rfl
    have c1 := hC.cell (i := 1) rfl
    have c2 := hC.cell (i := 2) rfl
    have c3 := hC.cell (i := 3) rfl
    have c4 := hC.cell (i := 4) rfl
    have cf := hC.free
    have cl := hC.lt
    go_wp2_with fail
    clear c0 c1 c2 c3 c4 cf cl
    have hF : ∀ w, Calls Tryz.prog 200 #[.agg #[.float .f64 0, .float .f64 0, .float .f64 0, .float .f64 0, .int .u8 0, .bool false], .int .u8 (2 : Nat)] w (One w (.agg (ptC 2 []).toArray)) := fun w => ptForce_ 0 2 (by decide) (by decide) [] (by simp) w
    refine (hF _).mono ?_
    rintro e v5 ⟨rfl, hk⟩
    replace hP := hP.keeps hk
    replace hA := hA.keep hk
    clear hk hC hx hy hz hm hNx hNy HW
    have a0 := hA.cell (i := 0) rfl
    have a1 := hA.cell (i := 1) rfl
    have a2 := hA.cell (i := 2) rfl
    have a3 := hA.cell (i := 3) rfl
    have a4 := hA.cell (i := 4) rfl
    have a5 := hA.cell (i := 5) rfl
    have af := hA.free
    have al := hA.lt
    have HP := Lib.hid hP
    have HA := Lib.hid hA
    clear hP hA
    simp only [ptC, List.map_nil]
    go_wp2_with fail
    clear a0 a1 a2 a3 a4 a5 af al
    obtain ⟨hP6, hA6⟩ := PW.put6 HP.out HA.out hpl (Nat.le_refl _) (.float .f64 0) (.float .f64 0) (.float .f64 0) (.float .f64 0) (.int .u8 2) (.bool false)
    clear HP HA
    generalize (((((v5.setCell ⟨w.heap.size, 0, none⟩ (.float .f64 0)).setCell ⟨w.heap.size, 1, none⟩ (.float .f64 0)).setCell ⟨w.heap.size, 2, none⟩ (.float .f64 0)).setCell ⟨w.heap.size, 3, none⟩ (.float .f64 0)).setCell ⟨w.heap.size, 4, none⟩ (.int .u8 2)).setCell ⟨w.heap.size, 5, none⟩ (.bool false) = v6 at *
    have a0 := hA6.cell (i := 0) rfl
    have a1 := hA6.cell (i := 1) rfl
    have a2 := hA6.cell (i := 2) rfl
    have a3 := hA6.cell (i := 3) rfl
    have a4 := hA6.cell (i := 4) rfl
    have a5 := hA6.cell (i := 5) rfl
    have af := hA6.free
    have al := hA6.lt
    refine bodyPost_ret (v := .tuple #[.agg #[.float .f64 0, .float .f64 0, .float .f64 0, .float .f64 0, .int .u8 2, .bool false], .nilIface]) (by simp [results, Tryz.results210, go_sem, a0, a1, a2, a3, a4, a5, af]) rfl ⟨rfl, hP6⟩
  | false =>
    refine (isNaN_ x _).mono ?_
    rintro e v1 ⟨rfl, hk⟩
    replace hP := hP.keeps hk
    replace hC := hC.keep hk
    replace hA := hA.keep hk
    clear hk
    rw [hNx]
    have c0 := hC.cell (i := 0) rfl
    have c1 := hC.cell (i := 1) rfl
    have c2 := hC.cell (i := 2) rfl
    have c3 := hC.cell (i := 3) rfl
    have c4 := hC.cell (i := 4) rfl
    have cf := hC.free
    have cl := hC.lt
    go_wp2_with fail
    clear c0 c1 c2 c3 c4 cf cl
    refine (isNaN_ x _).mono ?_
    rintro e v2 ⟨rfl, hk⟩
    replace hP := hP.keeps hk
    replace hC := hC.keep hk
    replace hA := hA.keep hk
    clear hk
    rw [hNx]
    have c0 := hC.cell (i := 0) rfl
    have c1 := hC.cell (i := 1) rfl
    have c2 := hC.cell (i := 2) rfl
    have c3 := hC.cell (i := 3) rfl
    have c4 := hC.cell (i := 4) rfl
    have cf := hC.free
    have cl := hC.lt
    go_wp2_with fail
    clear c0 c1 c2 c3 c4 cf cl
    refine (isNaN_ y _).mono ?_
    rintro e v3 ⟨rfl, hk⟩
    replace hP := hP.keeps hk
    replace hC := hC.keep hk
    replace hA := hA.keep hk
    clear hk
    rw [hNy]
    have c0 := hC.cell (i := 0) rfl
    have c1 := hC.cell (i := 1) rfl
    have c2 := hC.cell (i := 2) rfl
    have c3 := hC.cell (i := 3) rfl
    have c4 := hC.cell (i := 4) rfl
    have cf := hC.free
    have cl := hC.lt
    go_wp2_with fail
    clear c0 c1 c2 c3 c4 cf cl
    have hF : ∀ w, Calls Tryz.prog 155 #[.agg #[.float .f64 x, .float .f64 y, .float .f64 0, .float .f64 m, .int .u8 (2 : Nat)]] w (One w (.agg (ptC 2 [⟨x, y, 0, m⟩]).toArray)) := fun w => newPoint_ 2 ⟨x, y, 0, m⟩ w
    refine (hF _).mono ?_
    rintro e v5 ⟨rfl, hk⟩
    replace hP := hP.keeps hk
    replace hA := hA.keep hk
    clear hk hC hx hy hz hm hNx hNy HW
    have a0 := hA.cell (i := 0) rfl
    have a1 := hA.cell (i := 1) rfl
    have a2 := hA.cell (i := 2) rfl
    have a3 := hA.cell (i := 3) rfl
    have a4 := hA.cell (i := 4) rfl
    have a5 := hA.cell (i := 5) rfl
    have af := hA.free
    have al := hA.lt
    have HP := Lib.hid hP
    have HA := Lib.hid hA
    clear hP hA
    simp only [ptC, List.map_nil]
    go_wp2_with fail
    clear a0 a1 a2 a3 a4 a5 af al
    obtain ⟨hP6, hA6⟩ := PW.put6 HP.out HA.out hpl (Nat.le_refl _) (.float .f64 x) (.float .f64 y) (.float .f64 0) (.float .f64 m) (.int .u8 2) (.bool true)
    clear HP HA
    generalize (((((v5.setCell ⟨w.heap.size, 0, none⟩ (.float .f64 x)).setCell ⟨w.heap.size, 1, none⟩ (.float .f64 y)).setCell ⟨w.heap.size, 2, none⟩ (.float .f64 0)).setCell ⟨w.heap.size, 3, none⟩ (.float .f64 m)).setCell ⟨w.heap.size, 4, none⟩ (.int .u8 2)).setCell ⟨w.heap.size, 5, none⟩ (.bool true) = v6 at *
    have a0 := hA6.cell (i := 0) rfl
    have a1 := hA6.cell (i := 1) rfl
    have a2 := hA6.cell (i := 2) rfl
    have a3 := hA6.cell (i := 3) rfl
    have a4 := hA6.cell (i := 4) rfl
    have a5 := hA6.cell (i := 5) rfl
    have af := hA6.free
    have al := hA6.lt
    refine bodyPost_ret (v := .tuple #[.agg #[.float .f64 x, .float .f64 y, .float .f64 0, .float .f64 m, .int .u8 2, .bool true], .nilIface]) (by simp [results, Tryz.results210, go_sem, a0, a1, a2, a3, a4, a5, af]) rfl ⟨rfl, hP6⟩
set_option maxRecDepth 100000 in
set_option maxHeartbeats 8000000 in
theorem parsePt3_ (w0 : World) (pb : Nat) (x y z m : Nat) (r : List Nat) (big N : Bool) (w : World) (hx : x < 18446744073709551616) (hy : y < 18446744073709551616) (hz : z < 18446744073709551616) (hm : m < 18446744073709551616) (hNx : isNaN x = N) (hNy : isNaN y = N)
    (h : PS w0 pb w (encB big 8 x ++ (encB big 8 y ++ (encB big 8 z ++ (encB big 8 m ++ r)))) big) :
    Calls Tryz.prog 210 #[.pointer (some ⟨pb, 0, none⟩), .int .u8 3] w (fun e w' => e = .returned (.tuple #[.agg (ptC 3 (if N then [] else [⟨x, y, z, m⟩])).toArray, .nilIface]) ∧ PW w0 pb w w' r big) := by
  have hpl : pb < w.heap.size := by obtain ⟨_, ⟨_, _, _, hB, _⟩, _⟩ := h; exact hB.lt
  have hge := h.ge
  obtain ⟨w1, hw1⟩ : ∃ w1, w1 = (w.alloc (.cells #[.float .f64 0, .float .f64 0, .float .f64 0, .float .f64 0, .int .u8 0, .bool false] 141)).alloc (.cells #[.float .f64 0, .float .f64 0, .float .f64 0, .float .f64 0, .int .u8 3] 139) := ⟨_, rfl⟩
  have hk1 : Stab.Keeps w w1 := by rw [hw1]; with_reducible (repeat first | exact Kx.r _ | assumption | refine Kx.a ?_ _ | refine Kx.d ?_ | refine Kx.e ?_ _ | refine Kx.s (by simp <;> omega) ?_ _ | refine Kx.t ?_ (by assumption))
  have hA : Blk w1 w.heap.size 141 [.float .f64 0, .float .f64 0, .float .f64 0, .float .f64 0, .int .u8 0, .bool false] := by rw [hw1]; with_reducible (repeat first | assumption | (refine Bx.n ⟨?_, ?_⟩ <;> focus (first | rfl | (simp; done) | omega)) | refine Bx.a ?_ _ | refine Bx.d ?_ | refine Bx.e ?_ _ | refine Bx.p (by first | omega | simp <;> omega) ?_)
  have hC : Blk w1 (w.heap.size + 1) 139 [.float .f64 0, .float .f64 0, .float .f64 0, .float .f64 0, .int .u8 3] := by rw [hw1]; with_reducible (repeat first | assumption | (refine Bx.n ⟨?_, ?_⟩ <;> focus (first | rfl | (simp; done) | omega)) | refine Bx.a ?_ _ | refine Bx.d ?_ | refine Bx.e ?_ _ | refine Bx.p (by first | omega | simp <;> omega) ?_)
  have hP : PW w0 pb w w1 _ big := PW.keeps ⟨h, KF.refl _ _⟩ hk1
  have HW := Lib.hid hw1
  clear h hk1 hw1
  go_enter Tryz.func210, Tryz.ntmps210
  go_wp2_with fail
  rw [← HW.out]
  refine (parseFloat64_ w0 pb x _ big _ hx hP.ps).mono ?_
  rintro e w2 ⟨rfl, hs, hk⟩
  replace hP := hP.read hs hk
  replace hA := blk_kf hA (show w.heap.size ≠ pb by omega) hk
  replace hC := blk_kf hC (show w.heap.size + 1 ≠ pb by omega) hk
  clear hs hk
  have c0 := hC.cell (i := 0) rfl
  have c1 := hC.cell (i := 1) rfl
  have c2 := hC.cell (i := 2) rfl
  have c3 := hC.cell (i := 3) rfl
  have c4 := hC.cell (i := 4) rfl
  have cf := hC.free
  have cl := hC.lt
  have hP2 := hP.put (i := 0) (u := .float .f64 x) hpl (show w.heap.size ≤ w.heap.size + 1 by omega)
  have hC2 := hC.set 0 (.float .f64 x)
  have hA2 := hA.past (a := ⟨w.heap.size + 1, 0, none⟩) (show w.heap.size ≠ w.heap.size + 1 by omega) (.float .f64 x)
  simp only [List.set] at hC2
  have HC := Lib.hid hC2
  have HA := Lib.hid hA2
  have HP := Lib.hid hP2
  clear hP hC hA hP2 hC2 hA2
  go_wp2_with fail
  have hP := HP.out
  have hC := HC.out
  have hA := HA.out
  clear HP HC HA c0 c1 c2 c3 c4 cf cl
  refine (parseFloat64_ w0 pb y _ big _ hy hP.ps).mono ?_
  rintro e w3 ⟨rfl, hs, hk⟩
  replace hP := hP.read hs hk
  replace hA := blk_kf hA (show w.heap.size ≠ pb by omega) hk
  replace hC := blk_kf hC (show w.heap.size + 1 ≠ pb by omega) hk
  clear hs hk
  have c0 := hC.cell (i := 0) rfl
  have c1 := hC.cell (i := 1) rfl
  have c2 := hC.cell (i := 2) rfl
  have c3 := hC.cell (i := 3) rfl
  have c4 := hC.cell (i := 4) rfl
  have cf := hC.free
  have cl := hC.lt
  have hP2 := hP.put (i := 1) (u := .float .f64 y) hpl (show w.heap.size ≤ w.heap.size + 1 by omega)
  have hC2 := hC.set 1 (.float .f64 y)
  have hA2 := hA.past (a := ⟨w.heap.size + 1, 1, none⟩) (show w.heap.size ≠ w.heap.size + 1 by omega) (.float .f64 y)
  simp only [List.set] at hC2
  have HC := Lib.hid hC2
  have HA := Lib.hid hA2
  have HP := Lib.hid hP2
  clear hP hC hA hP2 hC2 hA2
  go_wp2_with fail
  have hP := HP.out
  have hC := HC.out
  have hA := HA.out
  clear HP HC HA c0 c1 c2 c3 c4 cf cl
  refine (parseFloat64_ w0 pb z _ big _ hz hP.ps).mono ?_
  rintro e w4 ⟨rfl, hs, hk⟩
  replace hP := hP.read hs hk
  replace hA := blk_kf hA (show w.heap.size ≠ pb by omega) hk
  replace hC := blk_kf hC (show w.heap.size + 1 ≠ pb by omega) hk
  clear hs hk
  have c0 := hC.cell (i := 0) rfl
  have c1 := hC.cell (i := 1) rfl
  have c2 := hC.cell (i := 2) rfl
  have c3 := hC.cell (i := 3) rfl
  have c4 := hC.cell (i := 4) rfl
  have cf := hC.free
  have cl := hC.lt
  have hP2 := hP.put (i := 2) (u := .float .f64 z) hpl (show w.heap.size ≤ w.heap.size + 1 by omega)
  have hC2 := hC.set 2 (.float .f64 z)
  have hA2 := hA.past (a := ⟨w.heap.size + 1, 2, none⟩) (show w.heap.size ≠ w.heap.size + 1 by omega) (.float .f64 z)
  simp only [List.set] at hC2
  have HC := Lib.hid hC2
  have HA := Lib.hid hA2
  have HP := Lib.hid hP2
  clear hP hC hA hP2 hC2 hA2
  go_wp2_with fail
  have hP := HP.out
  have hC := HC.out
  have hA := HA.out
  clear HP HC HA c0 c1 c2 c3 c4 cf cl
  refine (parseFloat64_ w0 pb m _ big _ hm hP.ps).mono ?_
  rintro e w5 ⟨rfl, hs, hk⟩
  replace hP := hP.read hs hk
  replace hA := blk_kf hA (show w.heap.size ≠ pb by omega) hk
  replace hC := blk_kf hC (show w.heap.size + 1 ≠ pb by omega) hk
  clear hs hk
  have c0 := hC.cell (i := 0) rfl
  have c1 := hC.cell (i := 1) rfl
  have c2 := hC.cell (i := 2) rfl
  have c3 := hC.cell (i := 3) rfl
  have c4 := hC.cell (i := 4) rfl
  have cf := hC.free
  have cl := hC.lt
  have hP2 := hP.put (i := 3) (u := .float .f64 m) hpl (show w.heap.size ≤ w.heap.size + 1 by omega)
  have hC2 := hC.set 3 (.float .f64 m)
  have hA2 := hA.past (a := ⟨w.heap.size + 1, 3, none⟩) (show w.heap.size ≠ w.heap.size + 1 by omega) (.float .f64 m)
  simp only [List.set] at hC2
  have HC := Lib.hid hC2
  have HA := Lib.hid hA2
  have HP := Lib.hid hP2
  clear hP hC hA hP2 hC2 hA2
  go_wp2_with fail
  have hP := HP.out
  have hC := HC.out
  have hA := HA.out
  clear HP HC HA c0 c1 c2 c3 c4 cf cl
  cases N with
  | true =>
    refine (isNaN_ x _).mono ?_
    rintro e v1 ⟨rfl, hk⟩
    replace hP := hP.keeps hk
    replace hC := hC.keep hk
    replace hA := hA.keep hk
    clear hk
    rw [hNx]
    have c0 := hC.cell (i := 0) rfl
    have c1 := hC.cell (i := 1) rfl
    have c2 := hC.cell (i := 2) rfl
    have c3 := hC.cell (i := 3) rfl
    have c4 := hC.cell (i := 4) rfl
    have cf := hC.free
    have cl := hC.lt
    go_wp2_with fail
    clear c0 c1 c2 c3 c4 cf cl
    refine (isNaN_ y _).mono ?_
    rintro e v2 ⟨rfl, hk⟩
    replace hP := hP.keeps hk
    replace hC := hC.keep hk
    replace hA := hA.keep hk
    clear hk
    rw [hNy]
    have c0 := hC.cell (i := 0) rfl
    have c1 := hC.cell (i := 1) rfl
    have c2 := hC.cell (i := 2) rfl
    have c3 := hC.cell (i := 3) rfl
    have c4 := hC.cell (i := 4) rfl
    have cf := hC.free
    have cl := hC.lt
    go_wp2_with fail
    clear c0 c1 c2 c3 c4 cf cl
    have hF : ∀ w, Calls Tryz.prog 200 #[.agg #[.float .f64 0, .float .f64 0, .float .f64 0, .float .f64 0, .int .u8 0, .bool false], .int .u8 (3 : Nat)] w (One w (.agg (ptC 3 []).toArray)) := fun w => ptForce_ 0 3 (by decide) (by decide) [] (by simp) w
    refine (hF _).mono ?_
    rintro e v5 ⟨rfl, hk⟩
    replace hP := hP.keeps hk
    replace hA := hA.keep hk
    clear hk hC hx hy hz hm hNx hNy HW
    have a0 := hA.cell (i := 0) rfl
    have a1 := hA.cell (i := 1) rfl
    have a2 := hA.cell (i := 2) rfl
    have a3 := hA.cell (i := 3) rfl
    have a4 := hA.cell (i := 4) rfl
    have a5 := hA.cell (i := 5) rfl
    have af := hA.free
    have al := hA.lt
    have HP := Lib.hid hP
    have HA := Lib.hid hA
    clear hP hA
    simp only [ptC, List.map_nil]
    go_wp2_with fail
    clear a0 a1 a2 a3 a4 a5 af al
    obtain ⟨hP6, hA6⟩ := PW.put6 HP.out HA.out hpl (Nat.le_refl _) (.float .f64 0) (.float .f64 0) (.float .f64 0) (.float .f64 0) (.int .u8 3) (.bool false)
    clear HP HA
    generalize (((((v5.setCell ⟨w.heap.size, 0, none⟩ (.float .f64 0)).setCell ⟨w.heap.size, 1, none⟩ (.float .f64 0)).setCell ⟨w.heap.size, 2, none⟩ (.float .f64 0)).setCell ⟨w.heap.size, 3, none⟩ (.float .f64 0)).setCell ⟨w.heap.size, 4, none⟩ (.int .u8 3)).setCell ⟨w.heap.size, 5, none⟩ (.bool false) = v6 at *
    have a0 := hA6.cell (i := 0) rfl
    have a1 := hA6.cell (i := 1) rfl
    have a2 := hA6.cell (i := 2) rfl
    have a3 := hA6.cell (i := 3) rfl
    have a4 := hA6.cell (i := 4) rfl
    have a5 := hA6.cell (i := 5) rfl
    have af := hA6.free
    have al := hA6.lt
    refine bodyPost_ret (v := .tuple #[.agg #[.float .f64 0, .float .f64 0, .float .f64 0, .float .f64 0, .int .u8 3, .bool false], .nilIface]) (by simp [results, Tryz.results210, go_sem, a0, a1, a2, a3, a4, a5, af]) rfl ⟨rfl, hP6⟩
  | false =>
    refine (isNaN_ x _).mono ?_
    rintro e v1 ⟨rfl, hk⟩
    replace hP := hP.keeps hk
    replace hC := hC.keep hk
    replace hA := hA.keep hk
    clear hk
    rw [hNx]
    have c0 := hC.cell (i := 0) rfl
    have c1 := hC.cell (i := 1) rfl
    have c2 := hC.cell (i := 2) rfl
    have c3 := hC.cell (i := 3) rfl
    have c4 := hC.cell (i := 4) rfl
    have cf := hC.free
    have cl := hC.lt
    go_wp2_with fail
    clear c0 c1 c2 c3 c4 cf cl
    refine (isNaN_ x _).mono ?_
    rintro e v2 ⟨rfl, hk⟩
    replace hP := hP.keeps hk
    replace hC := hC.keep hk
    replace hA := hA.keep hk
    clear hk
    rw [hNx]
    have c0 := hC.cell (i := 0) rfl
    have c1 := hC.cell (i := 1) rfl
    have c2 := hC.cell (i := 2) rfl
    have c3 := hC.cell (i := 3) rfl
    have c4 := hC.cell (i := 4) rfl
    have cf := hC.free
    have cl := hC.lt
    go_wp2_with fail
    clear c0 c1 c2 c3 c4 cf cl
    refine (isNaN_ y _).mono ?_
    rintro e v3 ⟨rfl, hk⟩
    replace hP := hP.keeps hk
    replace hC := hC.keep hk
    replace hA := hA.keep hk
    clear hk
    rw [hNy]
    have c0 := hC.cell (i := 0) rfl
    have c1 := hC.cell (i := 1) rfl
    have c2 := hC.cell (i := 2) rfl
    have c3 := hC.cell (i := 3) rfl
    have c4 := hC.cell (i := 4) rfl
    have cf := hC.free
    have cl := hC.lt
    go_wp2_with fail
    clear c0 c1 c2 c3 c4 cf cl
    have hF : ∀ w, Calls Tryz.prog 155 #[.agg #[.float .f64 x, .float .f64 y, .float .f64 z, .float .f64 m, .int .u8 (3 : Nat)]] w (One w (.agg (ptC 3 [⟨x, y, z, m⟩]).toArray)) := fun w => newPoint_ 3 ⟨x, y, z, m⟩ w
    refine (hF _).mono ?_
    rintro e v5 ⟨rfl, hk⟩
    replace hP := hP.keeps hk
    replace hA := hA.keep hk
    clear hk hC hx hy hz hm hNx hNy HW
    have a0 := hA.cell (i := 0) rfl
    have a1 := hA.cell (i := 1) rfl
    have a2 := hA.cell (i := 2) rfl
    have a3 := hA.cell (i := 3) rfl
    have a4 := hA.cell (i := 4) rfl
    have a5 := hA.cell (i := 5) rfl
    have af := hA.free
    have al := hA.lt
    have HP := Lib.hid hP
    have HA := Lib.hid hA
    clear hP hA
    simp only [ptC, List.map_nil]
    go_wp2_with fail
    clear a0 a1 a2 a3 a4 a5 af al
    obtain ⟨hP6, hA6⟩ := PW.put6 HP.out HA.out hpl (Nat.le_refl _) (.float .f64 x) (.float .f64 y) (.float .f64 z) (.float .f64 m) (.int .u8 3) (.bool true)
    clear HP HA
    generalize (((((v5.setCell ⟨w.heap.size, 0, none⟩ (.float .f64 x)).setCell ⟨w.heap.size, 1, none⟩ (.float .f64 y)).setCell ⟨w.heap.size, 2, none⟩ (.float .f64 z)).setCell ⟨w.heap.size, 3, none⟩ (.float .f64 m)).setCell ⟨w.heap.size, 4, none⟩ (.int .u8 3)).setCell ⟨w.heap.size, 5, none⟩ (.bool true) = v6 at *
    have a0 := hA6.cell (i := 0) rfl
    have a1 := hA6.cell (i := 1) rfl
    have a2 := hA6.cell (i := 2) rfl
    have a3 := hA6.cell (i := 3) rfl
    have a4 := hA6.cell (i := 4) rfl
    have a5 := hA6.cell (i := 5) rfl
    have af := hA6.free
    have al := hA6.lt
    refine bodyPost_ret (v := .tuple #[.agg #[.float .f64 x, .float .f64 y, .float .f64 z, .float .f64 m, .int .u8 3, .bool true], .nilIface]) (by simp [results, Tryz.results210, go_sem, a0, a1, a2, a3, a4, a5, af]) rfl ⟨rfl, hP6⟩
theorem isNaN_nanB : isNaN nanB = true := by decide +kernel
theorem parsePoint_ (w0 : World) (pb d : Nat) (hd : d < 4) (ps : List Pl) (hl : ps.length ≤ 1) (hn : ∀ p ∈ ps, p.norm d) (hr : ∀ p ∈ ps, isNaN p.x = false ∧ isNaN p.y = false) (hB : ∀ p ∈ ps, PlB p) (r : List Nat) (big : Bool) (w : World) (h : PS w0 pb w (ptE big d ps ++ r) big) :
    Calls Tryz.prog 210 #[.pointer (some ⟨pb, 0, none⟩), .int .u8 d] w (GPost w0 pb w r big PtR (.node 1 d ps [])) := by
  unfold ptE at h
  have h4 : d = 0 ∨ d = 1 ∨ d = 2 ∨ d = 3 := by omega
  cases ps with
  | nil =>
    rcases h4 with rfl | rfl | rfl | rfl
    · have h2 := parsePt0_ w0 pb nanB nanB 0 0 r big true w (by decide) (by decide) (by decide) (by decide) isNaN_nanB isNaN_nanB (by simpa [wid, has3, hasM, encN8, List.replicate, List.append_assoc] using h)
      refine h2.mono ?_
      rintro e w2 ⟨rfl, h3⟩
      exact ⟨_, rfl, h3.ps, h3.kf, 0, [], rfl, rfl, by omega, by simp, by simp⟩
    · have h2 := parsePt1_ w0 pb nanB nanB nanB 0 r big true w (by decide) (by decide) (by decide) (by decide) isNaN_nanB isNaN_nanB (by simpa [wid, has3, hasM, encN8, List.replicate, List.append_assoc] using h)
      refine h2.mono ?_
      rintro e w2 ⟨rfl, h3⟩
      exact ⟨_, rfl, h3.ps, h3.kf, 1, [], rfl, rfl, by omega, by simp, by simp⟩
    · have h2 := parsePt2_ w0 pb nanB nanB 0 nanB r big true w (by decide) (by decide) (by decide) (by decide) isNaN_nanB isNaN_nanB (by simpa [wid, has3, hasM, encN8, List.replicate, List.append_assoc] using h)
      refine h2.mono ?_
      rintro e w2 ⟨rfl, h3⟩
      exact ⟨_, rfl, h3.ps, h3.kf, 2, [], rfl, rfl, by omega, by simp, by simp⟩
    · have h2 := parsePt3_ w0 pb nanB nanB nanB nanB r big true w (by decide) (by decide) (by decide) (by decide) isNaN_nanB isNaN_nanB (by simpa [wid, has3, hasM, encN8, List.replicate, List.append_assoc] using h)
      refine h2.mono ?_
      rintro e w2 ⟨rfl, h3⟩
      exact ⟨_, rfl, h3.ps, h3.kf, 3, [], rfl, rfl, by omega, by simp, by simp⟩
  | cons p l =>
    obtain rfl : l = [] := by cases l with | nil => rfl | cons _ _ => simp at hl
    have hn1 := hn p (by simp)
    have hr1 := hr p (by simp)
    have hB1 := hB p (by simp)
    have hn' := hn
    obtain ⟨x, y, z, m⟩ := p
    obtain ⟨hz, hm⟩ := hn1
    obtain ⟨b1, b2, b3, b4⟩ := hB1
    unfold natB at b1 b2 b3 b4
    simp only at hz hm hr1 b1 b2 b3 b4
    rcases h4 with rfl | rfl | rfl | rfl
    · obtain rfl := hz (by decide); obtain rfl := hm (by decide); have h2 := parsePt0_ w0 pb x y 0 0 r big false w b1 b2 b3 b4 hr1.1 hr1.2 (by simpa [numsOf, Pl.nums, has3, hasM, encN8, List.append_assoc] using h)
      refine h2.mono ?_
      rintro e w2 ⟨rfl, h3⟩
      exact ⟨_, rfl, h3.ps, h3.kf, 0, [_], rfl, rfl, by omega, by simp, hn'⟩
    · obtain rfl := hm (by decide); have h2 := parsePt1_ w0 pb x y z 0 r big false w b1 b2 b3 b4 hr1.1 hr1.2 (by simpa [numsOf, Pl.nums, has3, hasM, encN8, List.append_assoc] using h)
      refine h2.mono ?_
      rintro e w2 ⟨rfl, h3⟩
      exact ⟨_, rfl, h3.ps, h3.kf, 1, [_], rfl, rfl, by omega, by simp, hn'⟩
    · obtain rfl := hz (by decide); have h2 := parsePt2_ w0 pb x y 0 m r big false w b1 b2 b3 b4 hr1.1 hr1.2 (by simpa [numsOf, Pl.nums, has3, hasM, encN8, List.append_assoc] using h)
      refine h2.mono ?_
      rintro e w2 ⟨rfl, h3⟩
      exact ⟨_, rfl, h3.ps, h3.kf, 2, [_], rfl, rfl, by omega, by simp, hn'⟩
    · have h2 := parsePt3_ w0 pb x y z m r big false w b1 b2 b3 b4 hr1.1 hr1.2 (by simpa [numsOf, Pl.nums, has3, hasM, encN8, List.append_assoc] using h)
      refine h2.mono ?_
      rintro e w2 ⟨rfl, h3⟩
      exact ⟨_, rfl, h3.ps, h3.kf, 3, [_], rfl, rfl, by omega, by simp, hn'⟩
end Go.Proofs.YtbakhldjfplbfaaGreat
set_option linter.unusedVariables false
set_option linter.unusedSimpArgs false
namespace Go.Proofs.YtbakhldjfplbfaaGreat
open Go.RowKit Go.Fl Go.Sl Go.Pg Go.Ch Go.Kf Go.By
theorem infoF8 : (Tryz.prog.info? 45).map (fun i => (i.zero, i.size, i.bytes)) = some (some (.float .f64 0), 1, 8) := by kernel_rfl
theorem made_f8 (N : Nat) : madeCells (Value.float .f64 0).cells (N * 1) = Array.replicate N (Value.float .f64 0) := by
  apply Array.ext
  · rw [size_madeCells]; simp
  · intro i h1 h2
    simp [madeCells, Value.cells, Nat.mod_one]
def FloatsPost (w : World) (l : List Nat) (e : Ending) (w' : World) : Prop := ∃ A C, e = .returned (.slice A l.length C) ∧ Stab.Keeps w w' ∧ Sz w' A l.length C 1 (encN l)
theorem leN_at (l : List Nat) (k : Nat) (hk : k < l.length) (j : Nat) (u : Value) (hu : (bytesV (leB 8 l[k]))[j]? = some u) : (bytesV (leN l))[k * 8 + j]? = some u := by
  unfold bytesV leN at *
  have hj : j < 8 := by
    rcases Nat.lt_or_ge j 8 with h | h
    · exact h
    · rw [List.getElem?_eq_none (by rw [List.length_map, leB_len]; exact h)] at hu; cases hu
  rw [List.getElem?_map] at hu ⊢
  rw [flat_get' (leB 8) 8 (leB_len 8) l k j hk hj]
  exact hu
set_option maxRecDepth 100000 in
set_option maxHeartbeats 4000000 in
theorem baf_ (a : Option Addr) (n cap : Nat) (l : List Nat) (w : World) (hn : l.length * 8 = n) (h : Sz w a n cap 1 (bytesV (leN l))) (hm : l.length ≤ 1000000) (hb : ∀ x ∈ l, natB x) :
    Calls Tryz.prog 225 #[.slice a n cap] w (FloatsPost w l) := by
  rcases Nat.eq_zero_or_pos l.length with h0 | h0
  · have hl : l = [] := List.eq_nil_of_length_eq_zero h0
    subst hl
    obtain rfl : n = 0 := by simpa using hn.symm
    go_enter Tryz.func225, Tryz.ntmps225
    go_wp2_with fail
    go_ret
    exact ⟨none, 0, rfl, by with_reducible (repeat first | exact Kx.r _ | assumption | refine Kx.a ?_ _ | refine Kx.d ?_ | refine Kx.e ?_ _ | refine Kx.s (by simp <;> omega) ?_ _ | refine Kx.t ?_ (by assumption)), Sz.nil _ _⟩
  obtain ⟨m, hml⟩ : ∃ m, l.length = m := ⟨_, rfl⟩
  have hne : ((n : Int) == 0) = false := by simp; omega
  have hq : (n : Int).tdiv 8 = (m : Int) := by rw [← hn, hml, Int.natCast_mul]; exact Int.mul_tdiv_cancel _ (by omega)
  have hmk : ∀ w : World, (Instr.makeSlice 22 (.int .i64 m) (.int .i64 m)).run Tryz.prog w = .ok (.slice (some ⟨w.heap.size, 0, none⟩) m m) (w.alloc (.cells (Array.replicate m (.float .f64 0)) 45)) := fun w => by
    have := run_makeN (P := Tryz.prog) 22 45 _ 1 8 m Tryz.underlying22 infoF8 (by omega) (by omega) w
    rw [made_f8] at this
    exact this
  have hcap := h.le
  have hcm := h.max
  unfold maxLen at hcm
  go_enter Tryz.func225, Tryz.ntmps225
  have HN := Lib.hid hn
  have HML := Lib.hid hml
  have hkA := Stab.Keeps.alloc (Stab.Keeps.refl w) (.cells (Array.replicate m (.float .f64 0)) 45)
  have hBA := blk_rep w m (.float .f64 0) 45
  have hmm : m ≤ 1000000 := by omega
  have hm0 : 0 < m := by omega
  clear hn hml hm h0
  go_wp2_with fail
  generalize (w.alloc (.cells (Array.replicate m (.float .f64 0)) 45)) = w1 at *
  clear hmk hq
  unfold FloatsPost
  rw [HML.out]
  go_loopw [14] (fun iv wr => ∃ k : Nat, k ≤ m ∧ iv = .int .i64 k ∧ Stab.Keeps w wr ∧ Blk wr w.heap.size 45 (encN (l.take k) ++ List.replicate (m - k) (.float .f64 0))) (fun iv _ => m - (intOf iv).toNat)
  case atStart =>
    refine ⟨0, by omega, rfl, hkA, ?_⟩
    simpa [encN] using hBA
  case round =>
    clear hkA hBA
    obtain ⟨k, hk, rfl, hK, hB⟩ := hrel
    by_cases hlt : k < m
    · have hkl : k < l.length := by have := HML.out; omega
      have hNN : k * 8 + 8 ≤ n := by have := HN.out; have := HML.out; omega
      obtain ⟨b, off, ha, hbw, _⟩ := (h.keep hK).elem (i := 0) (by omega)
      subst ha
      obtain ⟨b', o', e', hb', hcc⟩ := (h.some_ (by omega)).at_ _ rfl
      cases e'
      have hbx := hb l[k] (List.getElem_mem hkl)
      have hat := leN_at l k hkl
      have htk : encN (l.take (k + 1)) = encN (l.take k) ++ [.float .f64 l[k]] := by unfold encN; rw [List.take_succ_eq_append_getElem hkl, List.map_append]; rfl
      unfold natB at hbx
      generalize l[k] = x at *
      have hfx : ∀ w : World, (callFunc 60 #[.int .u64 x]).run Tryz.prog w = .ok (.value (.float .f64 x)) w := ext_from x
      have hC : ∀ w2, Stab.Keeps wr w2 → Calls Tryz.prog 228 #[.agg #[], .slice (some ⟨b, off + 8 * k, none⟩) (n - 8 * k) (cap - 8 * k)] w2 (One w2 (.int .u64 x)) := fun w2 hk2 =>
        rdL64_ b (off + 8 * k) (n - 8 * k) (cap - 8 * k) x w2 (by omega) hbx fun j u hu => by
          have := hcc (k * 8 + j) u (hat j u hu)
          rw [World.cell?_of_block (a := ⟨b, off + 8 * k + j, none⟩) ((Stab.Keeps.trans hK hk2).block b hb')]
          rw [show off + 8 * k + j = off + (k * 8 + j) by omega]
          exact this
      have HC := Lib.hid hC
      have hg1 : (0 : Int) ≤ 8 * (k : Int) := by omega
      have hg2 : 8 * (k : Int) ≤ (n : Int) := by omega
      have hg3 : ¬ cap = 8 * k := by omega
      have hlen : (encN (l.take k)).length = k := by simp [encN]; have := HML.out; omega
      have HL := Lib.hid hlen
      have HT := Lib.hid htk
      have hf := hB.free
      have hlw := hB.lt
      clear hC hat hcc htk hlen hNN hkl
      go_upto_region 7 with (fail)
      refine Stab.keep_tail 10 (fun _ _ _ => True) (fun _ => false) (fun k => k == 7 || k == 8) Stab.pre_none (by kernel_rfl) (by kernel_rfl) fun hcx => ?_
      simp only [List.take_succ_cons, List.take_zero, List.drop_succ_cons, List.drop_zero]
      iterate 7 ((with_reducible refine Stab.quiet ?_ ?_ ?_ ?_); rfl; rfl; rfl; intro K hK; go_big_quiet_op; refine hK _ ?_; clear hK K)
      (with_reducible refine Stab.one ?_ ?_ ?_ ?_); rfl; rfl; rfl
      apply Exists.intro
      refine ⟨fun w1 hw1 => ?_, fun K hK => ?_⟩
      · go_simp
        (go_at_call 228; exact HC.out _ hw1)
      go_simp
      refine hK _ ?_
      clear hK K
      (with_reducible refine Stab.one ?_ ?_ ?_ ?_); rfl; rfl; rfl
      apply Exists.intro
      refine ⟨fun w1 hw1 => ?_, fun K hK => ?_⟩
      · go_simp
        exact ⟨Stab.Keeps.refl _, rfl⟩
      go_simp
      refine hK _ ?_
      clear hK K
      (with_reducible refine Stab.quiet ?_ ?_ ?_ ?_); rfl; rfl; rfl; intro K hK; go_big_quiet_op; refine hK _ ?_; clear hK K
      refine Stab.nil fun w2 hk2 _ => ?_
      have hB2 := hB.keep hk2
      have hK2 := Stab.Keeps.trans hK hk2
      have HB := Lib.hid hB2
      have hf2 := hB2.free
      have hl2 := hB2.lt
      have hcc := hB2.cell (i := k) (v := .float .f64 0) (by rw [List.getElem?_append_right (by rw [HL.out]; omega), HL.out, Nat.sub_self, List.getElem?_replicate, if_pos (by omega)])
      clear hcx hB hK hk2 hg1 hg2 hg3 hb' hbw h hf hlw HC
      go_wp2_with fail
      have hB3 := HB.out.set k (.float .f64 x)
      have e3 : (encN (l.take k) ++ List.replicate (m - k) (Value.float .f64 0)).set k (.float .f64 x) = encN (l.take (k + 1)) ++ List.replicate (m - (k + 1)) (.float .f64 0) := by
        rw [show m - k = (m - (k + 1)) + 1 by omega, List.replicate_succ, HT.out, List.append_assoc]
        conv => lhs; rw [List.set_append_right k _ (by rw [HL.out]; omega)]
        rw [HL.out, Nat.sub_self]
        rfl
      rw [e3] at hB3
      exact ⟨⟨k + 1, by omega, by go_num, Stab.Keeps.setCell (Nat.le_refl _) hK2 _, hB3⟩, by simp [intOf]; omega⟩
    · obtain rfl : m = k := by omega
      rw [List.take_of_length_le (by have := HML.out; omega), Nat.sub_self, List.replicate_zero, List.append_nil] at hB
      clear h
      go_wp2_with fail
      go_ret
      have hsz := sz_blk hB (n := m) (by simp [encN]; exact HML.out) (by unfold maxLen; omega)
      have HM := HML.out
      subst HM
      exact ⟨_, _, rfl, hK, hsz⟩
end Go.Proofs.YtbakhldjfplbfaaGreat
set_option linter.unusedVariables false
set_option linter.unusedSimpArgs false
namespace Go.Proofs.YtbakhldjfplbfaaGreat
open Go.RowKit Go.Fl Go.Sl Go.Pg Go.Ch Go.Kf Go.By
structure FlipK (fb : Nat) (w w' : World) : Prop where
  kf : KF (fun b => b ≠ fb) w w'
  keeps : ∀ w0, Stab.Keeps w0 w → w0.heap.size ≤ fb → Stab.Keeps w0 w'
theorem FlipK.refl (fb : Nat) (w : World) : FlipK fb w w := ⟨KF.refl _ _, fun _ h _ => h⟩
theorem FlipK.put {fb : Nat} {w w' : World} (h : FlipK fb w w') (i : Nat) (u : Value) : FlipK fb w (w'.setCell ⟨fb, i, none⟩ u) := ⟨KF.set (by simp) h.kf, fun w0 h1 h2 => keeps_set (h.keeps w0 h1 h2) h2⟩
theorem FlipK.drew {fb : Nat} {w w' : World} (h : FlipK fb w w') : FlipK fb w w'.drew := ⟨h.kf.drew, fun w0 h1 h2 => Stab.Keeps.drew (h.keeps w0 h1 h2)⟩
/-- two bytes exchanged -/
theorem FlipK.swap {fb : Nat} {w w' : World} {vs : List Value} (h : FlipK fb w w') (hB : Blk w' fb 5 vs) (i j : Nat) (u v : Value) :
    FlipK fb w ((w'.setCell ⟨fb, i, none⟩ u).setCell ⟨fb, j, none⟩ v).drew ∧ Blk ((w'.setCell ⟨fb, i, none⟩ u).setCell ⟨fb, j, none⟩ v).drew fb 5 ((vs.set i u).set j v) :=
  ⟨((h.put i u).put j v).drew, ((hB.set i u).set j v).keep (Stab.Keeps.drew (Stab.Keeps.refl _))⟩
theorem set_get2 {vs : List Value} {i j p : Nat} (u v : Value) {x : Value} (h : vs[p]? = some x) (h1 : i ≠ p) (h2 : j ≠ p) : ((vs.set i u).set j v)[p]? = some x := by rw [List.getElem?_set_ne h2, List.getElem?_set_ne h1]; exact h
theorem flip8 (P R : List Value) (ii : Nat) (h : P.length = ii) (a0 a1 a2 a3 a4 a5 a6 a7 c0 c1 c2 c3 c4 c5 c6 c7 : Value) :
    ((((((((P ++ (a0 :: a1 :: a2 :: a3 :: a4 :: a5 :: a6 :: a7 :: R)).set ii c0).set (ii + 7) c7).set (ii + 1) c1).set (ii + 6) c6).set (ii + 2) c2).set (ii + 5) c5).set (ii + 3) c3).set (ii + 4) c4 = P ++ (c0 :: c1 :: c2 :: c3 :: c4 :: c5 :: c6 :: c7 :: R) := by
  subst h
  have e : ∀ (L : List Value) (i : Nat) (u : Value), (P ++ L).set (P.length + i) u = P ++ L.set i u := fun L i u => by rw [List.set_append_right _ _ (by omega), Nat.add_sub_cancel_left]
  have e0 : ∀ (L : List Value) (u : Value), (P ++ L).set P.length u = P ++ L.set 0 u := fun L u => e L 0 u
  simp only [e0, e, List.set]
set_option maxRecDepth 100000 in
set_option maxHeartbeats 4000000 in
theorem flip_ (fb n : Nat) (l : List Nat) (w : World) (hn : l.length * 8 = n) (hB : Blk w fb 5 (bytesV (encN8 true l))) (hm : l.length ≤ 1000000) :
    Calls Tryz.prog 224 #[.slice (some ⟨fb, 0, none⟩) n n] w (fun e w' => e = .returned (.tuple #[]) ∧ Blk w' fb 5 (bytesV (leN l)) ∧ FlipK fb w w') := by
  obtain ⟨m, hml⟩ : ∃ m, l.length = m := ⟨_, rfl⟩
  have HN := Lib.hid hn
  have HML := Lib.hid hml
  have hmm : m ≤ 1000000 := by omega
  have hnm : n ≤ 8000000 := by omega
  clear hn hml hm
  go_enter Tryz.func224, Tryz.ntmps224
  go_wp2_with fail
  go_loopw [2] (fun iv wr => ∃ k ii : Nat, k ≤ m ∧ ii = 8 * k ∧ iv = .int .i64 ii ∧ FlipK fb w wr ∧ Blk wr fb 5 (bytesV (leN (l.take k)) ++ bytesV (encN8 true (l.drop k)))) (fun iv _ => n - (intOf iv).toNat)
  case atStart =>
    refine ⟨0, 0, by omega, by omega, rfl, FlipK.refl _ _, ?_⟩
    simpa [leN, bytesV] using hB
  case round =>
    clear hB
    obtain ⟨k, ii, hk, hii, rfl, hK, hB⟩ := hrel
    by_cases hlt : k < m
    · have hkl : k < l.length := by have := HML.out; omega
      have h8 : ii + 8 ≤ n := by have := HN.out; have := HML.out; omega
      obtain ⟨b0, b1, b2, b3, b4, b5, b6, b7, hx⟩ : ∃ b0 b1 b2 b3 b4 b5 b6 b7, leB 8 l[k] = [b0, b1, b2, b3, b4, b5, b6, b7] := ⟨_, _, _, _, _, _, _, _, rfl⟩
      have hd : encN8 true (l.drop k) = [b7, b6, b5, b4, b3, b2, b1, b0] ++ encN8 true (l.drop (k + 1)) := by
        rw [List.drop_eq_getElem_cons hkl]
        show encB true 8 l[k] ++ _ = _
        unfold encB
        rw [if_pos rfl, hx]; rfl
      have ht : leN (l.take (k + 1)) = leN (l.take k) ++ [b0, b1, b2, b3, b4, b5, b6, b7] := by
        rw [List.take_succ_eq_append_getElem hkl, leN_app, leN_cons, hx]; simp [leN]
      have hpl : (bytesV (leN (l.take k))).length = ii := by rw [bytesV_len, leN_len, List.length_take]; have := HML.out; omega
      rw [hd, bytesV_app] at hB
      generalize hP : bytesV (leN (l.take k)) = P at *
      generalize hR : bytesV (encN8 true (l.drop (k + 1))) = R at *
      obtain ⟨vs, hvs⟩ : ∃ vs, P ++ (bytesV [b7, b6, b5, b4, b3, b2, b1, b0] ++ R) = vs := ⟨_, rfl⟩
      have hg : ∀ j u, ([b7, b6, b5, b4, b3, b2, b1, b0].map byteV)[j]? = some u → vs[ii + j]? = some u := fun j u hu => by
        have hj : j < 8 := by
          rcases Nat.lt_or_ge j 8 with h | h
          · exact h
          · rw [List.getElem?_eq_none (by simpa using h)] at hu; cases hu
        rw [← hvs, List.getElem?_append_right (by omega), hpl, Nat.add_sub_cancel_left, List.getElem?_append_left (by simp [bytesV]; omega)]
        exact hu
      rw [hvs] at hB
      have g0 : vs[ii]? = some (.int .u8 b7) := hg 0 _ rfl
      have G0 := Lib.hid g0
      have g1 : vs[ii + 1]? = some (.int .u8 b6) := hg 1 _ rfl
      have G1 := Lib.hid g1
      have g2 : vs[ii + 2]? = some (.int .u8 b5) := hg 2 _ rfl
      have G2 := Lib.hid g2
      have g3 : vs[ii + 3]? = some (.int .u8 b4) := hg 3 _ rfl
      have G3 := Lib.hid g3
      have g4 : vs[ii + 4]? = some (.int .u8 b3) := hg 4 _ rfl
      have G4 := Lib.hid g4
      have g5 : vs[ii + 5]? = some (.int .u8 b2) := hg 5 _ rfl
      have G5 := Lib.hid g5
      have g6 : vs[ii + 6]? = some (.int .u8 b1) := hg 6 _ rfl
      have G6 := Lib.hid g6
      have g7 : vs[ii + 7]? = some (.int .u8 b0) := hg 7 _ rfl
      have G7 := Lib.hid g7
      have c0 : wr.cell? ⟨fb, ii, none⟩ = some (.int .u8 b7) := hB.cell g0
      have c1 : wr.cell? ⟨fb, ii + 1, none⟩ = some (.int .u8 b6) := hB.cell g1
      have c2 : wr.cell? ⟨fb, ii + 2, none⟩ = some (.int .u8 b5) := hB.cell g2
      have c3 : wr.cell? ⟨fb, ii + 3, none⟩ = some (.int .u8 b4) := hB.cell g3
      have c4 : wr.cell? ⟨fb, ii + 4, none⟩ = some (.int .u8 b3) := hB.cell g4
      have c5 : wr.cell? ⟨fb, ii + 5, none⟩ = some (.int .u8 b2) := hB.cell g5
      have c6 : wr.cell? ⟨fb, ii + 6, none⟩ = some (.int .u8 b1) := hB.cell g6
      have c7 : wr.cell? ⟨fb, ii + 7, none⟩ = some (.int .u8 b0) := hB.cell g7
      clear g0 g1 g2 g3 g4 g5 g6 g7
      have cf := hB.free
      have cl := hB.lt
      have HX := Lib.hid hx
      have HT := Lib.hid ht
      have HD := Lib.hid hd
      have HPL := Lib.hid hpl
      have HVS := Lib.hid hvs
      have HP := Lib.hid hP
      have HR := Lib.hid hR
      have HII := Lib.hid hii
      clear hx ht hd hpl hvs hP hR hg hii
      go_upto_region 3 with (fail)
      go_region
      obtain ⟨hK1, hB1⟩ := hK.swap hB (ii) (ii + 7) (.int .u8 b0) (.int .u8 b7)
      generalize ((wr.setCell ⟨fb, ii, none⟩ (.int .u8 b0)).setCell ⟨fb, ii + 7, none⟩ (.int .u8 b7)).drew = w1 at *
      clear c0 c1 c2 c3 c4 c5 c6 c7 cf cl hK hB
      obtain ⟨vs1, hvs1⟩ : ∃ q, (vs.set (ii) (.int .u8 b0)).set (ii + 7) (.int .u8 b7) = q := ⟨_, rfl⟩
      have k1 : vs1[ii + 1]? = some (.int .u8 b6) := by rw [← hvs1]; exact set_get2 _ _ G1.out (by omega) (by omega)
      have k2 : vs1[ii + 2]? = some (.int .u8 b5) := by rw [← hvs1]; exact set_get2 _ _ G2.out (by omega) (by omega)
      have k3 : vs1[ii + 3]? = some (.int .u8 b4) := by rw [← hvs1]; exact set_get2 _ _ G3.out (by omega) (by omega)
      have k4 : vs1[ii + 4]? = some (.int .u8 b3) := by rw [← hvs1]; exact set_get2 _ _ G4.out (by omega) (by omega)
      have k5 : vs1[ii + 5]? = some (.int .u8 b2) := by rw [← hvs1]; exact set_get2 _ _ G5.out (by omega) (by omega)
      have k6 : vs1[ii + 6]? = some (.int .u8 b1) := by rw [← hvs1]; exact set_get2 _ _ G6.out (by omega) (by omega)
      rw [hvs1] at hB1
      replace G1 := Lib.hid k1
      have c1 : w1.cell? ⟨fb, ii + 1, none⟩ = some (.int .u8 b6) := hB1.cell k1
      replace G2 := Lib.hid k2
      have c2 : w1.cell? ⟨fb, ii + 2, none⟩ = some (.int .u8 b5) := hB1.cell k2
      replace G3 := Lib.hid k3
      have c3 : w1.cell? ⟨fb, ii + 3, none⟩ = some (.int .u8 b4) := hB1.cell k3
      replace G4 := Lib.hid k4
      have c4 : w1.cell? ⟨fb, ii + 4, none⟩ = some (.int .u8 b3) := hB1.cell k4
      replace G5 := Lib.hid k5
      have c5 : w1.cell? ⟨fb, ii + 5, none⟩ = some (.int .u8 b2) := hB1.cell k5
      replace G6 := Lib.hid k6
      have c6 : w1.cell? ⟨fb, ii + 6, none⟩ = some (.int .u8 b1) := hB1.cell k6
      have cf := hB1.free
      have cl := hB1.lt
      have HV1 := Lib.hid hvs1
      clear hvs1 k1 k2 k3 k4 k5 k6
      go_upto_region 4 with (fail)
      go_region
      obtain ⟨hK2, hB2⟩ := hK1.swap hB1 (ii + 1) (ii + 6) (.int .u8 b1) (.int .u8 b6)
      generalize ((w1.setCell ⟨fb, ii + 1, none⟩ (.int .u8 b1)).setCell ⟨fb, ii + 6, none⟩ (.int .u8 b6)).drew = w2 at *
      clear c1 c2 c3 c4 c5 c6 cf cl hK1 hB1
      obtain ⟨vs2, hvs2⟩ : ∃ q, (vs1.set (ii + 1) (.int .u8 b1)).set (ii + 6) (.int .u8 b6) = q := ⟨_, rfl⟩
      have k2 : vs2[ii + 2]? = some (.int .u8 b5) := by rw [← hvs2]; exact set_get2 _ _ G2.out (by omega) (by omega)
      have k3 : vs2[ii + 3]? = some (.int .u8 b4) := by rw [← hvs2]; exact set_get2 _ _ G3.out (by omega) (by omega)
      have k4 : vs2[ii + 4]? = some (.int .u8 b3) := by rw [← hvs2]; exact set_get2 _ _ G4.out (by omega) (by omega)
      have k5 : vs2[ii + 5]? = some (.int .u8 b2) := by rw [← hvs2]; exact set_get2 _ _ G5.out (by omega) (by omega)
      rw [hvs2] at hB2
      replace G2 := Lib.hid k2
      have c2 : w2.cell? ⟨fb, ii + 2, none⟩ = some (.int .u8 b5) := hB2.cell k2
      replace G3 := Lib.hid k3
      have c3 : w2.cell? ⟨fb, ii + 3, none⟩ = some (.int .u8 b4) := hB2.cell k3
      replace G4 := Lib.hid k4
      have c4 : w2.cell? ⟨fb, ii + 4, none⟩ = some (.int .u8 b3) := hB2.cell k4
      replace G5 := Lib.hid k5
      have c5 : w2.cell? ⟨fb, ii + 5, none⟩ = some (.int .u8 b2) := hB2.cell k5
      have cf := hB2.free
      have cl := hB2.lt
      have HV2 := Lib.hid hvs2
      clear hvs2 k2 k3 k4 k5
      go_upto_region 5 with (fail)
      go_region
      obtain ⟨hK3, hB3⟩ := hK2.swap hB2 (ii + 2) (ii + 5) (.int .u8 b2) (.int .u8 b5)
      generalize ((w2.setCell ⟨fb, ii + 2, none⟩ (.int .u8 b2)).setCell ⟨fb, ii + 5, none⟩ (.int .u8 b5)).drew = w3 at *
      clear c2 c3 c4 c5 cf cl hK2 hB2
      obtain ⟨vs3, hvs3⟩ : ∃ q, (vs2.set (ii + 2) (.int .u8 b2)).set (ii + 5) (.int .u8 b5) = q := ⟨_, rfl⟩
      have k3 : vs3[ii + 3]? = some (.int .u8 b4) := by rw [← hvs3]; exact set_get2 _ _ G3.out (by omega) (by omega)
      have k4 : vs3[ii + 4]? = some (.int .u8 b3) := by rw [← hvs3]; exact set_get2 _ _ G4.out (by omega) (by omega)
      rw [hvs3] at hB3
      replace G3 := Lib.hid k3
      have c3 : w3.cell? ⟨fb, ii + 3, none⟩ = some (.int .u8 b4) := hB3.cell k3
      replace G4 := Lib.hid k4
      have c4 : w3.cell? ⟨fb, ii + 4, none⟩ = some (.int .u8 b3) := hB3.cell k4
      have cf := hB3.free
      have cl := hB3.lt
      have HV3 := Lib.hid hvs3
      clear hvs3 k3 k4
      go_upto_region 6 with (fail)
      go_region
      obtain ⟨hK4, hB4⟩ := hK3.swap hB3 (ii + 3) (ii + 4) (.int .u8 b3) (.int .u8 b4)
      generalize ((w3.setCell ⟨fb, ii + 3, none⟩ (.int .u8 b3)).setCell ⟨fb, ii + 4, none⟩ (.int .u8 b4)).drew = w4 at *
      clear c3 c4 cf cl hK3 hB3
      have hfl := flip8 P R ii HPL.out (.int .u8 b7) (.int .u8 b6) (.int .u8 b5) (.int .u8 b4) (.int .u8 b3) (.int .u8 b2) (.int .u8 b1) (.int .u8 b0) (.int .u8 b0) (.int .u8 b1) (.int .u8 b2) (.int .u8 b3) (.int .u8 b4) (.int .u8 b5) (.int .u8 b6) (.int .u8 b7)
      have hv0 : P ++ (.int .u8 b7 :: .int .u8 b6 :: .int .u8 b5 :: .int .u8 b4 :: .int .u8 b3 :: .int .u8 b2 :: .int .u8 b1 :: .int .u8 b0 :: R) = vs := HVS.out
      rw [hv0, HV1.out, HV2.out, HV3.out] at hfl
      rw [hfl] at hB4
      clear hfl hv0
      have hB5 : Blk w4 fb 5 (bytesV (leN (l.take (k + 1))) ++ bytesV (encN8 true (l.drop (k + 1)))) := by
        rw [HT.out, bytesV_app, HP.out, HR.out, List.append_assoc]
        exact hB4
      clear hB4
      have h9 : ii < n := by omega
      go_wp2_with fail
      exact ⟨⟨k + 1, ii + 8, by omega, by have := HII.out; omega, by go_num, hK4, hB5⟩, by simp [intOf]; omega⟩
    · obtain rfl : m = k := by omega
      have hin : ¬ ii < n := by have := HN.out; have := HML.out; omega
      rw [List.take_of_length_le (by have := HML.out; omega), List.drop_eq_nil_of_le (by have := HML.out; omega)] at hB
      simp only [encN8, List.flatMap_nil, bytesV, List.map_nil, List.append_nil] at hB
      go_wp2_with fail
      go_end0
      exact ⟨rfl, hB, hK⟩
end Go.Proofs.YtbakhldjfplbfaaGreat
set_option linter.unusedVariables false
set_option linter.unusedSimpArgs false
namespace Go.Proofs.YtbakhldjfplbfaaGreat
open Go.RowKit Go.Fl Go.Sl Go.Pg Go.Ch Go.Kf Go.By
set_option maxRecDepth 100000 in
theorem u8_size (w : World) : (sizeOf 5).run Tryz.prog w = .ok 1 w := by rfl
/-- what is ahead, and what is left when l bytes of it are taken (none too) -/
theorem PS.cut {w0 wk : World} {pb : Nat} {x r : List Nat} {big : Bool} (h : PS w0 pb wk (x ++ r) big) (l : Nat) (hl : x.length = l) :
    ∃ a n c, Blk wk pb 183 [.slice a n c, .int .u8 (boB big), .bool (!big)] ∧ Sz w0 a n c 1 (bytesV (x ++ r)) ∧ n = l + r.length ∧
      ∀ wx, Stab.Keeps w0 wx → Blk wx pb 183 [.slice a n c, .int .u8 (boB big), .bool (!big)] → PS w0 pb (wx.setCell ⟨pb, 0, none⟩ (.slice (if c = l then a else a.map (·.add (l * 1))) (n - l) (c - l))) r big := by
  obtain ⟨hk, ⟨a, n, c, hB, hO⟩, hge⟩ := h
  have hon : n = l + r.length := by have := hO.len; simp [bytesV] at this; omega
  refine ⟨a, n, c, hB, hO, hon, fun wx hkx hBx => ?_⟩
  have hd := hO.drop l (by omega)
  have hb2 := hBx.set 0 (.slice (if c = l then a else a.map (·.add (l * 1))) (n - l) (c - l))
  simp only [List.set] at hb2
  have e2 : (bytesV (x ++ r)).drop (l * 1) = bytesV r := by rw [bytesV_app, Nat.mul_one, ← hl, ← bytesV_len x, List.drop_left]
  rw [e2] at hd
  exact ⟨keeps_set hkx hge, ⟨_, _, _, hb2, hd⟩, hge⟩
end Go.Proofs.YtbakhldjfplbfaaGreat
set_option linter.unusedVariables false
set_option linter.unusedSimpArgs false
namespace Go.Proofs.YtbakhldjfplbfaaGreat
open Go.RowKit Go.Fl Go.Sl Go.Pg Go.Ch Go.Kf Go.By
theorem run_upto {P : Program} (w : World) (t : TypeId) (a : Option Addr) (n cap h : Nat) (ht : P.underlying t = some (.slice (P.elem t))) (hs : (sizeOf (P.elem t)).run P w = .ok 1 w) (hl : h ≤ cap) :
    (Instr.slice t (.slice a n cap) none (some (.int .i64 h)) none).run P w = .ok (.slice a h cap) w := by
  rw [run_slice_h w t a n cap ht .i64 h (by omega) (by omega), hs]
  simp only [Result.andThen, sliced, Int.toNat_natCast, Nat.zero_mul, Nat.sub_zero]
  cases a <;> simp [Addr.add]
/-- one-cell things copied over the whole of a new array -/
theorem splice_all (n : Nat) (z : Value) (cs : List Value) (h : cs.length = n) : splice (List.replicate n z) 0 cs = cs := by
  unfold splice
  rw [List.take_zero, List.nil_append, List.drop_of_length_le (by simp; omega), List.append_nil]
theorem PW.below {w0 w wk w' : World} {pb B : Nat} {bs : List Nat} {big : Bool} (h : PW w0 pb w wk bs big) (hp : pb < w.heap.size) (hk : Below B wk w') (hB : w.heap.size ≤ B) : PW w0 pb w w' bs big := by
  obtain ⟨⟨h1, ⟨a, n, c, h2, h3⟩, h4⟩, h5⟩ := h
  exact ⟨⟨Below.trans h1 (Below.mono hk (by omega)), ⟨a, n, c, h2.below hk (by omega), h3⟩, h4⟩, ⟨Nat.le_trans h5.size hk.size, fun b hb hne => (hk.block b (by omega)).trans (h5.block b hb hne)⟩⟩
theorem PW.flip {w0 w wk w' : World} {pb fb : Nat} {bs : List Nat} {big : Bool} (h : PW w0 pb w wk bs big) (hp : pb < w.heap.size) (hk : FlipK fb wk w') (hB : w.heap.size ≤ fb) : PW w0 pb w w' bs big := by
  obtain ⟨⟨h1, ⟨a, n, c, h2, h3⟩, h4⟩, h5⟩ := h
  exact ⟨⟨hk.keeps w0 h1 (by omega), ⟨a, n, c, h2.of_heap (hk.kf.block pb h2.lt (by omega)), h3⟩, h4⟩, ⟨Nat.le_trans h5.size hk.kf.size, fun b hb hne => (hk.kf.block b (by have := h5.size; omega) (by omega)).trans (h5.block b hb hne)⟩⟩
set_option maxRecDepth 100000 in
set_option maxHeartbeats 8000000 in
theorem parseLs_ (w0 : World) (pb d : Nat) (ps : List Pl) (r : List Nat) (big : Bool) (w : World) (hd : d < 4) (hn : ∀ p ∈ ps, p.norm d) (hB : ∀ p ∈ ps, PlB p) (hm : ps.length ≤ 200000) (h : PS w0 pb w (seqE big d ps ++ r) big) :
    Calls Tryz.prog 211 #[.pointer (some ⟨pb, 0, none⟩), .int .u8 d] w (GPost w0 pb w r big LsR (.node 2 d ps [])) := by
  obtain ⟨k, hk⟩ : ∃ k, ps.length = k := ⟨_, rfl⟩
  obtain ⟨l, hl⟩ : ∃ l, numsOf d ps = l := ⟨_, rfl⟩
  obtain ⟨nn, hnn⟩ : ∃ nn, k * wid d = nn := ⟨_, rfl⟩
  obtain ⟨N8, hN8⟩ : ∃ N8, nn * 8 = N8 := ⟨_, rfl⟩
  have hwl := wid_le d
  have hll : l.length = nn := by rw [← hl, numsOf_len, hk, hnn]
  have hlB : ∀ x ∈ l, natB x := by rw [← hl]; exact numsOf_B hB
  have hnb : nn ≤ 800000 := by have := Nat.mul_le_mul_left k hwl; omega
  have hnm : nn % wid d = 0 := by rw [← hnn]; exact Nat.mul_mod_left _ _
  rw [show seqE big d ps ++ r = encB big 4 k ++ (encN8 big l ++ r) by unfold seqE; rw [hk, hl, List.append_assoc]] at h
  have hD := fun w => dimension_ d hd w
  have hNS := fun b w => newSeq_ d hd (some ⟨b, 0, none⟩) nn nn (Nat.le_refl _) (by unfold maxLen; omega) (by rw [dimN_wid hd]; exact hnm) w
  rw [dimN_wid hd] at hD
  have hm1 : (k : Int) * (wid d : Int) = (nn : Int) := by rw [← hnn, Int.natCast_mul]
  have hm8 : (8 : Int) * (nn : Int) = (N8 : Int) := by omega
  have hN8m : N8 ≤ 6400000 := by omega
  have hmk : ∀ w : World, (Instr.makeSlice 22 (.int .i64 nn) (.int .i64 nn)).run Tryz.prog w = .ok (.slice (some ⟨w.heap.size, 0, none⟩) nn nn) (w.alloc (.cells (Array.replicate nn (.float .f64 0)) 45)) := fun w => by
    have := run_makeN (P := Tryz.prog) 22 45 _ 1 8 nn Tryz.underlying22 infoF8 (by omega) (by omega) w
    rw [made_f8] at this
    exact this
  have hmb : ∀ w : World, (Instr.makeSlice 54 (.int .i64 N8) (.int .i64 N8)).run Tryz.prog w = .ok (.slice (some ⟨w.heap.size, 0, none⟩) N8 N8) (w.alloc (.cells (Array.replicate N8 (.int .u8 0)) 5)) := fun w => by
    have := run_makeN (P := Tryz.prog) 54 5 _ 1 1 N8 Tryz.underlying54 infoU8 (by omega) (by omega) w
    rw [made_u8] at this
    exact this
  have hpl : pb < w.heap.size := by obtain ⟨_, ⟨_, _, _, hB, _⟩, _⟩ := h; exact hB.lt
  have hge := h.ge
  have hsz : ps.length ≤ 250000 := by omega
  have hkb : k < 4294967296 := by omega
  have HK := Lib.hid hk
  have HL := Lib.hid hl
  have HNN := Lib.hid hnn
  have HN8 := Lib.hid hN8
  have HLL := Lib.hid hll
  have HLB := Lib.hid hlB
  have HN := Lib.hid hn
  obtain ⟨w1, hw1⟩ : ∃ w1, w1 = w.alloc (.cells #[.int .u8 0, .slice none 0 0] 99) := ⟨_, rfl⟩
  have hk1 : Stab.Keeps w w1 := by rw [hw1]; with_reducible (repeat first | exact Kx.r _ | assumption | refine Kx.a ?_ _ | refine Kx.d ?_ | refine Kx.e ?_ _ | refine Kx.s (by simp <;> omega) ?_ _ | refine Kx.t ?_ (by assumption))
  have hA : Blk w1 w.heap.size 99 [.int .u8 0, .slice none 0 0] := by rw [hw1]; with_reducible (repeat first | assumption | (refine Bx.n ⟨?_, ?_⟩ <;> focus (first | rfl | (simp; done) | omega)) | refine Bx.a ?_ _ | refine Bx.d ?_ | refine Bx.e ?_ _ | refine Bx.p (by first | omega | simp <;> omega) ?_)
  have hP : PW w0 pb w w1 _ big := PW.keeps ⟨h, KF.refl _ _⟩ hk1
  have HW := Lib.hid hw1
  clear h hk1 hw1 hk hl hnn hN8 hll hlB hn hB hm hnm
  go_enter Tryz.func211, Tryz.ntmps211
  go_wp2_with fail
  rw [← HW.out]
  refine (parseUint32_ w0 pb k _ big _ hkb hP.ps).mono ?_
  rintro e w2 ⟨rfl, hs, hk⟩
  replace hP := hP.read hs hk
  replace hA := blk_kf hA (show w.heap.size ≠ pb by omega) hk
  clear hs hk
  have HA := Lib.hid hA
  have HP := Lib.hid hP
  clear hA hP
  go_wp2_with fail
  refine (hD _).mono ?_
  rintro e w3 ⟨rfl, hk3⟩
  have hP := HP.out.keeps hk3
  have hA := HA.out.keep hk3
  obtain ⟨a, n, c, hB, hO, hon, hcut⟩ := hP.ps.cut N8 (by rw [encN8_len, HLL.out, HN8.out])
  have hnc := hO.le
  have hcm := hO.max
  unfold maxLen at hcm
  have hsH := fun w => run_upto (P := Tryz.prog) w 54 a n c N8 Tryz.underlying54 (u8_size w) (by omega)
  obtain ⟨A1, hA1⟩ : ∃ A1 : Option Addr, (if c = N8 then a else a.map (·.add (N8 * 1))) = A1 := ⟨_, rfl⟩
  rw [hA1] at hcut
  have hsL : ∀ w, (Instr.slice 54 (.slice a n c) (some (.int .i64 N8)) none none).run Tryz.prog w = .ok (.slice A1 (n - N8) (c - N8)) w := fun w => by
    rw [run_from (P := Tryz.prog) w 54 5 a n c 1 N8 Tryz.underlying54 (u8_size w) (by omega), hA1]
  have hng : ¬ n < N8 := by omega
  have hk4 : Stab.Keeps w3 (w3.alloc (.cells (Array.replicate nn (.float .f64 0)) 45)) := by with_reducible (repeat first | exact Kx.r _ | assumption | refine Kx.a ?_ _ | refine Kx.d ?_ | refine Kx.e ?_ _ | refine Kx.s (by simp <;> omega) ?_ _ | refine Kx.t ?_ (by assumption))
  have hFl : Blk (w3.alloc (.cells (Array.replicate nn (.float .f64 0)) 45)) w3.heap.size 45 (List.replicate nn (.float .f64 0)) := blk_rep _ _ _ _
  replace hP := hP.keeps hk4
  replace hB := hB.keep hk4
  have hlw : w.heap.size < w3.heap.size := by have := HA.out.lt; have := hk3.size; omega
  replace hA := hA.keep hk4
  have HCUT := Lib.hid hcut
  have HO := Lib.hid hO
  have HP4 := Lib.hid hP
  have HA4 := Lib.hid hA
  have HFL := Lib.hid hFl
  have HB := Lib.hid hB
  clear HA HP hD hP hA hcut hO hFl hon hB hk3 hk4
  go_upto_region 5 with (fail)
  generalize (w3.alloc (.cells (Array.replicate nn (.float .f64 0)) 45)) = w4 at *
  generalize w3.heap.size = fl at *
  have hB := HB.out
  have m0 := hB.cell (i := 0) rfl
  have m1 := hB.cell (i := 1) rfl
  have m2 := hB.cell (i := 2) rfl
  have mf := hB.free
  have ml := hB.lt
  clear hmk hm1 hA1
  have hok : PW w0 pb w w4 (encN8 big l ++ r) big := HP4.out
  cases big
  case' false =>
    go_upto_region 13 with (fail)
    have hS0 : SzF w4 (fun b => b ≠ pb) a N8 c 1 (bytesV (leN l)) := by
      have hT := (HO.out.keep hok.ps.keep).take N8 (by omega)
      rw [bytesV_app, encN8_le, Nat.mul_one, List.take_left' (by rw [bytesV_len, leN_len, HLL.out, HN8.out])] at hT
      refine ⟨hT, fun h0 x hx => ?_⟩
      obtain ⟨b, off, e, hb, _⟩ := (HO.out.some_ (by omega)).at_ x hx
      subst e
      exact fun e => by simp only at e; omega
    have HS := Lib.hid hS0
    have HP := Lib.hid hok
    have HA := Lib.hid HA4.out
    have HF := Lib.hid HFL.out
    clear hS0 hok HP4 HA4 HFL hmb hsH hB m0 m1 m2 mf ml
    obtain ⟨wx, hwx⟩ : ∃ wx, wx = w4 := ⟨_, rfl⟩
    subst hwx
  case' true =>
    go_upto_region 11 with (fail)
    have hk5 : Stab.Keeps w4 (w4.alloc (.cells (Array.replicate N8 (.int .u8 0)) 5)) := by with_reducible (repeat first | exact Kx.r _ | assumption | refine Kx.a ?_ _ | refine Kx.d ?_ | refine Kx.e ?_ _ | refine Kx.s (by simp <;> omega) ?_ _ | refine Kx.t ?_ (by assumption))
    have hFb : Blk (w4.alloc (.cells (Array.replicate N8 (.int .u8 0)) 5)) w4.heap.size 5 (List.replicate N8 (.int .u8 0)) := blk_rep _ _ _ _
    have hP5 := hok.keeps hk5
    have hA5 := HA4.out.keep hk5
    have hF5 := HFL.out.keep hk5
    have hB5 := hB.keep hk5
    have hfl : fl < w4.heap.size := HFL.out.lt
    generalize (w4.alloc (.cells (Array.replicate N8 (.int .u8 0)) 5)) = w5 at *
    generalize w4.heap.size = fb at *
    have HP5 := Lib.hid hP5
    have HA5 := Lib.hid hA5
    have HF5 := Lib.hid hF5
    have HB5 := Lib.hid hB5
    have HFB := Lib.hid hFb
    have hcs : (bytesV (encN8 true l)).length = N8 := by rw [bytesV_len, encN8_len, HLL.out, HN8.out]
    obtain ⟨cs, hcs2⟩ : ∃ cs, bytesV (encN8 true l) = cs := ⟨_, rfl⟩
    rw [hcs2] at hcs
    have HCS := Lib.hid hcs
    have HC2 := Lib.hid hcs2
    clear hcs hcs2 hP5 hA5 hF5 hFb hok HP4 HA4 HFL hmb hsH hB m0 m1 m2 mf ml hk5 HB
    have m0 := hB5.cell (i := 0) rfl
    have m1 := hB5.cell (i := 1) rfl
    have m2 := hB5.cell (i := 2) rfl
    have mf := hB5.free
    have ml := hB5.lt
    clear hB5
    go_wp2_with ((with_reducible_and_instances refine wpList_copy_splice (w0 := w5) rfl _ _ 54 54 rfl 5 Tryz.underlying54 (by kernel_rfl) _ _ N8 N8 n c rfl rfl fb 0 (List.replicate N8 (.int .u8 0)) 5 ?c1 cs ?c2 ?c3 ?c4 ?c5 fb ?c6 ?c7 ?_))
    case c1 => exact HFB.out
    case c2 => rw [HCS.out]; exact (Nat.min_eq_right (by omega)).symm
    case c3 =>
      intro hp
      have hT := HO.out.keep HP5.out.ps.keep
      obtain ⟨b, off, e, hb, hcc⟩ := (hT.elem (i := 0) (by have := HCS.out; omega))
      obtain ⟨b', o', e', hb', hcx⟩ := (hT.some_ (by have := HCS.out; omega)).at_ _ e
      cases e'
      refine ⟨_, e, fun j v hj => ?_⟩
      rw [add_none]
      refine hcx j v ?_
      have hjl : j < cs.length := by
        rcases Nat.lt_or_ge j cs.length with h | h
        · exact h
        · rw [List.getElem?_eq_none h] at hj; cases hj
      rw [bytesV_app, HC2.out, List.getElem?_append_left hjl]
      exact hj
    case c4 => simp; have := HCS.out; omega
    case c5 => intro v hv; rw [← HC2.out] at hv; simp only [bytesV, List.mem_map] at hv; obtain ⟨x, _, rfl⟩ := hv; rfl
    case c6 => exact Below.refl _ _
    case c7 => exact Nat.le_refl _
    intro w6 hG hB6
    have hF6 : Blk w6 fb 5 (bytesV (encN8 true l)) := by
      have := hG.out
      rw [splice_all N8 _ cs HCS.out] at this
      rw [HC2.out]
      exact this
    have HB6 := Lib.hid hB6
    clear hG hB6 m0 m1 m2 mf ml
    go_wp2_with fail
    refine (flip_ fb N8 l w6 (by rw [HLL.out]; exact HN8.out) hF6 (by have := HLL.out; omega)).mono ?_
    rintro e wx ⟨rfl, hF7, hK7⟩
    have hok := (HP5.out.below hpl HB6.out (by omega)).flip hpl hK7 (by omega)
    have HA := Lib.hid ((HA5.out.below HB6.out (by omega)).of_heap (hK7.kf.block _ (by have := (HA5.out.below HB6.out (by omega)).lt; omega) (by omega)))
    have HF := Lib.hid ((HF5.out.below HB6.out (by omega)).of_heap (hK7.kf.block _ (by have := (HF5.out.below HB6.out (by omega)).lt; omega) (by omega)))
    have HB := Lib.hid ((HB5.out.below HB6.out (by omega)).of_heap (hK7.kf.block _ (by have := (HB5.out.below HB6.out (by omega)).lt; omega) (by omega)))
    have hS0 : SzF wx (fun b => b ≠ pb) (some ⟨fb, 0, none⟩) N8 N8 1 (bytesV (leN l)) := ⟨sz_blk hF7 (by rw [bytesV_len, leN_len, HLL.out, HN8.out]) (by unfold maxLen; omega), fun _ x hx => by cases hx; show fb ≠ pb; omega⟩
    have HS := Lib.hid hS0
    have HP := Lib.hid hok
    clear hok hS0 hF7 hK7 HP5 HA5 HF5 HB5 HB6 HFB HCS HC2 hF6
    go_upto_region 13 with (fail)
  all_goals (
    have hP := HP.out
    have hBx := HB.out
    have m0 := hBx.cell (i := 0) rfl
    have m1 := hBx.cell (i := 1) rfl
    have m2 := hBx.cell (i := 2) rfl
    have mf := hBx.free
    have ml := hBx.lt
    have hS6 := HS.out.kf (KF.set (a := ⟨pb, 0, none⟩) (u := .slice A1 (n - N8) (c - N8)) (by simp) (KF.refl _ wx))
    have hP6 : PW w0 pb w (wx.setCell ⟨pb, 0, none⟩ (.slice A1 (n - N8) (c - N8))) r _ := ⟨HCUT.out wx hP.ps.keep hBx, KF.set (by simp) hP.kf⟩
    have hA6 := HA.out.past (a := ⟨pb, 0, none⟩) (show w.heap.size ≠ pb by omega) (.slice A1 (n - N8) (c - N8))
    have hF6 := HF.out.past (a := ⟨pb, 0, none⟩) (show fl ≠ pb by omega) (.slice A1 (n - N8) (c - N8))
    have HS6 := Lib.hid hS6
    have HP6 := Lib.hid hP6
    have HA6 := Lib.hid hA6
    have HF6 := Lib.hid hF6
    clear hP hBx hS6 hP6 hA6 hF6 HP HB HS HA HF HCUT HO
    go_wp2_with fail
    clear m0 m1 m2 mf ml
    generalize (wx.setCell ⟨pb, 0, none⟩ (.slice A1 (n - N8) (c - N8))) = w6 at *
    refine (baf_ _ N8 _ l _ (by rw [HLL.out]; exact HN8.out) HS6.out.sz (by have := HLL.out; omega) HLB.out).mono ?_
    rintro e w7 ⟨A, C, rfl, hk7, hS7⟩
    rw [HLL.out] at hS7 ⊢
    have HP7 := Lib.hid (HP6.out.keeps hk7)
    have HA7 := Lib.hid (HA6.out.keep hk7)
    have HF7 := Lib.hid (HF6.out.keep hk7)
    have HS7 := Lib.hid hS7
    have hle := hS7.le
    clear HP6 HA6 HF6 HS6 hS7 hk7
    go_wp2_with ((with_reducible_and_instances refine wpList_copy_splice (w0 := w7) rfl _ _ 22 22 rfl 45 Tryz.underlying22 (by kernel_rfl) _ _ nn nn nn C rfl rfl fl 0 (List.replicate nn (.float .f64 0)) 45 ?c1 (encN l) ?c2 ?c3 ?c4 ?c5 fl ?c6 ?c7 ?_))
    case c1 => exact HF7.out
    case c2 => simp [encN, HLL.out]
    case c3 =>
      intro hp
      have hnp : 0 < nn := by have := HLL.out; simp [encN] at hp; omega
      obtain ⟨b, off, e, hb, hcc⟩ := (HS7.out.elem (i := 0) hnp)
      obtain ⟨b', o', e', hb', hcx⟩ := (HS7.out.some_ hnp).at_ _ e
      cases e'
      refine ⟨_, e, fun j v hj => ?_⟩
      rw [add_none]
      exact hcx j v hj
    case c4 => simp [encN, HLL.out]
    case c5 => intro v hv; simp only [encN, List.mem_map] at hv; obtain ⟨x, _, rfl⟩ := hv; rfl
    case c6 => exact Below.refl _ _
    case c7 => exact Nat.le_refl _
    intro w8 hG hB8
    have hF8 : Blk w8 fl 45 (encN l) := by
      have := hG.out
      rw [splice_all nn _ (encN l) (by simp [encN, HLL.out])] at this
      exact this
    have hP8 := HP7.out.below hpl hB8 (by omega)
    have hA8 := HA7.out.below hB8 (by omega)
    clear hG HP7 HA7 HF7 HS7 hB8 hle
    have HP8 := Lib.hid hP8
    have HA8 := Lib.hid hA8
    have HF8 := Lib.hid hF8
    clear hP8 hA8 hF8
    go_wp2_with fail
    refine (hNS _ _).mono ?_
    rintro e w9 ⟨rfl, hk9⟩
    have hka : Stab.Keeps w9 (w9.alloc (.cells #[.int .u8 d, .slice (some ⟨fl, 0, none⟩) nn nn] 97)) := by with_reducible (repeat first | exact Kx.r _ | assumption | refine Kx.a ?_ _ | refine Kx.d ?_ | refine Kx.e ?_ _ | refine Kx.s (by simp <;> omega) ?_ _ | refine Kx.t ?_ (by assumption))
    have hk99 := Stab.Keeps.trans hk9 hka
    have HP9 := Lib.hid (HP8.out.keeps hk99)
    have HA9 := Lib.hid (HA8.out.keep hk99)
    have HF9 := Lib.hid (HF8.out.keep hk99)
    have hQ : Blk (w9.alloc (.cells #[.int .u8 d, .slice (some ⟨fl, 0, none⟩) nn nn] 97)) w9.heap.size 97 [.int .u8 d, .slice (some ⟨fl, 0, none⟩) nn nn] := by with_reducible (repeat first | assumption | (refine Bx.n ⟨?_, ?_⟩ <;> focus (first | rfl | (simp; done) | omega)) | refine Bx.a ?_ _ | refine Bx.d ?_ | refine Bx.e ?_ _ | refine Bx.p (by first | omega | simp <;> omega) ?_)
    have HQ := Lib.hid hQ
    clear HP8 HA8 HF8 hk9 hka hk99 hQ hNS
    go_upto_region 16 with (fail)
    generalize (w9.alloc (.cells #[.int .u8 d, .slice (some ⟨fl, 0, none⟩) nn nn] 97)) = wa at *
    generalize w9.heap.size = qb at *
    have hQ := HQ.out
    have m0 := hQ.cell (i := 0) rfl
    have m1 := hQ.cell (i := 1) rfl
    have mf := hQ.free
    have ml := hQ.lt
    go_wp2_with fail
    refine (newLine_ .nilIface d _ nn nn _).mono ?_
    rintro e wb ⟨rfl, hkb2⟩
    have hP := HP9.out.keeps hkb2
    have hA := HA9.out.keep hkb2
    have hF := HF9.out.keep hkb2
    clear HP9 HA9 HF9 HQ hQ m0 m1 mf ml hkb2
    obtain ⟨hP3, hA3⟩ : PW w0 pb w ((wb.setCell ⟨w.heap.size, 0, none⟩ (.int .u8 d)).setCell ⟨w.heap.size, 1, none⟩ (.slice (some ⟨fl, 0, none⟩) nn nn)) r _ ∧ Blk ((wb.setCell ⟨w.heap.size, 0, none⟩ (.int .u8 d)).setCell ⟨w.heap.size, 1, none⟩ (.slice (some ⟨fl, 0, none⟩) nn nn)) w.heap.size 99 [.int .u8 d, .slice (some ⟨fl, 0, none⟩) nn nn] := ⟨(hP.put hpl (Nat.le_refl _)).put hpl (Nat.le_refl _), (hA.set 0 _).set 1 _⟩
    have hF3 := (hF.past (a := ⟨w.heap.size, 0, none⟩) (show fl ≠ w.heap.size by omega) (.int .u8 d)).past (a := ⟨w.heap.size, 1, none⟩) (show fl ≠ w.heap.size by omega) (.slice (some ⟨fl, 0, none⟩) nn nn)
    have HP := Lib.hid hP3
    have HA := Lib.hid hA3
    have HF := Lib.hid hF3
    have a0 := hA.cell (i := 0) rfl
    have a1 := hA.cell (i := 1) rfl
    have af := hA.free
    have al := hA.lt
    clear hP hA hF hP3 hA3 hF3
    go_wp2_with fail
    generalize (wb.setCell ⟨w.heap.size, 0, none⟩ (.int .u8 d)).setCell ⟨w.heap.size, 1, none⟩ (.slice (some ⟨fl, 0, none⟩) nn nn) = wc at *
    clear a0 a1 af al
    have hA := HA.out
    have a0 := hA.cell (i := 0) rfl
    have a1 := hA.cell (i := 1) rfl
    have af := hA.free
    have al := hA.lt
    refine bodyPost_ret (v := .tuple #[.agg #[.int .u8 d, .slice (some ⟨fl, 0, none⟩) nn nn], .nilIface]) (by simp [results, Tryz.results211, go_sem, a0, a1, af]) rfl ⟨_, rfl, HP.out.ps, HP.out.kf, d, ps, some ⟨fl, 0, none⟩, nn, nn, rfl, rfl, hd, HN.out, by rw [HK.out]; exact HNN.out.symm, hsz, ⟨sz_blk (by rw [HL.out]; exact HF.out) (by rw [HL.out]; simp [encN, HLL.out]) (by unfold maxLen; omega), fun _ x hx => by cases hx; exact .inr (by show w.heap.size ≤ fl; omega)⟩⟩)
end Go.Proofs.YtbakhldjfplbfaaGreat
