/-
  The tree of boxes: the partition's own random numbers; the partition, walked. No condition.
-/
import Derived.Test.YtokofimfinhnbaaDoorTr3
import Derived.IntWalk
set_option linter.unusedVariables false
set_option linter.unusedSimpArgs false
namespace Go.Proofs.YtokofimfinhnbaaDoor
open Go.RowKit Go.Fl Go.Sl Go.Ch
set_option maxHeartbeats 1000000 in
theorem rnd_ (r : Nat) (n q : Int) (w : World) (hr : Blk w r 128 [.int .u32 q]) (hq0 : 0 ≤ q) (hq : q < 4294967296) (hn : 1 ≤ n) (hn2 : n ≤ 2147483647) :
    Calls Tryd.prog 46 #[.int .i64 n, .pointer (some ⟨r, 0, none⟩)] w fun e w' => ∃ x q' : Int, e = .returned (.int .i64 x) ∧ 0 ≤ x ∧ x < n ∧ 0 ≤ q' ∧ q' < 4294967296 ∧ w' = w.setCell ⟨r, 0, none⟩ (.int .u32 q') := by
  have r0 := hr.cell (i := 0) rfl
  have rf := hr.free
  have hrl := hr.lt
  go_enter Tryd.func46, Tryd.ntmps46
  go_wp2
  go_ret
  obtain ⟨q', hq', b1, b2⟩ : ∃ q' : Int, (1664525 * q + 1013904223) % 4294967296 = q' ∧ 0 ≤ q' ∧ q' < 4294967296 := ⟨_, rfl, by omega, by omega⟩
  have hm : q' * n ≤ 4294967295 * n := Int.mul_le_mul_of_nonneg_right (by omega) (by omega)
  have hm0 : 0 ≤ q' * n := Int.mul_nonneg b1 (by omega)
  have hw1 : IntKind.u64.wrap (q' * n) = q' * n := by
    simp only [IntKind.wrap_u64]
    omega
  have hw2 : wrap64 (q' * n / 4294967296) = q' * n / 4294967296 := IntWalk.wrap64_in _ ⟨by omega, by omega⟩
  rw [hq']
  refine ⟨_, q', by simp only [hw1, hw2]; rfl, by omega, by omega, b1, b2, rfl⟩
end Go.Proofs.YtokofimfinhnbaaDoor
