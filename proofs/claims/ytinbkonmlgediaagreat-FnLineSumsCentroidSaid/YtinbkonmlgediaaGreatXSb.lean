/-
  The reference's geometries made of plain data: leaves. No condition.
  The reference's geometries made of plain data: wholes. No condition.
-/
import Derived.Test.YtinbkonmlgediaaGreatXSa
set_option linter.unusedVariables false
set_option linter.unusedSimpArgs false
namespace Go.Proofs.YtinbkonmlgediaaGreat
open Go.RowKit Go.Fl Go.Sl Go.Pg Go.Ch Go.Kf
theorem infoF : (Tryz.prog.info? 27).map (fun i => (i.zero, i.size, i.bytes)) = some (some (.float .f64 0), 1, 8) := by kernel_rfl
end Go.Proofs.YtinbkonmlgediaaGreat
set_option linter.unusedVariables false
set_option linter.unusedSimpArgs false
