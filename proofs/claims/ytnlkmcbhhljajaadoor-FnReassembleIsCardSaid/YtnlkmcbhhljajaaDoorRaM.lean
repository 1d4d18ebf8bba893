/- The contract of spec.Mixed: a permutation. Conditions: few elements; no number below 0. -/
import Derived.Test.YtnlkmcbhhljajaaDoorRaG
import Derived.Test.YtnlkmcbhhljajaaDoorRaZ
namespace Go.Proofs.YtnlkmcbhhljajaaDoor
open Go.RowKit Go.Lib

theorem dT : ElT Tryd.prog 29 36 (.agg #[.bool false, .bool false, .bool false, .bool false, .int .u32 0, .int .i64 0, .int .i64 0, .int .u32 0, .slice none 0 0]) 9 56 := ⟨Tryd.underlying29, by kernel_rfl, rfl, by decide⟩
end Go.Proofs.YtnlkmcbhhljajaaDoor
