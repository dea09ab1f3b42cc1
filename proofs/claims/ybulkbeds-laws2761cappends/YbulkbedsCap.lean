/- The two leaves: netip.AddrPortFrom and zzs2761cap: exact worlds (four new blocks, nothing old turned). -/
import Derived.Test.YbulkbedsRows
import Derived.WalkKit
import Derived.WalkSpells
import Derived.WalkLawsBesides
namespace Go.Proofs.Ybulkbeds
open Go.RowKit

set_option maxHeartbeats 400000 in
theorem apf (p : Int) (w : World) :
    Calls Yba.prog 7 #[.agg #[.int .u64 0, .int .u64 0, .pointer none], .int .u16 p] w fun e w' =>
      e = .returned (.agg #[.int .u64 0, .int .u64 0, .pointer none, .int .u16 p]) ∧
      w' = (w.alloc (.cells #[.int .u64 0, .int .u64 0, .pointer none] 60)).alloc (.cells #[.int .u64 0, .int .u64 0, .pointer none, .int .u16 p] 62) := by
  go_enter Yba.func7, Yba.ntmps7
  go_wp2
  exact bodyPost_ret (v := .agg #[.int .u64 0, .int .u64 0, .pointer none, .int .u16 p]) (by simp [results, Yba.results7, go_sem]) rfl ⟨rfl, rfl⟩

set_option maxHeartbeats 400000 in
theorem cap (p : Int) (w : World) :
    Calls Yba.prog 4 #[.int .u16 p] w fun e w' =>
      e = .returned (.agg #[.int .u64 0, .int .u64 0, .pointer none, .int .u16 p]) ∧
      w' = (((w.alloc (.cells #[.int .u64 0, .int .u64 0, .pointer none, .int .u16 p] 62)).alloc (.cells #[.int .u64 0, .int .u64 0, .pointer none] 60)).alloc (.cells #[.int .u64 0, .int .u64 0, .pointer none] 60)).alloc (.cells #[.int .u64 0, .int .u64 0, .pointer none, .int .u16 p] 62) := by
  go_enter Yba.func4, Yba.ntmps4
  go_wp2_with (go_at_call 7; refine (apf p _).mono ?_; rintro e w' ⟨rfl, rfl⟩)
  exact bodyPost_ret (v := .agg #[.int .u64 0, .int .u64 0, .pointer none, .int .u16 p]) (by simp [results, Yba.results4, go_sem]) rfl ⟨rfl, rfl⟩

end Go.Proofs.Ybulkbeds
