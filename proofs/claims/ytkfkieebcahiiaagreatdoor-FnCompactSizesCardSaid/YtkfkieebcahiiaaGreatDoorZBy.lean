/- laws.by. -/
import Derived.Deep.RegionHeld3
import Derived.Test.YtkfkieebcahiiaaGreatDoorZ2
import Derived.Test.YtkfkieebcahiiaaGreatDoorZ5
set_option linter.all false
namespace Go.Proofs.YtkfkieebcahiiaaGreatDoor
open Go Go.RowKit
set_option maxHeartbeats 40000000
set_option maxRecDepth 100000

theorem L_by (p : Int) (c : ConfV) (w : World) : Calls Tryz.prog 29 #[.int .i64 p, c.val] w fun e w' => e = .returned ({ c with proto := p } : ConfV).val ∧ Fr noF noF w w' := by
  obtain ⟨pr, pl, sr, sw, ms, co, fr⟩ := c
  have hfin := (((Fr.refl noF w).alloc (.cells #[.int .i64 p, .bool pl, .bool sr, .bool sw, .int .i32 ms, .int .i32 co, .int .i32 fr] 23 (0, 0))))
  have HF := Lib.hid hfin
  clear hfin
  go_enter Tryz.func29, Tryz.ntmps29
  go_wp2
  refine bodyPost_ret (res_cell1 rfl _ _ (w.heap.size + 1) #[.int .i64 p, .bool pl, .bool sr, .bool sw, .int .i32 ms, .int .i32 co, .int .i32 fr] rfl ?_) rfl ⟨rfl, ?_⟩
  · go_simp
  · exact HF.out.alloc _

end Go.Proofs.YtkfkieebcahiiaaGreatDoor
