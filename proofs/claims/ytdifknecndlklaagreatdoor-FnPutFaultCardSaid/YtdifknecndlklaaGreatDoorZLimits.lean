/- FnLimits: both sides tell the same limits. -/
import Derived.Test.YtdifknecndlklaaGreatDoorZ3
set_option linter.all false
namespace Go.Proofs.YtdifknecndlklaaGreatDoor
open Go Go.RowKit
set_option maxHeartbeats 1000000
set_option maxRecDepth 100000

/-- The five limits. -/
abbrev limV (c : ConfV) : Value := .tuple #[.int .i32 c.maxMsg, .int .i32 c.maxFra, .int .i32 c.maxCon, .bool c.strictR, .bool c.strictW]

theorem S_Limits (c : ConfV) (w : World) : Calls Tryz.prog 96 #[c.val] w fun e w' => e = .returned (limV c) ∧ Fr noF noF w w' := by
  obtain ⟨pr, pl, sr, sw, ms, co, fr⟩ := c
  cases pl
  · go_enter Tryz.func96, Tryz.ntmps96
    go_wp2
    all_goals go_region
    all_goals go_wp2
    all_goals refine bodyPost_ret (v := limV ⟨pr, false, sr, sw, ms, co, fr⟩) ?_ rfl ⟨rfl, ((Fr.refl noF w).alloc _).drew⟩
    all_goals simp only [results, Tryz.results96, go_sem, limV, ConfV.maxMsg, ConfV.maxFra, ConfV.maxCon, ConfV.strictR, ConfV.strictW, Bool.false_eq_true, if_false]
    all_goals ((repeat' split) <;> first | rfl | omega | (simp; omega) | simp)
  · go_enter Tryz.func96, Tryz.ntmps96
    go_wp2
    refine bodyPost_ret (v := limV ⟨pr, true, sr, sw, ms, co, fr⟩) ?_ rfl ⟨rfl, (Fr.refl noF w).alloc _⟩
    simp [results, Tryz.results96, go_sem, ConfV.maxMsg, ConfV.maxFra, ConfV.maxCon, ConfV.strictR, ConfV.strictW]

end Go.Proofs.YtdifknecndlklaaGreatDoor
