/- FnLimits: both sides tell the same limits. -/
import Derived.Test.YtdedkoahfailcaaGreatDoorKnown
namespace Go.Proofs.YtdedkoahfailcaaGreatDoor
open Go Go.RowKit
set_option maxHeartbeats 1000000
set_option maxRecDepth 100000

/-- The five limits. -/
abbrev limV (c : ConfV) : Value := .tuple #[.int .i32 c.maxMsg, .int .i32 c.maxFra, .int .i32 c.maxCon, .bool c.strictR, .bool c.strictW]

theorem I_Limits (c : ConfV) (w : World) : Calls Tryz.prog 11 #[c.val] w fun e w' => e = .returned (limV c) ∧ Fr noF noF w w' := by
  have HC := Lib.hid (I_config c)
  have H1 := Lib.hid Cf_msg
  have H2 := Lib.hid Cf_fra
  have H3 := Lib.hid Cf_con
  have H4 := Lib.hid Cf_read
  have H5 := Lib.hid Cf_write
  go_enter Tryz.func11, Tryz.ntmps11
  go_wp2_with fail
  refine (HC.out _).mono ?_
  rintro e w1 ⟨cf, rfl, hcf, hf⟩
  have HF := Lib.hid (((Fr.refl noF w).alloc _).trans hf)
  have HG := Lib.hid hcf
  clear hf hcf
  go_wp2_with (first | (go_at_call 32; refine (H1.out _ c _ HG.out).mono ?_; rintro e w' ⟨rfl, rfl⟩) | (go_at_call 33; refine (H2.out _ c _ HG.out).mono ?_; rintro e w' ⟨rfl, rfl⟩) | (go_at_call 34; refine (H3.out _ c _ HG.out).mono ?_; rintro e w' ⟨rfl, rfl⟩) | (go_at_call 35; refine (H4.out _ c _ HG.out).mono ?_; rintro e w' ⟨rfl, rfl⟩) | (go_at_call 36; refine (H5.out _ c _ HG.out).mono ?_; rintro e w' ⟨rfl, rfl⟩))
  refine bodyPost_ret (v := limV c) ?_ rfl ⟨rfl, HF.out⟩
  simp [results, Tryz.results11, go_sem]

theorem S_Limits (c : ConfV) (w : World) : Calls Tryz.prog 12 #[c.val] w fun e w' => e = .returned (limV c) ∧ Fr noF noF w w' := by
  obtain ⟨pr, pl, sr, sw, ms, co, fr⟩ := c
  cases pl
  · go_enter Tryz.func12, Tryz.ntmps12
    go_wp2
    all_goals go_region
    all_goals go_wp2
    all_goals refine bodyPost_ret (v := limV ⟨pr, false, sr, sw, ms, co, fr⟩) ?_ rfl ⟨rfl, ((Fr.refl noF w).alloc _).drew⟩
    all_goals simp only [results, Tryz.results12, go_sem, limV, ConfV.maxMsg, ConfV.maxFra, ConfV.maxCon, ConfV.strictR, ConfV.strictW, Bool.false_eq_true, if_false]
    all_goals ((repeat' split) <;> first | rfl | omega | (simp; omega) | simp)
  · go_enter Tryz.func12, Tryz.ntmps12
    go_wp2
    refine bodyPost_ret (v := limV ⟨pr, true, sr, sw, ms, co, fr⟩) ?_ rfl ⟨rfl, (Fr.refl noF w).alloc _⟩
    simp [results, Tryz.results12, go_sem, ConfV.maxMsg, ConfV.maxFra, ConfV.maxCon, ConfV.strictR, ConfV.strictW]

theorem L_FnLimits (c : ConfV) (w : World) : Calls Tryz.prog 3 #[c.val] w fun e w' => e = .returned (.bool true) ∧ Fr noF noF w w' := by
  have H1 := Lib.hid (I_Limits c)
  have H2 := Lib.hid (S_Limits c)
  have HK := Lib.hid L_known
  go_enter Tryz.func3, Tryz.ntmps3
  go_wp2_with fail
  refine (H1.out _).mono ?_
  rintro e w1 ⟨rfl, hf⟩
  have hb := hf.block (alloc_new w _) fun x => x
  have c0 := cell_at hb 0
  have c1 := cell_at hb 1
  have c2 := cell_at hb 2
  have c3 := cell_at hb 3
  have c4 := cell_at hb 4
  have c5 := cell_at hb 5
  have c6 := cell_at hb 6
  simp only [List.getElem?_toArray, List.getElem?_cons_zero, List.getElem?_cons_succ] at c0 c1 c2 c3 c4 c5 c6
  have HF := Lib.hid (((Fr.refl noF w).alloc _).trans hf)
  clear hf hb
  go_wp2_with fail
  refine (H2.out _).mono ?_
  rintro e w2 ⟨rfl, hf⟩
  have HG := Lib.hid (HF.out.trans hf)
  clear hf HF c0 c1 c2 c3 c4 c5 c6
  have b1 : (c.maxMsg == c.maxMsg) = true := by simp
  have b2 : (c.maxFra == c.maxFra) = true := by simp
  have b3 : (c.maxCon == c.maxCon) = true := by simp
  have b4 : (c.strictR == c.strictR) = true := by simp
  have b5 : (c.strictW == c.strictW) = true := by simp
  go_wp2_with fail
  refine (HK.out _).mono ?_
  rintro e w3 ⟨rfl, hf⟩
  have HX := Lib.hid (HG.out.trans hf)
  clear hf HG
  go_wp2
  go_ret
  exact ⟨rfl, HX.out⟩
end Go.Proofs.YtdedkoahfailcaaGreatDoor
