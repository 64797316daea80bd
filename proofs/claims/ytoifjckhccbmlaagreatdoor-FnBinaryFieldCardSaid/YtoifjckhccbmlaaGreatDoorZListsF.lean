/- FnBinaryLists: walked. -/
import Derived.Deep.RegionHeld3
import Derived.Test.YtoifjckhccbmlaaGreatDoorZListsL
set_option linter.all false
namespace Go.Proofs.YtoifjckhccbmlaaGreatDoor
open Go Go.RowKit
set_option maxHeartbeats 40000000
set_option maxRecDepth 100000

theorem FnBinaryLists_big (c : ConfV) (t n : Int) (tv : Value) (tail : List UInt8) (w : World) (ht : Rd w tv tail) (hl : 65536 < tail.length) : Calls Tryz.prog 10 #[c.val, .int .i64 t, .int .u16 n, tv] w fun e w' => e = .returned (.bool true) ∧ Fr noF noF w w' := by
  obtain ⟨ta, tn, tc, rfl, htn⟩ := ht.len
  have HK := Lib.hid L_known
  obtain ⟨pr, pl, sr, sw, ms, co, fr⟩ := c
  have q0 : (65536 : Int) < (tn : Int) := by omega
  have hf0 := (Fr.refl noF w).alloc (.cells #[.int .i64 pr, .bool pl, .bool sr, .bool sw, .int .i32 ms, .int .i32 co, .int .i32 fr] 31 (0, 0))
  have HF := Lib.hid hf0
  clear ht hl htn hf0
  rcases Int.lt_or_le 2147483647 (tn : Int) with q1 | q1
  · go_enter Tryz.func10, Tryz.ntmps10
    go_wp2
    go_ret
    exact ⟨rfl, HF.out⟩
  · have q2 : ¬ (2147483647 : Int) < (tn : Int) := by omega
    go_enter Tryz.func10, Tryz.ntmps10
    go_wp2_with fail
    (with_reducible refine (HK.out _).mono ?_)
    rintro e w1 ⟨rfl, hf⟩
    have HX := Lib.hid hf
    clear hf
    go_wp2
    go_ret
    exact ⟨rfl, HF.out.trans HX.out⟩
theorem FnBinaryLists_many (c : ConfV) (t n : Int) (tv : Value) (tail : List UInt8) (w : World) (ht : Rd w tv tail) (hl : tail.length ≤ 65536) (hn : 4096 < n) : Calls Tryz.prog 10 #[c.val, .int .i64 t, .int .u16 n, tv] w fun e w' => e = .returned (.bool true) ∧ Fr noF noF w w' := by
  obtain ⟨ta, tn, tc, rfl, htn⟩ := ht.len
  have HK := Lib.hid L_known
  obtain ⟨pr, pl, sr, sw, ms, co, fr⟩ := c
  have q0 : ¬ (65536 : Int) < (tn : Int) := by omega
  have q1 : ¬ (2147483647 : Int) < (tn : Int) := by omega
  have hf0 := (Fr.refl noF w).alloc (.cells #[.int .i64 pr, .bool pl, .bool sr, .bool sw, .int .i32 ms, .int .i32 co, .int .i32 fr] 31 (0, 0))
  have HF := Lib.hid hf0
  clear ht hl htn hf0
  go_enter Tryz.func10, Tryz.ntmps10
  go_wp2_with fail
  (with_reducible refine (HK.out _).mono ?_)
  rintro e w1 ⟨rfl, hf⟩
  have HX := Lib.hid hf
  clear hf
  go_wp2
  go_ret
  exact ⟨rfl, HF.out.trans HX.out⟩
theorem FnBinaryLists_none (c : ConfV) (t n : Int) (tv : Value) (tail : List UInt8) (w : World) (ht : Rd w tv tail) (hl : tail.length ≤ 65536) (hn : n ≤ 4096) (hty : ¬ isTy t) : Calls Tryz.prog 10 #[c.val, .int .i64 t, .int .u16 n, tv] w fun e w' => e = .returned (.bool true) ∧ Fr noF noF w w' := by
  obtain ⟨ta, tn, tc, rfl, htn⟩ := ht.len
  have HK := Lib.hid L_known
  have HT := Lib.hid (L_isType_no t hty)
  obtain ⟨pr, pl, sr, sw, ms, co, fr⟩ := c
  have q0 : ¬ (65536 : Int) < (tn : Int) := by omega
  have q1 : ¬ (2147483647 : Int) < (tn : Int) := by omega
  have q2 : ¬ (4096 : Int) < n := by omega
  have hf0 := (Fr.refl noF w).alloc (.cells #[.int .i64 pr, .bool pl, .bool sr, .bool sw, .int .i32 ms, .int .i32 co, .int .i32 fr] 31 (0, 0))
  have HF := Lib.hid hf0
  clear ht hl htn hf0 hty
  go_enter Tryz.func10, Tryz.ntmps10
  go_wp2_with (go_at_call 37; (with_reducible refine (HT.out _).mono ?_); rintro e w' ⟨rfl, rfl⟩)
  (with_reducible refine (HK.out _).mono ?_)
  rintro e w1 ⟨rfl, hf⟩
  have HX := Lib.hid hf
  clear hf
  go_wp2
  go_ret
  exact ⟨rfl, HF.out.trans HX.out⟩
end Go.Proofs.YtoifjckhccbmlaaGreatDoor
