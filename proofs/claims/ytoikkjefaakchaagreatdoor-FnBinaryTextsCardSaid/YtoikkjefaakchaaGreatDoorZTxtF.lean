/- FnBinaryTexts: the cases in which nothing is read. -/
import Derived.Test.YtoikkjefaakchaaGreatDoorZTxt
import Derived.Test.YtoikkjefaakchaaGreatDoorZNumsA
set_option linter.all false
namespace Go.Proofs.YtoikkjefaakchaaGreatDoor
open Go Go.RowKit
set_option maxHeartbeats 4000000
set_option maxRecDepth 100000
set_option linter.all false

theorem FnBinaryTexts_big (c : ConfV) (sv tv : Value) (s tail : List UInt8) (w : World) (hs : Rd w sv s) (ht : Rd w tv tail) (hl : 65536 < s.length ∨ 65536 < tail.length) : Calls Tryz.prog 3 #[c.val, sv, tv] w fun e w' => e = .returned (.bool true) ∧ Fr noF noF w w' := by
  obtain ⟨sa, sn, sc, rfl, hsn⟩ := hs.len
  obtain ⟨ta, tn, tc, rfl, htn⟩ := ht.len
  have HK := Lib.hid L_known
  obtain ⟨pr, pl, sr, sw, ms, co, fr⟩ := c
  have hf0 := (Fr.refl noF w).alloc (.cells #[.int .i64 pr, .bool pl, .bool sr, .bool sw, .int .i32 ms, .int .i32 co, .int .i32 fr] 23 (0, 0))
  have HF := Lib.hid hf0
  have hq : (65536 : Int) < (sn : Int) ∨ (¬ (65536 : Int) < (sn : Int) ∧ (65536 : Int) < (tn : Int)) := by omega
  clear hs ht hsn htn hl hf0
  rcases Int.lt_or_le 2147483647 (sn : Int) with q1 | q1 <;> rcases Int.lt_or_le 2147483647 (tn : Int) with q2 | q2
  case inr.inr =>
    have q1' : ¬ (2147483647 : Int) < (sn : Int) := by omega
    have q2' : ¬ (2147483647 : Int) < (tn : Int) := by omega
    rcases hq with q0 | ⟨q0, q0'⟩
    all_goals
      go_enter Tryz.func3, Tryz.ntmps3
      go_wp2_with fail
      (with_reducible refine (HK.out _).mono ?_)
      rintro e w1 ⟨rfl, hf⟩
      have HX := Lib.hid hf
      clear hf
      go_wp2
      go_ret
      exact ⟨rfl, HF.out.trans HX.out⟩
  all_goals
    clear hq
    go_enter Tryz.func3, Tryz.ntmps3
    go_wp2
    go_ret
    exact ⟨rfl, HF.out⟩

theorem FnBinaryTexts_narrow (c : ConfV) (hw : ¬ Wide c) (sv tv : Value) (s tail : List UInt8) (w : World) (hs : Rd w sv s) (ht : Rd w tv tail) (hl : s.length ≤ 65536) (hl2 : tail.length ≤ 65536) : Calls Tryz.prog 3 #[c.val, sv, tv] w fun e w' => e = .returned (.bool true) ∧ Fr noF noF w w' := by
  obtain ⟨sa, sn, sc, rfl, hsn⟩ := hs.len
  obtain ⟨ta, tn, tc, rfl, htn⟩ := ht.len
  have HK := Lib.hid L_known
  have hwd : ∀ X, Calls Tryz.prog 15 #[c.val] X (fun e w' => e = .returned (.bool false) ∧ Fr noF noF X w') := fun X => (L_isWide c X).mono fun e w' ⟨b, he, hb, hf⟩ => by
    cases b
    · exact ⟨he, hf⟩
    · exact absurd (hb.1 rfl) hw
  have HW := Lib.hid hwd
  obtain ⟨pr, pl, sr, sw, ms, co, fr⟩ := c
  have HF := Lib.hid ((Fr.refl noF w).alloc (.cells #[.int .i64 pr, .bool pl, .bool sr, .bool sw, .int .i32 ms, .int .i32 co, .int .i32 fr] 23 (0, 0)))
  have q0 : ¬ (65536 : Int) < (sn : Int) := by omega
  have q1 : ¬ (65536 : Int) < (tn : Int) := by omega
  have q2 : ¬ (2147483647 : Int) < (sn : Int) := by omega
  have q3 : ¬ (2147483647 : Int) < (tn : Int) := by omega
  clear hs ht hsn htn hl hl2 hwd hw
  go_enter Tryz.func3, Tryz.ntmps3
  go_wp2_with fail
  (with_reducible refine (HW.out _).mono ?_)
  rintro e w0 ⟨rfl, hf⟩
  have H0 := Lib.hid (HF.out.trans hf)
  clear hf
  go_wp2_with fail
  (with_reducible refine (HK.out _).mono ?_)
  rintro e w1 ⟨rfl, hf⟩
  have HX := Lib.hid (H0.out.trans hf)
  clear hf
  go_wp2
  go_ret
  exact ⟨rfl, HX.out⟩
end Go.Proofs.YtoikkjefaakchaaGreatDoor
