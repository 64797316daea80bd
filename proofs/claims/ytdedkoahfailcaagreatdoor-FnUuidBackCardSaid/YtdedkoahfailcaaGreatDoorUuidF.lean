/- Uuids read of texts: hexadecimal digits. -/
import Derived.Test.YtdedkoahfailcaaGreatDoorConv
import Derived.Test.YtdedkoahfailcaaGreatDoorUuidL
import Derived.Lib.Hide
import Derived.Laws.ResultCell
import Derived.Deep.RegionWith
import Derived.Deep.RegionHeld3
import Derived.Deep.QuietTactic
import Derived.BigQuiet
namespace Go.Proofs.YtdedkoahfailcaaGreatDoor
open Go Go.RowKit
set_option maxHeartbeats 1000000
set_option maxRecDepth 100000

theorem hex_ways {b : Int} (P : Prop) (h1 : 48 ≤ b → b ≤ 57 → P) (h2 : 97 ≤ b → b ≤ 102 → P) (h3 : 65 ≤ b → b ≤ 70 → P) (h4 : b < 48 → P) (h5 : 57 < b → b < 65 → P) (h6 : 70 < b → b < 97 → P) (h7 : 102 < b → P) : P := by
  rcases (show (48 ≤ b ∧ b ≤ 57) ∨ (97 ≤ b ∧ b ≤ 102) ∨ (65 ≤ b ∧ b ≤ 70) ∨ (b < 48) ∨ (57 < b ∧ b < 65) ∨ (70 < b ∧ b < 97) ∨ (102 < b) by omega) with h | h | h | h | h | h | h
  · exact h1 h.1 h.2
  · exact h2 h.1 h.2
  · exact h3 h.1 h.2
  · exact h4 h
  · exact h5 h.1 h.2
  · exact h6 h.1 h.2
  · exact h7 h
theorem hexd_num {b : Int} (h : 48 ≤ b) (h' : b ≤ 57) : hexd b = some (b - 48) := by unfold hexd; rw [if_pos ⟨h, h'⟩]
theorem hexd_low {b : Int} (h : 97 ≤ b) (h' : b ≤ 102) : hexd b = some (b - 97 + 10) := by unfold hexd; rw [if_neg (by omega), if_pos ⟨h, h'⟩]
theorem hexd_up {b : Int} (h : 65 ≤ b) (h' : b ≤ 70) : hexd b = some (b - 65 + 10) := by unfold hexd; rw [if_neg (by omega), if_neg (by omega), if_pos ⟨h, h'⟩]
theorem hexd_no {b : Int} (h1 : ¬ (48 ≤ b ∧ b ≤ 57)) (h2 : ¬ (97 ≤ b ∧ b ≤ 102)) (h3 : ¬ (65 ≤ b ∧ b ≤ 70)) : hexd b = none := by unfold hexd; rw [if_neg h1, if_neg h2, if_neg h3]

theorem T_hexToDec (b : Int) (w : World) : Calls Tryz.prog 83 #[.int .u8 b] w fun e w' => e = .returned (.tuple #[.int .u8 ((hexd b).getD 0), .bool (hexd b).isSome]) ∧ w = w' := by
  apply hex_ways (b := b)
  · intro h1 h2
    rw [hexd_num h1 h2]
    go_enter Tryz.func83, Tryz.ntmps83
    go_wp2
    go_ret2
    exact ⟨rfl, rfl⟩
  · intro h1 h2
    rw [hexd_low h1 h2]
    go_enter Tryz.func83, Tryz.ntmps83
    go_wp2
    go_ret2
    exact ⟨rfl, rfl⟩
  · intro h1 h2
    rw [hexd_up h1 h2]
    go_enter Tryz.func83, Tryz.ntmps83
    go_wp2
    go_ret2
    exact ⟨rfl, rfl⟩
  all_goals intros
  all_goals rw [hexd_no (by omega) (by omega) (by omega)]
  all_goals go_enter Tryz.func83, Tryz.ntmps83
  all_goals go_wp2
  all_goals go_ret2
  all_goals exact ⟨rfl, rfl⟩

theorem S_hex (b : Int) (w : World) : Calls Tryz.prog 47 #[.int .u8 b] w fun e w' => e = .returned (.int .i64 ((hexd b).getD (-1))) ∧ w = w' := by
  apply hex_ways (b := b)
  · intro h1 h2
    rw [hexd_num h1 h2]
    go_enter Tryz.func47, Tryz.ntmps47
    go_wp2
    go_ret
    exact ⟨rfl, rfl⟩
  · intro h1 h2
    rw [hexd_low h1 h2]
    go_enter Tryz.func47, Tryz.ntmps47
    go_wp2
    go_ret
    exact ⟨rfl, rfl⟩
  · intro h1 h2
    rw [hexd_up h1 h2]
    go_enter Tryz.func47, Tryz.ntmps47
    go_wp2
    go_ret
    exact ⟨rfl, rfl⟩
  all_goals intros
  all_goals rw [hexd_no (by omega) (by omega) (by omega)]
  all_goals go_enter Tryz.func47, Tryz.ntmps47
  all_goals go_wp2
  all_goals go_ret
  all_goals exact ⟨rfl, rfl⟩

/-- A byte of two digits, as a number. -/
def two (a b : Int) : Option Int :=
  match hexd a, hexd b with
  | some x, some y => some (x * 16 + y)
  | _, _ => none
theorem T_hexToByte (a b : Int) (w : World) : Calls Tryz.prog 66 #[.int .u8 a, .int .u8 b] w fun e w' => e = .returned (.tuple #[.int .u8 ((two a b).getD 0), .bool (two a b).isSome]) ∧ w = w' := by
  have HD := Lib.hid T_hexToDec
  cases ha : hexd a with
  | none =>
    have ht : two a b = none := by unfold two; rw [ha]
    rw [ht]
    go_enter Tryz.func66, Tryz.ntmps66
    go_wp2_with (go_at_call 83; refine (HD.out _ _).mono ?_; rintro e w' ⟨rfl, rfl⟩; simp only [ha, Option.getD, Option.isSome])
    go_ret2
    exact ⟨rfl, rfl⟩
  | some x =>
    cases hb : hexd b with
    | none =>
      have ht : two a b = none := by unfold two; rw [ha, hb]
      rw [ht]
      go_enter Tryz.func66, Tryz.ntmps66
      go_wp2_with (go_at_call 83; refine (HD.out _ _).mono ?_; rintro e w' ⟨rfl, rfl⟩; simp only [ha, hb, Option.getD, Option.isSome])
      go_ret2
      exact ⟨rfl, rfl⟩
    | some y =>
      have ht : two a b = some (x * 16 + y) := by unfold two; rw [ha, hb]
      have hx := hexd_range ha
      have hy := hexd_range hb
      rw [ht]
      go_enter Tryz.func66, Tryz.ntmps66
      go_wp2_with (go_at_call 83; refine (HD.out _ _).mono ?_; rintro e w' ⟨rfl, rfl⟩; simp only [ha, hb, Option.getD, Option.isSome])
      go_ret2
      exact ⟨rfl, rfl⟩

theorem isDash_of (i : Nat) : isDash i = (decide (i = 8) || decide (i = 13) || decide (i = 18) || decide (i = 23)) := by
  rfl
theorem S_isDash (i : Nat) (w : World) : Calls Tryz.prog 46 #[.int .i64 i] w fun e w' => e = .returned (.bool (isDash i)) ∧ w = w' := by
  by_cases h8 : i = 8
  · subst h8
    go_enter Tryz.func46, Tryz.ntmps46
    go_wp2
    go_ret
    exact ⟨rfl, rfl⟩
  by_cases h13 : i = 13
  · subst h13
    go_enter Tryz.func46, Tryz.ntmps46
    go_wp2
    go_ret
    exact ⟨rfl, rfl⟩
  by_cases h18 : i = 18
  · subst h18
    go_enter Tryz.func46, Tryz.ntmps46
    go_wp2
    go_ret
    exact ⟨rfl, rfl⟩
  by_cases h23 : i = 23
  · subst h23
    go_enter Tryz.func46, Tryz.ntmps46
    go_wp2
    go_ret
    exact ⟨rfl, rfl⟩
  have e : isDash i = false := by rw [isDash_of, decide_eq_false h8, decide_eq_false h13, decide_eq_false h18, decide_eq_false h23]; rfl
  rw [e]
  have g8 : ((i : Int) == 8) = false := by simp; omega
  have g13 : ((i : Int) == 13) = false := by simp; omega
  have g18 : ((i : Int) == 18) = false := by simp; omega
  have g23 : ((i : Int) == 23) = false := by simp; omega
  clear e
  go_enter Tryz.func46, Tryz.ntmps46
  go_wp2
  go_ret
  exact ⟨rfl, rfl⟩

/-- An error made. -/
theorem E_New (s : ByteArray) (w : World) : Calls Tryz.prog 65 #[.string s] w fun e w' => e = .returned (.iface 178 (.pointer (some ⟨w.heap.size, 0, none⟩))) ∧ w.alloc (.cells #[.string s] 180 (0, 0)) = w' := by
  go_enter Tryz.func65, Tryz.ntmps65
  go_wp2
  go_ret
  exact ⟨rfl, rfl⟩

end Go.Proofs.YtdedkoahfailcaaGreatDoor
