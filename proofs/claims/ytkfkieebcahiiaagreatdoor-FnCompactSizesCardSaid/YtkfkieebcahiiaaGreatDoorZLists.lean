/- laws.isWide, laws.isType, laws.lists. -/
import Derived.Test.YtkfkieebcahiiaaGreatDoorZNumsA
set_option linter.all false
namespace Go.Proofs.YtkfkieebcahiiaaGreatDoor
open Go Go.RowKit
set_option maxHeartbeats 2000000
set_option maxRecDepth 100000

/-- A configuration that limits nothing of what is looked at here. -/
def Wide (c : ConfV) : Prop := c.plain = true ∨ ((c.msg ≤ 0 ∨ 1048576 < c.msg) ∧ (c.con ≤ 0 ∨ 65536 < c.con) ∧ (c.fra ≤ 0 ∨ 1048576 < c.fra))
theorem Wide.con {c : ConfV} (h : Wide c) (hc : c.con ≤ 2147483647) : 65536 < c.maxCon ∧ c.maxCon ≤ 2147483647 := by
  unfold ConfV.maxCon
  rcases h with h | ⟨_, h, _⟩
  · rw [if_pos h]; decide
  · split
    · decide
    · split <;> omega
theorem Wide.msg {c : ConfV} (h : Wide c) : 1048576 < c.maxMsg := by
  unfold ConfV.maxMsg
  rcases h with h | ⟨h, _, _⟩
  · rw [if_pos h]; decide
  · split
    · decide
    · split <;> omega

def WideP (c : ConfV) (w : World) (e : Ending) (w' : World) : Prop := ∃ b : Bool, e = .returned (.bool b) ∧ (b = true ↔ Wide c) ∧ Fr noF noF w w'
theorem L_isWide (c : ConfV) (w : World) : Calls Tryz.prog 31 #[c.val] w (WideP c w) := by
  obtain ⟨pr, pl, sr, sw, ms, co, fr⟩ := c
  have hfin : ∀ b : Bool, (b = true ↔ (pl = true ∨ ((ms ≤ 0 ∨ 1048576 < ms) ∧ (co ≤ 0 ∨ 65536 < co) ∧ (fr ≤ 0 ∨ 1048576 < fr)))) → WideP ⟨pr, pl, sr, sw, ms, co, fr⟩ w (.returned (.bool b)) (w.alloc (.cells #[.int .i64 pr, .bool pl, .bool sr, .bool sw, .int .i32 ms, .int .i32 co, .int .i32 fr] 23 (0, 0))) := fun b hb => ⟨b, rfl, hb, (Fr.refl noF w).alloc _⟩
  have HF := Lib.hid hfin
  clear hfin
  cases pl
  · by_cases h1 : ms ≤ 0 ∨ 1048576 < ms
    · by_cases h2 : co ≤ 0 ∨ 65536 < co
      · by_cases h3 : fr ≤ 0 ∨ 1048576 < fr
        · have HH := Lib.hid (HF.out true (by simp [h1, h2, h3]))
          rcases h1 with h1 | h1 <;> rcases h2 with h2 | h2 <;> rcases h3 with h3 | h3
          all_goals
            go_enter Tryz.func31, Tryz.ntmps31
            go_wp2
            go_ret
            exact HH.out
        · have HH := Lib.hid (HF.out false (by simp [h3]))
          have h4 : ¬ fr ≤ 0 := by omega
          have h5 : ¬ 1048576 < fr := by omega
          clear h3
          rcases h1 with h1 | h1 <;> rcases h2 with h2 | h2
          all_goals
            go_enter Tryz.func31, Tryz.ntmps31
            go_wp2
            go_ret
            exact HH.out
      · have HH := Lib.hid (HF.out false (by simp [h2]))
        have h4 : ¬ co ≤ 0 := by omega
        have h5 : ¬ 65536 < co := by omega
        clear h2
        rcases h1 with h1 | h1
        all_goals
          go_enter Tryz.func31, Tryz.ntmps31
          go_wp2
          go_ret
          exact HH.out
    · have HH := Lib.hid (HF.out false (by simp [h1]))
      have h4 : ¬ ms ≤ 0 := by omega
      have h5 : ¬ 1048576 < ms := by omega
      clear h1
      go_enter Tryz.func31, Tryz.ntmps31
      go_wp2
      go_ret
      exact HH.out
  · have HH := Lib.hid (HF.out true (by simp))
    go_enter Tryz.func31, Tryz.ntmps31
    go_wp2
    go_ret
    exact HH.out

theorem L_isType_yes (t : Int) (ht : isTy t) (w : World) : Calls Tryz.prog 58 #[.int .i64 t] w fun e w' => e = .returned (.bool true) ∧ w = w' := by
  rcases ht with rfl | rfl | rfl | rfl | rfl | rfl | rfl | rfl | rfl | rfl | rfl | rfl
  all_goals
    go_enter Tryz.func58, Tryz.ntmps58
    go_wp2
    go_ret
    exact ⟨rfl, rfl⟩
theorem L_isType_no (t : Int) (ht : ¬ isTy t) (w : World) : Calls Tryz.prog 58 #[.int .i64 t] w fun e w' => e = .returned (.bool false) ∧ w = w' := by
  unfold isTy at ht
  have n2 : (t == 2) = false := beq_eq_false_iff_ne.2 (by omega)
  have n3 : (t == 3) = false := beq_eq_false_iff_ne.2 (by omega)
  have n4 : (t == 4) = false := beq_eq_false_iff_ne.2 (by omega)
  have n6 : (t == 6) = false := beq_eq_false_iff_ne.2 (by omega)
  have n8 : (t == 8) = false := beq_eq_false_iff_ne.2 (by omega)
  have n10 : (t == 10) = false := beq_eq_false_iff_ne.2 (by omega)
  rcases (show t < 11 ∨ 16 < t by omega) with h | h
  · have h1 : ¬ 11 ≤ t := by omega
    have h2 : decide (11 ≤ t) = false := decide_eq_false h1
    clear ht
    go_enter Tryz.func58, Tryz.ntmps58
    go_wp2
    go_ret
    exact ⟨rfl, rfl⟩
  · have h1 : 11 ≤ t := by omega
    have h2 : ¬ t ≤ 16 := by omega
    clear ht
    go_enter Tryz.func58, Tryz.ntmps58
    go_wp2
    go_ret
    exact ⟨rfl, rfl⟩

/-- The begin of a list, or a set, as a step. -/
abbrev lstS (op t n : Int) : Stp := ⟨op, t, 0, n, 0, 0, .slice none 0 0, []⟩
theorem b8_ty {t : Int} (ht : isTy t) : ((b8 t).toNat : Int) = t := by
  rw [b8_toNat]
  unfold isTy at ht
  omega
theorem csz_app (n : Nat) (hn : n ≤ 4096) (rest : List UInt8) : cszB (be4 n ++ rest) = n := by
  unfold cszB
  rw [take_app (be4_length n), rd4]
  unfold wrap32
  omega
theorem fits_app {c : ConfV} (h : Wide c) (hc : c.con ≤ 2147483647) (n : Nat) (hn : n ≤ 4096) (rest : List UInt8) (k : Int) (hk : 1 ≤ k ∧ k ≤ 32) (hr : k.toNat * n ≤ rest.length) (hl : rest.length ≤ 1000000) : fitsB c (be4 n ++ rest) k := by
  have h1 := h.con hc
  have h2 := h.msg
  obtain ⟨K, hK⟩ : ∃ K : Nat, k = K := ⟨k.toNat, by omega⟩
  subst hK
  rw [Int.toNat_natCast] at hr
  have hp : n * K ≤ 4096 * 32 := Nat.mul_le_mul hn (by omega)
  unfold fitsB
  rw [csz_app n hn rest, drop_app (be4_length n), List.length_append, be4_length, Int.toNat_natCast, Int.toNat_natCast]
  rw [Nat.mul_comm] at hr
  unfold LIM
  refine ⟨by omega, by omega, hr, by omega, ?_, by omega, by omega, h1.2⟩
  omega
theorem lst9 {c : ConfV} (h : Wide c) (hc : c.con ≤ 2147483647) (t : Int) (ht : isTy t) (n : Nat) (hn : n ≤ 4096) (rest : List UInt8) (hr : 16 * n ≤ rest.length) (hl : rest.length ≤ 1000000) :
    (lstS 9 t n).binB c.strictW = b8 t :: be4 n ∧ brun c ((b8 t :: be4 n) ++ rest) [lstS 9 t n] = some ([({ t := t, sz := n } : GotD)], rest) := by
  have hb := minB_bounds t
  have e1 : b8 (t % 256) = b8 t := by unfold b8; rw [Int.emod_emod_of_dvd _ (by decide : (256 : Int) ∣ 256)]
  refine ⟨by show b8 (t % 256) :: be4 (n : Int) = _; rw [e1], ?_⟩
  have hf := fits_app h hc n hn rest (minB t) ⟨hb.1, by omega⟩ (Nat.le_trans (Nat.mul_le_mul_right n (by omega)) hr) hl
  rw [brun_one (op := .listBegin) (v := { t := ((b8 t).toNat : Int), sz := cszB (be4 n ++ rest) }) (rest := rest) rfl (by
    show bnext c (b8 t :: (be4 n ++ rest)) .listBegin = _
    simp only [bnext]
    rw [b8_ty ht, if_pos ⟨ht, hf⟩, drop_app (be4_length n)])]
  show some ([({ t := wrap64 ((b8 t).toNat : Int), sz := cszB (be4 n ++ rest) } : GotD)], rest) = _
  rw [b8_ty ht, csz_app n hn rest]
  have : wrap64 t = t := by unfold wrap64; unfold isTy at ht; omega
  rw [this]
theorem lst11 {c : ConfV} (h : Wide c) (hc : c.con ≤ 2147483647) (t : Int) (ht : isTy t) (n : Nat) (hn : n ≤ 4096) (rest : List UInt8) (hr : 16 * n ≤ rest.length) (hl : rest.length ≤ 1000000) :
    (lstS 11 t n).binB c.strictW = b8 t :: be4 n ∧ brun c ((b8 t :: be4 n) ++ rest) [lstS 11 t n] = some ([({ t := t, sz := n } : GotD)], rest) := by
  have hb := minB_bounds t
  have e1 : b8 (t % 256) = b8 t := by unfold b8; rw [Int.emod_emod_of_dvd _ (by decide : (256 : Int) ∣ 256)]
  refine ⟨by show b8 (t % 256) :: be4 (n : Int) = _; rw [e1], ?_⟩
  have hf := fits_app h hc n hn rest (minB t) ⟨hb.1, by omega⟩ (Nat.le_trans (Nat.mul_le_mul_right n (by omega)) hr) hl
  rw [brun_one (op := .setBegin) (v := { t := ((b8 t).toNat : Int), sz := cszB (be4 n ++ rest) }) (rest := rest) rfl (by
    show bnext c (b8 t :: (be4 n ++ rest)) .setBegin = _
    simp only [bnext]
    rw [b8_ty ht, if_pos ⟨ht, hf⟩, drop_app (be4_length n)])]
  show some ([({ t := wrap64 ((b8 t).toNat : Int), sz := cszB (be4 n ++ rest) } : GotD)], rest) = _
  rw [b8_ty ht, csz_app n hn rest]
  have : wrap64 t = t := by unfold wrap64; unfold isTy at ht; omega
  rw [this]
end Go.Proofs.YtkfkieebcahiiaaGreatDoor
