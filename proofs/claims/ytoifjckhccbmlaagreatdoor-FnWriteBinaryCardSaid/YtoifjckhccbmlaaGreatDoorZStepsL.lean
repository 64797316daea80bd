/- laws.steps, isHeavySteps, zzFits3, isKinds. -/
import Derived.Test.YtoifjckhccbmlaaGreatDoorZStW
import Derived.Test.YtoifjckhccbmlaaGreatDoorZWei
import Derived.Test.YtoifjckhccbmlaaGreatDoorZPutL
set_option linter.all false
namespace Go.Proofs.YtoifjckhccbmlaaGreatDoor
open Go Go.RowKit
set_option maxHeartbeats 4000000
set_option maxRecDepth 100000
set_option linter.all false

theorem RdS.form {w : World} {v : Value} {xs : List Stp} (h : RdS w noF v xs) : ∃ la lc, v = .slice la xs.length lc ∧ xs.length ≤ maxLen ∧ ∀ k, k < xs.length → ∃ g o x sa sn sc, la = some ⟨g, o, none⟩ ∧ xs[k]? = some x ∧ x.v = .slice sa sn sc ∧ x.s.length = sn ∧ sn ≤ maxLen ∧ Rd w x.v x.s ∧
    ∀ X, Fr noF noF w X → ∀ (i : Nat) u, x.cells[i]? = some u → X.cell? ⟨g, o + k * 7 + i, none⟩ = some u := by
  rcases h with ⟨a, c, rfl, rfl⟩ | ⟨g, o, c, rfl, hc, hm, _, hx⟩
  · exact ⟨a, c, rfl, Nat.zero_le _, fun k hk => absurd hk (Nat.not_lt_zero _)⟩
  · refine ⟨_, c, rfl, Nat.le_trans hc hm, fun k hk => ?_⟩
    have h : xs[k]? = some xs[k] := List.getElem?_eq_getElem hk
    obtain ⟨h1, h2, _, h4⟩ := hx k _ h
    obtain ⟨sa, sn, sc, hv, hl⟩ := h2.len
    exact ⟨g, o, _, sa, sn, sc, rfl, h, hv, hl, hl ▸ h4, h2, fun X hX i u hu => hX.cell (h1 i u hu) fun x => x⟩

/-- How many bytes steps hold. -/
def sumS (xs : List Stp) : Nat := (xs.map fun x => x.s.length).sum
theorem sumS_take {xs : List Stp} {k : Nat} {x : Stp} (h : xs[k]? = some x) : sumS (xs.take (k + 1)) = sumS (xs.take k) + x.s.length := by
  unfold sumS
  rw [List.take_add_one, h]
  simp
theorem sumS_mem {xs : List Stp} {x : Stp} (h : x ∈ xs) : x.s.length ≤ sumS xs := by
  induction xs with
  | nil => cases h
  | cons y l ih =>
    have e : sumS (y :: l) = y.s.length + sumS l := by simp [sumS]
    rcases List.mem_cons.1 h with rfl | h
    · omega
    · have := ih h; omega
theorem binB_le (strict : Bool) (x : Stp) : (x.binB strict).length ≤ 20 + x.s.length := by
  by_cases hin : 0 ≤ x.op ∧ x.op ≤ 21
  · obtain ⟨op, t, k, sz, id, n, v, l⟩ := x
    rcases (show op = 0 ∨ op = 1 ∨ op = 2 ∨ op = 3 ∨ op = 4 ∨ op = 5 ∨ op = 6 ∨ op = 7 ∨ op = 8 ∨ op = 9 ∨ op = 10 ∨ op = 11 ∨ op = 12 ∨ op = 13 ∨ op = 14 ∨ op = 15 ∨ op = 16 ∨ op = 17 ∨ op = 18 ∨ op = 19 ∨ op = 20 ∨ op = 21 by
      dsimp only at hin; omega) with rfl | rfl | rfl | rfl | rfl | rfl | rfl | rfl | rfl | rfl | rfl | rfl | rfl | rfl | rfl | rfl | rfl | rfl | rfl | rfl | rfl | rfl
    · show (msgB strict (strOf l) (IntKind.i32.wrap t) (IntKind.i32.wrap n)).length ≤ 20 + l.length
      unfold msgB
      split <;> simp [be4_length, verB_length, strOf, ByteArray.size] <;> omega
    all_goals (simp [Stp.binB, Stp.wop, WOp.binB, be2_length, be4_length, be8_length, pad16_len, strOf, ByteArray.size]; try omega)
  · unfold Stp.binB
    rw [wop_none (by omega)]
    exact Nat.zero_le _
theorem binB_all (strict : Bool) (xs : List Stp) : (xs.flatMap (Stp.binB strict)).length ≤ 20 * xs.length + sumS xs := by
  induction xs with
  | nil => simp
  | cons x l ih =>
    have := binB_le strict x
    have e : sumS (x :: l) = x.s.length + sumS l := by simp [sumS]
    rw [List.flatMap_cons, List.length_append, List.length_cons]
    omega

def HeavySR (xs : List Stp) (w : World) (e : Ending) (w' : World) : Prop := ∃ b, e = .returned (.bool b) ∧ (b = false → xs.length + sumS xs ≤ 65536) ∧ w' = w
theorem L_isHeavySteps (v : Value) (xs : List Stp) (w : World) (h : RdS w noF v xs) : Calls Tryz.prog 62 #[v] w (HeavySR xs w) := by
  obtain ⟨la, lc, rfl, hm, hel⟩ := h.form
  have HEL := Lib.hid hel
  have hnm : (xs.length : Int) ≤ 9223372036854775807 := by unfold maxLen at hm; omega
  have ht0 : sumS (xs.take 0) = 0 := by simp [sumS]
  have HT0 := Lib.hid ht0
  clear hel h hm ht0
  go_enter Tryz.func62, Tryz.ntmps62
  go_wp2_with fail
  go_loopw [3, 4] (fun nn i wr => ∃ (k r : Nat), i = .int .i64 k ∧ nn = .int .i64 r ∧ k ≤ xs.length ∧ (r ≤ 131073 ∨ r = xs.length) ∧ (r ≤ 65536 → r = xs.length + sumS (xs.take k)) ∧ wr = w) (fun _ i _ => xs.length - (intOf i).toNat)
  case atStart => exact ⟨0, xs.length, rfl, rfl, by omega, Or.inr rfl, fun _ => by rw [HT0.out]; rfl, rfl⟩
  case round =>
    obtain ⟨k, r, rfl, rfl, hk, hr, hrw, rfl⟩ := hrel
    have hk0 : (0 : Int) ≤ (k : Int) := by omega
    by_cases hlt : k < xs.length ∧ r ≤ 65536
    · obtain ⟨hlt, hrl⟩ := hlt
      obtain ⟨g, o, x, sa, sn, sc, rfl, hx, hxv, hsl, hsm, _, hcc⟩ := HEL.out k hlt
      obtain ⟨op, t, kk, sz, id, nn, v, l⟩ := x
      dsimp only at hxv hsl
      subst hxv
      have d6 : wr.cell? ⟨g, o + k * 7 + 6, none⟩ = some (.slice sa sn sc) := hcc wr (Fr.refl noF wr) 6 _ rfl
      have hk1 : (k : Int) < (xs.length : Int) := by omega
      have hr1 : (r : Int) ≤ 65536 := by omega
      have hr0 : (0 : Int) ≤ (r : Int) := by omega
      have hsn : (sn : Int) ≤ 9223372036854775807 := by unfold maxLen at hsm; omega
      have hq := hrw hrl
      obtain ⟨r', hr'⟩ : ∃ r' : Nat, r' = r + min sn 65537 := ⟨_, rfl⟩
      have hri : (r : Int) + min (sn : Int) 65537 = (r' : Int) := by omega
      have HX := Lib.hid (show r' ≤ 131073 ∧ (r' ≤ 65536 → r' = xs.length + sumS (xs.take (k + 1))) from ⟨by omega, fun h => by rw [sumS_take hx]; dsimp only; omega⟩)
      clear hcc hx hq hrw hr hr' hsl hsm
      go_wp2_with fail
      first
        | exact ⟨⟨k + 1, r', by go_num, rfl, by omega, Or.inl HX.out.1, HX.out.2, trivial⟩, by simp [intOf]; omega⟩
        | (go_roundw
           case rel => exact ⟨k + 1, r', by go_num, rfl, by omega, Or.inl HX.out.1, HX.out.2, rfl⟩
           case measure => simp [intOf]; omega)
    · have hlast : r ≤ 65536 → xs.length + sumS xs ≤ 65536 := fun h => by
        have hk : xs.take k = xs := List.take_of_length_le (by omega)
        have := hrw h
        rw [hk] at this
        omega
      have hr1 : (r : Int) ≤ 9223372036854775807 := by omega
      have hr00 : (0 : Int) ≤ (r : Int) := by omega
      have HD := Lib.hid hlast
      clear hrw hlast
      rcases Decidable.em ((r : Int) ≤ 65536) with k1 | k1
      · have k2 : ¬ (r : Int) > 65536 := by omega
        have k3 : ¬ (k : Int) < (xs.length : Int) := by omega
        go_wp2
        go_ret
        exact ⟨_, rfl, fun _ => HD.out (by omega), rfl⟩
      · have k2 : (r : Int) > 65536 := by omega
        rcases Decidable.em ((k : Int) < (xs.length : Int)) with k3 | k3
        all_goals
          go_wp2
          go_ret
          exact ⟨_, rfl, fun h => by simp at h, rfl⟩
end Go.Proofs.YtoifjckhccbmlaaGreatDoor
