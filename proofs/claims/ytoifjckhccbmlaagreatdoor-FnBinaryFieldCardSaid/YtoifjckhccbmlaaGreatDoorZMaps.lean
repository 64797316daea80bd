/- The begin of a map as a step, by the binary protocol. -/
import Derived.Test.YtoifjckhccbmlaaGreatDoorZLists
set_option linter.all false
namespace Go.Proofs.YtoifjckhccbmlaaGreatDoor
open Go Go.RowKit
set_option maxHeartbeats 2000000

abbrev mapS (k t n : Int) : Stp := ⟨7, t, k, n, 0, 0, .slice none 0 0, []⟩
theorem map7 {c : ConfV} (h : Wide c) (hc : c.con ≤ 2147483647) (k t : Int) (hk : isTy k) (ht : isTy t) (n : Nat) (hn : n ≤ 4096) (rest : List UInt8) (hr : 32 * n ≤ rest.length) (hl : rest.length ≤ 1000000) :
    (mapS k t n).binB c.strictW = b8 k :: b8 t :: be4 n ∧ brun c ((b8 k :: b8 t :: be4 n) ++ rest) [mapS k t n] = some ([({ k := k, t := t, sz := n } : GotD)], rest) := by
  have hb := minB_bounds t
  have hb' := minB_bounds k
  have e1 : b8 (t % 256) = b8 t := by unfold b8; rw [Int.emod_emod_of_dvd _ (by decide : (256 : Int) ∣ 256)]
  have e2 : b8 (k % 256) = b8 k := by unfold b8; rw [Int.emod_emod_of_dvd _ (by decide : (256 : Int) ∣ 256)]
  refine ⟨by show b8 (k % 256) :: b8 (t % 256) :: be4 (n : Int) = _; rw [e1, e2], ?_⟩
  have hf := fits_app h hc n hn rest (minB k + minB t) ⟨by omega, by omega⟩ (Nat.le_trans (Nat.mul_le_mul_right n (by omega)) hr) hl
  rw [brun_one (op := .mapBegin) (v := { k := ((b8 k).toNat : Int), t := ((b8 t).toNat : Int), sz := cszB (be4 n ++ rest) }) (rest := rest) rfl (by
    show bnext c (b8 k :: b8 t :: (be4 n ++ rest)) .mapBegin = _
    simp only [bnext]
    rw [b8_ty ht, b8_ty hk, if_pos ⟨hk, ht, hf⟩, drop_app (be4_length n)])]
  show some ([({ k := wrap64 ((b8 k).toNat : Int), t := wrap64 ((b8 t).toNat : Int), sz := cszB (be4 n ++ rest) } : GotD)], rest) = _
  rw [b8_ty ht, b8_ty hk, csz_app n hn rest]
  have w1 : wrap64 t = t := by unfold wrap64; unfold isTy at ht; omega
  have w2 : wrap64 k = k := by unfold wrap64; unfold isTy at hk; omega
  rw [w1, w2]
end Go.Proofs.YtoifjckhccbmlaaGreatDoor
