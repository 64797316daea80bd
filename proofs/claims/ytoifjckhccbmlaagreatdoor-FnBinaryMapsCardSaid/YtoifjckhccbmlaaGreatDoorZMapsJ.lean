/- FnBinaryMaps: its cases joined. -/
import Derived.Test.YtoifjckhccbmlaaGreatDoorZMapsG
set_option linter.all false
namespace Go.Proofs.YtoifjckhccbmlaaGreatDoor
open Go Go.RowKit

theorem L_FnBinaryMaps (c : ConfV) (k t n : Int) (tv : Value) (tail : List UInt8) (w : World) (hcon : c.con ≤ 2147483647) (hn : 0 ≤ n ∧ n ≤ 65535) (ht : Rd w tv tail) : Calls Tryz.prog 11 #[c.val, .int .i64 k, .int .i64 t, .int .u16 n, tv] w fun e w' => e = .returned (.bool true) ∧ Fr noF noF w w' := by
  rcases Nat.lt_or_ge 65536 tail.length with hl | hl
  · exact FnBinaryMaps_big c k t n tv tail w ht hl
  · rcases Int.lt_or_le 4096 n with h1 | h1
    · exact FnBinaryMaps_many c k t n tv tail w ht hl h1
    · by_cases htk : isTy k
      · by_cases hty : isTy t
        · obtain ⟨m, rfl⟩ := Int.eq_ofNat_of_zero_le hn.1
          exact FnBinaryMaps_main c hcon k t htk hty m (by omega) tv tail w ht hl
        · exact FnBinaryMaps_none2 c k t n tv tail w ht hl h1 htk hty
      · exact FnBinaryMaps_none1 c k t n tv tail w ht hl h1 htk
end Go.Proofs.YtoifjckhccbmlaaGreatDoor
