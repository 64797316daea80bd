/- The begin of a field and the stop of fields, as steps, by the binary protocol; isOK. -/
import Derived.Test.YtoikkjefaakchaaGreatDoorZLists
import Derived.Test.YtoikkjefaakchaaGreatDoorZSx
set_option linter.all false
namespace Go.Proofs.YtoikkjefaakchaaGreatDoor
open Go Go.RowKit
set_option maxHeartbeats 2000000
set_option maxRecDepth 100000
set_option linter.all false

abbrev stopS : Stp := ⟨6, 0, 0, 0, 0, 0, .slice none 0 0, []⟩
abbrev fldS (t id : Int) : Stp := ⟨4, t, 0, 0, id, 0, .slice none 0 0, []⟩
theorem fld_stop (c : ConfV) (tail : List UInt8) : brun c ([0] ++ tail) [fldS 0 0] = some ([({} : GotD)], tail) := by
  rw [brun_one (op := .fieldBegin) (v := {}) (rest := tail) rfl (by show bnext c (0 :: tail) .fieldBegin = _; simp only [bnext]; rfl)]
  show some ([({ t := wrap64 0, id := wrap64 0 } : GotD)], tail) = _
  rw [show wrap64 0 = 0 by unfold wrap64; omega]
theorem fld_begin (c : ConfV) (t id : Int) (ht : t % 256 ≠ 0) (tail : List UInt8) :
    (fldS t id).binB c.strictW = b8 t :: be2 id ∧ brun c ((b8 t :: be2 id) ++ tail) [fldS t id] = some ([({ t := IntKind.u8.wrap t, id := IntKind.i16.wrap id } : GotD)], tail) := by
  have e1 : b8 (t % 256) = b8 t := by unfold b8; rw [Int.emod_emod_of_dvd _ (by decide : (256 : Int) ∣ 256)]
  have e2 : be2 (IntKind.i16.wrap id) = be2 id := by
    unfold be2
    rw [wrap_i16]
    congr 2
    omega
  refine ⟨by show b8 (t % 256) :: be2 (IntKind.i16.wrap id) = _; rw [e1, e2], ?_⟩
  have hn : ((b8 t).toNat : Int) = t % 256 := by
    unfold b8
    rw [UInt8.toNat_ofNat']
    omega
  have h0 : ¬ b8 t = 0 := fun h => ht (by rw [← hn, h]; rfl)
  have hbe : Lib.beNat (be2 id) = (id % 65536).toNat := by
    unfold be2
    rw [Lib.beNat_beBytes]
    omega
  have htk : (be2 id ++ tail).take 2 = be2 id := by rw [List.take_append_of_le_length (by rw [be2_length]; decide), List.take_of_length_le (by rw [be2_length]; decide)]
  have hdr : (be2 id ++ tail).drop 2 = tail := by rw [List.drop_append_of_le_length (by rw [be2_length]; decide), List.drop_of_length_le (by rw [be2_length]; decide), List.nil_append]
  rw [brun_one (op := .fieldBegin) (v := { t := ((b8 t).toNat : Int), id := IntKind.i16.wrap (Lib.beNat (be2 id)) }) (rest := tail) rfl (by
    show bnext c (b8 t :: (be2 id ++ tail)) .fieldBegin = _
    simp only [bnext]
    rw [if_neg h0, if_pos (by rw [List.length_append, be2_length]; omega), htk, hdr])]
  show some ([({ t := wrap64 ((b8 t).toNat : Int), id := wrap64 (IntKind.i16.wrap (Lib.beNat (be2 id))) } : GotD)], tail) = _
  rw [hn, hbe]
  have w1 : wrap64 (t % 256) = IntKind.u8.wrap t := by rw [show IntKind.u8.wrap t = t % 256 from IntKind.wrap_u8 t]; unfold wrap64; omega
  have w2 : wrap64 (IntKind.i16.wrap ((id % 65536).toNat : Int)) = IntKind.i16.wrap id := by rw [wrap_i16, wrap_i16]; unfold wrap64; omega
  rw [w1, w2]

theorem L_isOK1 (g c : Nat) (X : World) (h : X.cell? ⟨g, 0, none⟩ = some (.int .i64 0)) : Calls Tryz.prog 24 #[.slice (some ⟨g, 0, none⟩) 1 c] X (fun e w' => e = .returned (.bool true) ∧ X = w') := by
  go_enter Tryz.func24, Tryz.ntmps24
  go_wp2_with fail
  go_loopw [3] (fun i wr => (i = .int .i64 0 ∧ wr = X) ∨ (i = .int .i64 1 ∧ wr = X)) (fun i _ => 1 - (intOf i).toNat)
  case atStart => exact Or.inl ⟨rfl, rfl⟩
  case round =>
    rcases hrel with ⟨rfl, rfl⟩ | ⟨rfl, rfl⟩
    · go_wp2
      go_roundw
      case rel => first | exact Or.inr ⟨rfl, rfl⟩ | exact Or.inr ⟨rfl, trivial⟩
      case measure => simp [intOf]
    · go_wp2
      go_ret
      first | exact ⟨rfl, rfl⟩ | exact ⟨rfl, trivial⟩ | trivial
end Go.Proofs.YtoikkjefaakchaaGreatDoor
