/- FnUnzigzag: both sides turn alike. -/
import Derived.Test.YthpkdjgekokemaaGreatDoorKnown
namespace Go.Proofs.YthpkdjgekokemaaGreatDoor
open Go Go.RowKit
set_option maxHeartbeats 1000000
set_option maxRecDepth 100000

theorem and1_i64 (n : Int) : bits .and .i64 n 1 = n % 2 := by
  have h1 : (BitVec.ofInt 64 1).toNat = 2 ^ 1 - 1 := by decide
  have key : (BitVec.ofInt 64 n &&& BitVec.ofInt 64 1).toNat = (n % ((2 ^ 64 : Nat) : Int)).toNat % 2 ^ 1 := by
    rw [BitVec.toNat_and, BitVec.toNat_ofInt, h1, Nat.and_two_pow_sub_one_eq_mod]
  show IntKind.i64.wrap ((BitVec.ofInt 64 n &&& BitVec.ofInt 64 1).toNat : Nat) = n % 2
  rw [key]
  rw [IntKind.wrap_i64]
  omega
theorem and1_i32 (n : Int) : bits .and .i32 n 1 = n % 2 := by
  have h1 : (BitVec.ofInt 32 1).toNat = 2 ^ 1 - 1 := by decide
  have key : (BitVec.ofInt 32 n &&& BitVec.ofInt 32 1).toNat = (n % ((2 ^ 32 : Nat) : Int)).toNat % 2 ^ 1 := by
    rw [BitVec.toNat_and, BitVec.toNat_ofInt, h1, Nat.and_two_pow_sub_one_eq_mod]
  show IntKind.i32.wrap ((BitVec.ofInt 32 n &&& BitVec.ofInt 32 1).toNat : Nat) = n % 2
  rw [key]
  rw [wrap_i32']
  omega
theorem and1_u64 (n : Int) : bits .and .u64 n 1 = n % 2 := by
  have h1 : (BitVec.ofInt 64 1).toNat = 2 ^ 1 - 1 := by decide
  have key : (BitVec.ofInt 64 n &&& BitVec.ofInt 64 1).toNat = (n % ((2 ^ 64 : Nat) : Int)).toNat % 2 ^ 1 := by
    rw [BitVec.toNat_and, BitVec.toNat_ofInt, h1, Nat.and_two_pow_sub_one_eq_mod]
  show IntKind.u64.wrap ((BitVec.ofInt 64 n &&& BitVec.ofInt 64 1).toNat : Nat) = n % 2
  rw [key]
  rw [IntKind.wrap_u64]
  omega
theorem and1_u32 (n : Int) : bits .and .u32 n 1 = n % 2 := by
  have h1 : (BitVec.ofInt 32 1).toNat = 2 ^ 1 - 1 := by decide
  have key : (BitVec.ofInt 32 n &&& BitVec.ofInt 32 1).toNat = (n % ((2 ^ 32 : Nat) : Int)).toNat % 2 ^ 1 := by
    rw [BitVec.toNat_and, BitVec.toNat_ofInt, h1, Nat.and_two_pow_sub_one_eq_mod]
  show IntKind.u32.wrap ((BitVec.ofInt 32 n &&& BitVec.ofInt 32 1).toNat : Nat) = n % 2
  rw [key]
  simp [IntKind.wrap, IntKind.bits, IntKind.signed]
  omega

/-- The number whose zigzag is u. -/
def uz64 (u : Int) : Int := bits .xor .i64 (wrap64 (u / 2)) (wrap64 (-(u % 2)))
def uz32 (u : Int) : Int := bits .xor .i32 (wrap32 (u / 2)) (wrap32 (-(u % 2)))

theorem C_zigzagToInt64 (p : Value) (v : Int) (w : World) : Calls Tryz.prog 36 #[p, .int .i64 v] w fun e w' => e = .returned (.int .i64 (uz64 (v % 18446744073709551616))) ∧ w = w' := by
  have he : bits .xor .i64 (wrap64 (IntKind.u64.wrap v / 2)) (wrap64 (-bits .and .i64 v 1)) = uz64 (v % 18446744073709551616) := by
    unfold uz64
    rw [and1_i64, IntKind.wrap_u64, show v % 18446744073709551616 % 2 = v % 2 by omega]
  have HE := Lib.hid he
  clear he
  go_enter Tryz.func36, Tryz.ntmps36
  go_wp2
  go_ret
  refine ⟨?_, rfl⟩
  rw [← HE.out]
  rfl
theorem C_zigzagToInt32 (p : Value) (v : Int) (w : World) : Calls Tryz.prog 37 #[p, .int .i32 v] w fun e w' => e = .returned (.int .i32 (uz32 (v % 4294967296))) ∧ w = w' := by
  have he : bits .xor .i32 (v % 4294967296 / 2) (wrap32 (-bits .and .i32 v 1)) = uz32 (v % 4294967296) := by
    unfold uz32
    rw [and1_i32, show v % 4294967296 % 2 = v % 2 by omega, show wrap32 (v % 4294967296 / 2) = v % 4294967296 / 2 by unfold wrap32; omega]
  have HE := Lib.hid he
  clear he
  go_enter Tryz.func37, Tryz.ntmps37
  go_wp2
  go_ret
  refine ⟨?_, rfl⟩
  rw [← HE.out]
  rfl
theorem S_unzigzag64 (v : Int) (w : World) : Calls Tryz.prog 24 #[.int .u64 v] w fun e w' => e = .returned (.int .i64 (uz64 v)) ∧ w = w' := by
  have he : bits .xor .i64 (wrap64 (v / 2)) (wrap64 (-wrap64 (bits .and .u64 v 1))) = uz64 v := by
    unfold uz64
    rw [and1_u64, show wrap64 (v % 2) = v % 2 by unfold wrap64; omega]
  have HE := Lib.hid he
  clear he
  go_enter Tryz.func24, Tryz.ntmps24
  go_wp2
  go_ret
  refine ⟨?_, rfl⟩
  rw [← HE.out]
  rfl
theorem Door64 (v : Int) (w : World) : Calls Tryz.prog 22 #[.int .i64 v] w fun e w' => e = .returned (.int .i64 (uz64 (IntKind.u64.wrap v))) ∧ Fr noF noF w w' := by
  have hz := C_zigzagToInt64
  have HZ := Lib.hid hz
  have hu : IntKind.u64.wrap v = v % (2 ^ 64 : Int) := by simp [IntKind.wrap, IntKind.bits, IntKind.signed]
  have HU := Lib.hid hu
  clear hz hu
  go_enter Tryz.func22, Tryz.ntmps22
  go_wp2_with (go_at_call 36; refine (HZ.out _ _ _).mono ?_; rintro e w' ⟨rfl, rfl⟩)
  go_ret
  refine ⟨?_, (Fr.refl _ w).alloc _⟩
  rw [HU.out]
  rfl
theorem S_unzigzag32 (v : Int) (w : World) : Calls Tryz.prog 25 #[.int .u32 v] w fun e w' => e = .returned (.int .i32 (uz32 v)) ∧ w = w' := by
  have he : bits .xor .i32 (wrap32 (v / 2)) (wrap32 (-wrap32 (bits .and .u32 v 1))) = uz32 v := by
    unfold uz32
    rw [and1_u32, show wrap32 (v % 2) = v % 2 by unfold wrap32; omega]
  have HE := Lib.hid he
  clear he
  go_enter Tryz.func25, Tryz.ntmps25
  go_wp2
  go_ret
  refine ⟨?_, rfl⟩
  rw [← HE.out]
  rfl
theorem Door32 (v : Int) (w : World) : Calls Tryz.prog 23 #[.int .i32 v] w fun e w' => e = .returned (.int .i32 (uz32 (IntKind.u32.wrap v))) ∧ Fr noF noF w w' := by
  have hz := C_zigzagToInt32
  have HZ := Lib.hid hz
  have hu : IntKind.u32.wrap v = v % (2 ^ 32 : Int) := by simp [IntKind.wrap, IntKind.bits, IntKind.signed]
  have HU := Lib.hid hu
  clear hz hu
  go_enter Tryz.func23, Tryz.ntmps23
  go_wp2_with (go_at_call 37; refine (HZ.out _ _ _).mono ?_; rintro e w' ⟨rfl, rfl⟩)
  go_ret
  refine ⟨?_, (Fr.refl _ w).alloc _⟩
  rw [HU.out]
  rfl

/-- Unzigzag, either way. -/
def uzz (n : Int) (long : Bool) : Int := if long then uz64 (IntKind.u64.wrap n) else wrap64 (uz32 (n % 4294967296))
theorem I_Unzigzag (n : Int) (long : Bool) (w : World) : Calls Tryz.prog 9 #[.int .i64 n, .bool long] w fun e w' => e = .returned (.int .i64 (uzz n long)) ∧ Fr noF noF w w' := by
  have H1 := Lib.hid Door64
  have H2 := Lib.hid Door32
  cases long
  · go_enter Tryz.func9, Tryz.ntmps9
    go_wp2_with (go_at_call 23; refine (H2.out _ _).mono ?_; rintro e w1 ⟨rfl, hf⟩; have HF := Lib.hid hf; clear hf)
    go_ret
    refine ⟨?_, HF.out⟩
    have hw : wrap32 n % 4294967296 = n % 4294967296 := by unfold wrap32; omega
    show Ending.returned (.int .i64 (wrap64 (uz32 (wrap32 n % 4294967296)))) = _
    rw [hw]
    rfl
  · go_enter Tryz.func9, Tryz.ntmps9
    go_wp2_with (go_at_call 22; refine (H1.out _ _).mono ?_; rintro e w1 ⟨rfl, hf⟩; have HF := Lib.hid hf; clear hf)
    go_ret
    exact ⟨rfl, HF.out⟩
theorem S_Unzigzag (n : Int) (long : Bool) (w : World) : Calls Tryz.prog 10 #[.int .i64 n, .bool long] w fun e w' => e = .returned (.int .i64 (uzz n long)) ∧ w = w' := by
  have H1 := Lib.hid S_unzigzag64
  have H2 := Lib.hid S_unzigzag32
  cases long
  · go_enter Tryz.func10, Tryz.ntmps10
    go_wp2_with (go_at_call 25; refine (H2.out _ _).mono ?_; rintro e w1 ⟨rfl, rfl⟩)
    go_ret
    exact ⟨rfl, rfl⟩
  · go_enter Tryz.func10, Tryz.ntmps10
    go_wp2_with (go_at_call 24; refine (H1.out _ _).mono ?_; rintro e w1 ⟨rfl, rfl⟩)
    go_ret
    exact ⟨rfl, rfl⟩

theorem L_FnUnzigzag (n : Int) (long : Bool) (w : World) : Calls Tryz.prog 4 #[.int .i64 n, .bool long] w fun e w' => e = .returned (.bool true) ∧ Fr noF noF w w' := by
  have H1 := Lib.hid (I_Unzigzag n long)
  have H2 := Lib.hid (S_Unzigzag n long)
  have HK := Lib.hid L_known
  go_enter Tryz.func4, Tryz.ntmps4
  go_wp2_with fail
  refine (H1.out _).mono ?_
  rintro e w1 ⟨rfl, hf⟩
  have HF := Lib.hid hf
  clear hf
  go_wp2_with fail
  refine (H2.out _).mono ?_
  rintro e w2 ⟨rfl, rfl⟩
  have hb : (uzz n long == uzz n long) = true := by simp
  go_wp2_with fail
  refine (HK.out _).mono ?_
  rintro e w2 ⟨rfl, hf⟩
  have HG := Lib.hid (HF.out.trans hf)
  clear hf HF
  go_wp2
  go_ret
  exact ⟨rfl, HG.out⟩
end Go.Proofs.YthpkdjgekokemaaGreatDoor
