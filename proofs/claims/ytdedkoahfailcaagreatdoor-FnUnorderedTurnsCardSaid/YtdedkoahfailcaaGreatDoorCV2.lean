/- Zigzag, and the compact protocol's numbers. -/
import Derived.Test.YtdedkoahfailcaaGreatDoorCV
namespace Go.Proofs.YtdedkoahfailcaaGreatDoor
open Go Go.RowKit

/-- Zigzag: the sign at the end. -/
def zig (v : Int) : Int := if v < 0 then -2 * v - 1 else 2 * v
def zag (x : Int) : Int := if x % 2 = 0 then x / 2 else -(x / 2) - 1

theorem xor0_i32 (x : Int) : bits .xor .i32 x 0 = IntKind.i32.wrap x := by
  show IntKind.i32.wrap ((BitVec.ofInt 32 x ^^^ BitVec.ofInt 32 0).toNat : Int) = _
  rw [show BitVec.ofInt 32 0 = 0#32 by decide, BitVec.xor_zero, BitVec.toNat_ofInt]
  simp [IntKind.wrap, IntKind.bits, IntKind.signed]
  omega
theorem xorM_i32 (x : Int) : bits .xor .i32 x (-1) = IntKind.i32.wrap (-1 - x) := by
  show IntKind.i32.wrap ((BitVec.ofInt 32 x ^^^ BitVec.ofInt 32 (-1)).toNat : Int) = _
  rw [show BitVec.ofInt 32 (-1) = BitVec.allOnes 32 by decide, BitVec.xor_allOnes, BitVec.toNat_not, BitVec.toNat_ofInt]
  simp [IntKind.wrap, IntKind.bits, IntKind.signed]
  omega
theorem xor0_i64 (x : Int) : bits .xor .i64 x 0 = IntKind.i64.wrap x := by
  show IntKind.i64.wrap ((BitVec.ofInt 64 x ^^^ BitVec.ofInt 64 0).toNat : Int) = _
  rw [show BitVec.ofInt 64 0 = 0#64 by decide, BitVec.xor_zero, BitVec.toNat_ofInt]
  simp [IntKind.wrap, IntKind.bits, IntKind.signed]
  omega
theorem xorM_i64 (x : Int) : bits .xor .i64 x (-1) = IntKind.i64.wrap (-1 - x) := by
  show IntKind.i64.wrap ((BitVec.ofInt 64 x ^^^ BitVec.ofInt 64 (-1)).toNat : Int) = _
  rw [show BitVec.ofInt 64 (-1) = BitVec.allOnes 64 by decide, BitVec.xor_allOnes, BitVec.toNat_not, BitVec.toNat_ofInt]
  simp [IntKind.wrap, IntKind.bits, IntKind.signed]
  omega

theorem C_int32ToZigzag (p : Value) (v : Int) (hv : -2147483648 ≤ v) (hv2 : v < 2147483648) (w : World) : Calls Tryz.prog 161 #[p, .int .i32 v] w fun e w' => e = .returned (.int .i32 (wrap32 (zig v))) ∧ w' = w := by
  have hz : bits .xor .i32 (wrap32 (v * 2)) (v / 2147483648) = wrap32 (zig v) := by
    unfold zig
    split
    · rw [show v / 2147483648 = -1 by omega, xorM_i32, wrap_i32']
      unfold wrap32
      omega
    · rw [show v / 2147483648 = 0 by omega, xor0_i32, wrap_i32']
      unfold wrap32
      omega
  have HZ := Lib.hid hz
  clear hz
  go_enter Tryz.func161, Tryz.ntmps161
  go_wp2
  go_ret
  refine ⟨?_, rfl⟩
  rw [HZ.out]
  rfl
theorem C_int64ToZigzag (p : Value) (v : Int) (hv : -9223372036854775808 ≤ v) (hv2 : v < 9223372036854775808) (w : World) : Calls Tryz.prog 180 #[p, .int .i64 v] w fun e w' => e = .returned (.int .i64 (wrap64 (zig v))) ∧ w' = w := by
  have hz : bits .xor .i64 (wrap64 (v * 2)) (v / 9223372036854775808) = wrap64 (zig v) := by
    unfold zig
    split
    · rw [show v / 9223372036854775808 = -1 by omega, xorM_i64, IntKind.wrap_i64]
      unfold wrap64
      omega
    · rw [show v / 9223372036854775808 = 0 by omega, xor0_i64, IntKind.wrap_i64]
      unfold wrap64
      omega
  have HZ := Lib.hid hz
  clear hz
  go_enter Tryz.func180, Tryz.ntmps180
  go_wp2
  go_ret
  refine ⟨?_, rfl⟩
  rw [HZ.out]
  rfl

theorem zig_32 (v : Int) (hv : -2147483648 ≤ v) (hv2 : v < 2147483648) : wrap32 (zig v) % 4294967296 = zig v := by
  unfold zig wrap32; split <;> omega
theorem zig_64 (v : Int) (hv : -9223372036854775808 ≤ v) (hv2 : v < 9223372036854775808) : wrap64 (zig v) % 18446744073709551616 = zig v := by
  unfold zig wrap64; split <;> omega

set_option maxHeartbeats 1000000
set_option maxRecDepth 100000
theorem C_WriteI16 (p m b T : Nat) (cf c : Value) (s : CSt) (l : List UInt8) (v : Int) (hv : -32768 ≤ v) (hv2 : v < 32768) (w : World) (h : CP w p m b cf s T true l) (hlim : T + 5 ≤ LIM) :
    Calls Tryz.prog 148 #[.pointer (some ⟨p, 0, none⟩), c, .int .i16 v] w (CW w p m b cf s s T l (vint (zig v).toNat) .nilIface) := by
  have h1 := C_int32ToZigzag (.pointer (some ⟨p, 0, none⟩)) v (by omega) (by omega)
  have h2 := C_writeVarint32 p m b T cf s l (wrap32 (zig v)) w h hlim
  rw [zig_32 v (by omega) (by omega)] at h2
  have H1 := Lib.hid h1
  have H2 := Lib.hid h2
  clear h1 h2 h
  go_enter Tryz.func148, Tryz.ntmps148
  go_wp2_with fail
  refine (H1.out _).mono ?_
  rintro e w1 ⟨rfl, rfl⟩
  go_wp2_with fail
  refine H2.out.mono ?_
  rintro e w1 hw
  obtain rfl := hw.1
  have HW := Lib.hid hw
  clear hw
  go_wp2_with (go_at_call 163; refine (exc_nil _).mono ?_; rintro e w' ⟨rfl, rfl⟩)
  go_ret
  exact ⟨rfl, HW.out.2⟩
theorem C_WriteI32 (p m b T : Nat) (cf c : Value) (s : CSt) (l : List UInt8) (v : Int) (hv : -2147483648 ≤ v) (hv2 : v < 2147483648) (w : World) (h : CP w p m b cf s T true l) (hlim : T + 5 ≤ LIM) :
    Calls Tryz.prog 149 #[.pointer (some ⟨p, 0, none⟩), c, .int .i32 v] w (CW w p m b cf s s T l (vint (zig v).toNat) .nilIface) := by
  have h1 := C_int32ToZigzag (.pointer (some ⟨p, 0, none⟩)) v (by omega) (by omega)
  have h2 := C_writeVarint32 p m b T cf s l (wrap32 (zig v)) w h hlim
  rw [zig_32 v (by omega) (by omega)] at h2
  have H1 := Lib.hid h1
  have H2 := Lib.hid h2
  clear h1 h2 h
  go_enter Tryz.func149, Tryz.ntmps149
  go_wp2_with fail
  refine (H1.out _).mono ?_
  rintro e w1 ⟨rfl, rfl⟩
  go_wp2_with fail
  refine H2.out.mono ?_
  rintro e w1 hw
  obtain rfl := hw.1
  have HW := Lib.hid hw
  clear hw
  go_wp2_with (go_at_call 163; refine (exc_nil _).mono ?_; rintro e w' ⟨rfl, rfl⟩)
  go_ret
  exact ⟨rfl, HW.out.2⟩
theorem C_WriteI64 (p m b T : Nat) (cf c : Value) (s : CSt) (l : List UInt8) (v : Int) (hv : -9223372036854775808 ≤ v) (hv2 : v < 9223372036854775808) (w : World) (h : CP w p m b cf s T true l) (hlim : T + 10 ≤ LIM) :
    Calls Tryz.prog 150 #[.pointer (some ⟨p, 0, none⟩), c, .int .i64 v] w (CW w p m b cf s s T l (vint (zig v).toNat) .nilIface) := by
  have h1 := C_int64ToZigzag (.pointer (some ⟨p, 0, none⟩)) v (by omega) (by omega)
  have h2 := C_writeVarint64 p m b T cf s l (wrap64 (zig v)) w h hlim
  rw [zig_64 v (by omega) (by omega)] at h2
  have H1 := Lib.hid h1
  have H2 := Lib.hid h2
  clear h1 h2 h
  go_enter Tryz.func150, Tryz.ntmps150
  go_wp2_with fail
  refine (H1.out _).mono ?_
  rintro e w1 ⟨rfl, rfl⟩
  go_wp2_with fail
  refine H2.out.mono ?_
  rintro e w1 hw
  obtain rfl := hw.1
  have HW := Lib.hid hw
  clear hw
  go_wp2_with (go_at_call 163; refine (exc_nil _).mono ?_; rintro e w' ⟨rfl, rfl⟩)
  go_ret
  exact ⟨rfl, HW.out.2⟩
end Go.Proofs.YtdedkoahfailcaaGreatDoor
