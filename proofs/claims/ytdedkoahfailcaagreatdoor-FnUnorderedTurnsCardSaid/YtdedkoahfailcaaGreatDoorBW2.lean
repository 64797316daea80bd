/- The binary protocol over a memory buffer: its further writing methods. -/
import Derived.Test.YtdedkoahfailcaaGreatDoorBW
namespace Go.Proofs.YtdedkoahfailcaaGreatDoor
open Go Go.RowKit

theorem b8_wrap (t : Int) : b8 (IntKind.i8.wrap t) = b8 t := by
  unfold b8
  rw [show IntKind.i8.wrap t % 256 = t % 256 by simp [IntKind.wrap, IntKind.bits, IntKind.signed]; omega]
theorem be4_wrap (t : Int) : be4 (wrap32 t) = be4 t := by
  unfold be4 wrap32
  rw [show ((t + 2147483648) % 4294967296 - 2147483648) % 4294967296 = t % 4294967296 by omega]

theorem be8_wrap (t : Int) : be8 (wrap64 t) = be8 t := by
  unfold be8 wrap64
  rw [show ((t + 9223372036854775808) % 18446744073709551616 - 9223372036854775808) % 18446744073709551616 = t % 18446744073709551616 by omega]

/-- Two writings, one behind the other. -/
theorem BW.seq {w w1 w2 : World} {p m b T : Nat} {cf : Value} {l n1 n2 : List UInt8} {e1 e2 : Ending} (h1 : BW w p m b cf T l n1 e1 w1) (h2 : BW w1 p m b cf (T + n1.length) (l ++ n1) n2 e2 w2) : BW w p m b cf T l (n1 ++ n2) e2 w2 := by
  obtain ⟨_, a1, f1⟩ := h1
  obtain ⟨he, a2, f2⟩ := h2
  refine ⟨he, ?_, f1.trans f2⟩
  rw [List.length_append, ← Nat.add_assoc, ← List.append_assoc]
  exact a2
theorem BW.refl {w : World} {p m b T : Nat} {cf : Value} {l : List UInt8} (h : BP w p m b cf T true l) : BW w p m b cf T l [] (.returned .nilIface) w := ⟨rfl, by simpa using h, Fr.refl _ _⟩

theorem B_WriteStructEnd (p : Value) (c : Value) (w : World) : Calls Tryz.prog 247 #[p, c] w fun e w' => e = .returned .nilIface ∧ w = w' := by
  go_enter Tryz.func247, Tryz.ntmps247
  go_wp2
  go_ret
  exact ⟨rfl, rfl⟩
theorem B_WriteFieldEnd (p : Value) (c : Value) (w : World) : Calls Tryz.prog 232 #[p, c] w fun e w' => e = .returned .nilIface ∧ w = w' := by
  go_enter Tryz.func232, Tryz.ntmps232
  go_wp2
  go_ret
  exact ⟨rfl, rfl⟩
theorem B_WriteMapEnd (p : Value) (c : Value) (w : World) : Calls Tryz.prog 240 #[p, c] w fun e w' => e = .returned .nilIface ∧ w = w' := by
  go_enter Tryz.func240, Tryz.ntmps240
  go_wp2
  go_ret
  exact ⟨rfl, rfl⟩
theorem B_WriteListEnd (p : Value) (c : Value) (w : World) : Calls Tryz.prog 238 #[p, c] w fun e w' => e = .returned .nilIface ∧ w = w' := by
  go_enter Tryz.func238, Tryz.ntmps238
  go_wp2
  go_ret
  exact ⟨rfl, rfl⟩
theorem B_WriteSetEnd (p : Value) (c : Value) (w : World) : Calls Tryz.prog 244 #[p, c] w fun e w' => e = .returned .nilIface ∧ w = w' := by
  go_enter Tryz.func244, Tryz.ntmps244
  go_wp2
  go_ret
  exact ⟨rfl, rfl⟩
theorem B_WriteStructBegin (p c n : Value) (w : World) : Calls Tryz.prog 246 #[p, c, n] w fun e w' => e = .returned .nilIface ∧ w = w' := by
  go_enter Tryz.func246, Tryz.ntmps246
  go_wp2
  go_ret
  exact ⟨rfl, rfl⟩

set_option maxHeartbeats 1000000
set_option maxRecDepth 100000

theorem B_WriteBool (p m b T : Nat) (cf c : Value) (l : List UInt8) (v : Bool) (w : World) (h : BP w p m b cf T true l) (hlim : T + 1 ≤ LIM) :
    Calls Tryz.prog 228 #[.pointer (some ⟨p, 0, none⟩), c, .bool v] w (BW w p m b cf T l [if v then 1 else 0]) := by
  have h1 := B_WriteByte p m b T cf c l 1 w h hlim
  have h0 := B_WriteByte p m b T cf c l 0 w h hlim
  have H1 := Lib.hid h1
  have H0 := Lib.hid h0
  clear h h1 h0
  cases v
  · go_enter Tryz.func228, Tryz.ntmps228
    go_wp2_with fail
    refine H0.out.mono ?_
    rintro e w1 hw
    obtain rfl := hw.1
    have HW := Lib.hid hw
    clear hw
    go_wp2
    go_ret
    exact HW.out
  · go_enter Tryz.func228, Tryz.ntmps228
    go_wp2_with fail
    refine H1.out.mono ?_
    rintro e w1 hw
    obtain rfl := hw.1
    have HW := Lib.hid hw
    clear hw
    go_wp2
    go_ret
    exact HW.out

theorem B_WriteFieldBegin (p m b T : Nat) (cf c n : Value) (l : List UInt8) (t i : Int) (w : World) (h : BP w p m b cf T true l) (hlim : T + 3 ≤ LIM) :
    Calls Tryz.prog 231 #[.pointer (some ⟨p, 0, none⟩), c, n, .int .u8 t, .int .i16 i] w (BW w p m b cf T l (b8 t :: be2 i)) := by
  have H := Lib.hid h
  clear h
  go_enter Tryz.func231, Tryz.ntmps231
  go_wp2_with fail
  refine (B_WriteByte p m b T cf c l _ w H.out (by omega)).mono ?_
  rintro e w1 hw
  obtain rfl := hw.1
  rw [b8_wrap] at hw
  have HW := Lib.hid hw
  clear hw
  go_wp2_with fail
  refine (B_WriteI16 p m b _ cf c _ i w1 HW.out.2.1 (by simp; omega)).mono ?_
  rintro e w2 hw
  obtain rfl := hw.1
  have HX := Lib.hid (HW.out.seq hw)
  clear hw
  go_wp2
  go_ret
  exact HX.out

theorem B_WriteFieldStop (p m b T : Nat) (cf c : Value) (l : List UInt8) (w : World) (h : BP w p m b cf T true l) (hlim : T + 1 ≤ LIM) :
    Calls Tryz.prog 233 #[.pointer (some ⟨p, 0, none⟩), c] w (BW w p m b cf T l [0]) := by
  have H1 := Lib.hid (B_WriteByte p m b T cf c l 0 w h hlim)
  clear h
  go_enter Tryz.func233, Tryz.ntmps233
  go_wp2_with fail
  refine H1.out.mono ?_
  rintro e w1 hw
  obtain rfl := hw.1
  have HW := Lib.hid hw
  clear hw
  go_wp2
  go_ret
  exact HW.out

theorem B_WriteListBegin (p m b T : Nat) (cf c : Value) (l : List UInt8) (t n : Int) (w : World) (h : BP w p m b cf T true l) (hlim : T + 5 ≤ LIM) :
    Calls Tryz.prog 237 #[.pointer (some ⟨p, 0, none⟩), c, .int .u8 t, .int .i64 n] w (BW w p m b cf T l (b8 t :: be4 n)) := by
  have H := Lib.hid h
  clear h
  go_enter Tryz.func237, Tryz.ntmps237
  go_wp2_with fail
  refine (B_WriteByte p m b T cf c l _ w H.out (by omega)).mono ?_
  rintro e w1 hw
  obtain rfl := hw.1
  rw [b8_wrap] at hw
  have HW := Lib.hid hw
  clear hw
  go_wp2_with fail
  refine (B_WriteI32 p m b _ cf c _ _ w1 HW.out.2.1 (by simp; omega)).mono ?_
  rintro e w2 hw
  obtain rfl := hw.1
  rw [be4_wrap] at hw
  have HX := Lib.hid (HW.out.seq hw)
  clear hw
  go_wp2
  go_ret
  exact HX.out
theorem B_WriteSetBegin (p m b T : Nat) (cf c : Value) (l : List UInt8) (t n : Int) (w : World) (h : BP w p m b cf T true l) (hlim : T + 5 ≤ LIM) :
    Calls Tryz.prog 243 #[.pointer (some ⟨p, 0, none⟩), c, .int .u8 t, .int .i64 n] w (BW w p m b cf T l (b8 t :: be4 n)) := by
  have H := Lib.hid h
  clear h
  go_enter Tryz.func243, Tryz.ntmps243
  go_wp2_with fail
  refine (B_WriteByte p m b T cf c l _ w H.out (by omega)).mono ?_
  rintro e w1 hw
  obtain rfl := hw.1
  rw [b8_wrap] at hw
  have HW := Lib.hid hw
  clear hw
  go_wp2_with fail
  refine (B_WriteI32 p m b _ cf c _ _ w1 HW.out.2.1 (by simp; omega)).mono ?_
  rintro e w2 hw
  obtain rfl := hw.1
  rw [be4_wrap] at hw
  have HX := Lib.hid (HW.out.seq hw)
  clear hw
  go_wp2
  go_ret
  exact HX.out

theorem B_WriteMapBegin (p m b T : Nat) (cf c : Value) (l : List UInt8) (k t n : Int) (w : World) (h : BP w p m b cf T true l) (hlim : T + 6 ≤ LIM) :
    Calls Tryz.prog 239 #[.pointer (some ⟨p, 0, none⟩), c, .int .u8 k, .int .u8 t, .int .i64 n] w (BW w p m b cf T l (b8 k :: b8 t :: be4 n)) := by
  have H := Lib.hid h
  clear h
  go_enter Tryz.func239, Tryz.ntmps239
  go_wp2_with fail
  refine (B_WriteByte p m b T cf c l _ w H.out (by omega)).mono ?_
  rintro e w1 hw
  obtain rfl := hw.1
  rw [b8_wrap] at hw
  have HW := Lib.hid hw
  clear hw
  go_wp2_with fail
  refine (B_WriteByte p m b _ cf c _ _ w1 HW.out.2.1 (by simp; omega)).mono ?_
  rintro e w2 hw
  obtain rfl := hw.1
  rw [b8_wrap] at hw
  have HY := Lib.hid (HW.out.seq hw)
  clear hw
  go_wp2_with fail
  refine (B_WriteI32 p m b _ cf c _ _ w2 HY.out.2.1 (by simp; omega)).mono ?_
  rintro e w3 hw
  obtain rfl := hw.1
  rw [be4_wrap] at hw
  have HX := Lib.hid (HY.out.seq hw)
  clear hw
  go_wp2
  go_ret
  exact HX.out

theorem B_WriteString (p m b T : Nat) (cf c : Value) (l : List UInt8) (s : ByteArray) (w : World) (h : BP w p m b cf T true l) (hlim : T + 4 + s.size ≤ LIM) :
    Calls Tryz.prog 245 #[.pointer (some ⟨p, 0, none⟩), c, .string s] w (BW w p m b cf T l (be4 s.size ++ s.data.toList)) := by
  have hss : s.data.toList.length = s.size := by rw [Array.length_toList]; rfl
  have H := Lib.hid h
  have HS := Lib.hid hss
  have HL := Lib.hid hlim
  clear h hss hlim
  go_enter Tryz.func245, Tryz.ntmps245
  go_wp2_with fail
  refine (B_WriteI32 p m b T cf c l _ w H.out (by have := HL.out; omega)).mono ?_
  rintro e w1 hw
  obtain rfl := hw.1
  rw [be4_wrap] at hw
  obtain ⟨bf, hbf, ha⟩ := hw.2.1.arr
  have c0 := ha.head 0 _ rfl
  have hme := meth_WriteString hw.2.1.mem.cell
  have HW := Lib.hid hw
  clear hw ha hbf
  go_wp2_with fail
  refine (Buf_WriteString b _ _ s w1 HW.out.2.1.buf (by rw [be4_length]; exact HL.out)).mono ?_
  rintro e w2 ⟨rfl, hB, hF⟩
  have HX := Lib.hid (HW.out.2.1.lift hB hF)
  clear hB hF
  go_wp2_with (go_at_call 163; refine (exc_nil _).mono ?_; rintro e w' ⟨rfl, rfl⟩)
  go_ret
  exact HW.out.seq ⟨rfl, by rw [HS.out]; exact HX.out.1, HX.out.2⟩

theorem run_f64bits (v : Nat) (w : World) : (callFunc 88 #[.float .f64 v]).run Tryz.prog w = .ok (.value (.int .u64 v)) w := by kernel_rfl
theorem run_f64from (v : Int) (w : World) : (callFunc 74 #[.int .u64 v]).run Tryz.prog w = .ok (.value (.float .f64 v.toNat)) w := by kernel_rfl

theorem B_WriteDouble (p m b T : Nat) (cf c : Value) (l : List UInt8) (v : Nat) (w : World) (h : BP w p m b cf T true l) (hlim : T + 8 ≤ LIM) :
    Calls Tryz.prog 230 #[.pointer (some ⟨p, 0, none⟩), c, .float .f64 v] w (BW w p m b cf T l (be8 v)) := by
  have hr := run_f64bits v
  have H := Lib.hid h
  clear h
  go_enter Tryz.func230, Tryz.ntmps230
  go_wp2_with fail
  refine (B_WriteI64 p m b T cf c l _ w H.out hlim).mono ?_
  rintro e w1 hw
  obtain rfl := hw.1
  rw [be8_wrap] at hw
  have HW := Lib.hid hw
  clear hw
  go_wp2
  go_ret
  exact HW.out
end Go.Proofs.YtdedkoahfailcaaGreatDoor
