/- What numbers are to laws.alone; laws.by. -/
import Derived.Deep.RegionHeld3
import Derived.Test.YtkfkieebcahiiaaGreatDoorZ9
import Derived.Test.YtkfkieebcahiiaaGreatDoorZBy
import Derived.Test.YtkfkieebcahiiaaGreatDoorZ3
set_option linter.all false
namespace Go.Proofs.YtkfkieebcahiiaaGreatDoor
open Go Go.RowKit
set_option maxHeartbeats 40000000
set_option maxRecDepth 100000

theorem w64 (x : Int) : IntKind.i64.wrap x = wrap64 x := by
  unfold wrap64
  simp [IntKind.wrap, IntKind.bits, IntKind.signed]
  omega
/-- A step with a number alone. -/
abbrev numS (op n : Int) : Stp := ⟨op, 0, 0, 0, 0, n, .slice none 0 0, []⟩
theorem take_app {a b : List UInt8} {k : Nat} (h : a.length = k) : (a ++ b).take k = a := by rw [← h]; exact List.take_left
theorem drop_app {a b : List UInt8} {k : Nat} (h : a.length = k) : (a ++ b).drop k = b := by rw [← h]; exact List.drop_left
theorem be2_wrap (n : Int) : be2 (IntKind.i16.wrap n) = be2 n := by
  unfold be2
  rw [wrap_i16]
  congr 2
  omega
theorem be8_u64 (n : Int) : be8 ((IntKind.u64.wrap n).toNat : Int) = be8 n := by
  unfold be8
  rw [IntKind.wrap_u64]
  congr 2
  omega
theorem brun_one {c : ConfV} {l rest : List UInt8} {x : Stp} {op : ROp} {v : RVal} (ho : x.rop = some op) (hn : bnext c l op = some (0, v, rest)) : brun c l [x] = some ([op.got v], rest) := by
  simp [brun, ho, hn]
theorem num14 (c : ConfV) (n : Int) (tail : List UInt8) : (numS 14 n).binB c.strictW = bigB n 1 ∧ brun c (bigB n 1 ++ tail) [numS 14 n] = some ([({ n := wrap64 (IntKind.i8.wrap n) } : GotD)], tail) := by
  refine ⟨by rw [bigB_1]; show [b8 _] = _; rw [b8_wrap], ?_⟩
  rw [bigB_1]
  have := brun_one (c := c) (l := [b8 n] ++ tail) (rest := tail) (x := numS 14 n) (op := .byte) rfl rfl
  rw [this]
  show some ([({ n := wrap64 (IntKind.i8.wrap (b8 n).toNat) } : GotD)], tail) = _
  rw [rd1]
theorem num15 (c : ConfV) (n : Int) (tail : List UInt8) : (numS 15 n).binB c.strictW = bigB n 2 ∧ brun c (bigB n 2 ++ tail) [numS 15 n] = some ([({ n := wrap64 (IntKind.i16.wrap n) } : GotD)], tail) := by
  refine ⟨by rw [bigB_2]; show be2 _ = _; rw [be2_wrap], ?_⟩
  rw [bigB_2]
  rw [brun_one (op := .i16) (v := { n := IntKind.i16.wrap (Lib.beNat (be2 n)) }) (rest := tail) rfl (by simp only [bnext]; rw [if_pos (by rw [List.length_append, be2_length]; omega), take_app (be2_length n), drop_app (be2_length n)])]
  show some ([({ n := wrap64 (IntKind.i16.wrap (Lib.beNat (be2 n))) } : GotD)], tail) = _
  rw [rd2]
theorem num16 (c : ConfV) (n : Int) (tail : List UInt8) : (numS 16 n).binB c.strictW = bigB n 4 ∧ brun c (bigB n 4 ++ tail) [numS 16 n] = some ([({ n := wrap64 (IntKind.i32.wrap n) } : GotD)], tail) := by
  refine ⟨by rw [bigB_4]; show be4 _ = _; rw [be4_wrapK], ?_⟩
  rw [bigB_4]
  rw [brun_one (op := .i32) (v := { n := wrap32 (Lib.beNat (be4 n)) }) (rest := tail) rfl (by simp only [bnext]; rw [if_pos (by rw [List.length_append, be4_length]; omega), take_app (be4_length n), drop_app (be4_length n)])]
  show some ([({ n := wrap64 (wrap32 (Lib.beNat (be4 n))) } : GotD)], tail) = _
  rw [rd4, wrap_i32']
  unfold wrap32
  rfl
theorem n64 {n : Int} (h0 : -9223372036854775808 ≤ n) (h1 : n ≤ 9223372036854775807) : wrap64 (Lib.beNat (be8 n)) = n := by
  rw [rd8]
  unfold wrap64
  omega
theorem num17 (c : ConfV) (n : Int) (tail : List UInt8) (h0 : -9223372036854775808 ≤ n) (h1 : n ≤ 9223372036854775807) : (numS 17 n).binB c.strictW = bigB n 8 ∧ brun c (bigB n 8 ++ tail) [numS 17 n] = some ([({ n := n } : GotD)], tail) := by
  refine ⟨rfl, ?_⟩
  rw [bigB_8]
  rw [brun_one (op := .i64) (v := { n := wrap64 (Lib.beNat (be8 n)) }) (rest := tail) rfl (by simp only [bnext]; rw [if_pos (by rw [List.length_append, be8_length]; omega), take_app (be8_length n), drop_app (be8_length n)])]
  show some ([({ n := wrap64 (Lib.beNat (be8 n)) } : GotD)], tail) = _
  rw [n64 h0 h1]
theorem num18 (c : ConfV) (n : Int) (tail : List UInt8) (h0 : -9223372036854775808 ≤ n) (h1 : n ≤ 9223372036854775807) : (numS 18 n).binB c.strictW = bigB n 8 ∧ brun c (bigB n 8 ++ tail) [numS 18 n] = some ([({ n := n } : GotD)], tail) := by
  refine ⟨by rw [bigB_8]; show be8 _ = _; rw [be8_u64], ?_⟩
  rw [bigB_8]
  rw [brun_one (op := .double) (v := { f := Lib.beNat (be8 n) }) (rest := tail) rfl (by simp only [bnext]; rw [if_pos (by rw [List.length_append, be8_length]; omega), take_app (be8_length n), drop_app (be8_length n)])]
  show some ([({ n := wrap64 (Lib.beNat (be8 n)) } : GotD)], tail) = _
  rw [n64 h0 h1]
theorem num13 (c : ConfV) (n bit : Int) (u : UInt8) (tail : List UInt8) (h : (n = 0 ∧ bit = 0 ∧ u = 0) ∨ (n ≠ 0 ∧ bit = 1 ∧ u = 1)) : (numS 13 n).binB c.strictW = [u] ∧ brun c ([u] ++ tail) [numS 13 n] = some ([({ n := bit } : GotD)], tail) := by
  rcases h with ⟨rfl, rfl, rfl⟩ | ⟨h, rfl, rfl⟩
  · exact ⟨rfl, brun_one (op := .bool) (v := { b := false }) rfl rfl⟩
  · refine ⟨?_, brun_one (op := .bool) (v := { b := true }) rfl rfl⟩
    have : (n != 0) = true := by simpa using h
    show [if (n != 0) = true then (1 : UInt8) else 0] = _
    rw [if_pos this]

theorem drew_at {W : World} {k : Nat} {o : Obj} (h : W.heap[k]? = some o) : W.drew.heap[k]? = some o := h
theorem Rd_byte (W : World) (N : Nat) (hN : W.heap.size = N) (u : UInt8) (y : Int) (hy : y = u.toNat) : Rd (W.alloc (.cells #[.int .u8 y] U8 (0, 0))).drew (.slice (some ⟨N, 0, none⟩) 1 1) [u] := by
  subst hN hy
  have h : (W.alloc (.cells #[.int .u8 (u.toNat : Int)] U8 (0, 0))).drew.heap[W.heap.size]? = some (.cells #[.int .u8 (u.toNat : Int)] U8 (0, 0)) := alloc_new W _
  refine Or.inr ⟨_, 1, 1, rfl, rfl, Nat.le_refl _, by decide, fun j v hj => ?_⟩
  match j, hj with
  | 0, hj =>
    simp at hj
    subst hj
    rw [Lib.addr_add, cell_at h]
    rfl

end Go.Proofs.YtkfkieebcahiiaaGreatDoor
