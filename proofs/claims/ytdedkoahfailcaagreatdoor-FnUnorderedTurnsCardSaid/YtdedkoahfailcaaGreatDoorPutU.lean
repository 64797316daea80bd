/- encoding/binary: PutUint16, PutUint32, PutUint64 into a struct's array. -/
import Derived.Test.YtdedkoahfailcaaGreatDoorWrite
import Derived.Lib.Endian
import Derived.Lib.EndianBits
namespace Go.Proofs.YtdedkoahfailcaaGreatDoor
open Go Go.RowKit

/-- The bytes of an array in a block, behind other cells. -/
def Arr (w : World) (g : Nat) (T : TypeId) (hd : List Value) (buf : List UInt8) : Prop := w.heap[g]? = some (.cells (hd ++ Lib.byteCells buf).toArray T (0, 0))

theorem Arr.cell {w : World} {g : Nat} {T : TypeId} {hd : List Value} {buf : List UInt8} (h : Arr w g T hd buf) (j : Nat) (hj : j < buf.length) : w.cell? ⟨g, hd.length + j, none⟩ = some (.int .u8 (buf[j]).toNat) := by
  rw [cell_at h]
  simp [Lib.byteCells, hj]
theorem Arr.head {w : World} {g : Nat} {T : TypeId} {hd : List Value} {buf : List UInt8} (h : Arr w g T hd buf) (j : Nat) (v : Value) (hj : hd[j]? = some v) : w.cell? ⟨g, j, none⟩ = some v := by
  rw [cell_at h, List.getElem?_toArray, List.getElem?_append_left (List.getElem?_eq_some_iff.1 hj).1, hj]
theorem Arr.free {w : World} {g : Nat} {T : TypeId} {hd : List Value} {buf : List UInt8} (h : Arr w g T hd buf) (j : Nat) : w.frozen? ⟨g, j, none⟩ = false := free_at h j
theorem Arr.set {w : World} {g : Nat} {T : TypeId} {hd : List Value} {buf : List UInt8} (h : Arr w g T hd buf) (j : Nat) (u : UInt8) : Arr (w.setCell ⟨g, hd.length + j, none⟩ (.int .u8 u.toNat)) g T hd (buf.set j u) := by
  unfold Arr
  rw [setCell_at h]
  simp [Lib.byteCells, List.map_set]
theorem Arr.setHead {w : World} {g : Nat} {T : TypeId} {hd : List Value} {buf : List UInt8} (h : Arr w g T hd buf) (j : Nat) (hj : j < hd.length) (v : Value) : Arr (w.setCell ⟨g, j, none⟩ v) g T (hd.set j v) buf := by
  unfold Arr
  rw [setCell_at h]
  simp [hj]
/-- Only block g. -/
def one (g : Nat) : Nat → Prop := fun k => k = g

/-- Put and its result. -/
def PutP (w : World) (g : Nat) (T : TypeId) (hd : List Value) (buf : List UInt8) (e : Ending) (w' : World) : Prop := e = .returned (.tuple #[]) ∧ Arr w' g T hd buf ∧ Fr (one g) (one g) w w'

set_option maxHeartbeats 2000000 in
set_option maxRecDepth 100000 in
/-- BE.PutUint16 into the head of an array. -/
theorem PutBE2 (g o v : Nat) (hd : List Value) (buf : List UInt8) (T : TypeId) (w : World) (h : Arr w g T hd buf) (ho : hd.length = o) (hv : v < 65536) (hl : 2 ≤ buf.length) :
    Calls Tryz.prog 255 #[.agg #[], .slice (some ⟨g, o, none⟩) 2 64, .int .u16 v] w (PutP w g T hd (Lib.beBytes 2 v ++ buf.drop 2)) := by
  subst ho
  have h' : Arr (w.alloc (.cells #[] 317)) g T hd buf := alloc_at h
  have d0 : (w.alloc (.cells #[] 317)).cell? ⟨g, hd.length, none⟩ = some (.int .u8 (buf[0]).toNat) := h'.cell 0 (by omega)
  have f0 : (w.alloc (.cells #[] 317)).frozen? ⟨g, hd.length, none⟩ = false := h'.free _
  have d1 : (w.alloc (.cells #[] 317)).cell? ⟨g, hd.length + 1, none⟩ = some (.int .u8 (buf[1]).toNat) := h'.cell 1 (by omega)
  have f1 : (w.alloc (.cells #[] 317)).frozen? ⟨g, hd.length + 1, none⟩ = false := h'.free _
  have e0 : (v : Int) / 256 = ((((v / 256) % 256).toUInt8).toNat : Int) := by rw [Lib.toUInt8_mod]; omega
  have e1 : (v : Int) % 256 = (((v % 256).toUInt8).toNat : Int) := by rw [Lib.toUInt8_mod]; omega
  have hbs : Lib.beBytes 2 v = [((v / 256) % 256).toUInt8, (v % 256).toUInt8] := by
    simp only [Lib.beBytes, Lib.leBytes, List.reverse_cons, List.reverse_nil, List.nil_append, List.cons_append]
  obtain ⟨a0, a1, rest, rfl⟩ : ∃ a0 a1 rest, buf = a0 :: a1 :: rest := by
    match buf, hl with
    | a0 :: a1 :: rest, _ => exact ⟨a0, a1, rest, rfl⟩
  have hA : Arr (((w.alloc (.cells #[] 317)).setCell ⟨g, hd.length, none⟩ (.int .u8 ((((v / 256) % 256).toUInt8).toNat : Int))).setCell ⟨g, hd.length + 1, none⟩ (.int .u8 (((v % 256).toUInt8).toNat : Int))) g T hd (((v / 256) % 256).toUInt8 :: (v % 256).toUInt8 :: rest) := ((h'.set 0 _).set 1 _)
  have hF : Fr (one g) (one g) w (((w.alloc (.cells #[] 317)).setCell ⟨g, hd.length, none⟩ (.int .u8 ((((v / 256) % 256).toUInt8).toNat : Int))).setCell ⟨g, hd.length + 1, none⟩ (.int .u8 (((v % 256).toUInt8).toNat : Int))) := ((((Fr.refl (one g) w).alloc _).setCell (p := ⟨g, hd.length, none⟩) (Or.inl rfl) _).setCell (p := ⟨g, hd.length + 1, none⟩) (Or.inl rfl) _)
  have HA := Lib.hid hA
  have HF := Lib.hid hF
  have HB := Lib.hid hbs
  have E0 := Lib.hid e0
  have E1 := Lib.hid e1
  clear hA hF hbs e0 e1 h h'
  go_enter Tryz.func255, Tryz.ntmps255
  go_wp2
  go_end0
  rw [E0.out, E1.out]
  refine ⟨rfl, ?_, HF.out⟩
  rw [HB.out]
  exact HA.out

set_option maxHeartbeats 2000000 in
set_option maxRecDepth 100000 in
/-- BE.PutUint32 into the head of an array. -/
theorem PutBE4 (g o v : Nat) (hd : List Value) (buf : List UInt8) (T : TypeId) (w : World) (h : Arr w g T hd buf) (ho : hd.length = o) (hv : v < 4294967296) (hl : 4 ≤ buf.length) :
    Calls Tryz.prog 256 #[.agg #[], .slice (some ⟨g, o, none⟩) 4 64, .int .u32 v] w (PutP w g T hd (Lib.beBytes 4 v ++ buf.drop 4)) := by
  subst ho
  have h' : Arr (w.alloc (.cells #[] 317)) g T hd buf := alloc_at h
  have d0 : (w.alloc (.cells #[] 317)).cell? ⟨g, hd.length, none⟩ = some (.int .u8 (buf[0]).toNat) := h'.cell 0 (by omega)
  have f0 : (w.alloc (.cells #[] 317)).frozen? ⟨g, hd.length, none⟩ = false := h'.free _
  have d1 : (w.alloc (.cells #[] 317)).cell? ⟨g, hd.length + 1, none⟩ = some (.int .u8 (buf[1]).toNat) := h'.cell 1 (by omega)
  have f1 : (w.alloc (.cells #[] 317)).frozen? ⟨g, hd.length + 1, none⟩ = false := h'.free _
  have d2 : (w.alloc (.cells #[] 317)).cell? ⟨g, hd.length + 2, none⟩ = some (.int .u8 (buf[2]).toNat) := h'.cell 2 (by omega)
  have f2 : (w.alloc (.cells #[] 317)).frozen? ⟨g, hd.length + 2, none⟩ = false := h'.free _
  have d3 : (w.alloc (.cells #[] 317)).cell? ⟨g, hd.length + 3, none⟩ = some (.int .u8 (buf[3]).toNat) := h'.cell 3 (by omega)
  have f3 : (w.alloc (.cells #[] 317)).frozen? ⟨g, hd.length + 3, none⟩ = false := h'.free _
  have e0 : (v : Int) / 16777216 = ((((v / 16777216) % 256).toUInt8).toNat : Int) := by rw [Lib.toUInt8_mod]; omega
  have e1 : (v : Int) / 65536 % 256 = ((((v / 65536) % 256).toUInt8).toNat : Int) := by rw [Lib.toUInt8_mod]; omega
  have e2 : (v : Int) / 256 % 256 = ((((v / 256) % 256).toUInt8).toNat : Int) := by rw [Lib.toUInt8_mod]; omega
  have e3 : (v : Int) % 256 = (((v % 256).toUInt8).toNat : Int) := by rw [Lib.toUInt8_mod]; omega
  have hbs : Lib.beBytes 4 v = [((v / 16777216) % 256).toUInt8, ((v / 65536) % 256).toUInt8, ((v / 256) % 256).toUInt8, (v % 256).toUInt8] := by
    simp only [Lib.beBytes, Lib.leBytes, List.reverse_cons, List.reverse_nil, List.nil_append, List.cons_append, Nat.div_div_eq_div_mul, Nat.reduceMul]
  obtain ⟨a0, a1, a2, a3, rest, rfl⟩ : ∃ a0 a1 a2 a3 rest, buf = a0 :: a1 :: a2 :: a3 :: rest := by
    match buf, hl with
    | a0 :: a1 :: a2 :: a3 :: rest, _ => exact ⟨a0, a1, a2, a3, rest, rfl⟩
  have hA : Arr (((((w.alloc (.cells #[] 317)).setCell ⟨g, hd.length, none⟩ (.int .u8 ((((v / 16777216) % 256).toUInt8).toNat : Int))).setCell ⟨g, hd.length + 1, none⟩ (.int .u8 ((((v / 65536) % 256).toUInt8).toNat : Int))).setCell ⟨g, hd.length + 2, none⟩ (.int .u8 ((((v / 256) % 256).toUInt8).toNat : Int))).setCell ⟨g, hd.length + 3, none⟩ (.int .u8 (((v % 256).toUInt8).toNat : Int))) g T hd (((v / 16777216) % 256).toUInt8 :: ((v / 65536) % 256).toUInt8 :: ((v / 256) % 256).toUInt8 :: (v % 256).toUInt8 :: rest) := ((((h'.set 0 _).set 1 _).set 2 _).set 3 _)
  have hF : Fr (one g) (one g) w (((((w.alloc (.cells #[] 317)).setCell ⟨g, hd.length, none⟩ (.int .u8 ((((v / 16777216) % 256).toUInt8).toNat : Int))).setCell ⟨g, hd.length + 1, none⟩ (.int .u8 ((((v / 65536) % 256).toUInt8).toNat : Int))).setCell ⟨g, hd.length + 2, none⟩ (.int .u8 ((((v / 256) % 256).toUInt8).toNat : Int))).setCell ⟨g, hd.length + 3, none⟩ (.int .u8 (((v % 256).toUInt8).toNat : Int))) := ((((((Fr.refl (one g) w).alloc _).setCell (p := ⟨g, hd.length, none⟩) (Or.inl rfl) _).setCell (p := ⟨g, hd.length + 1, none⟩) (Or.inl rfl) _).setCell (p := ⟨g, hd.length + 2, none⟩) (Or.inl rfl) _).setCell (p := ⟨g, hd.length + 3, none⟩) (Or.inl rfl) _)
  have HA := Lib.hid hA
  have HF := Lib.hid hF
  have HB := Lib.hid hbs
  have E0 := Lib.hid e0
  have E1 := Lib.hid e1
  have E2 := Lib.hid e2
  have E3 := Lib.hid e3
  clear hA hF hbs e0 e1 e2 e3 h h'
  go_enter Tryz.func256, Tryz.ntmps256
  go_wp2
  go_end0
  rw [E0.out, E1.out, E2.out, E3.out]
  refine ⟨rfl, ?_, HF.out⟩
  rw [HB.out]
  exact HA.out

set_option maxHeartbeats 2000000 in
set_option maxRecDepth 100000 in
/-- BE.PutUint64 into the head of an array. -/
theorem PutBE8 (g o v : Nat) (hd : List Value) (buf : List UInt8) (T : TypeId) (w : World) (h : Arr w g T hd buf) (ho : hd.length = o) (hv : v < 18446744073709551616) (hl : 8 ≤ buf.length) :
    Calls Tryz.prog 257 #[.agg #[], .slice (some ⟨g, o, none⟩) 8 64, .int .u64 v] w (PutP w g T hd (Lib.beBytes 8 v ++ buf.drop 8)) := by
  subst ho
  have h' : Arr (w.alloc (.cells #[] 317)) g T hd buf := alloc_at h
  have d0 : (w.alloc (.cells #[] 317)).cell? ⟨g, hd.length, none⟩ = some (.int .u8 (buf[0]).toNat) := h'.cell 0 (by omega)
  have f0 : (w.alloc (.cells #[] 317)).frozen? ⟨g, hd.length, none⟩ = false := h'.free _
  have d1 : (w.alloc (.cells #[] 317)).cell? ⟨g, hd.length + 1, none⟩ = some (.int .u8 (buf[1]).toNat) := h'.cell 1 (by omega)
  have f1 : (w.alloc (.cells #[] 317)).frozen? ⟨g, hd.length + 1, none⟩ = false := h'.free _
  have d2 : (w.alloc (.cells #[] 317)).cell? ⟨g, hd.length + 2, none⟩ = some (.int .u8 (buf[2]).toNat) := h'.cell 2 (by omega)
  have f2 : (w.alloc (.cells #[] 317)).frozen? ⟨g, hd.length + 2, none⟩ = false := h'.free _
  have d3 : (w.alloc (.cells #[] 317)).cell? ⟨g, hd.length + 3, none⟩ = some (.int .u8 (buf[3]).toNat) := h'.cell 3 (by omega)
  have f3 : (w.alloc (.cells #[] 317)).frozen? ⟨g, hd.length + 3, none⟩ = false := h'.free _
  have d4 : (w.alloc (.cells #[] 317)).cell? ⟨g, hd.length + 4, none⟩ = some (.int .u8 (buf[4]).toNat) := h'.cell 4 (by omega)
  have f4 : (w.alloc (.cells #[] 317)).frozen? ⟨g, hd.length + 4, none⟩ = false := h'.free _
  have d5 : (w.alloc (.cells #[] 317)).cell? ⟨g, hd.length + 5, none⟩ = some (.int .u8 (buf[5]).toNat) := h'.cell 5 (by omega)
  have f5 : (w.alloc (.cells #[] 317)).frozen? ⟨g, hd.length + 5, none⟩ = false := h'.free _
  have d6 : (w.alloc (.cells #[] 317)).cell? ⟨g, hd.length + 6, none⟩ = some (.int .u8 (buf[6]).toNat) := h'.cell 6 (by omega)
  have f6 : (w.alloc (.cells #[] 317)).frozen? ⟨g, hd.length + 6, none⟩ = false := h'.free _
  have d7 : (w.alloc (.cells #[] 317)).cell? ⟨g, hd.length + 7, none⟩ = some (.int .u8 (buf[7]).toNat) := h'.cell 7 (by omega)
  have f7 : (w.alloc (.cells #[] 317)).frozen? ⟨g, hd.length + 7, none⟩ = false := h'.free _
  have e0 : (v : Int) / 72057594037927936 = ((((v / 72057594037927936) % 256).toUInt8).toNat : Int) := by rw [Lib.toUInt8_mod]; omega
  have e1 : (v : Int) / 281474976710656 % 256 = ((((v / 281474976710656) % 256).toUInt8).toNat : Int) := by rw [Lib.toUInt8_mod]; omega
  have e2 : (v : Int) / 1099511627776 % 256 = ((((v / 1099511627776) % 256).toUInt8).toNat : Int) := by rw [Lib.toUInt8_mod]; omega
  have e3 : (v : Int) / 4294967296 % 256 = ((((v / 4294967296) % 256).toUInt8).toNat : Int) := by rw [Lib.toUInt8_mod]; omega
  have e4 : (v : Int) / 16777216 % 256 = ((((v / 16777216) % 256).toUInt8).toNat : Int) := by rw [Lib.toUInt8_mod]; omega
  have e5 : (v : Int) / 65536 % 256 = ((((v / 65536) % 256).toUInt8).toNat : Int) := by rw [Lib.toUInt8_mod]; omega
  have e6 : (v : Int) / 256 % 256 = ((((v / 256) % 256).toUInt8).toNat : Int) := by rw [Lib.toUInt8_mod]; omega
  have e7 : (v : Int) % 256 = (((v % 256).toUInt8).toNat : Int) := by rw [Lib.toUInt8_mod]; omega
  have hbs : Lib.beBytes 8 v = [((v / 72057594037927936) % 256).toUInt8, ((v / 281474976710656) % 256).toUInt8, ((v / 1099511627776) % 256).toUInt8, ((v / 4294967296) % 256).toUInt8, ((v / 16777216) % 256).toUInt8, ((v / 65536) % 256).toUInt8, ((v / 256) % 256).toUInt8, (v % 256).toUInt8] := by
    simp only [Lib.beBytes, Lib.leBytes, List.reverse_cons, List.reverse_nil, List.nil_append, List.cons_append, Nat.div_div_eq_div_mul, Nat.reduceMul]
  obtain ⟨a0, a1, a2, a3, a4, a5, a6, a7, rest, rfl⟩ : ∃ a0 a1 a2 a3 a4 a5 a6 a7 rest, buf = a0 :: a1 :: a2 :: a3 :: a4 :: a5 :: a6 :: a7 :: rest := by
    match buf, hl with
    | a0 :: a1 :: a2 :: a3 :: a4 :: a5 :: a6 :: a7 :: rest, _ => exact ⟨a0, a1, a2, a3, a4, a5, a6, a7, rest, rfl⟩
  have hA : Arr (((((((((w.alloc (.cells #[] 317)).setCell ⟨g, hd.length, none⟩ (.int .u8 ((((v / 72057594037927936) % 256).toUInt8).toNat : Int))).setCell ⟨g, hd.length + 1, none⟩ (.int .u8 ((((v / 281474976710656) % 256).toUInt8).toNat : Int))).setCell ⟨g, hd.length + 2, none⟩ (.int .u8 ((((v / 1099511627776) % 256).toUInt8).toNat : Int))).setCell ⟨g, hd.length + 3, none⟩ (.int .u8 ((((v / 4294967296) % 256).toUInt8).toNat : Int))).setCell ⟨g, hd.length + 4, none⟩ (.int .u8 ((((v / 16777216) % 256).toUInt8).toNat : Int))).setCell ⟨g, hd.length + 5, none⟩ (.int .u8 ((((v / 65536) % 256).toUInt8).toNat : Int))).setCell ⟨g, hd.length + 6, none⟩ (.int .u8 ((((v / 256) % 256).toUInt8).toNat : Int))).setCell ⟨g, hd.length + 7, none⟩ (.int .u8 (((v % 256).toUInt8).toNat : Int))) g T hd (((v / 72057594037927936) % 256).toUInt8 :: ((v / 281474976710656) % 256).toUInt8 :: ((v / 1099511627776) % 256).toUInt8 :: ((v / 4294967296) % 256).toUInt8 :: ((v / 16777216) % 256).toUInt8 :: ((v / 65536) % 256).toUInt8 :: ((v / 256) % 256).toUInt8 :: (v % 256).toUInt8 :: rest) := ((((((((h'.set 0 _).set 1 _).set 2 _).set 3 _).set 4 _).set 5 _).set 6 _).set 7 _)
  have hF : Fr (one g) (one g) w (((((((((w.alloc (.cells #[] 317)).setCell ⟨g, hd.length, none⟩ (.int .u8 ((((v / 72057594037927936) % 256).toUInt8).toNat : Int))).setCell ⟨g, hd.length + 1, none⟩ (.int .u8 ((((v / 281474976710656) % 256).toUInt8).toNat : Int))).setCell ⟨g, hd.length + 2, none⟩ (.int .u8 ((((v / 1099511627776) % 256).toUInt8).toNat : Int))).setCell ⟨g, hd.length + 3, none⟩ (.int .u8 ((((v / 4294967296) % 256).toUInt8).toNat : Int))).setCell ⟨g, hd.length + 4, none⟩ (.int .u8 ((((v / 16777216) % 256).toUInt8).toNat : Int))).setCell ⟨g, hd.length + 5, none⟩ (.int .u8 ((((v / 65536) % 256).toUInt8).toNat : Int))).setCell ⟨g, hd.length + 6, none⟩ (.int .u8 ((((v / 256) % 256).toUInt8).toNat : Int))).setCell ⟨g, hd.length + 7, none⟩ (.int .u8 (((v % 256).toUInt8).toNat : Int))) := ((((((((((Fr.refl (one g) w).alloc _).setCell (p := ⟨g, hd.length, none⟩) (Or.inl rfl) _).setCell (p := ⟨g, hd.length + 1, none⟩) (Or.inl rfl) _).setCell (p := ⟨g, hd.length + 2, none⟩) (Or.inl rfl) _).setCell (p := ⟨g, hd.length + 3, none⟩) (Or.inl rfl) _).setCell (p := ⟨g, hd.length + 4, none⟩) (Or.inl rfl) _).setCell (p := ⟨g, hd.length + 5, none⟩) (Or.inl rfl) _).setCell (p := ⟨g, hd.length + 6, none⟩) (Or.inl rfl) _).setCell (p := ⟨g, hd.length + 7, none⟩) (Or.inl rfl) _)
  have HA := Lib.hid hA
  have HF := Lib.hid hF
  have HB := Lib.hid hbs
  have E0 := Lib.hid e0
  have E1 := Lib.hid e1
  have E2 := Lib.hid e2
  have E3 := Lib.hid e3
  have E4 := Lib.hid e4
  have E5 := Lib.hid e5
  have E6 := Lib.hid e6
  have E7 := Lib.hid e7
  clear hA hF hbs e0 e1 e2 e3 e4 e5 e6 e7 h h'
  go_enter Tryz.func257, Tryz.ntmps257
  go_wp2
  go_end0
  rw [E0.out, E1.out, E2.out, E3.out, E4.out, E5.out, E6.out, E7.out]
  refine ⟨rfl, ?_, HF.out⟩
  rw [HB.out]
  exact HA.out

set_option maxHeartbeats 2000000 in
set_option maxRecDepth 100000 in
/-- LE.PutUint64 into the head of an array. -/
theorem PutLE8 (g o v : Nat) (hd : List Value) (buf : List UInt8) (T : TypeId) (w : World) (h : Arr w g T hd buf) (ho : hd.length = o) (hv : v < 18446744073709551616) (hl : 8 ≤ buf.length) :
    Calls Tryz.prog 179 #[.agg #[], .slice (some ⟨g, o, none⟩) 8 64, .int .u64 v] w (PutP w g T hd (Lib.leBytes 8 v ++ buf.drop 8)) := by
  subst ho
  have h' : Arr (w.alloc (.cells #[] 272)) g T hd buf := alloc_at h
  have d0 : (w.alloc (.cells #[] 272)).cell? ⟨g, hd.length, none⟩ = some (.int .u8 (buf[0]).toNat) := h'.cell 0 (by omega)
  have f0 : (w.alloc (.cells #[] 272)).frozen? ⟨g, hd.length, none⟩ = false := h'.free _
  have d1 : (w.alloc (.cells #[] 272)).cell? ⟨g, hd.length + 1, none⟩ = some (.int .u8 (buf[1]).toNat) := h'.cell 1 (by omega)
  have f1 : (w.alloc (.cells #[] 272)).frozen? ⟨g, hd.length + 1, none⟩ = false := h'.free _
  have d2 : (w.alloc (.cells #[] 272)).cell? ⟨g, hd.length + 2, none⟩ = some (.int .u8 (buf[2]).toNat) := h'.cell 2 (by omega)
  have f2 : (w.alloc (.cells #[] 272)).frozen? ⟨g, hd.length + 2, none⟩ = false := h'.free _
  have d3 : (w.alloc (.cells #[] 272)).cell? ⟨g, hd.length + 3, none⟩ = some (.int .u8 (buf[3]).toNat) := h'.cell 3 (by omega)
  have f3 : (w.alloc (.cells #[] 272)).frozen? ⟨g, hd.length + 3, none⟩ = false := h'.free _
  have d4 : (w.alloc (.cells #[] 272)).cell? ⟨g, hd.length + 4, none⟩ = some (.int .u8 (buf[4]).toNat) := h'.cell 4 (by omega)
  have f4 : (w.alloc (.cells #[] 272)).frozen? ⟨g, hd.length + 4, none⟩ = false := h'.free _
  have d5 : (w.alloc (.cells #[] 272)).cell? ⟨g, hd.length + 5, none⟩ = some (.int .u8 (buf[5]).toNat) := h'.cell 5 (by omega)
  have f5 : (w.alloc (.cells #[] 272)).frozen? ⟨g, hd.length + 5, none⟩ = false := h'.free _
  have d6 : (w.alloc (.cells #[] 272)).cell? ⟨g, hd.length + 6, none⟩ = some (.int .u8 (buf[6]).toNat) := h'.cell 6 (by omega)
  have f6 : (w.alloc (.cells #[] 272)).frozen? ⟨g, hd.length + 6, none⟩ = false := h'.free _
  have d7 : (w.alloc (.cells #[] 272)).cell? ⟨g, hd.length + 7, none⟩ = some (.int .u8 (buf[7]).toNat) := h'.cell 7 (by omega)
  have f7 : (w.alloc (.cells #[] 272)).frozen? ⟨g, hd.length + 7, none⟩ = false := h'.free _
  have e0 : (v : Int) % 256 = (((v % 256).toUInt8).toNat : Int) := by rw [Lib.toUInt8_mod]; omega
  have e1 : (v : Int) / 256 % 256 = ((((v / 256) % 256).toUInt8).toNat : Int) := by rw [Lib.toUInt8_mod]; omega
  have e2 : (v : Int) / 65536 % 256 = ((((v / 65536) % 256).toUInt8).toNat : Int) := by rw [Lib.toUInt8_mod]; omega
  have e3 : (v : Int) / 16777216 % 256 = ((((v / 16777216) % 256).toUInt8).toNat : Int) := by rw [Lib.toUInt8_mod]; omega
  have e4 : (v : Int) / 4294967296 % 256 = ((((v / 4294967296) % 256).toUInt8).toNat : Int) := by rw [Lib.toUInt8_mod]; omega
  have e5 : (v : Int) / 1099511627776 % 256 = ((((v / 1099511627776) % 256).toUInt8).toNat : Int) := by rw [Lib.toUInt8_mod]; omega
  have e6 : (v : Int) / 281474976710656 % 256 = ((((v / 281474976710656) % 256).toUInt8).toNat : Int) := by rw [Lib.toUInt8_mod]; omega
  have e7 : (v : Int) / 72057594037927936 = ((((v / 72057594037927936) % 256).toUInt8).toNat : Int) := by rw [Lib.toUInt8_mod]; omega
  have hbs : Lib.leBytes 8 v = [(v % 256).toUInt8, ((v / 256) % 256).toUInt8, ((v / 65536) % 256).toUInt8, ((v / 16777216) % 256).toUInt8, ((v / 4294967296) % 256).toUInt8, ((v / 1099511627776) % 256).toUInt8, ((v / 281474976710656) % 256).toUInt8, ((v / 72057594037927936) % 256).toUInt8] := by
    simp only [Lib.leBytes, Nat.div_div_eq_div_mul, Nat.reduceMul]
  obtain ⟨a0, a1, a2, a3, a4, a5, a6, a7, rest, rfl⟩ : ∃ a0 a1 a2 a3 a4 a5 a6 a7 rest, buf = a0 :: a1 :: a2 :: a3 :: a4 :: a5 :: a6 :: a7 :: rest := by
    match buf, hl with
    | a0 :: a1 :: a2 :: a3 :: a4 :: a5 :: a6 :: a7 :: rest, _ => exact ⟨a0, a1, a2, a3, a4, a5, a6, a7, rest, rfl⟩
  have hA : Arr (((((((((w.alloc (.cells #[] 272)).setCell ⟨g, hd.length, none⟩ (.int .u8 (((v % 256).toUInt8).toNat : Int))).setCell ⟨g, hd.length + 1, none⟩ (.int .u8 ((((v / 256) % 256).toUInt8).toNat : Int))).setCell ⟨g, hd.length + 2, none⟩ (.int .u8 ((((v / 65536) % 256).toUInt8).toNat : Int))).setCell ⟨g, hd.length + 3, none⟩ (.int .u8 ((((v / 16777216) % 256).toUInt8).toNat : Int))).setCell ⟨g, hd.length + 4, none⟩ (.int .u8 ((((v / 4294967296) % 256).toUInt8).toNat : Int))).setCell ⟨g, hd.length + 5, none⟩ (.int .u8 ((((v / 1099511627776) % 256).toUInt8).toNat : Int))).setCell ⟨g, hd.length + 6, none⟩ (.int .u8 ((((v / 281474976710656) % 256).toUInt8).toNat : Int))).setCell ⟨g, hd.length + 7, none⟩ (.int .u8 ((((v / 72057594037927936) % 256).toUInt8).toNat : Int))) g T hd ((v % 256).toUInt8 :: ((v / 256) % 256).toUInt8 :: ((v / 65536) % 256).toUInt8 :: ((v / 16777216) % 256).toUInt8 :: ((v / 4294967296) % 256).toUInt8 :: ((v / 1099511627776) % 256).toUInt8 :: ((v / 281474976710656) % 256).toUInt8 :: ((v / 72057594037927936) % 256).toUInt8 :: rest) := ((((((((h'.set 0 _).set 1 _).set 2 _).set 3 _).set 4 _).set 5 _).set 6 _).set 7 _)
  have hF : Fr (one g) (one g) w (((((((((w.alloc (.cells #[] 272)).setCell ⟨g, hd.length, none⟩ (.int .u8 (((v % 256).toUInt8).toNat : Int))).setCell ⟨g, hd.length + 1, none⟩ (.int .u8 ((((v / 256) % 256).toUInt8).toNat : Int))).setCell ⟨g, hd.length + 2, none⟩ (.int .u8 ((((v / 65536) % 256).toUInt8).toNat : Int))).setCell ⟨g, hd.length + 3, none⟩ (.int .u8 ((((v / 16777216) % 256).toUInt8).toNat : Int))).setCell ⟨g, hd.length + 4, none⟩ (.int .u8 ((((v / 4294967296) % 256).toUInt8).toNat : Int))).setCell ⟨g, hd.length + 5, none⟩ (.int .u8 ((((v / 1099511627776) % 256).toUInt8).toNat : Int))).setCell ⟨g, hd.length + 6, none⟩ (.int .u8 ((((v / 281474976710656) % 256).toUInt8).toNat : Int))).setCell ⟨g, hd.length + 7, none⟩ (.int .u8 ((((v / 72057594037927936) % 256).toUInt8).toNat : Int))) := ((((((((((Fr.refl (one g) w).alloc _).setCell (p := ⟨g, hd.length, none⟩) (Or.inl rfl) _).setCell (p := ⟨g, hd.length + 1, none⟩) (Or.inl rfl) _).setCell (p := ⟨g, hd.length + 2, none⟩) (Or.inl rfl) _).setCell (p := ⟨g, hd.length + 3, none⟩) (Or.inl rfl) _).setCell (p := ⟨g, hd.length + 4, none⟩) (Or.inl rfl) _).setCell (p := ⟨g, hd.length + 5, none⟩) (Or.inl rfl) _).setCell (p := ⟨g, hd.length + 6, none⟩) (Or.inl rfl) _).setCell (p := ⟨g, hd.length + 7, none⟩) (Or.inl rfl) _)
  have HA := Lib.hid hA
  have HF := Lib.hid hF
  have HB := Lib.hid hbs
  have E0 := Lib.hid e0
  have E1 := Lib.hid e1
  have E2 := Lib.hid e2
  have E3 := Lib.hid e3
  have E4 := Lib.hid e4
  have E5 := Lib.hid e5
  have E6 := Lib.hid e6
  have E7 := Lib.hid e7
  clear hA hF hbs e0 e1 e2 e3 e4 e5 e6 e7 h h'
  go_enter Tryz.func179, Tryz.ntmps179
  go_wp2
  go_end0
  rw [E0.out, E1.out, E2.out, E3.out, E4.out, E5.out, E6.out, E7.out]
  refine ⟨rfl, ?_, HF.out⟩
  rw [HB.out]
  exact HA.out

end Go.Proofs.YtdedkoahfailcaaGreatDoor
