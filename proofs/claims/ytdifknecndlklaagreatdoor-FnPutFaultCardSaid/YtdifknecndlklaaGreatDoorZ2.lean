/- The binary protocol over a memory buffer: what its writing methods write. The binary protocol over a memory buffer: its further writing methods. The binary protocol: a uuid is written. A literal map of whole numbers, made and asked: the compact type of a type. The compact protocol over a memory buffer: its state, and bytes written directly. Whole numbers by seven bits: plain lemmas on bits. The varints of the compact protocol. Zigzag, and the compact protocol's numbers. Configurations: how one is made, and what it says. The binary protocol over a memory buffer: bytes, and the begin of a message, are written. -/
import Derived.Deep.RegionHeld3
import Derived.WalkSpells
import Derived.ChangeMaps4
import Derived.WalkKit
import Derived.Test.YtdifknecndlklaaGreatDoorZ1
import Derived.Test.YtdifknecndlklaaGreatDoorProg
set_option linter.all false
namespace Go.Proofs.YtdifknecndlklaaGreatDoor
open Go Go.RowKit

abbrev PM : TypeId := 78
abbrev TM : TypeId := 95
abbrev TBP : TypeId := 235
/-- A memory buffer as a transport. -/
abbrev memI (m : Nat) : Value := .iface PM (.pointer (some ⟨m, 0, none⟩))

/-- A memory buffer in block m, its bytes.Buffer in block b. -/
def Mem (w : World) (m b : Nat) : Prop := ∃ sz, w.heap[m]? = some (.cells #[.pointer (some ⟨b, 0, none⟩), .int .i64 sz] TM (0, 0))

/-- A binary protocol in block p over the memory buffer m. -/
structure BP (w : World) (p m b : Nat) (cf : Value) (T : Nat) (z : Bool) (l : List UInt8) : Prop where
  arr : ∃ buf, buf.length = 64 ∧ Arr w p TBP [memI m, memI m, cf] buf
  mem : Mem w m b
  buf : Buf w b T z l

/-- Its blocks that turn. -/
def BPF (w : World) (p b : Nat) : Nat → Prop := fun k => k = p ∨ BF w b k

/-- The bytes of numbers, whatever their sign. -/
def b8 (v : Int) : UInt8 := ((v % 256).toNat).toUInt8
def be2 (v : Int) : List UInt8 := Lib.beBytes 2 (v % 65536).toNat
def be4 (v : Int) : List UInt8 := Lib.beBytes 4 (v % 4294967296).toNat
def be8 (v : Int) : List UInt8 := Lib.beBytes 8 (v % 18446744073709551616).toNat
theorem be2_length (v : Int) : (be2 v).length = 2 := Lib.beBytes_length _ _
theorem be4_length (v : Int) : (be4 v).length = 4 := Lib.beBytes_length _ _
theorem be8_length (v : Int) : (be8 v).length = 8 := Lib.beBytes_length _ _

/-- What a writing method leaves. -/
def BW (w : World) (p m b : Nat) (cf : Value) (T : Nat) (l news : List UInt8) (e : Ending) (w' : World) : Prop :=
  e = .returned .nilIface ∧ BP w' p m b cf (T + news.length) true (l ++ news) ∧ Fr (BPF w p b) (BPF w' p b) w w'

theorem exc_nil (w : World) : Calls Tryz.prog 192 #[.nilIface] w fun e w' => e = .returned .nilIface ∧ w = w' := by
  go_enter Tryz.func192, Tryz.ntmps192
  go_wp2
  go_ret
  exact ⟨rfl, rfl⟩

theorem BP.lift {w w' : World} {p m b T T' : Nat} {cf : Value} {z z' : Bool} {l l' : List UInt8} (h : BP w p m b cf T z l) (hb : Buf w' b T' z' l') (hf : Fr (BF w b) (BF w' b) w w') :
    BP w' p m b cf T' z' l' ∧ Fr (BPF w p b) (BPF w' p b) w w' := by
  obtain ⟨⟨bf, hbf, ha⟩, ⟨sz, hm⟩, hB⟩ := h
  refine ⟨⟨⟨bf, hbf, hf.block ha (hB.other ha (by decide) (by decide))⟩, ⟨sz, hf.block hm (hB.other hm (by decide) (by decide))⟩, hb⟩, ?_⟩
  exact ⟨hf.os, hf.tape, hf.output, hf.size, fun k hk hn => hf.keep k hk (fun x => hn (Or.inr x)), fun k hk hx => hx.elim Or.inl (fun y => Or.inr (hf.foot k hk y))⟩

/-- A method of the embedded buffer's, asked of the memory buffer. -/
theorem method_mem (name : String) (f : Nat) (hf : ((Tryz.prog.info? PM).bind fun i => i.methods.find? (·.name == name)).map (fun m => (m.path, m.func)) = some (#[⟨TM, 0, true⟩], some (f, true)))
    (n m b : Nat) (w : World) (hc : w.cell? ⟨m, 0, none⟩ = some (.pointer (some ⟨b, 0, none⟩))) :
    (method (n + 1) PM (.pointer (some ⟨m, 0, none⟩)) name).run Tryz.prog w = .ok (f, .pointer (some ⟨b, 0, none⟩)) w := by
  cases hi : Tryz.prog.info? PM with
  | none => simp [hi] at hf
  | some i =>
    simp only [hi, Option.bind_some] at hf
    cases hm : i.methods.find? (·.name == name) with
    | none => simp [hm] at hf
    | some mm =>
      simp only [hm, Option.map_some, Option.some.injEq, Prod.mk.injEq] at hf
      obtain ⟨hp, hfu⟩ := hf
      simp [method, typeInfo, hi, hm, hp, hfu, follow, run_underlying Tryz.underlying95, receiverAt, Place.get, hc, go_sem]
theorem find_Write : ((Tryz.prog.info? PM).bind fun i => i.methods.find? (·.name == "Write")).map (fun m => (m.path, m.func)) = some (#[⟨TM, 0, true⟩], some (73, true)) := by kernel_rfl
theorem meth_Write {m b : Nat} {w : World} (hc : w.cell? ⟨m, 0, none⟩ = some (.pointer (some ⟨b, 0, none⟩))) :
    (method 498 PM (.pointer (some ⟨m, 0, none⟩)) "Write").run Tryz.prog w = .ok (73, .pointer (some ⟨b, 0, none⟩)) w := method_mem "Write" _ find_Write 497 m b w hc
theorem ahead_Write (a : Addr) (w : World) : (nilAhead 498 PM (.pointer (some a)) "Write").run Tryz.prog w = .ok (some false) w := by kernel_rfl
theorem find_WriteByte : ((Tryz.prog.info? PM).bind fun i => i.methods.find? (·.name == "WriteByte")).map (fun m => (m.path, m.func)) = some (#[⟨TM, 0, true⟩], some (128, true)) := by kernel_rfl
theorem meth_WriteByte {m b : Nat} {w : World} (hc : w.cell? ⟨m, 0, none⟩ = some (.pointer (some ⟨b, 0, none⟩))) :
    (method 498 PM (.pointer (some ⟨m, 0, none⟩)) "WriteByte").run Tryz.prog w = .ok (128, .pointer (some ⟨b, 0, none⟩)) w := method_mem "WriteByte" _ find_WriteByte 497 m b w hc
theorem ahead_WriteByte (a : Addr) (w : World) : (nilAhead 498 PM (.pointer (some a)) "WriteByte").run Tryz.prog w = .ok (some false) w := by kernel_rfl
theorem find_WriteString : ((Tryz.prog.info? PM).bind fun i => i.methods.find? (·.name == "WriteString")).map (fun m => (m.path, m.func)) = some (#[⟨TM, 0, true⟩], some (129, true)) := by kernel_rfl
theorem meth_WriteString {m b : Nat} {w : World} (hc : w.cell? ⟨m, 0, none⟩ = some (.pointer (some ⟨b, 0, none⟩))) :
    (method 498 PM (.pointer (some ⟨m, 0, none⟩)) "WriteString").run Tryz.prog w = .ok (129, .pointer (some ⟨b, 0, none⟩)) w := method_mem "WriteString" _ find_WriteString 497 m b w hc
theorem ahead_WriteString (a : Addr) (w : World) : (nilAhead 498 PM (.pointer (some a)) "WriteString").run Tryz.prog w = .ok (some false) w := by kernel_rfl
theorem find_Read : ((Tryz.prog.info? PM).bind fun i => i.methods.find? (·.name == "Read")).map (fun m => (m.path, m.func)) = some (#[⟨TM, 0, true⟩], some (328, true)) := by kernel_rfl
theorem meth_Read {m b : Nat} {w : World} (hc : w.cell? ⟨m, 0, none⟩ = some (.pointer (some ⟨b, 0, none⟩))) :
    (method 498 PM (.pointer (some ⟨m, 0, none⟩)) "Read").run Tryz.prog w = .ok (328, .pointer (some ⟨b, 0, none⟩)) w := method_mem "Read" _ find_Read 497 m b w hc
theorem ahead_Read (a : Addr) (w : World) : (nilAhead 498 PM (.pointer (some a)) "Read").run Tryz.prog w = .ok (some false) w := by kernel_rfl
theorem find_ReadByte : ((Tryz.prog.info? PM).bind fun i => i.methods.find? (·.name == "ReadByte")).map (fun m => (m.path, m.func)) = some (#[⟨TM, 0, true⟩], some (125, true)) := by kernel_rfl
theorem meth_ReadByte {m b : Nat} {w : World} (hc : w.cell? ⟨m, 0, none⟩ = some (.pointer (some ⟨b, 0, none⟩))) :
    (method 498 PM (.pointer (some ⟨m, 0, none⟩)) "ReadByte").run Tryz.prog w = .ok (125, .pointer (some ⟨b, 0, none⟩)) w := method_mem "ReadByte" _ find_ReadByte 497 m b w hc
theorem ahead_ReadByte (a : Addr) (w : World) : (nilAhead 498 PM (.pointer (some a)) "ReadByte").run Tryz.prog w = .ok (some false) w := by kernel_rfl
theorem meth_Remaining (a : Addr) (w : World) : (method 498 PM (.pointer (some a)) "RemainingBytes").run Tryz.prog w = .ok (329, .pointer (some a)) w := by kernel_rfl

theorem Mem.cell {w : World} {m b : Nat} (h : Mem w m b) : w.cell? ⟨m, 0, none⟩ = some (.pointer (some ⟨b, 0, none⟩)) := by
  obtain ⟨sz, h⟩ := h; rw [cell_at h]; rfl

set_option maxHeartbeats 1000000 in
set_option maxRecDepth 100000 in
theorem B_WriteByte (p m b T : Nat) (cf c : Value) (l : List UInt8) (v : Int) (w : World) (h : BP w p m b cf T true l) (hlim : T + 1 ≤ LIM) :
    Calls Tryz.prog 250 #[.pointer (some ⟨p, 0, none⟩), c, .int .i8 v] w (BW w p m b cf T l [b8 v]) := by
  obtain ⟨bf, hbf, ha⟩ := h.arr
  have c0 := ha.head 0 _ rfl
  have hme := meth_WriteByte h.mem.cell
  have hu : v % 256 = ((b8 v).toNat : Int) := by
    unfold b8
    have : ((v % 256).toNat).toUInt8.toNat = (v % 256).toNat % 256 := by simp [Nat.toUInt8, UInt8.toNat_ofNat']
    rw [this]; omega
  have H := Lib.hid h
  have HU := Lib.hid hu
  have HL := Lib.hid hlim
  clear ha hbf h hu hlim
  go_enter Tryz.func250, Tryz.ntmps250
  go_wp2_with fail
  rw [HU.out]
  refine (Buf_WriteByte b T l _ _ H.out.buf HL.out).mono ?_
  rintro e w1 ⟨rfl, hB, hF⟩
  have HX := Lib.hid (H.out.lift hB hF)
  clear hB hF
  go_wp2_with (go_at_call 192; refine (exc_nil _).mono ?_; rintro e w' ⟨rfl, rfl⟩)
  go_ret
  exact ⟨rfl, HX.out.1, HX.out.2⟩

/-- The scratch array has turned. -/
theorem BP.scratch {w w' : World} {p m b T : Nat} {cf : Value} {z : Bool} {l buf : List UInt8} (h : BP w p m b cf T z l) (hb : buf.length = 64) (ha : Arr w' p TBP [memI m, memI m, cf] buf) (hf : Fr (one p) (one p) w w') :
    BP w' p m b cf T z l ∧ Fr (BPF w p b) (BPF w' p b) w w' := by
  obtain ⟨⟨bf, hbf, ha0⟩, ⟨sz, hm⟩, hB⟩ := h
  have hp : ∀ k, BF w b k → ¬ one p k := fun k hk he => (hB.other ha0 (by decide) (by decide)) (by rw [show p = k from he.symm]; exact hk)
  have hbs : w'.heap[b]? = w.heap[b]? := hf.keep b hB.lt (hp b (Or.inl rfl))
  refine ⟨⟨⟨buf, hb, ha⟩, ⟨sz, hf.block hm (fun he => by
      have he : m = p := he
      subst he
      exact tag_ne hm ha0 (by decide) rfl)⟩, hB.keep hf hp⟩, ?_⟩
  exact ⟨hf.os, hf.tape, hf.output, hf.size, fun k hk hn => hf.keep k hk (fun x => hn (Or.inl x)), fun k hk hx => hx.elim Or.inl (fun y => Or.inr ((BF.of_same hbs).1 y))⟩

/-- The head of the scratch array as a slice. -/
theorem Arr.rd {w : World} {p : Nat} {t : TypeId} {hd : List Value} {news rest : List UInt8} (o n : Nat) (h : Arr w p t hd (news ++ rest)) (ho : hd.length = o) (hn : news.length = n) (h64 : n ≤ 64) : Rd w (.slice (some ⟨p, o, none⟩) n 64) news := by
  subst ho
  refine Or.inr ⟨_, n, 64, rfl, hn, h64, by unfold maxLen; omega, fun j u hj => ?_⟩
  have hj' : (news ++ rest)[j]? = some u := by rw [List.getElem?_append_left (List.getElem?_eq_some_iff.1 hj).1, hj]
  have hlt := (List.getElem?_eq_some_iff.1 hj').1
  rw [Lib.addr_add, h.cell j hlt]
  congr 2
  have := (List.getElem?_eq_some_iff.1 hj').2
  rw [this]

set_option maxHeartbeats 1000000 in
set_option maxRecDepth 100000 in
theorem B_WriteI16 (p m b T : Nat) (cf c : Value) (l : List UInt8) (v : Int) (w : World) (h : BP w p m b cf T true l) (hlim : T + 2 ≤ LIM) :
    Calls Tryz.prog 255 #[.pointer (some ⟨p, 0, none⟩), c, .int .i16 v] w (BW w p m b cf T l (be2 v)) := by
  obtain ⟨bf, hbf, ha⟩ := h.arr
  have hu : IntKind.u16.wrap v = ((v % 65536).toNat : Int) := by (rw [IntKind.wrap_u16]); omega
  have hput := fun w' (hw' : Arr w' p TBP [memI m, memI m, cf] bf) => PutBE2 p 3 (v % 65536).toNat [memI m, memI m, cf] bf TBP w' hw' rfl (by omega) (by omega)
  have H := Lib.hid h
  have HU := Lib.hid hu
  have HL := Lib.hid hlim
  have HA := Lib.hid ha
  have HB := Lib.hid hbf
  have HP := Lib.hid hput
  clear ha hbf h hu hlim hput
  go_enter Tryz.func255, Tryz.ntmps255
  go_wp2_with fail
  rw [HU.out]
  refine (HP.out _ HA.out).mono ?_
  rintro e w1 ⟨rfl, hA1, hF1⟩
  obtain ⟨h1, hG1⟩ := H.out.scratch (by rw [List.length_append, Lib.beBytes_length, List.length_drop, HB.out]) hA1 hF1
  have c0 := hA1.head 0 _ rfl
  have hme := meth_Write h1.mem.cell
  have hfar : ∀ k, vblk (.slice (some ⟨p, 3, none⟩) 2 64) k → ¬ BF w1 b k := fun k hk => by
    cases hk; exact h1.buf.other hA1 (by decide) (by decide)
  have hw := Buf_Write b T l (Lib.beBytes 2 (v % 65536).toNat) (.slice (some ⟨p, 3, none⟩) 2 64) w1 h1.buf (by rw [Lib.beBytes_length]; exact HL.out) (hA1.rd 3 2 rfl (Lib.beBytes_length _ _) (by omega)) hfar
  have H1 := Lib.hid h1
  have HG := Lib.hid hG1
  have HW := Lib.hid hw
  clear hA1 hF1 h1 hG1 hfar hw
  go_wp2_with fail
  refine HW.out.mono ?_
  rintro e w2 ⟨rfl, hB2, hF2⟩
  have HX := Lib.hid (H1.out.lift hB2 hF2)
  clear hB2 hF2
  go_wp2_with (go_at_call 192; refine (exc_nil _).mono ?_; rintro e w' ⟨rfl, rfl⟩)
  go_ret
  exact ⟨rfl, HX.out.1, HG.out.trans HX.out.2⟩
set_option maxHeartbeats 1000000 in
set_option maxRecDepth 100000 in
theorem B_WriteI32 (p m b T : Nat) (cf c : Value) (l : List UInt8) (v : Int) (w : World) (h : BP w p m b cf T true l) (hlim : T + 4 ≤ LIM) :
    Calls Tryz.prog 256 #[.pointer (some ⟨p, 0, none⟩), c, .int .i32 v] w (BW w p m b cf T l (be4 v)) := by
  obtain ⟨bf, hbf, ha⟩ := h.arr
  have hu : v % 4294967296 = ((v % 4294967296).toNat : Int) := by (skip); omega
  have hput := fun w' (hw' : Arr w' p TBP [memI m, memI m, cf] bf) => PutBE4 p 3 (v % 4294967296).toNat [memI m, memI m, cf] bf TBP w' hw' rfl (by omega) (by omega)
  have H := Lib.hid h
  have HU := Lib.hid hu
  have HL := Lib.hid hlim
  have HA := Lib.hid ha
  have HB := Lib.hid hbf
  have HP := Lib.hid hput
  clear ha hbf h hu hlim hput
  go_enter Tryz.func256, Tryz.ntmps256
  go_wp2_with fail
  rw [HU.out]
  refine (HP.out _ HA.out).mono ?_
  rintro e w1 ⟨rfl, hA1, hF1⟩
  obtain ⟨h1, hG1⟩ := H.out.scratch (by rw [List.length_append, Lib.beBytes_length, List.length_drop, HB.out]) hA1 hF1
  have c0 := hA1.head 0 _ rfl
  have hme := meth_Write h1.mem.cell
  have hfar : ∀ k, vblk (.slice (some ⟨p, 3, none⟩) 4 64) k → ¬ BF w1 b k := fun k hk => by
    cases hk; exact h1.buf.other hA1 (by decide) (by decide)
  have hw := Buf_Write b T l (Lib.beBytes 4 (v % 4294967296).toNat) (.slice (some ⟨p, 3, none⟩) 4 64) w1 h1.buf (by rw [Lib.beBytes_length]; exact HL.out) (hA1.rd 3 4 rfl (Lib.beBytes_length _ _) (by omega)) hfar
  have H1 := Lib.hid h1
  have HG := Lib.hid hG1
  have HW := Lib.hid hw
  clear hA1 hF1 h1 hG1 hfar hw
  go_wp2_with fail
  refine HW.out.mono ?_
  rintro e w2 ⟨rfl, hB2, hF2⟩
  have HX := Lib.hid (H1.out.lift hB2 hF2)
  clear hB2 hF2
  go_wp2_with (go_at_call 192; refine (exc_nil _).mono ?_; rintro e w' ⟨rfl, rfl⟩)
  go_ret
  exact ⟨rfl, HX.out.1, HG.out.trans HX.out.2⟩
set_option maxHeartbeats 1000000 in
set_option maxRecDepth 100000 in
theorem B_WriteI64 (p m b T : Nat) (cf c : Value) (l : List UInt8) (v : Int) (w : World) (h : BP w p m b cf T true l) (hlim : T + 8 ≤ LIM) :
    Calls Tryz.prog 257 #[.pointer (some ⟨p, 0, none⟩), c, .int .i64 v] w (BW w p m b cf T l (be8 v)) := by
  obtain ⟨bf, hbf, ha⟩ := h.arr
  have hu : IntKind.u64.wrap v = ((v % 18446744073709551616).toNat : Int) := by (rw [IntKind.wrap_u64]); omega
  have hput := fun w' (hw' : Arr w' p TBP [memI m, memI m, cf] bf) => PutBE8 p 3 (v % 18446744073709551616).toNat [memI m, memI m, cf] bf TBP w' hw' rfl (by omega) (by omega)
  have H := Lib.hid h
  have HU := Lib.hid hu
  have HL := Lib.hid hlim
  have HA := Lib.hid ha
  have HB := Lib.hid hbf
  have HP := Lib.hid hput
  clear ha hbf h hu hlim hput
  go_enter Tryz.func257, Tryz.ntmps257
  go_wp2_with fail
  rw [HU.out]
  refine (HP.out _ HA.out).mono ?_
  rintro e w1 ⟨rfl, hA1, hF1⟩
  obtain ⟨h1, hG1⟩ := H.out.scratch (by rw [List.length_append, Lib.beBytes_length, List.length_drop, HB.out]) hA1 hF1
  have c0 := hA1.head 0 _ rfl
  have hme := meth_Write h1.mem.cell
  have hfar : ∀ k, vblk (.slice (some ⟨p, 3, none⟩) 8 64) k → ¬ BF w1 b k := fun k hk => by
    cases hk; exact h1.buf.other hA1 (by decide) (by decide)
  have hw := Buf_Write b T l (Lib.beBytes 8 (v % 18446744073709551616).toNat) (.slice (some ⟨p, 3, none⟩) 8 64) w1 h1.buf (by rw [Lib.beBytes_length]; exact HL.out) (hA1.rd 3 8 rfl (Lib.beBytes_length _ _) (by omega)) hfar
  have H1 := Lib.hid h1
  have HG := Lib.hid hG1
  have HW := Lib.hid hw
  clear hA1 hF1 h1 hG1 hfar hw
  go_wp2_with fail
  refine HW.out.mono ?_
  rintro e w2 ⟨rfl, hB2, hF2⟩
  have HX := Lib.hid (H1.out.lift hB2 hF2)
  clear hB2 hF2
  go_wp2_with (go_at_call 192; refine (exc_nil _).mono ?_; rintro e w' ⟨rfl, rfl⟩)
  go_ret
  exact ⟨rfl, HX.out.1, HG.out.trans HX.out.2⟩
end Go.Proofs.YtdifknecndlklaaGreatDoor
namespace Go.Proofs.YtdifknecndlklaaGreatDoor
open Go Go.RowKit

theorem b8_wrap (t : Int) : b8 (IntKind.i8.wrap t) = b8 t := by
  unfold b8
  rw [show IntKind.i8.wrap t % 256 = t % 256 by simp [IntKind.wrap, IntKind.bits, IntKind.signed]; omega]
theorem be4_wrap (t : Int) : be4 (wrap32 t) = be4 t := by
  unfold be4 wrap32
  rw [show ((t + 2147483648) % 4294967296 - 2147483648) % 4294967296 = t % 4294967296 by omega]

theorem be8_wrap (t : Int) : be8 (wrap64 t) = be8 t := by
  unfold be8 wrap64
  rw [show ((t + 9223372036854775808) % 18446744073709551616 - 9223372036854775808) % 18446744073709551616 = t % 18446744073709551616 by omega]

/-- Two writings, one behind the other. -/
theorem BW.seq {w w1 w2 : World} {p m b T : Nat} {cf : Value} {l n1 n2 : List UInt8} {e1 e2 : Ending} (h1 : BW w p m b cf T l n1 e1 w1) (h2 : BW w1 p m b cf (T + n1.length) (l ++ n1) n2 e2 w2) : BW w p m b cf T l (n1 ++ n2) e2 w2 := by
  obtain ⟨_, a1, f1⟩ := h1
  obtain ⟨he, a2, f2⟩ := h2
  refine ⟨he, ?_, f1.trans f2⟩
  rw [List.length_append, ← Nat.add_assoc, ← List.append_assoc]
  exact a2
theorem BW.refl {w : World} {p m b T : Nat} {cf : Value} {l : List UInt8} (h : BP w p m b cf T true l) : BW w p m b cf T l [] (.returned .nilIface) w := ⟨rfl, by simpa using h, Fr.refl _ _⟩

theorem B_WriteStructEnd (p : Value) (c : Value) (w : World) : Calls Tryz.prog 268 #[p, c] w fun e w' => e = .returned .nilIface ∧ w = w' := by
  go_enter Tryz.func268, Tryz.ntmps268
  go_wp2
  go_ret
  exact ⟨rfl, rfl⟩
theorem B_WriteFieldEnd (p : Value) (c : Value) (w : World) : Calls Tryz.prog 253 #[p, c] w fun e w' => e = .returned .nilIface ∧ w = w' := by
  go_enter Tryz.func253, Tryz.ntmps253
  go_wp2
  go_ret
  exact ⟨rfl, rfl⟩
theorem B_WriteMapEnd (p : Value) (c : Value) (w : World) : Calls Tryz.prog 261 #[p, c] w fun e w' => e = .returned .nilIface ∧ w = w' := by
  go_enter Tryz.func261, Tryz.ntmps261
  go_wp2
  go_ret
  exact ⟨rfl, rfl⟩
theorem B_WriteListEnd (p : Value) (c : Value) (w : World) : Calls Tryz.prog 259 #[p, c] w fun e w' => e = .returned .nilIface ∧ w = w' := by
  go_enter Tryz.func259, Tryz.ntmps259
  go_wp2
  go_ret
  exact ⟨rfl, rfl⟩
theorem B_WriteSetEnd (p : Value) (c : Value) (w : World) : Calls Tryz.prog 265 #[p, c] w fun e w' => e = .returned .nilIface ∧ w = w' := by
  go_enter Tryz.func265, Tryz.ntmps265
  go_wp2
  go_ret
  exact ⟨rfl, rfl⟩
theorem B_WriteStructBegin (p c n : Value) (w : World) : Calls Tryz.prog 267 #[p, c, n] w fun e w' => e = .returned .nilIface ∧ w = w' := by
  go_enter Tryz.func267, Tryz.ntmps267
  go_wp2
  go_ret
  exact ⟨rfl, rfl⟩

set_option maxHeartbeats 1000000
set_option maxRecDepth 100000

theorem B_WriteBool (p m b T : Nat) (cf c : Value) (l : List UInt8) (v : Bool) (w : World) (h : BP w p m b cf T true l) (hlim : T + 1 ≤ LIM) :
    Calls Tryz.prog 249 #[.pointer (some ⟨p, 0, none⟩), c, .bool v] w (BW w p m b cf T l [if v then 1 else 0]) := by
  have h1 := B_WriteByte p m b T cf c l 1 w h hlim
  have h0 := B_WriteByte p m b T cf c l 0 w h hlim
  have H1 := Lib.hid h1
  have H0 := Lib.hid h0
  clear h h1 h0
  cases v
  · go_enter Tryz.func249, Tryz.ntmps249
    go_wp2_with fail
    refine H0.out.mono ?_
    rintro e w1 hw
    obtain rfl := hw.1
    have HW := Lib.hid hw
    clear hw
    go_wp2
    go_ret
    exact HW.out
  · go_enter Tryz.func249, Tryz.ntmps249
    go_wp2_with fail
    refine H1.out.mono ?_
    rintro e w1 hw
    obtain rfl := hw.1
    have HW := Lib.hid hw
    clear hw
    go_wp2
    go_ret
    exact HW.out

theorem B_WriteFieldBegin (p m b T : Nat) (cf c n : Value) (l : List UInt8) (t i : Int) (w : World) (h : BP w p m b cf T true l) (hlim : T + 3 ≤ LIM) :
    Calls Tryz.prog 252 #[.pointer (some ⟨p, 0, none⟩), c, n, .int .u8 t, .int .i16 i] w (BW w p m b cf T l (b8 t :: be2 i)) := by
  have H := Lib.hid h
  clear h
  go_enter Tryz.func252, Tryz.ntmps252
  go_wp2_with fail
  refine (B_WriteByte p m b T cf c l _ w H.out (by omega)).mono ?_
  rintro e w1 hw
  obtain rfl := hw.1
  rw [b8_wrap] at hw
  have HW := Lib.hid hw
  clear hw
  go_wp2_with fail
  refine (B_WriteI16 p m b _ cf c _ i w1 HW.out.2.1 (by simp; omega)).mono ?_
  rintro e w2 hw
  obtain rfl := hw.1
  have HX := Lib.hid (HW.out.seq hw)
  clear hw
  go_wp2
  go_ret
  exact HX.out

theorem B_WriteFieldStop (p m b T : Nat) (cf c : Value) (l : List UInt8) (w : World) (h : BP w p m b cf T true l) (hlim : T + 1 ≤ LIM) :
    Calls Tryz.prog 254 #[.pointer (some ⟨p, 0, none⟩), c] w (BW w p m b cf T l [0]) := by
  have H1 := Lib.hid (B_WriteByte p m b T cf c l 0 w h hlim)
  clear h
  go_enter Tryz.func254, Tryz.ntmps254
  go_wp2_with fail
  refine H1.out.mono ?_
  rintro e w1 hw
  obtain rfl := hw.1
  have HW := Lib.hid hw
  clear hw
  go_wp2
  go_ret
  exact HW.out

theorem B_WriteListBegin (p m b T : Nat) (cf c : Value) (l : List UInt8) (t n : Int) (w : World) (h : BP w p m b cf T true l) (hlim : T + 5 ≤ LIM) :
    Calls Tryz.prog 258 #[.pointer (some ⟨p, 0, none⟩), c, .int .u8 t, .int .i64 n] w (BW w p m b cf T l (b8 t :: be4 n)) := by
  have H := Lib.hid h
  clear h
  go_enter Tryz.func258, Tryz.ntmps258
  go_wp2_with fail
  refine (B_WriteByte p m b T cf c l _ w H.out (by omega)).mono ?_
  rintro e w1 hw
  obtain rfl := hw.1
  rw [b8_wrap] at hw
  have HW := Lib.hid hw
  clear hw
  go_wp2_with fail
  refine (B_WriteI32 p m b _ cf c _ _ w1 HW.out.2.1 (by simp; omega)).mono ?_
  rintro e w2 hw
  obtain rfl := hw.1
  rw [be4_wrap] at hw
  have HX := Lib.hid (HW.out.seq hw)
  clear hw
  go_wp2
  go_ret
  exact HX.out
theorem B_WriteSetBegin (p m b T : Nat) (cf c : Value) (l : List UInt8) (t n : Int) (w : World) (h : BP w p m b cf T true l) (hlim : T + 5 ≤ LIM) :
    Calls Tryz.prog 264 #[.pointer (some ⟨p, 0, none⟩), c, .int .u8 t, .int .i64 n] w (BW w p m b cf T l (b8 t :: be4 n)) := by
  have H := Lib.hid h
  clear h
  go_enter Tryz.func264, Tryz.ntmps264
  go_wp2_with fail
  refine (B_WriteByte p m b T cf c l _ w H.out (by omega)).mono ?_
  rintro e w1 hw
  obtain rfl := hw.1
  rw [b8_wrap] at hw
  have HW := Lib.hid hw
  clear hw
  go_wp2_with fail
  refine (B_WriteI32 p m b _ cf c _ _ w1 HW.out.2.1 (by simp; omega)).mono ?_
  rintro e w2 hw
  obtain rfl := hw.1
  rw [be4_wrap] at hw
  have HX := Lib.hid (HW.out.seq hw)
  clear hw
  go_wp2
  go_ret
  exact HX.out

theorem B_WriteMapBegin (p m b T : Nat) (cf c : Value) (l : List UInt8) (k t n : Int) (w : World) (h : BP w p m b cf T true l) (hlim : T + 6 ≤ LIM) :
    Calls Tryz.prog 260 #[.pointer (some ⟨p, 0, none⟩), c, .int .u8 k, .int .u8 t, .int .i64 n] w (BW w p m b cf T l (b8 k :: b8 t :: be4 n)) := by
  have H := Lib.hid h
  clear h
  go_enter Tryz.func260, Tryz.ntmps260
  go_wp2_with fail
  refine (B_WriteByte p m b T cf c l _ w H.out (by omega)).mono ?_
  rintro e w1 hw
  obtain rfl := hw.1
  rw [b8_wrap] at hw
  have HW := Lib.hid hw
  clear hw
  go_wp2_with fail
  refine (B_WriteByte p m b _ cf c _ _ w1 HW.out.2.1 (by simp; omega)).mono ?_
  rintro e w2 hw
  obtain rfl := hw.1
  rw [b8_wrap] at hw
  have HY := Lib.hid (HW.out.seq hw)
  clear hw
  go_wp2_with fail
  refine (B_WriteI32 p m b _ cf c _ _ w2 HY.out.2.1 (by simp; omega)).mono ?_
  rintro e w3 hw
  obtain rfl := hw.1
  rw [be4_wrap] at hw
  have HX := Lib.hid (HY.out.seq hw)
  clear hw
  go_wp2
  go_ret
  exact HX.out

theorem B_WriteString (p m b T : Nat) (cf c : Value) (l : List UInt8) (s : ByteArray) (w : World) (h : BP w p m b cf T true l) (hlim : T + 4 + s.size ≤ LIM) :
    Calls Tryz.prog 266 #[.pointer (some ⟨p, 0, none⟩), c, .string s] w (BW w p m b cf T l (be4 s.size ++ s.data.toList)) := by
  have hss : s.data.toList.length = s.size := by rw [Array.length_toList]; rfl
  have H := Lib.hid h
  have HS := Lib.hid hss
  have HL := Lib.hid hlim
  clear h hss hlim
  go_enter Tryz.func266, Tryz.ntmps266
  go_wp2_with fail
  refine (B_WriteI32 p m b T cf c l _ w H.out (by have := HL.out; omega)).mono ?_
  rintro e w1 hw
  obtain rfl := hw.1
  rw [be4_wrap] at hw
  obtain ⟨bf, hbf, ha⟩ := hw.2.1.arr
  have c0 := ha.head 0 _ rfl
  have hme := meth_WriteString hw.2.1.mem.cell
  have HW := Lib.hid hw
  clear hw ha hbf
  go_wp2_with fail
  refine (Buf_WriteString b _ _ s w1 HW.out.2.1.buf (by rw [be4_length]; exact HL.out)).mono ?_
  rintro e w2 ⟨rfl, hB, hF⟩
  have HX := Lib.hid (HW.out.2.1.lift hB hF)
  clear hB hF
  go_wp2_with (go_at_call 192; refine (exc_nil _).mono ?_; rintro e w' ⟨rfl, rfl⟩)
  go_ret
  exact HW.out.seq ⟨rfl, by rw [HS.out]; exact HX.out.1, HX.out.2⟩

theorem run_f64bits (v : Nat) (w : World) : (callFunc 88 #[.float .f64 v]).run Tryz.prog w = .ok (.value (.int .u64 v)) w := by kernel_rfl
theorem run_f64from (v : Int) (w : World) : (callFunc 68 #[.int .u64 v]).run Tryz.prog w = .ok (.value (.float .f64 v.toNat)) w := by kernel_rfl

theorem B_WriteDouble (p m b T : Nat) (cf c : Value) (l : List UInt8) (v : Nat) (w : World) (h : BP w p m b cf T true l) (hlim : T + 8 ≤ LIM) :
    Calls Tryz.prog 251 #[.pointer (some ⟨p, 0, none⟩), c, .float .f64 v] w (BW w p m b cf T l (be8 v)) := by
  have hr := run_f64bits v
  have H := Lib.hid h
  clear h
  go_enter Tryz.func251, Tryz.ntmps251
  go_wp2_with fail
  refine (B_WriteI64 p m b T cf c l _ w H.out hlim).mono ?_
  rintro e w1 hw
  obtain rfl := hw.1
  rw [be8_wrap] at hw
  have HW := Lib.hid hw
  clear hw
  go_wp2
  go_ret
  exact HW.out
end Go.Proofs.YtdifknecndlklaaGreatDoor
namespace Go.Proofs.YtdifknecndlklaaGreatDoor
open Go Go.RowKit

/-- A uuid as a value. -/
abbrev uuidV (u : List UInt8) : Value := .agg (Lib.byteCells u).toArray

theorem BP.alloc {w : World} {p m b T : Nat} {cf : Value} {z : Bool} {l : List UInt8} (h : BP w p m b cf T z l) (o : Obj) : BP (w.alloc o) p m b cf T z l ∧ Fr (BPF w p b) (BPF (w.alloc o) p b) w (w.alloc o) := by
  obtain ⟨⟨bf, hbf, ha⟩, ⟨sz, hm⟩, hB⟩ := h
  have hb : (w.alloc o).heap[b]? = w.heap[b]? := Below.heap_alloc w o b hB.lt
  refine ⟨⟨⟨bf, hbf, alloc_at ha⟩, ⟨sz, alloc_at hm⟩, hB.same fun k hk => Below.heap_alloc w o k (hB.foot_lt hk)⟩, ((Fr.refl _ w).alloc o).conv fun k _ hk => hk.elim Or.inl fun y => Or.inr ((BF.of_same hb).1 y)⟩

theorem BP.drew {w : World} {p m b T : Nat} {cf : Value} {z : Bool} {l : List UInt8} (h : BP w p m b cf T z l) : BP w.drew p m b cf T z l := ⟨h.arr, h.mem, h.buf⟩
theorem BP.drewN {w : World} {p m b T : Nat} {cf : Value} {z : Bool} {l : List UInt8} (h : BP w p m b cf T z l) (n : Nat) : BP (w.drewN n) p m b cf T z l := ⟨h.arr, h.mem, h.buf⟩
theorem BP.trans {w : World} {p m b T : Nat} {cf : Value} {z : Bool} {l : List UInt8} (h : BP w p m b cf T z l) : w.cell? ⟨p, 0, none⟩ = some (memI m) := by
  obtain ⟨bf, _, ha⟩ := h.arr; exact ha.head 0 _ rfl

theorem BPF.lt {w : World} {p m b T : Nat} {cf : Value} {z : Bool} {l : List UInt8} (h : BP w p m b cf T z l) {k : Nat} (hk : BPF w p b k) : k < w.heap.size := by
  obtain ⟨bf, hbf, ha⟩ := h.arr
  rcases hk with rfl | hk
  · exact lt_heap ha
  · exact h.buf.foot_lt hk

set_option maxHeartbeats 1000000 in
set_option maxRecDepth 100000 in
theorem B_WriteUUID (p m b T : Nat) (cf c : Value) (l u : List UInt8) (w : World) (h : BP w p m b cf T true l) (hlim : T + 16 ≤ LIM) (hu : u.length = 16) :
    Calls Tryz.prog 269 #[.pointer (some ⟨p, 0, none⟩), c, uuidV u] w (BW w p m b cf T l u) := by
  obtain ⟨h1, f1⟩ := h.alloc (.cells (Lib.byteCells u).toArray 182)
  obtain ⟨bf, hbf, ha⟩ := h1.arr
  have c0 : (w.alloc (.cells (Lib.byteCells u).toArray 182)).cell? ⟨p, 0, none⟩ = some (memI m) := ha.head 0 _ rfl
  have hme := meth_Write (w := (w.alloc (.cells (Lib.byteCells u).toArray 182)).drew) h1.mem.cell
  have hnew := alloc_new w (.cells (Lib.byteCells u).toArray 182)
  have hrd : Rd (w.alloc (.cells (Lib.byteCells u).toArray 182)) (.slice (some ⟨w.heap.size, 0, none⟩) 16 16) u :=
    Or.inr ⟨_, 16, 16, rfl, hu, Nat.le_refl _, by unfold maxLen; omega, fun j x hj => by rw [Lib.addr_add, cell_at hnew]; simp [Lib.byteCells, hj]⟩
  have hfar : ∀ k, vblk (.slice (some ⟨w.heap.size, 0, none⟩) 16 16) k → ¬ BF (w.alloc (.cells (Lib.byteCells u).toArray 182)) b k := fun k hk => by
    cases hk; exact h1.buf.other hnew (by decide) (by decide)
  have hw := Buf_Write b T l u (.slice (some ⟨w.heap.size, 0, none⟩) 16 16) (w.alloc (.cells (Lib.byteCells u).toArray 182)).drew h1.buf (by rw [hu]; exact hlim) hrd hfar
  rw [hu] at hw
  have hfin : ∀ w2, Buf w2 b (T + u.length) true (l ++ u) → Fr (BF (w.alloc (.cells (Lib.byteCells u).toArray 182)) b) (BF w2 b) (w.alloc (.cells (Lib.byteCells u).toArray 182)).drew w2 → BW w p m b cf T l u (.returned .nilIface) w2 := fun w2 hB hF => by
    have h2 : BP (w.alloc (.cells (Lib.byteCells u).toArray 182)).drew p m b cf T true l := h1.drew
    obtain ⟨a, f⟩ := h2.lift hB hF
    exact ⟨rfl, a, f1.drew.trans f⟩
  have hc2 : ∀ w2, Fr (BF (w.alloc (.cells (Lib.byteCells u).toArray 182)) b) (BF w2 b) (w.alloc (.cells (Lib.byteCells u).toArray 182)).drew w2 → w2.cell? ⟨p, 0, none⟩ = some (memI m) := fun w2 hF => by
    refine hF.cell (w := (w.alloc (.cells (Lib.byteCells u).toArray 182)).drew) c0 ?_
    exact h1.buf.other ha (by decide) (by decide)
  have HC := Lib.hid hc2
  have HW := Lib.hid hw
  have HF := Lib.hid hfin
  clear hw hfin hc2 hfar hrd hnew ha hbf h1 f1 h
  go_enter Tryz.func269, Tryz.ntmps269
  go_wp2_with fail
  go_region_held3 (fun w' => w'.cell? ⟨p, 0, none⟩ = some (memI m)) (first | exact c0 | exact d0)
    (first | (go_at_call 73; refine HW.out.mono ?_; rintro e w2 ⟨rfl, hB, hF⟩; have d0 := HC.out w2 hF))
  have HX := Lib.hid (HF.out w2 hB hF)
  clear hB hF
  go_wp2_with (go_at_call 192; refine (exc_nil _).mono ?_; rintro e w' ⟨rfl, rfl⟩)
  go_ret
  exact HX.out
end Go.Proofs.YtdifknecndlklaaGreatDoor
namespace Go.Proofs.YtdifknecndlklaaGreatDoor
open Go Go.RowKit

theorem map_push (w : World) (es : Array MapEntry) (c : Nat) (o : Obj) : ChangeMaps.setBlock (w.alloc (.map es c)) w.heap.size o = w.alloc o := by
  show { w with heap := (w.heap.push (.map es c)).setIfInBounds w.heap.size o } = { w with heap := w.heap.push o }
  congr 1
  apply Array.ext'
  simp

/-- A new key laid into a new map with keys of a kind of whole numbers. -/
theorem run_insert_new {P : Program} (T K E : TypeId) (k : IntKind) (hT : P.underlying T = some (.map K E)) (hK : P.underlying K = some (.int k)) (w : World) (es : Array MapEntry) (c : Nat) (n : Int) (v : Value) (hf : Instr.findNow (.int k) (.int k n) es.toList 0 = some none) :
    (Instr.mapUpdate T (.map (some w.heap.size)) (.int k n) v).run P (w.alloc (.map es c)) = .ok () (w.alloc (.map (es.push ⟨.int k n, v, c⟩) (c + 1))) := by
  have hg : (w.alloc (.map es c)).heap[w.heap.size]? = some (.map es c) := alloc_new w _
  simp [Instr.mapUpdate, run_underlying hT, MapKept.run_getObj_map hg, MapKept.run_checkKey hK (k := .int k n) rfl, MapKept.run_findKey hK hf, MapKept.run_setObj_map _ hg, Result.andThen]
  exact map_push w es c _

/-- What a lookup gives. -/
def found (z : Value) : Option (Nat × Value) → Value
  | some (_, v) => v
  | none => z

/-- A key asked of a map. -/
theorem run_lookup_now {P : Program} (T K E : TypeId) (k : IntKind) (z : Value) (hT : P.underlying T = some (.map K E)) (hK : P.underlying K = some (.int k)) (hz : ∀ w, (zeroValue E).run P w = .ok z w) (w : World) (r : Nat) (es : Array MapEntry) (c : Nat) (n : Int)
    (hr : w.heap[r]? = some (.map es c)) (o : Option (Nat × Value)) (hf : Instr.findNow (.int k) (.int k n) es.toList 0 = some o) :
    (Instr.lookup T (.map (some r)) (.int k n) false).run P w = .ok (found z o) w := by
  cases o with
  | none => simp [Instr.lookup, run_underlying hT, MapKept.run_getObj_map hr, MapKept.run_checkKey hK (k := .int k n) rfl, MapKept.run_findKey hK hf, Result.andThen, hz, found]
  | some x => simp [Instr.lookup, run_underlying hT, MapKept.run_getObj_map hr, MapKept.run_checkKey hK (k := .int k n) rfl, MapKept.run_findKey hK hf, Result.andThen, found]

theorem zero_ct (w : World) : (zeroValue 318).run Tryz.prog w = .ok (.int .u8 0) w := by kernel_rfl

def ctEntries : Array MapEntry := #[⟨.int .u8 0, .int .u8 0, 0⟩, ⟨.int .u8 2, .int .u8 1, 1⟩, ⟨.int .u8 3, .int .u8 3, 2⟩, ⟨.int .u8 6, .int .u8 4, 3⟩, ⟨.int .u8 8, .int .u8 5, 4⟩, ⟨.int .u8 10, .int .u8 6, 5⟩, ⟨.int .u8 4, .int .u8 7, 6⟩, ⟨.int .u8 11, .int .u8 8, 7⟩, ⟨.int .u8 15, .int .u8 9, 8⟩, ⟨.int .u8 14, .int .u8 10, 9⟩, ⟨.int .u8 13, .int .u8 11, 10⟩, ⟨.int .u8 12, .int .u8 12, 11⟩, ⟨.int .u8 16, .int .u8 13, 12⟩]

/-- The compact type of a type. -/
def ctype (t : Int) : Int :=
  if t = 0 then 0 else
  if t = 2 then 1 else
  if t = 3 then 3 else
  if t = 6 then 4 else
  if t = 8 then 5 else
  if t = 10 then 6 else
  if t = 4 then 7 else
  if t = 11 then 8 else
  if t = 15 then 9 else
  if t = 14 then 10 else
  if t = 13 then 11 else
  if t = 12 then 12 else
  if t = 16 then 13 else
  0

set_option maxHeartbeats 1000000 in
theorem typeMap (w : World) : Calls Tryz.prog 221 #[] w fun e w' => e = .returned (.map (some w.heap.size)) ∧ w.alloc (.map ctEntries 13) = w' := by
  have hmm := @run_makeMap Tryz.prog
  have h0 := run_insert_new (P := Tryz.prog) 342 125 318 .u8 Tryz.underlying342 Tryz.underlying125 w #[] 0 0 (.int .u8 0) rfl
  have h1 := run_insert_new (P := Tryz.prog) 342 125 318 .u8 Tryz.underlying342 Tryz.underlying125 w #[⟨.int .u8 0, .int .u8 0, 0⟩] 1 2 (.int .u8 1) rfl
  have h2 := run_insert_new (P := Tryz.prog) 342 125 318 .u8 Tryz.underlying342 Tryz.underlying125 w #[⟨.int .u8 0, .int .u8 0, 0⟩, ⟨.int .u8 2, .int .u8 1, 1⟩] 2 3 (.int .u8 3) rfl
  have h3 := run_insert_new (P := Tryz.prog) 342 125 318 .u8 Tryz.underlying342 Tryz.underlying125 w #[⟨.int .u8 0, .int .u8 0, 0⟩, ⟨.int .u8 2, .int .u8 1, 1⟩, ⟨.int .u8 3, .int .u8 3, 2⟩] 3 6 (.int .u8 4) rfl
  have h4 := run_insert_new (P := Tryz.prog) 342 125 318 .u8 Tryz.underlying342 Tryz.underlying125 w #[⟨.int .u8 0, .int .u8 0, 0⟩, ⟨.int .u8 2, .int .u8 1, 1⟩, ⟨.int .u8 3, .int .u8 3, 2⟩, ⟨.int .u8 6, .int .u8 4, 3⟩] 4 8 (.int .u8 5) rfl
  have h5 := run_insert_new (P := Tryz.prog) 342 125 318 .u8 Tryz.underlying342 Tryz.underlying125 w #[⟨.int .u8 0, .int .u8 0, 0⟩, ⟨.int .u8 2, .int .u8 1, 1⟩, ⟨.int .u8 3, .int .u8 3, 2⟩, ⟨.int .u8 6, .int .u8 4, 3⟩, ⟨.int .u8 8, .int .u8 5, 4⟩] 5 10 (.int .u8 6) rfl
  have h6 := run_insert_new (P := Tryz.prog) 342 125 318 .u8 Tryz.underlying342 Tryz.underlying125 w #[⟨.int .u8 0, .int .u8 0, 0⟩, ⟨.int .u8 2, .int .u8 1, 1⟩, ⟨.int .u8 3, .int .u8 3, 2⟩, ⟨.int .u8 6, .int .u8 4, 3⟩, ⟨.int .u8 8, .int .u8 5, 4⟩, ⟨.int .u8 10, .int .u8 6, 5⟩] 6 4 (.int .u8 7) rfl
  have h7 := run_insert_new (P := Tryz.prog) 342 125 318 .u8 Tryz.underlying342 Tryz.underlying125 w #[⟨.int .u8 0, .int .u8 0, 0⟩, ⟨.int .u8 2, .int .u8 1, 1⟩, ⟨.int .u8 3, .int .u8 3, 2⟩, ⟨.int .u8 6, .int .u8 4, 3⟩, ⟨.int .u8 8, .int .u8 5, 4⟩, ⟨.int .u8 10, .int .u8 6, 5⟩, ⟨.int .u8 4, .int .u8 7, 6⟩] 7 11 (.int .u8 8) rfl
  have h8 := run_insert_new (P := Tryz.prog) 342 125 318 .u8 Tryz.underlying342 Tryz.underlying125 w #[⟨.int .u8 0, .int .u8 0, 0⟩, ⟨.int .u8 2, .int .u8 1, 1⟩, ⟨.int .u8 3, .int .u8 3, 2⟩, ⟨.int .u8 6, .int .u8 4, 3⟩, ⟨.int .u8 8, .int .u8 5, 4⟩, ⟨.int .u8 10, .int .u8 6, 5⟩, ⟨.int .u8 4, .int .u8 7, 6⟩, ⟨.int .u8 11, .int .u8 8, 7⟩] 8 15 (.int .u8 9) rfl
  have h9 := run_insert_new (P := Tryz.prog) 342 125 318 .u8 Tryz.underlying342 Tryz.underlying125 w #[⟨.int .u8 0, .int .u8 0, 0⟩, ⟨.int .u8 2, .int .u8 1, 1⟩, ⟨.int .u8 3, .int .u8 3, 2⟩, ⟨.int .u8 6, .int .u8 4, 3⟩, ⟨.int .u8 8, .int .u8 5, 4⟩, ⟨.int .u8 10, .int .u8 6, 5⟩, ⟨.int .u8 4, .int .u8 7, 6⟩, ⟨.int .u8 11, .int .u8 8, 7⟩, ⟨.int .u8 15, .int .u8 9, 8⟩] 9 14 (.int .u8 10) rfl
  have h10 := run_insert_new (P := Tryz.prog) 342 125 318 .u8 Tryz.underlying342 Tryz.underlying125 w #[⟨.int .u8 0, .int .u8 0, 0⟩, ⟨.int .u8 2, .int .u8 1, 1⟩, ⟨.int .u8 3, .int .u8 3, 2⟩, ⟨.int .u8 6, .int .u8 4, 3⟩, ⟨.int .u8 8, .int .u8 5, 4⟩, ⟨.int .u8 10, .int .u8 6, 5⟩, ⟨.int .u8 4, .int .u8 7, 6⟩, ⟨.int .u8 11, .int .u8 8, 7⟩, ⟨.int .u8 15, .int .u8 9, 8⟩, ⟨.int .u8 14, .int .u8 10, 9⟩] 10 13 (.int .u8 11) rfl
  have h11 := run_insert_new (P := Tryz.prog) 342 125 318 .u8 Tryz.underlying342 Tryz.underlying125 w #[⟨.int .u8 0, .int .u8 0, 0⟩, ⟨.int .u8 2, .int .u8 1, 1⟩, ⟨.int .u8 3, .int .u8 3, 2⟩, ⟨.int .u8 6, .int .u8 4, 3⟩, ⟨.int .u8 8, .int .u8 5, 4⟩, ⟨.int .u8 10, .int .u8 6, 5⟩, ⟨.int .u8 4, .int .u8 7, 6⟩, ⟨.int .u8 11, .int .u8 8, 7⟩, ⟨.int .u8 15, .int .u8 9, 8⟩, ⟨.int .u8 14, .int .u8 10, 9⟩, ⟨.int .u8 13, .int .u8 11, 10⟩] 11 12 (.int .u8 12) rfl
  have h12 := run_insert_new (P := Tryz.prog) 342 125 318 .u8 Tryz.underlying342 Tryz.underlying125 w #[⟨.int .u8 0, .int .u8 0, 0⟩, ⟨.int .u8 2, .int .u8 1, 1⟩, ⟨.int .u8 3, .int .u8 3, 2⟩, ⟨.int .u8 6, .int .u8 4, 3⟩, ⟨.int .u8 8, .int .u8 5, 4⟩, ⟨.int .u8 10, .int .u8 6, 5⟩, ⟨.int .u8 4, .int .u8 7, 6⟩, ⟨.int .u8 11, .int .u8 8, 7⟩, ⟨.int .u8 15, .int .u8 9, 8⟩, ⟨.int .u8 14, .int .u8 10, 9⟩, ⟨.int .u8 13, .int .u8 11, 10⟩, ⟨.int .u8 12, .int .u8 12, 11⟩] 12 16 (.int .u8 13) rfl
  simp only [List.push_toArray, List.nil_append, List.cons_append, Nat.reduceAdd] at h0 h1 h2 h3 h4 h5 h6 h7 h8 h9 h10 h11 h12
  go_enter Tryz.func221, Tryz.ntmps221
  go_wp2
  go_ret
  exact ⟨rfl, rfl⟩

theorem ct_find (t : Int) : ∃ o, Instr.findNow (.int .u8) (.int .u8 t) ctEntries.toList 0 = some o ∧ found (.int .u8 0) o = .int .u8 (ctype t) := by
  unfold ctype ctEntries
  by_cases h0 : t = 0
  · subst h0; exact ⟨_, rfl, rfl⟩
  rw [if_neg h0]
  by_cases h2 : t = 2
  · subst h2; exact ⟨_, rfl, rfl⟩
  rw [if_neg h2]
  by_cases h3 : t = 3
  · subst h3; exact ⟨_, rfl, rfl⟩
  rw [if_neg h3]
  by_cases h6 : t = 6
  · subst h6; exact ⟨_, rfl, rfl⟩
  rw [if_neg h6]
  by_cases h8 : t = 8
  · subst h8; exact ⟨_, rfl, rfl⟩
  rw [if_neg h8]
  by_cases h10 : t = 10
  · subst h10; exact ⟨_, rfl, rfl⟩
  rw [if_neg h10]
  by_cases h4 : t = 4
  · subst h4; exact ⟨_, rfl, rfl⟩
  rw [if_neg h4]
  by_cases h11 : t = 11
  · subst h11; exact ⟨_, rfl, rfl⟩
  rw [if_neg h11]
  by_cases h15 : t = 15
  · subst h15; exact ⟨_, rfl, rfl⟩
  rw [if_neg h15]
  by_cases h14 : t = 14
  · subst h14; exact ⟨_, rfl, rfl⟩
  rw [if_neg h14]
  by_cases h13 : t = 13
  · subst h13; exact ⟨_, rfl, rfl⟩
  rw [if_neg h13]
  by_cases h12 : t = 12
  · subst h12; exact ⟨_, rfl, rfl⟩
  rw [if_neg h12]
  by_cases h16 : t = 16
  · subst h16; exact ⟨_, rfl, rfl⟩
  rw [if_neg h16]
  refine ⟨none, ?_, rfl⟩
  simp [Instr.findNow, Instr.sameNow, beq_eq_false_iff_ne.2 h0, beq_eq_false_iff_ne.2 h2, beq_eq_false_iff_ne.2 h3, beq_eq_false_iff_ne.2 h6, beq_eq_false_iff_ne.2 h8, beq_eq_false_iff_ne.2 h10, beq_eq_false_iff_ne.2 h4, beq_eq_false_iff_ne.2 h11, beq_eq_false_iff_ne.2 h15, beq_eq_false_iff_ne.2 h14, beq_eq_false_iff_ne.2 h13, beq_eq_false_iff_ne.2 h12, beq_eq_false_iff_ne.2 h16]

set_option maxHeartbeats 1000000 in
theorem C_getCompactType (p : Value) (t : Int) (w : World) : Calls Tryz.prog 215 #[p, .int .u8 t] w fun e w' => e = .returned (.int .u8 (ctype t)) ∧ w.alloc (.map ctEntries 13) = w' := by
  obtain ⟨o, h1, h2⟩ := ct_find t
  have hl := run_lookup_now (P := Tryz.prog) 342 125 318 .u8 (.int .u8 0) Tryz.underlying342 Tryz.underlying125 zero_ct (w.alloc (.map ctEntries 13)) w.heap.size ctEntries 13 t (alloc_new w _) o h1
  rw [h2] at hl
  clear h1 h2
  go_enter Tryz.func215, Tryz.ntmps215
  go_wp2_with (go_at_call 221; refine (typeMap _).mono ?_; rintro e w' ⟨rfl, rfl⟩)
  go_ret
  exact ⟨rfl, rfl⟩
end Go.Proofs.YtdifknecndlklaaGreatDoor
namespace Go.Proofs.YtdifknecndlklaaGreatDoor
open Go Go.RowKit

abbrev TCP : TypeId := 227
abbrev TI : TypeId := 3

/-- The compact protocol's own state: the ids of the structs around, the last id, a bool's field that waits, a bool that was read ahead. -/
structure CSt where
  stack : List Int
  last : Int
  pend : Bool
  pid : Int
  pnm : ByteArray
  bv : Bool
  bn : Bool

/-- The fields ahead of the array. -/
def hdC (m : Nat) (cf sv : Value) (s : CSt) : List Value :=
  [memI m, memI m, cf, sv, .int .i64 s.last, .string s.pnm, .int .i16 s.pid, .bool s.pend, .bool s.bv, .bool s.bn]

/-- A compact protocol in block p over the memory buffer m. -/
structure CP (w : World) (p m b : Nat) (cf : Value) (s : CSt) (T : Nat) (z : Bool) (l : List UInt8) : Prop where
  arr : ∃ sv buf, buf.length = 64 ∧ Arr w p TCP (hdC m cf sv s) buf ∧ w.ownsRow 0 TI 1 sv s.stack.length (s.stack.map (.int .i64))
  mem : Mem w m b
  buf : Buf w b T z l

/-- The row of the ids. -/
def SF (w : World) (p k : Nat) : Prop := ∃ n c, w.cell? ⟨p, 3, none⟩ = some (.slice (some ⟨k, 0, none⟩) n c)
/-- Its blocks that turn. -/
def CPF (w : World) (p b : Nat) : Nat → Prop := fun k => k = p ∨ BF w b k ∨ SF w p k

/-- What a writing method leaves. -/
def CW (w : World) (p m b : Nat) (cf : Value) (_s s' : CSt) (T : Nat) (l news : List UInt8) (v : Value) (e : Ending) (w' : World) : Prop :=
  e = .returned v ∧ CP w' p m b cf s' (T + news.length) true (l ++ news) ∧ Fr (CPF w p b) (CPF w' p b) w w'

theorem SF.tag {w : World} {p k : Nat} {m : Nat} {cf sv : Value} {s : CSt} {bf : List UInt8} (ha : Arr w p TCP (hdC m cf sv s) bf) (ho : w.ownsRow 0 TI 1 sv s.stack.length (s.stack.map (.int .i64))) (h : SF w p k) : ∃ cs, w.heap[k]? = some (.cells cs TI (0, 0)) := by
  obtain ⟨n, c, h⟩ := h
  rw [ha.head 3 sv rfl] at h
  injection h with h
  subst h
  rcases ho.2 with ⟨h, _⟩ | ⟨g, cap, cur, h, _, hg, _⟩
  · cases h
  · injection h with h1 h2 h3
    injection h1 with h1
    injection h1 with h1
    subst h1
    exact ⟨cur, hg⟩
theorem SF.of_same {w w' : World} {p k : Nat} (h : w'.heap[p]? = w.heap[p]?) : SF w' p k ↔ SF w p k := by
  unfold SF
  rw [World.cell?_of_block (a := ⟨p, 3, none⟩) h]

theorem CPF.tag {w : World} {p m b T : Nat} {cf : Value} {s : CSt} {z : Bool} {l : List UInt8} (h : CP w p m b cf s T z l) {k : Nat} (hk : CPF w p b k) : ∃ cs t, w.heap[k]? = some (.cells cs t (0, 0)) ∧ (t = TCP ∨ t = TB ∨ t = U8 ∨ t = TI) := by
  obtain ⟨sv, bf, hbf, ha, ho⟩ := h.arr
  rcases hk with rfl | hk | hk
  · exact ⟨_, _, ha, Or.inl rfl⟩
  · obtain ⟨cs, t, h1, h2⟩ := h.buf.tag hk
    exact ⟨cs, t, h1, Or.inr (h2.elim Or.inl fun x => Or.inr (Or.inl x))⟩
  · obtain ⟨cs, h1⟩ := hk.tag ha ho
    exact ⟨cs, _, h1, Or.inr (Or.inr (Or.inr rfl))⟩
theorem CPF.lt {w : World} {p m b T : Nat} {cf : Value} {s : CSt} {z : Bool} {l : List UInt8} (h : CP w p m b cf s T z l) {k : Nat} (hk : CPF w p b k) : k < w.heap.size := by
  obtain ⟨cs, t, h1, _⟩ := CPF.tag h hk; exact lt_heap h1
theorem CP.trans {w : World} {p m b T : Nat} {cf : Value} {s : CSt} {z : Bool} {l : List UInt8} (h : CP w p m b cf s T z l) : w.cell? ⟨p, 0, none⟩ = some (memI m) := by
  obtain ⟨sv, bf, _, ha, _⟩ := h.arr; exact ha.head 0 _ rfl

/-- The row of the ids, in a world in which it stands as it stood. -/
theorem owns_same {w w' : World} {sv : Value} {n : Nat} {xs : List Value} (h : w.ownsRow 0 TI 1 sv n xs) (hs : ∀ g, sv.ownBlock = some g → w'.heap[g]? = w.heap[g]?) : w'.ownsRow 0 TI 1 sv n xs := by
  refine ⟨h.1, ?_⟩
  rcases h.2 with h0 | ⟨g, cap, cur, hv, hb, hg, rest⟩
  · exact Or.inl h0
  · exact Or.inr ⟨g, cap, cur, hv, hb, (hs g (by rw [hv]; rfl)).trans hg, rest⟩

/-- The buffer alone has turned. -/
theorem CP.lift {w w' : World} {p m b T T' : Nat} {cf : Value} {s : CSt} {z z' : Bool} {l l' : List UInt8} (h : CP w p m b cf s T z l) (hb : Buf w' b T' z' l') (hf : Fr (BF w b) (BF w' b) w w') :
    CP w' p m b cf s T' z' l' ∧ Fr (CPF w p b) (CPF w' p b) w w' := by
  obtain ⟨⟨sv, bf, hbf, ha, ho⟩, ⟨sz, hm⟩, hB⟩ := h
  have hp : w'.heap[p]? = w.heap[p]? := hf.keep p (lt_heap ha) (hB.other ha (by decide) (by decide))
  refine ⟨⟨⟨sv, bf, hbf, hp.trans ha, owns_same ho fun g hg => ?_⟩, ⟨sz, hf.block hm (hB.other hm (by decide) (by decide))⟩, hb⟩, ?_⟩
  · rcases ho.2 with ⟨rfl, _⟩ | ⟨g', cap, cur, rfl, _, hgg, _⟩
    · cases hg
    · injection hg with hg
      subst hg
      exact hf.keep _ (lt_heap hgg) (hB.other hgg (by decide) (by decide))
  · refine ⟨hf.os, hf.tape, hf.output, hf.size, fun k hk hn => hf.keep k hk (fun x => hn (Or.inr (Or.inl x))), fun k hk hx => ?_⟩
    rcases hx with rfl | hx | hx
    · exact Or.inl rfl
    · exact Or.inr (Or.inl (hf.foot k hk hx))
    · exact Or.inr (Or.inr ((SF.of_same hp).1 hx))

/-- The struct's own block alone has turned: its head but the ids' slice, its array. -/
theorem CP.own {w w' : World} {p m b T : Nat} {cf : Value} {s s' : CSt} {z : Bool} {l : List UInt8} (h : CP w p m b cf s T z l) (hf : Fr (one p) (one p) w w') (hst : s'.stack = s.stack)
    (ha' : ∀ sv bf, bf.length = 64 → Arr w p TCP (hdC m cf sv s) bf → ∃ bf', bf'.length = 64 ∧ Arr w' p TCP (hdC m cf sv s') bf') :
    CP w' p m b cf s' T z l ∧ Fr (CPF w p b) (CPF w' p b) w w' := by
  obtain ⟨⟨sv, bf, hbf, ha, ho⟩, ⟨sz, hm⟩, hB⟩ := h
  obtain ⟨bf', hbf', ha2⟩ := ha' sv bf hbf ha
  have hne : ∀ {k : Nat} {cs : Array Value} {t : TypeId}, w.heap[k]? = some (.cells cs t (0, 0)) → t ≠ TCP → ¬ one p k := fun hk ht he => by
    have he : _ = p := he
    subst he
    exact tag_ne hk ha ht rfl
  have hbk : ∀ k, BF w b k → w'.heap[k]? = w.heap[k]? := fun k hk => by
    obtain ⟨cs, t, h1, h2⟩ := hB.tag hk
    exact hf.keep k (lt_heap h1) (hne h1 (by rcases h2 with rfl | rfl <;> decide))
  refine ⟨⟨⟨sv, bf', hbf', ha2, ?_⟩, ⟨sz, hf.block hm (hne hm (by decide))⟩, hB.same hbk⟩, ?_⟩
  · rw [hst]
    refine owns_same ho fun g hg => ?_
    rcases ho.2 with ⟨rfl, _⟩ | ⟨g', cap, cur, rfl, _, hgg, _⟩
    · cases hg
    · injection hg with hg
      subst hg
      exact hf.keep _ (lt_heap hgg) (hne hgg (by decide))
  · refine ⟨hf.os, hf.tape, hf.output, hf.size, fun k hk hn => hf.keep k hk (fun x => hn (Or.inl x)), fun k hk hx => ?_⟩
    rcases hx with rfl | hx | ⟨n, c, hx⟩
    · exact Or.inl rfl
    · exact Or.inr (Or.inl ((BF.of_same (hbk b (Or.inl rfl))).1 hx))
    · rw [ha2.head 3 sv rfl] at hx
      exact Or.inr (Or.inr ⟨n, c, (ha.head 3 sv rfl).trans hx⟩)

theorem CP.drew {w : World} {p m b T : Nat} {cf : Value} {s : CSt} {z : Bool} {l : List UInt8} (h : CP w p m b cf s T z l) : CP w.drew p m b cf s T z l := ⟨h.arr, h.mem, h.buf⟩

theorem CP.alloc {w : World} {p m b T : Nat} {cf : Value} {s : CSt} {z : Bool} {l : List UInt8} (h : CP w p m b cf s T z l) (o : Obj) : CP (w.alloc o) p m b cf s T z l ∧ Fr (CPF w p b) (CPF (w.alloc o) p b) w (w.alloc o) := by
  obtain ⟨⟨sv, bf, hbf, ha, ho⟩, ⟨sz, hm⟩, hB⟩ := h
  have hb : (w.alloc o).heap[b]? = w.heap[b]? := Below.heap_alloc w o b hB.lt
  have hp : (w.alloc o).heap[p]? = w.heap[p]? := Below.heap_alloc w o p (lt_heap ha)
  refine ⟨⟨⟨sv, bf, hbf, alloc_at ha, ho.alloc o⟩, ⟨sz, alloc_at hm⟩, hB.same fun k hk => Below.heap_alloc w o k (hB.foot_lt hk)⟩, ((Fr.refl _ w).alloc o).conv fun k _ hk => ?_⟩
  rcases hk with rfl | hk | hk
  · exact Or.inl rfl
  · exact Or.inr (Or.inl ((BF.of_same hb).1 hk))
  · exact Or.inr (Or.inr ((SF.of_same hp).1 hk))

/-- Two writings, one behind the other. -/
theorem CW.seq {w w1 w2 : World} {p m b T : Nat} {cf v1 v2 : Value} {s s1 s2 : CSt} {l n1 n2 : List UInt8} {e1 e2 : Ending} (h1 : CW w p m b cf s s1 T l n1 v1 e1 w1) (h2 : CW w1 p m b cf s1 s2 (T + n1.length) (l ++ n1) n2 v2 e2 w2) : CW w p m b cf s s2 T l (n1 ++ n2) v2 e2 w2 := by
  obtain ⟨_, a1, f1⟩ := h1
  obtain ⟨he, a2, f2⟩ := h2
  refine ⟨he, ?_, f1.trans f2⟩
  rw [List.length_append, ← Nat.add_assoc, ← List.append_assoc]
  exact a2

set_option maxHeartbeats 1000000
set_option maxRecDepth 100000

theorem C_writeByteDirect (p m b T : Nat) (cf : Value) (s : CSt) (l : List UInt8) (u : UInt8) (w : World) (h : CP w p m b cf s T true l) (hlim : T + 1 ≤ LIM) :
    Calls Tryz.prog 210 #[.pointer (some ⟨p, 0, none⟩), .int .u8 u.toNat] w (CW w p m b cf s s T l [u] .nilIface) := by
  have c0 := h.trans
  have hme := meth_WriteByte h.mem.cell
  have H := Lib.hid h
  have HL := Lib.hid hlim
  clear h hlim
  go_enter Tryz.func210, Tryz.ntmps210
  go_wp2_with fail
  refine (Buf_WriteByte b T l u _ H.out.buf HL.out).mono ?_
  rintro e w1 ⟨rfl, hB, hF⟩
  have HX := Lib.hid (H.out.lift hB hF)
  clear hB hF
  go_wp2
  go_ret
  exact ⟨rfl, HX.out.1, HX.out.2⟩

theorem C_WriteByte (p m b T : Nat) (cf c : Value) (s : CSt) (l : List UInt8) (v : Int) (w : World) (h : CP w p m b cf s T true l) (hlim : T + 1 ≤ LIM) :
    Calls Tryz.prog 171 #[.pointer (some ⟨p, 0, none⟩), c, .int .i8 v] w (CW w p m b cf s s T l [b8 v] .nilIface) := by
  have hu : v % 256 = ((b8 v).toNat : Int) := by
    unfold b8
    have : ((v % 256).toNat).toUInt8.toNat = (v % 256).toNat % 256 := by simp [Nat.toUInt8, UInt8.toNat_ofNat']
    rw [this]; omega
  have H := Lib.hid h
  have HL := Lib.hid hlim
  have HU := Lib.hid hu
  clear h hlim hu
  go_enter Tryz.func171, Tryz.ntmps171
  go_wp2_with fail
  rw [HU.out]
  refine (C_writeByteDirect p m b T cf s l _ w H.out HL.out).mono ?_
  rintro e w1 hw
  obtain rfl := hw.1
  have HW := Lib.hid hw
  clear hw
  go_wp2_with (go_at_call 192; refine (exc_nil _).mono ?_; rintro e w' ⟨rfl, rfl⟩)
  go_ret
  exact HW.out

theorem C_WriteFieldStop (p m b T : Nat) (cf c : Value) (s : CSt) (l : List UInt8) (w : World) (h : CP w p m b cf s T true l) (hlim : T + 1 ≤ LIM) :
    Calls Tryz.prog 175 #[.pointer (some ⟨p, 0, none⟩), c] w (CW w p m b cf s s T l [0] .nilIface) := by
  have H1 := Lib.hid (C_writeByteDirect p m b T cf s l 0 w h hlim)
  clear h hlim
  go_enter Tryz.func175, Tryz.ntmps175
  go_wp2_with fail
  refine H1.out.mono ?_
  rintro e w1 hw
  obtain rfl := hw.1
  have HW := Lib.hid hw
  clear hw
  go_wp2_with (go_at_call 192; refine (exc_nil _).mono ?_; rintro e w' ⟨rfl, rfl⟩)
  go_ret
  exact HW.out

theorem C_WriteFieldEnd (p : Value) (c : Value) (w : World) : Calls Tryz.prog 174 #[p, c] w fun e w' => e = .returned .nilIface ∧ w = w' := by
  go_enter Tryz.func174, Tryz.ntmps174
  go_wp2
  go_ret
  exact ⟨rfl, rfl⟩
theorem C_WriteMapEnd (p : Value) (c : Value) (w : World) : Calls Tryz.prog 182 #[p, c] w fun e w' => e = .returned .nilIface ∧ w = w' := by
  go_enter Tryz.func182, Tryz.ntmps182
  go_wp2
  go_ret
  exact ⟨rfl, rfl⟩
theorem C_WriteListEnd (p : Value) (c : Value) (w : World) : Calls Tryz.prog 180 #[p, c] w fun e w' => e = .returned .nilIface ∧ w = w' := by
  go_enter Tryz.func180, Tryz.ntmps180
  go_wp2
  go_ret
  exact ⟨rfl, rfl⟩
theorem C_WriteSetEnd (p : Value) (c : Value) (w : World) : Calls Tryz.prog 186 #[p, c] w fun e w' => e = .returned .nilIface ∧ w = w' := by
  go_enter Tryz.func186, Tryz.ntmps186
  go_wp2
  go_ret
  exact ⟨rfl, rfl⟩
end Go.Proofs.YtdifknecndlklaaGreatDoor
namespace Go.Proofs.YtdifknecndlklaaGreatDoor
open Go Go.RowKit

theorem nat_and_hi (n k X : Nat) (hk : k ≤ n) (hX : X < 2 ^ n) : X &&& (2 ^ n - 2 ^ k) = X / 2 ^ k * 2 ^ k := by
  apply Nat.eq_of_testBit_eq
  intro i
  have h2 : 2 ^ n - 2 ^ k = 2 ^ n - ((2 ^ k - 1) + 1) := by have := Nat.two_pow_pos k; omega
  have hlt : 2 ^ k - 1 < 2 ^ n := by have := Nat.pow_le_pow_right (show 0 < 2 by decide) hk; have := Nat.two_pow_pos k; omega
  rw [Nat.testBit_and, h2, Nat.testBit_two_pow_sub_succ hlt, Nat.testBit_two_pow_sub_one, Nat.testBit_mul_two_pow, Nat.testBit_div_two_pow]
  by_cases hi : i < n
  · by_cases hik : i < k
    · simp [hi, hik]; omega
    · simp [hi, hik]
      have : k ≤ i := by omega
      simp [this, Nat.sub_add_cancel this]
  · have hf : X.testBit i = false := Nat.testBit_lt_two_pow (Nat.lt_of_lt_of_le hX (Nat.pow_le_pow_right (by decide) (by omega)))
    have : k ≤ i := by omega
    simp [hf, this, Nat.sub_add_cancel this]

theorem i32_and_hi (n : Int) : bits .and .i32 n (-128) = IntKind.i32.wrap ((((n % 4294967296).toNat / 128 * 128 : Nat)) : Int) := by
  have hc : (BitVec.ofInt 32 (-128)).toNat = 2 ^ 32 - 2 ^ 7 := by decide
  have key : (BitVec.ofInt 32 n &&& BitVec.ofInt 32 (-128)).toNat = (n % 4294967296).toNat / 128 * 128 := by
    rw [BitVec.toNat_and, BitVec.toNat_ofInt, hc, nat_and_hi 32 7 _ (by decide) (by omega)]
    rfl
  show IntKind.i32.wrap ((BitVec.ofInt 32 n &&& BitVec.ofInt 32 (-128)).toNat : Nat) = _
  rw [key]
theorem i64_and_hi (n : Int) : bits .and .i64 n (-128) = IntKind.i64.wrap ((((n % 18446744073709551616).toNat / 128 * 128 : Nat)) : Int) := by
  have hc : (BitVec.ofInt 64 (-128)).toNat = 2 ^ 64 - 2 ^ 7 := by decide
  have key : (BitVec.ofInt 64 n &&& BitVec.ofInt 64 (-128)).toNat = (n % 18446744073709551616).toNat / 128 * 128 := by
    rw [BitVec.toNat_and, BitVec.toNat_ofInt, hc, nat_and_hi 64 7 _ (by decide) (by omega)]
    rfl
  show IntKind.i64.wrap ((BitVec.ofInt 64 n &&& BitVec.ofInt 64 (-128)).toNat : Nat) = _
  rw [key]
theorem wrap_i32' (n : Int) : IntKind.i32.wrap n = (n + 2147483648) % 4294967296 - 2147483648 := by
  simp [IntKind.wrap, IntKind.bits, IntKind.signed]; omega

/-- 'n & ^0x7F == 0'. -/
theorem i32_small (n : Int) : (bits .and .i32 n (-128) == 0) = decide ((n % 4294967296).toNat < 128) := by
  rw [i32_and_hi, wrap_i32', Bool.eq_iff_iff, beq_iff_eq, decide_eq_true_eq]
  omega
theorem i64_small (n : Int) : (bits .and .i64 n (-128) == 0) = decide ((n % 18446744073709551616).toNat < 128) := by
  rw [i64_and_hi, IntKind.wrap_i64, Bool.eq_iff_iff, beq_iff_eq, decide_eq_true_eq]
  omega
theorem i32_and127 (n : Int) : bits .and .i32 n 127 = n % 128 := by
  have h127 : (BitVec.ofInt 32 127).toNat = 2 ^ 7 - 1 := by decide
  have key : (BitVec.ofInt 32 n &&& BitVec.ofInt 32 127).toNat = (n % ((2 ^ 32 : Nat) : Int)).toNat % 2 ^ 7 := by
    rw [BitVec.toNat_and, BitVec.toNat_ofInt, h127, Nat.and_two_pow_sub_one_eq_mod]
  show IntKind.i32.wrap ((BitVec.ofInt 32 n &&& BitVec.ofInt 32 127).toNat : Nat) = n % 128
  rw [key, wrap_i32']
  omega
theorem nat_or128 (y : Nat) (h : y < 128) : y ||| 128 = y + 128 := by
  rw [Nat.or_comm, nat_join 7 128 y (by decide) (by omega)]; omega
theorem i32_or128 (y : Int) (h0 : 0 ≤ y) (h1 : y < 128) : bits .or .i32 y 128 = y + 128 := by
  have hc : (BitVec.ofInt 32 128).toNat = 128 := by decide
  have key : (BitVec.ofInt 32 y ||| BitVec.ofInt 32 128).toNat = y.toNat + 128 := by
    rw [BitVec.toNat_or, BitVec.toNat_ofInt, hc, show (y % ((2 ^ 32 : Nat) : Int)).toNat = y.toNat by omega, nat_or128 _ (by omega)]
  show IntKind.i32.wrap ((BitVec.ofInt 32 y ||| BitVec.ofInt 32 128).toNat : Nat) = y + 128
  rw [key, wrap_i32']
  omega
theorem i64_or128 (y : Int) (h0 : 0 ≤ y) (h1 : y < 128) : bits .or .i64 y 128 = y + 128 := by
  have hc : (BitVec.ofInt 64 128).toNat = 128 := by decide
  have key : (BitVec.ofInt 64 y ||| BitVec.ofInt 64 128).toNat = y.toNat + 128 := by
    rw [BitVec.toNat_or, BitVec.toNat_ofInt, hc, show (y % ((2 ^ 64 : Nat) : Int)).toNat = y.toNat by omega, nat_or128 _ (by omega)]
  show IntKind.i64.wrap ((BitVec.ofInt 64 y ||| BitVec.ofInt 64 128).toNat : Nat) = y + 128
  rw [key, IntKind.wrap_i64]
  omega

/-- A number by groups of seven bits. -/
def vint (n : Nat) : List UInt8 := if n < 128 then [n.toUInt8] else (n % 128 + 128).toUInt8 :: vint (n / 128)
theorem vint_small {n : Nat} (h : n < 128) : vint n = [n.toUInt8] := by rw [vint, if_pos h]
theorem vint_big {n : Nat} (h : ¬ n < 128) : vint n = (n % 128 + 128).toUInt8 :: vint (n / 128) := by rw [vint, if_neg h]
theorem vint_length (n : Nat) : ∀ k, n < 128 ^ k → 1 ≤ k → (vint n).length ≤ k := by
  induction n using Nat.strongRecOn with
  | _ n ih =>
    intro k hk h1
    by_cases h : n < 128
    · rw [vint_small h]; simpa using h1
    · rw [vint_big h, List.length_cons]
      obtain ⟨j, rfl⟩ : ∃ j, k = j + 1 := ⟨k - 1, by omega⟩
      have hj : 1 ≤ j := by
        rcases Nat.eq_zero_or_pos j with rfl | h'
        · simp at hk; omega
        · exact h'
      have := ih (n / 128) (by omega) j (by rw [Nat.div_lt_iff_lt_mul (by decide)]; rw [Nat.pow_succ] at hk; exact hk) hj
      omega
theorem vint_pos (n : Nat) : 1 ≤ (vint n).length := by
  by_cases h : n < 128
  · rw [vint_small h]; simp
  · rw [vint_big h]; simp
theorem u8_nat (n : Nat) (h : n < 256) : (n.toUInt8.toNat : Int) = (n : Int) := by
  rw [show n.toUInt8.toNat = n % 256 by simp [Nat.toUInt8, UInt8.toNat_ofNat']]; omega
end Go.Proofs.YtdifknecndlklaaGreatDoor
namespace Go.Proofs.YtdifknecndlklaaGreatDoor
open Go Go.RowKit

/-- Where a varint's loop stands: k bytes lie in the array, v is left of the number x. -/
def VL (w0 : World) (p : Nat) (hd : List Value) (x M : Nat) (k : Nat) (v : Nat) (w : World) : Prop :=
  ∃ bf : List UInt8, bf.length = 64 ∧ Arr w p TCP hd bf ∧ Fr (one p) (one p) w0 w ∧ vint x = bf.take k ++ vint v ∧ v < 128 ^ (M - k)

theorem VL.last {w0 w : World} {p x M k v : Nat} {hd : List Value} {y : Int} (h : VL w0 p hd x M k v w) (hk : k < M) (hM : M ≤ 10) (hs : v < 128) (ho : hd.length = 10) (hy : y = v) :
    ∃ bf : List UInt8, bf.length = 64 ∧ Arr (w.setCell ⟨p, 10 + k, none⟩ (.int .u8 y)) p TCP hd bf ∧ Fr (one p) (one p) w0 (w.setCell ⟨p, 10 + k, none⟩ (.int .u8 y)) ∧ vint x = bf.take (k + 1) := by
  obtain ⟨bf, hb, ha, hf, he, hv⟩ := h
  have hu : y = ((v.toUInt8).toNat : Int) := by rw [u8_nat _ (by omega), hy]
  rw [hu, ← ho]
  refine ⟨bf.set k v.toUInt8, by simpa using hb, ha.set k _, hf.setCell (p := ⟨p, hd.length + k, none⟩) (Or.inl rfl) _, ?_⟩
  rw [he, vint_small hs]
  rw [List.take_add_one]
  simp [hb, show k < 64 by omega, List.take_set_of_le]
theorem VL.next {w0 w : World} {p x M k v : Nat} {hd : List Value} {y : Int} (h : VL w0 p hd x M k v w) (hk : k < M) (hM : M ≤ 10) (hs : 128 ≤ v) (ho : hd.length = 10) (hy : y = ((v % 128 + 128 : Nat) : Int)) :
    k + 1 < M ∧ VL w0 p hd x M (k + 1) (v / 128) (w.setCell ⟨p, 10 + k, none⟩ (.int .u8 y)) := by
  obtain ⟨bf, hb, ha, hf, he, hv⟩ := h
  have hlt : k + 1 < M := by
    rcases Nat.lt_or_ge (k + 1) M with h | h
    · exact h
    · have : M - k = 1 := by omega
      rw [this] at hv
      omega
  refine ⟨hlt, ?_⟩
  have hu : y = (((v % 128 + 128).toUInt8).toNat : Int) := by rw [u8_nat _ (by omega), hy]
  rw [hu, ← ho]
  refine ⟨bf.set k (v % 128 + 128).toUInt8, by simpa using hb, ha.set k _, hf.setCell (p := ⟨p, hd.length + k, none⟩) (Or.inl rfl) _, ?_, ?_⟩
  · rw [he, vint_big (by omega)]
    rw [List.take_add_one]
    simp [hb, show k < 64 by omega, List.take_set_of_le]
  · rw [Nat.div_lt_iff_lt_mul (by omega), ← Nat.pow_succ, show (M - (k + 1)).succ = M - k by omega]
    exact hv
theorem VL.cell {w0 w : World} {p x M k v : Nat} {hd : List Value} (h : VL w0 p hd x M k v w) (hk : k < 64) (ho : hd.length = 10) : (∃ u, w.cell? ⟨p, 10 + k, none⟩ = some u) ∧ w.frozen? ⟨p, 10 + k, none⟩ = false := by
  obtain ⟨bf, hb, ha, hf, he, hv⟩ := h
  rw [← ho]
  exact ⟨⟨_, ha.cell k (by omega)⟩, ha.free _⟩
/-- The array alone has turned: the protocol stands. -/
theorem CP.scratch {w w' : World} {p m b T : Nat} {cf sv : Value} {s : CSt} {z : Bool} {l bf bf0 : List UInt8} (h : CP w p m b cf s T z l) (h0 : Arr w p TCP (hdC m cf sv s) bf0) (hb : bf.length = 64) (ha : Arr w' p TCP (hdC m cf sv s) bf) (hf : Fr (one p) (one p) w w') :
    CP w' p m b cf s T z l ∧ Fr (CPF w p b) (CPF w' p b) w w' := by
  refine h.own hf rfl fun sv' bf' _ h1 => ⟨bf, hb, ?_⟩
  have e1 := h1.head 3 sv' rfl
  rw [h0.head 3 sv rfl] at e1
  injection e1 with e1
  subst e1
  exact ha
theorem CP.apart {w : World} {p m b T : Nat} {cf : Value} {s : CSt} {z : Bool} {l : List UInt8} (h : CP w p m b cf s T z l) (o n c : Nat) : ∀ k, vblk (.slice (some ⟨p, o, none⟩) n c) k → ¬ BF w b k := fun k hk => by
  obtain ⟨sv, bf, _, ha, _⟩ := h.arr
  rcases n with _ | n
  · exact hk.elim
  · cases hk
    exact h.buf.other ha (by decide) (by decide)

/-- The head of the array goes to the buffer: what the last region of a varint's writing needs. -/
structure VW (w w' : World) (p m b T : Nat) (cf : Value) (s : CSt) (l news : List UInt8) : Prop where
  c0 : w'.cell? ⟨p, 0, none⟩ = some (memI m)
  meth : (method 498 PM (.pointer (some ⟨m, 0, none⟩)) "Write").run Tryz.prog w'.drew = .ok (73, .pointer (some ⟨b, 0, none⟩)) w'.drew
  call : Calls Tryz.prog 73 #[.pointer (some ⟨b, 0, none⟩), .slice (some ⟨p, 10, none⟩) news.length 64] w'.drew (Wrote w'.drew b T l news (.tuple #[.int .i64 (news.length : Nat), .nilIface]))
  held : ∀ w2, Fr (BF w'.drew b) (BF w2 b) w'.drew w2 → w2.cell? ⟨p, 0, none⟩ = some (memI m)
  done : ∀ w2, Buf w2 b (T + news.length) true (l ++ news) → Fr (BF w'.drew b) (BF w2 b) w'.drew w2 → CW w p m b cf s s T l news (.tuple #[.int .i64 (news.length : Nat), .nilIface]) (.returned (.tuple #[.int .i64 (news.length : Nat), .nilIface])) w2

theorem CP.vw {w w' : World} {p m b T n : Nat} {cf sv : Value} {s : CSt} {l bf bf0 : List UInt8} (h : CP w p m b cf s T true l) (h0 : Arr w p TCP (hdC m cf sv s) bf0) (hb : bf.length = 64) (ha : Arr w' p TCP (hdC m cf sv s) bf) (hf : Fr (one p) (one p) w w') (hn : n ≤ 64) (hlim : T + n ≤ LIM) : VW w w' p m b T cf s l (bf.take n) := by
  obtain ⟨h1, f1⟩ := h.scratch h0 hb ha hf
  have h2 : CP w'.drew p m b cf s T true l := h1.drew
  have hl : (bf.take n).length = n := by simp [hb]; omega
  have hrd : Rd w'.drew (.slice (some ⟨p, 10, none⟩) (bf.take n).length 64) (bf.take n) := by
    have ha' : Arr w' p TCP (hdC m cf sv s) (bf.take n ++ bf.drop n) := by rw [List.take_append_drop]; exact ha
    exact Arr.rd 10 _ ha' rfl rfl (by omega)
  refine ⟨h1.trans, meth_Write h2.mem.cell, Buf_Write b T l _ _ _ h2.buf (by omega) hrd (h2.apart _ _ _), fun w2 hF => ?_, fun w2 hB hF => ?_⟩
  · refine hF.cell (w := w'.drew) h2.trans ?_
    obtain ⟨sv, bf, _, ha, _⟩ := h2.arr
    exact h2.buf.other ha (by decide) (by decide)
  · obtain ⟨a, f⟩ := h2.lift hB hF
    exact ⟨rfl, a, f1.drew.trans f⟩


set_option maxHeartbeats 1000000 in
set_option maxRecDepth 100000 in
theorem C_writeVarint32 (p m b T : Nat) (cf : Value) (s : CSt) (l : List UInt8) (v : Int) (w : World) (h : CP w p m b cf s T true l) (hlim : T + 5 ≤ LIM) :
    Calls Tryz.prog 208 #[.pointer (some ⟨p, 0, none⟩), .int .i32 v] w (CW w p m b cf s s T l (vint (v % 4294967296).toNat) (.tuple #[.int .i64 (vint (v % 4294967296).toNat).length, .nilIface])) := by
  obtain ⟨sv, bf, hbf, ha, ho⟩ := h.arr
  have h0 : VL w p (hdC m cf sv s) (v % 4294967296).toNat 5 0 (v % 4294967296).toNat w := ⟨bf, hbf, ha, Fr.refl _ _, rfl, by omega⟩
  have H := Lib.hid h
  have H0 := Lib.hid h0
  have HA := Lib.hid ha
  clear ha hbf h h0 ho
  go_enter Tryz.func208, Tryz.ntmps208
  go_wp2_with fail
  go_loopw [1, 7, 8] (fun n i u wr => ∃ (k : Nat) (x : Int), i = .int .i64 k ∧ k < 5 ∧ n = .int .i32 x ∧ VL w p (hdC m cf sv s) (v % 4294967296).toNat 5 k (x % 4294967296).toNat wr) (fun _ i _ _ => 5 - (intOf i).toNat)
  case atStart => exact ⟨0, v, rfl, by omega, rfl, H0.out⟩
  case round =>
    obtain ⟨k, x, rfl, hk, rfl, hV⟩ := hrel
    obtain ⟨⟨u, c1⟩, f1⟩ := hV.cell (by omega) rfl
    have HV := Lib.hid hV
    clear hV
    rcases Nat.lt_or_ge (x % 4294967296).toNat 128 with hsm | hsm
    · have ht : (bits .and .i32 x (-128) == 0) = true := by rw [i32_small]; exact decide_eq_true hsm
      have hy : x % 256 = (x % 4294967296).toNat := by omega
      obtain ⟨bf1, hb1, ha1, hf1, hv1⟩ := HV.out.last hk (by omega) hsm rfl hy
      have hvw := H.out.vw HA.out hb1 ha1 hf1 (n := k + 1) (by omega) (by omega)
      rw [← hv1] at hvw
      have c0 := hvw.c0
      have hme := hvw.meth
      have hl : k + 1 = (vint (v % 4294967296).toNat).length := by rw [hv1]; simp [hb1]; omega
      have hk0 : (0 : Int) ≤ (k : Int) + 1 := by omega
      have hk1 : (k : Int) + 1 ≤ 64 := by omega
      have HW := Lib.hid hvw
      clear hvw ha1 hf1 hv1 hb1 hy
      go_wp2_with fail
      go_region_held3 (fun w' => w'.cell? ⟨p, 0, none⟩ = some (memI m)) (first | exact c0 | exact d0)
        (first | (go_at_call 73; refine HW.out.call.mono ?_; rintro e w2 ⟨rfl, hB, hF⟩; have d0 := HW.out.held w2 hF))
      have HX := Lib.hid (HW.out.done w2 hB hF)
      clear hB hF
      go_wp2
      go_ret2
      exact HX.out
    · have ht : (bits .and .i32 x (-128) == 0) = false := by rw [i32_small]; exact decide_eq_false (by omega)
      have hy : bits .or .i32 (bits .and .i32 x 127) 128 % 256 = (((x % 4294967296).toNat % 128 + 128 : Nat) : Int) := by rw [i32_and127, i32_or128 _ (by omega) (by omega)]; omega
      have hx := HV.out.next hk (by omega) hsm rfl hy
      have hz : (x % 4294967296 / 128 % 4294967296).toNat = (x % 4294967296).toNat / 128 := by
        try simp only [IntKind.wrap_u64, wrap64]
        omega
      have HX := Lib.hid hx
      have HZ := Lib.hid hz
      clear hx hy hz
      go_wp2_with fail
      refine ⟨⟨k + 1, _, rfl, HX.out.1, rfl, ?_⟩, ?_⟩
      · rw [HZ.out]; exact HX.out.2
      · have e1 : intOf (Value.int IntKind.i64 (↑k + 1)) = k + 1 := rfl
        have e2 : intOf (Value.int IntKind.i64 (k : Int)) = k := rfl
        rw [e1, e2]; omega
set_option maxHeartbeats 1000000 in
set_option maxRecDepth 100000 in
theorem C_writeVarint64 (p m b T : Nat) (cf : Value) (s : CSt) (l : List UInt8) (v : Int) (w : World) (h : CP w p m b cf s T true l) (hlim : T + 10 ≤ LIM) :
    Calls Tryz.prog 212 #[.pointer (some ⟨p, 0, none⟩), .int .i64 v] w (CW w p m b cf s s T l (vint (v % 18446744073709551616).toNat) (.tuple #[.int .i64 (vint (v % 18446744073709551616).toNat).length, .nilIface])) := by
  obtain ⟨sv, bf, hbf, ha, ho⟩ := h.arr
  have h0 : VL w p (hdC m cf sv s) (v % 18446744073709551616).toNat 10 0 (v % 18446744073709551616).toNat w := ⟨bf, hbf, ha, Fr.refl _ _, rfl, by omega⟩
  have H := Lib.hid h
  have H0 := Lib.hid h0
  have HA := Lib.hid ha
  clear ha hbf h h0 ho
  go_enter Tryz.func212, Tryz.ntmps212
  go_wp2_with fail
  go_loopw [1, 7, 8] (fun n i u wr => ∃ (k : Nat) (x : Int), i = .int .i64 k ∧ k < 10 ∧ n = .int .i64 x ∧ VL w p (hdC m cf sv s) (v % 18446744073709551616).toNat 10 k (x % 18446744073709551616).toNat wr) (fun _ i _ _ => 10 - (intOf i).toNat)
  case atStart => exact ⟨0, v, rfl, by omega, rfl, H0.out⟩
  case round =>
    obtain ⟨k, x, rfl, hk, rfl, hV⟩ := hrel
    obtain ⟨⟨u, c1⟩, f1⟩ := hV.cell (by omega) rfl
    have HV := Lib.hid hV
    clear hV
    rcases Nat.lt_or_ge (x % 18446744073709551616).toNat 128 with hsm | hsm
    · have ht : (bits .and .i64 x (-128) == 0) = true := by rw [i64_small]; exact decide_eq_true hsm
      have hy : x % 256 = (x % 18446744073709551616).toNat := by omega
      obtain ⟨bf1, hb1, ha1, hf1, hv1⟩ := HV.out.last hk (by omega) hsm rfl hy
      have hvw := H.out.vw HA.out hb1 ha1 hf1 (n := k + 1) (by omega) (by omega)
      rw [← hv1] at hvw
      have c0 := hvw.c0
      have hme := hvw.meth
      have hl : k + 1 = (vint (v % 18446744073709551616).toNat).length := by rw [hv1]; simp [hb1]; omega
      have hk0 : (0 : Int) ≤ (k : Int) + 1 := by omega
      have hk1 : (k : Int) + 1 ≤ 64 := by omega
      have HW := Lib.hid hvw
      clear hvw ha1 hf1 hv1 hb1 hy
      go_wp2_with fail
      go_region_held3 (fun w' => w'.cell? ⟨p, 0, none⟩ = some (memI m)) (first | exact c0 | exact d0)
        (first | (go_at_call 73; refine HW.out.call.mono ?_; rintro e w2 ⟨rfl, hB, hF⟩; have d0 := HW.out.held w2 hF))
      have HX := Lib.hid (HW.out.done w2 hB hF)
      clear hB hF
      go_wp2
      go_ret2
      exact HX.out
    · have ht : (bits .and .i64 x (-128) == 0) = false := by rw [i64_small]; exact decide_eq_false (by omega)
      have hy : bits .or .i64 (bits .and .i64 x 127) 128 % 256 = (((x % 18446744073709551616).toNat % 128 + 128 : Nat) : Int) := by rw [i64_and127, i64_or128 _ (by omega) (by omega)]; omega
      have hx := HV.out.next hk (by omega) hsm rfl hy
      have hz : (wrap64 (IntKind.u64.wrap x / 128) % 18446744073709551616).toNat = (x % 18446744073709551616).toNat / 128 := by
        try simp only [IntKind.wrap_u64, wrap64]
        omega
      have HX := Lib.hid hx
      have HZ := Lib.hid hz
      clear hx hy hz
      go_wp2_with fail
      refine ⟨⟨k + 1, _, rfl, HX.out.1, rfl, ?_⟩, ?_⟩
      · rw [HZ.out]; exact HX.out.2
      · have e1 : intOf (Value.int IntKind.i64 (↑k + 1)) = k + 1 := rfl
        have e2 : intOf (Value.int IntKind.i64 (k : Int)) = k := rfl
        rw [e1, e2]; omega
end Go.Proofs.YtdifknecndlklaaGreatDoor
namespace Go.Proofs.YtdifknecndlklaaGreatDoor
open Go Go.RowKit

/-- Zigzag: the sign at the end. -/
def zig (v : Int) : Int := if v < 0 then -2 * v - 1 else 2 * v
def zag (x : Int) : Int := if x % 2 = 0 then x / 2 else -(x / 2) - 1

theorem xor0_i32 (x : Int) : bits .xor .i32 x 0 = IntKind.i32.wrap x := by
  show IntKind.i32.wrap ((BitVec.ofInt 32 x ^^^ BitVec.ofInt 32 0).toNat : Int) = _
  rw [show BitVec.ofInt 32 0 = 0#32 by decide, BitVec.xor_zero, BitVec.toNat_ofInt]
  simp [IntKind.wrap, IntKind.bits, IntKind.signed]
  omega
theorem xorM_i32 (x : Int) : bits .xor .i32 x (-1) = IntKind.i32.wrap (-1 - x) := by
  show IntKind.i32.wrap ((BitVec.ofInt 32 x ^^^ BitVec.ofInt 32 (-1)).toNat : Int) = _
  rw [show BitVec.ofInt 32 (-1) = BitVec.allOnes 32 by decide, BitVec.xor_allOnes, BitVec.toNat_not, BitVec.toNat_ofInt]
  simp [IntKind.wrap, IntKind.bits, IntKind.signed]
  omega
theorem xor0_i64 (x : Int) : bits .xor .i64 x 0 = IntKind.i64.wrap x := by
  show IntKind.i64.wrap ((BitVec.ofInt 64 x ^^^ BitVec.ofInt 64 0).toNat : Int) = _
  rw [show BitVec.ofInt 64 0 = 0#64 by decide, BitVec.xor_zero, BitVec.toNat_ofInt]
  simp [IntKind.wrap, IntKind.bits, IntKind.signed]
  omega
theorem xorM_i64 (x : Int) : bits .xor .i64 x (-1) = IntKind.i64.wrap (-1 - x) := by
  show IntKind.i64.wrap ((BitVec.ofInt 64 x ^^^ BitVec.ofInt 64 (-1)).toNat : Int) = _
  rw [show BitVec.ofInt 64 (-1) = BitVec.allOnes 64 by decide, BitVec.xor_allOnes, BitVec.toNat_not, BitVec.toNat_ofInt]
  simp [IntKind.wrap, IntKind.bits, IntKind.signed]
  omega

theorem C_int32ToZigzag (p : Value) (v : Int) (hv : -2147483648 ≤ v) (hv2 : v < 2147483648) (w : World) : Calls Tryz.prog 191 #[p, .int .i32 v] w fun e w' => e = .returned (.int .i32 (wrap32 (zig v))) ∧ w' = w := by
  have hz : bits .xor .i32 (wrap32 (v * 2)) (v / 2147483648) = wrap32 (zig v) := by
    unfold zig
    split
    · rw [show v / 2147483648 = -1 by omega, xorM_i32, wrap_i32']
      unfold wrap32
      omega
    · rw [show v / 2147483648 = 0 by omega, xor0_i32, wrap_i32']
      unfold wrap32
      omega
  have HZ := Lib.hid hz
  clear hz
  go_enter Tryz.func191, Tryz.ntmps191
  go_wp2
  go_ret
  refine ⟨?_, rfl⟩
  rw [HZ.out]
  rfl
theorem C_int64ToZigzag (p : Value) (v : Int) (hv : -9223372036854775808 ≤ v) (hv2 : v < 9223372036854775808) (w : World) : Calls Tryz.prog 213 #[p, .int .i64 v] w fun e w' => e = .returned (.int .i64 (wrap64 (zig v))) ∧ w' = w := by
  have hz : bits .xor .i64 (wrap64 (v * 2)) (v / 9223372036854775808) = wrap64 (zig v) := by
    unfold zig
    split
    · rw [show v / 9223372036854775808 = -1 by omega, xorM_i64, IntKind.wrap_i64]
      unfold wrap64
      omega
    · rw [show v / 9223372036854775808 = 0 by omega, xor0_i64, IntKind.wrap_i64]
      unfold wrap64
      omega
  have HZ := Lib.hid hz
  clear hz
  go_enter Tryz.func213, Tryz.ntmps213
  go_wp2
  go_ret
  refine ⟨?_, rfl⟩
  rw [HZ.out]
  rfl

theorem zig_32 (v : Int) (hv : -2147483648 ≤ v) (hv2 : v < 2147483648) : wrap32 (zig v) % 4294967296 = zig v := by
  unfold zig wrap32; split <;> omega
theorem zig_64 (v : Int) (hv : -9223372036854775808 ≤ v) (hv2 : v < 9223372036854775808) : wrap64 (zig v) % 18446744073709551616 = zig v := by
  unfold zig wrap64; split <;> omega

set_option maxHeartbeats 1000000
set_option maxRecDepth 100000
theorem C_WriteI16 (p m b T : Nat) (cf c : Value) (s : CSt) (l : List UInt8) (v : Int) (hv : -32768 ≤ v) (hv2 : v < 32768) (w : World) (h : CP w p m b cf s T true l) (hlim : T + 5 ≤ LIM) :
    Calls Tryz.prog 176 #[.pointer (some ⟨p, 0, none⟩), c, .int .i16 v] w (CW w p m b cf s s T l (vint (zig v).toNat) .nilIface) := by
  have h1 := C_int32ToZigzag (.pointer (some ⟨p, 0, none⟩)) v (by omega) (by omega)
  have h2 := C_writeVarint32 p m b T cf s l (wrap32 (zig v)) w h hlim
  rw [zig_32 v (by omega) (by omega)] at h2
  have H1 := Lib.hid h1
  have H2 := Lib.hid h2
  clear h1 h2 h
  go_enter Tryz.func176, Tryz.ntmps176
  go_wp2_with fail
  refine (H1.out _).mono ?_
  rintro e w1 ⟨rfl, rfl⟩
  go_wp2_with fail
  refine H2.out.mono ?_
  rintro e w1 hw
  obtain rfl := hw.1
  have HW := Lib.hid hw
  clear hw
  go_wp2_with (go_at_call 192; refine (exc_nil _).mono ?_; rintro e w' ⟨rfl, rfl⟩)
  go_ret
  exact ⟨rfl, HW.out.2⟩
theorem C_WriteI32 (p m b T : Nat) (cf c : Value) (s : CSt) (l : List UInt8) (v : Int) (hv : -2147483648 ≤ v) (hv2 : v < 2147483648) (w : World) (h : CP w p m b cf s T true l) (hlim : T + 5 ≤ LIM) :
    Calls Tryz.prog 177 #[.pointer (some ⟨p, 0, none⟩), c, .int .i32 v] w (CW w p m b cf s s T l (vint (zig v).toNat) .nilIface) := by
  have h1 := C_int32ToZigzag (.pointer (some ⟨p, 0, none⟩)) v (by omega) (by omega)
  have h2 := C_writeVarint32 p m b T cf s l (wrap32 (zig v)) w h hlim
  rw [zig_32 v (by omega) (by omega)] at h2
  have H1 := Lib.hid h1
  have H2 := Lib.hid h2
  clear h1 h2 h
  go_enter Tryz.func177, Tryz.ntmps177
  go_wp2_with fail
  refine (H1.out _).mono ?_
  rintro e w1 ⟨rfl, rfl⟩
  go_wp2_with fail
  refine H2.out.mono ?_
  rintro e w1 hw
  obtain rfl := hw.1
  have HW := Lib.hid hw
  clear hw
  go_wp2_with (go_at_call 192; refine (exc_nil _).mono ?_; rintro e w' ⟨rfl, rfl⟩)
  go_ret
  exact ⟨rfl, HW.out.2⟩
theorem C_WriteI64 (p m b T : Nat) (cf c : Value) (s : CSt) (l : List UInt8) (v : Int) (hv : -9223372036854775808 ≤ v) (hv2 : v < 9223372036854775808) (w : World) (h : CP w p m b cf s T true l) (hlim : T + 10 ≤ LIM) :
    Calls Tryz.prog 178 #[.pointer (some ⟨p, 0, none⟩), c, .int .i64 v] w (CW w p m b cf s s T l (vint (zig v).toNat) .nilIface) := by
  have h1 := C_int64ToZigzag (.pointer (some ⟨p, 0, none⟩)) v (by omega) (by omega)
  have h2 := C_writeVarint64 p m b T cf s l (wrap64 (zig v)) w h hlim
  rw [zig_64 v (by omega) (by omega)] at h2
  have H1 := Lib.hid h1
  have H2 := Lib.hid h2
  clear h1 h2 h
  go_enter Tryz.func178, Tryz.ntmps178
  go_wp2_with fail
  refine (H1.out _).mono ?_
  rintro e w1 ⟨rfl, rfl⟩
  go_wp2_with fail
  refine H2.out.mono ?_
  rintro e w1 hw
  obtain rfl := hw.1
  have HW := Lib.hid hw
  clear hw
  go_wp2_with (go_at_call 192; refine (exc_nil _).mono ?_; rintro e w' ⟨rfl, rfl⟩)
  go_ret
  exact ⟨rfl, HW.out.2⟩
end Go.Proofs.YtdifknecndlklaaGreatDoor
namespace Go.Proofs.YtdifknecndlklaaGreatDoor
open Go Go.RowKit

/-- A configuration as it is handed in. -/
structure ConfV where
  proto : Int
  plain : Bool
  sr : Bool
  sw : Bool
  msg : Int
  con : Int
  fra : Int
abbrev ConfV.val (c : ConfV) : Value := .agg #[.int .i64 c.proto, .bool c.plain, .bool c.sr, .bool c.sw, .int .i32 c.msg, .int .i32 c.con, .int .i32 c.fra]

/-- A configuration of the library, by its pointer. -/
def Cfg (w : World) (cf : Value) (c : ConfV) : Prop :=
  (c.plain = true ∧ cf = .pointer none) ∨
  (c.plain = false ∧ ∃ k r s, cf = .pointer (some ⟨k, 0, none⟩) ∧ w.heap[k]? = some (.cells #[.int .i32 c.msg, .int .i32 c.fra, .int .i32 c.con, .pointer (some ⟨r, 0, none⟩), .pointer (some ⟨s, 0, none⟩), .bool false] 233 (0, 0)) ∧
    w.heap[r]? = some (.cells #[.bool c.sr] 4 (0, 0)) ∧ w.heap[s]? = some (.cells #[.bool c.sw] 4 (0, 0)))

theorem Cfg.keep {w w' : World} {cf : Value} {c : ConfV} {F F' : Nat → Prop} (h : Cfg w cf c) (hf : Fr F F' w w') (ht : ∀ k cs t, w.heap[k]? = some (.cells cs t (0, 0)) → t = 233 ∨ t = 4 → ¬ F k) : Cfg w' cf c := by
  rcases h with h | ⟨h0, k, r, s, h1, h2, h3, h4⟩
  · exact Or.inl h
  · exact Or.inr ⟨h0, k, r, s, h1, hf.block h2 (ht k _ _ h2 (Or.inl rfl)), hf.block h3 (ht r _ _ h3 (Or.inr rfl)), hf.block h4 (ht s _ _ h4 (Or.inr rfl))⟩

/-- The blocks of a configuration. -/
def CfF (w : World) (cf : Value) (k : Nat) : Prop := ∃ q, cf = .pointer (some ⟨q, 0, none⟩) ∧ (k = q ∨ w.cell? ⟨q, 3, none⟩ = some (.pointer (some ⟨k, 0, none⟩)) ∨ w.cell? ⟨q, 4, none⟩ = some (.pointer (some ⟨k, 0, none⟩)))
theorem Cfg.tagged {w : World} {cf : Value} {c : ConfV} (h : Cfg w cf c) {k : Nat} (hk : CfF w cf k) : ∃ cs t, w.heap[k]? = some (.cells cs t (0, 0)) ∧ (t = 233 ∨ t = 4) := by
  rcases h with ⟨h0, rfl⟩ | ⟨h0, q, r, s, rfl, h1, h2, h3⟩
  · obtain ⟨q, h, _⟩ := hk; cases h
  · obtain ⟨q', h, hk⟩ := hk
    cases h
    have c3 := cell_at h1 3
    have c4 := cell_at h1 4
    simp at c3 c4
    rcases hk with rfl | hk | hk
    · exact ⟨_, _, h1, Or.inl rfl⟩
    · rw [c3] at hk; simp at hk; subst hk; exact ⟨_, _, h2, Or.inr rfl⟩
    · rw [c4] at hk; simp at hk; subst hk; exact ⟨_, _, h3, Or.inr rfl⟩
theorem Cfg.same {w w' : World} {cf : Value} {c : ConfV} (h : Cfg w cf c) (hs : ∀ k, CfF w cf k → w'.heap[k]? = w.heap[k]?) : Cfg w' cf c ∧ ∀ k, CfF w' cf k → CfF w cf k := by
  rcases h with ⟨h0, rfl⟩ | ⟨h0, q, r, s, rfl, h1, h2, h3⟩
  · exact ⟨Or.inl ⟨h0, rfl⟩, fun k hk => by obtain ⟨q, h, _⟩ := hk; cases h⟩
  · have c3 := cell_at h1 3
    have c4 := cell_at h1 4
    simp at c3 c4
    have e1 := hs q ⟨q, rfl, Or.inl rfl⟩
    have e2 := hs r ⟨q, rfl, Or.inr (Or.inl c3)⟩
    have e3 := hs s ⟨q, rfl, Or.inr (Or.inr c4)⟩
    refine ⟨Or.inr ⟨h0, q, r, s, rfl, e1.trans h1, e2.trans h2, e3.trans h3⟩, ?_⟩
    rintro k ⟨q', h, hk⟩
    cases h
    rw [World.cell?_of_block (a := ⟨q, 3, none⟩) e1, World.cell?_of_block (a := ⟨q, 4, none⟩) e1] at hk
    exact ⟨q, rfl, hk⟩

theorem CfF_new {w : World} {q r s : Nat} {a b c d : Value} {t : TypeId} {f : Nat × Nat} (h : w.heap[q]? = some (.cells #[a, b, c, .pointer (some ⟨r, 0, none⟩), .pointer (some ⟨s, 0, none⟩), d] t f)) {B : Nat} (hq : B ≤ q) (hr : B ≤ r) (hs : B ≤ s) : ∀ k, CfF w (.pointer (some ⟨q, 0, none⟩)) k → B ≤ k := by
  rintro k ⟨q', h', hk⟩
  cases h'
  have c3 := cell_at h 3
  have c4 := cell_at h 4
  simp at c3 c4
  rcases hk with rfl | hk | hk
  · exact hq
  · rw [c3] at hk; simp at hk; subst hk; exact hr
  · rw [c4] at hk; simp at hk; subst hk; exact hs
theorem CfF_none {w : World} {B : Nat} : ∀ k, CfF w (.pointer none) k → B ≤ k := by
  rintro k ⟨q, h, _⟩
  cases h

theorem size_alloc (w : World) (o : Obj) : (w.alloc o).heap.size = w.heap.size + 1 := by simp
theorem new4 (w : World) (o0 o1 o2 o3 : Obj) : ((((w.alloc o0).alloc o1).alloc o2).alloc o3).heap[w.heap.size + 1]? = some o1 ∧ ((((w.alloc o0).alloc o1).alloc o2).alloc o3).heap[w.heap.size + 1 + 1]? = some o2 ∧ ((((w.alloc o0).alloc o1).alloc o2).alloc o3).heap[w.heap.size + 1 + 1 + 1]? = some o3 := by
  have h1 := alloc_new (w.alloc o0) o1
  have h2 := alloc_new ((w.alloc o0).alloc o1) o2
  have h3 := alloc_new (((w.alloc o0).alloc o1).alloc o2) o3
  simp only [size_alloc] at h1 h2 h3
  exact ⟨alloc_at (alloc_at h1), alloc_at h2, h3⟩
def CfgP (w : World) (c : ConfV) (e : Ending) (w' : World) : Prop := ∃ cf, e = .returned cf ∧ Cfg w' cf c ∧ Fr noF noF w w' ∧ ∀ k, CfF w' cf k → w.heap.size ≤ k

set_option maxHeartbeats 1000000 in
set_option maxRecDepth 100000 in
theorem I_config (c : ConfV) (w : World) : Calls Tryz.prog 61 #[c.val] w (CfgP w c) := by
  obtain ⟨pr, pl, sr, sw, ms, co, fr⟩ := c
  cases pl
  · go_enter Tryz.func61, Tryz.ntmps61
    go_wp2_with fail
    go_region
    · go_wp2
      go_ret
      obtain ⟨h1, h2, h3⟩ := new4 w _ _ _ _
      exact ⟨_, rfl, Or.inr ⟨rfl, _, _, _, rfl, h3, h1, h2⟩, ((((((Fr.refl _ w).alloc _).alloc _).alloc _).alloc _).drew), CfF_new h3 (by omega) (by omega) (by omega)⟩
    · go_wp2
      go_ret
      obtain ⟨h1, h2, h3⟩ := new4 w _ _ _ _
      exact ⟨_, rfl, Or.inr ⟨rfl, _, _, _, rfl, h3, h2, h1⟩, ((((((Fr.refl _ w).alloc _).alloc _).alloc _).alloc _).drew), CfF_new h3 (by omega) (by omega) (by omega)⟩
  · have hP : ∀ o, CfgP w ⟨pr, true, sr, sw, ms, co, fr⟩ (.returned (.pointer none)) (w.alloc o) := fun o => ⟨_, rfl, Or.inl ⟨rfl, rfl⟩, (Fr.refl _ w).alloc _, CfF_none⟩
    have HP := Lib.hid hP
    clear hP
    go_enter Tryz.func61, Tryz.ntmps61
    go_wp2
    go_ret
    exact HP.out _

/-- What a configuration says. -/
def ConfV.maxMsg (c : ConfV) : Int := if c.plain then 104857600 else if c.msg ≤ 0 then 104857600 else c.msg
def ConfV.maxFra (c : ConfV) : Int := if c.plain then 16384000 else (fun x => if c.maxMsg < x then c.maxMsg else x) (if c.fra ≤ 0 then 16384000 else c.fra)
def ConfV.maxCon (c : ConfV) : Int := if c.plain then 2147483647 else if c.con ≤ 0 then 2147483647 else c.con
def ConfV.strictR (c : ConfV) : Bool := if c.plain then false else c.sr
def ConfV.strictW (c : ConfV) : Bool := if c.plain then true else c.sw

theorem Cf_msg (cf : Value) (c : ConfV) (w : World) (h : Cfg w cf c) : Calls Tryz.prog 216 #[cf] w fun e w' => e = .returned (.int .i32 c.maxMsg) ∧ w = w' := by
  obtain ⟨pr, pl, sr, sw, ms, co, fr⟩ := c
  rcases h with ⟨rfl, rfl⟩ | ⟨rfl, k, r, s, rfl, h2, h3, h4⟩
  · go_enter Tryz.func216, Tryz.ntmps216
    go_wp2
    go_ret
    exact ⟨rfl, rfl⟩
  · have c0 := cell_at h2 0
    simp at c0
    clear h2 h3 h4
    rcases Int.lt_or_le 0 ms with hm | hm
    · have hd : decide (ms ≤ 0) = false := decide_eq_false (by omega)
      have hr : ConfV.maxMsg ⟨pr, false, sr, sw, ms, co, fr⟩ = ms := by
        simp only [ConfV.maxMsg, Bool.false_eq_true, if_false]
        exact if_neg (by omega)
      have HR := Lib.hid hr
      clear hr
      go_enter Tryz.func216, Tryz.ntmps216
      go_wp2
      go_ret
      refine ⟨?_, rfl⟩
      rw [HR.out]
      rfl
    · have hd : decide (ms ≤ 0) = true := decide_eq_true (by omega)
      have hr : ConfV.maxMsg ⟨pr, false, sr, sw, ms, co, fr⟩ = 104857600 := by
        simp only [ConfV.maxMsg, Bool.false_eq_true, if_false]
        exact if_pos hm
      have HR := Lib.hid hr
      clear hr
      go_enter Tryz.func216, Tryz.ntmps216
      go_wp2
      go_ret
      refine ⟨?_, rfl⟩
      rw [HR.out]
      rfl
theorem Cf_con (cf : Value) (c : ConfV) (w : World) (h : Cfg w cf c) : Calls Tryz.prog 219 #[cf] w fun e w' => e = .returned (.int .i32 c.maxCon) ∧ w = w' := by
  obtain ⟨pr, pl, sr, sw, ms, co, fr⟩ := c
  rcases h with ⟨rfl, rfl⟩ | ⟨rfl, k, r, s, rfl, h2, h3, h4⟩
  · go_enter Tryz.func219, Tryz.ntmps219
    go_wp2
    go_ret
    exact ⟨rfl, rfl⟩
  · have c0 := cell_at h2 2
    simp at c0
    clear h2 h3 h4
    rcases Int.lt_or_le 0 co with hm | hm
    · have hd : decide (co ≤ 0) = false := decide_eq_false (by omega)
      have hr : ConfV.maxCon ⟨pr, false, sr, sw, ms, co, fr⟩ = co := by
        simp only [ConfV.maxCon, Bool.false_eq_true, if_false]
        exact if_neg (by omega)
      have HR := Lib.hid hr
      clear hr
      go_enter Tryz.func219, Tryz.ntmps219
      go_wp2
      go_ret
      refine ⟨?_, rfl⟩
      rw [HR.out]
      rfl
    · have hd : decide (co ≤ 0) = true := decide_eq_true (by omega)
      have hr : ConfV.maxCon ⟨pr, false, sr, sw, ms, co, fr⟩ = 2147483647 := by
        simp only [ConfV.maxCon, Bool.false_eq_true, if_false]
        exact if_pos hm
      have HR := Lib.hid hr
      clear hr
      go_enter Tryz.func219, Tryz.ntmps219
      go_wp2
      go_ret
      refine ⟨?_, rfl⟩
      rw [HR.out]
      rfl
theorem Cf_read (cf : Value) (c : ConfV) (w : World) (h : Cfg w cf c) : Calls Tryz.prog 275 #[cf] w fun e w' => e = .returned (.bool c.strictR) ∧ w = w' := by
  obtain ⟨pr, pl, sr, sw, ms, co, fr⟩ := c
  rcases h with ⟨rfl, rfl⟩ | ⟨rfl, k, r, s, rfl, h2, h3, h4⟩
  · go_enter Tryz.func275, Tryz.ntmps275
    go_wp2
    go_ret
    exact ⟨rfl, rfl⟩
  · have c0 := cell_at h2 3
    have c1 := cell_at h3 0
    simp at c0 c1
    clear h2 h3 h4
    go_enter Tryz.func275, Tryz.ntmps275
    go_wp2
    go_ret
    exact ⟨rfl, rfl⟩
theorem Cf_write (cf : Value) (c : ConfV) (w : World) (h : Cfg w cf c) : Calls Tryz.prog 280 #[cf] w fun e w' => e = .returned (.bool c.strictW) ∧ w = w' := by
  obtain ⟨pr, pl, sr, sw, ms, co, fr⟩ := c
  rcases h with ⟨rfl, rfl⟩ | ⟨rfl, k, r, s, rfl, h2, h3, h4⟩
  · go_enter Tryz.func280, Tryz.ntmps280
    go_wp2
    go_ret
    exact ⟨rfl, rfl⟩
  · have c0 := cell_at h2 4
    have c1 := cell_at h4 0
    simp at c0 c1
    clear h2 h3 h4
    go_enter Tryz.func280, Tryz.ntmps280
    go_wp2
    go_ret
    exact ⟨rfl, rfl⟩

end Go.Proofs.YtdifknecndlklaaGreatDoor
namespace Go.Proofs.YtdifknecndlklaaGreatDoor
open Go Go.RowKit
set_option maxHeartbeats 1000000
set_option maxRecDepth 100000

theorem B_WriteBinary (p m b T : Nat) (cf c v : Value) (l news : List UInt8) (w : World) (h : BP w p m b cf T true l) (hlim : T + 4 + news.length ≤ LIM) (hv : Rd w v news) (hfar : ∀ k, vblk v k → ¬ BPF w p b k ∧ k < w.heap.size) :
    Calls Tryz.prog 248 #[.pointer (some ⟨p, 0, none⟩), c, v] w (BW w p m b cf T l (be4 news.length ++ news)) := by
  obtain ⟨sa, sc, rfl⟩ : ∃ sa sc, v = .slice sa news.length sc := by
    rcases hv with ⟨rfl, rfl⟩ | ⟨a, n, c, rfl, hl, _⟩
    · exact ⟨none, 0, rfl⟩
    · exact ⟨some a, c, by rw [hl]⟩
  have H := Lib.hid h
  have HL := Lib.hid hlim
  have HV := Lib.hid hv
  have HF := Lib.hid hfar
  clear h hlim hv hfar
  go_enter Tryz.func248, Tryz.ntmps248
  go_wp2_with fail
  refine (B_WriteI32 p m b T cf c l _ w H.out (by have := HL.out; omega)).mono ?_
  rintro e w1 hw
  obtain rfl := hw.1
  rw [be4_wrap] at hw
  obtain ⟨bf, hbf, ha⟩ := hw.2.1.arr
  have c0 := ha.head 0 _ rfl
  have hme := meth_Write hw.2.1.mem.cell
  have HW := Lib.hid hw
  clear hw ha hbf
  go_wp2_with fail
  refine (Buf_Write b _ _ news _ w1 HW.out.2.1.buf (by rw [be4_length]; exact HL.out) (HV.out.keep HW.out.2.2 fun k hk => (HF.out k hk).1) (fun k hk hb => (HF.out k hk).1 (HW.out.2.2.foot k (HF.out k hk).2 (Or.inr hb)))).mono ?_
  rintro e w2 ⟨rfl, hB, hF⟩
  have HX := Lib.hid (HW.out.2.1.lift hB hF)
  clear hB hF
  go_wp2_with (go_at_call 192; refine (exc_nil _).mono ?_; rintro e w' ⟨rfl, rfl⟩)
  go_ret
  exact HW.out.seq ⟨rfl, HX.out.1, HX.out.2⟩

theorem B_WriteMessageEnd (p c : Value) (w : World) : Calls Tryz.prog 263 #[p, c] w fun e w' => e = .returned .nilIface ∧ w = w' := by
  go_enter Tryz.func263, Tryz.ntmps263
  go_wp2
  go_ret
  exact ⟨rfl, rfl⟩

/-- The version's word of a strict message. -/
def verB (t : Int) : List UInt8 := be4 (bits .or .u32 2147549184 (t % 4294967296))
theorem verB_length (t : Int) : (verB t).length = 4 := be4_length _
def msgB (strict : Bool) (s : ByteArray) (t n : Int) : List UInt8 := if strict then verB t ++ (be4 s.size ++ s.data.toList) ++ be4 n else be4 s.size ++ s.data.toList ++ [b8 t] ++ be4 n
theorem BP.cfg {w : World} {p m b T : Nat} {cf : Value} {z : Bool} {l : List UInt8} (h : BP w p m b cf T z l) : w.cell? ⟨p, 2, none⟩ = some cf := by
  obtain ⟨bf, _, ha⟩ := h.arr; exact ha.head 2 _ rfl

theorem B_WriteMessageBegin_strict (p m b T : Nat) (cf c : Value) (cv : ConfV) (l : List UInt8) (s : ByteArray) (t n : Int) (w : World) (h : BP w p m b cf T true l) (hc : Cfg w cf cv) (hst : cv.strictW = true) (hlim : T + 12 + s.size ≤ LIM) :
    Calls Tryz.prog 262 #[.pointer (some ⟨p, 0, none⟩), c, .string s, .int .i32 t, .int .i32 n] w (BW w p m b cf T l (verB t ++ (be4 s.size ++ s.data.toList) ++ be4 n)) := by
  have c0 := h.cfg
  have hcf := Cf_write cf cv w hc
  rw [hst] at hcf
  have hss : s.data.toList.length = s.size := by rw [Array.length_toList]; rfl
  have HS := Lib.hid hss
  have HC := Lib.hid hcf
  have H := Lib.hid h
  have HL := Lib.hid hlim
  clear h hlim hst hcf hc hss
  go_enter Tryz.func262, Tryz.ntmps262
  go_wp2_with (go_at_call 280; refine HC.out.mono ?_; rintro e w' ⟨rfl, rfl⟩)
  refine (B_WriteI32 p m b T cf c l _ w H.out (by have := HL.out; omega)).mono ?_
  rintro e w1 hw
  obtain rfl := hw.1
  rw [be4_wrap] at hw
  have HW := Lib.hid hw
  clear hw
  go_wp2_with fail
  refine (B_WriteString p m b _ cf c _ s w1 HW.out.2.1 (by rw [be4_length]; have := HL.out; omega)).mono ?_
  rintro e w2 hw
  obtain rfl := hw.1
  have HX := Lib.hid (HW.out.seq hw)
  clear hw
  go_wp2_with fail
  refine (B_WriteI32 p m b _ cf c _ n w2 HX.out.2.1 (by rw [List.length_append, List.length_append, be4_length, be4_length, HS.out]; have := HL.out; omega)).mono ?_
  rintro e w3 hw
  obtain rfl := hw.1
  have HY := Lib.hid (HX.out.seq hw)
  clear hw
  go_wp2
  go_ret
  exact HY.out

theorem B_WriteMessageBegin_loose (p m b T : Nat) (cf c : Value) (cv : ConfV) (l : List UInt8) (s : ByteArray) (t n : Int) (w : World) (h : BP w p m b cf T true l) (hc : Cfg w cf cv) (hst : cv.strictW = false) (hlim : T + 9 + s.size ≤ LIM) :
    Calls Tryz.prog 262 #[.pointer (some ⟨p, 0, none⟩), c, .string s, .int .i32 t, .int .i32 n] w (BW w p m b cf T l (be4 s.size ++ s.data.toList ++ [b8 t] ++ be4 n)) := by
  have c0 := h.cfg
  have hcf := Cf_write cf cv w hc
  rw [hst] at hcf
  have hss : s.data.toList.length = s.size := by rw [Array.length_toList]; rfl
  have HS := Lib.hid hss
  have HC := Lib.hid hcf
  have H := Lib.hid h
  have HL := Lib.hid hlim
  clear h hlim hst hcf hc hss
  go_enter Tryz.func262, Tryz.ntmps262
  go_wp2_with (go_at_call 280; refine HC.out.mono ?_; rintro e w' ⟨rfl, rfl⟩)
  refine (B_WriteString p m b _ cf c _ s w H.out (by have := HL.out; omega)).mono ?_
  rintro e w1 hw
  obtain rfl := hw.1
  have HW := Lib.hid hw
  clear hw
  go_wp2_with fail
  refine (B_WriteByte p m b _ cf c _ _ w1 HW.out.2.1 (by rw [List.length_append, be4_length, HS.out]; have := HL.out; omega)).mono ?_
  rintro e w2 hw
  obtain rfl := hw.1
  rw [b8_wrap] at hw
  have HX := Lib.hid (HW.out.seq hw)
  clear hw
  go_wp2_with fail
  refine (B_WriteI32 p m b _ cf c _ n w2 HX.out.2.1 (by simp only [List.length_append, be4_length, HS.out, List.length_singleton]; have := HL.out; omega)).mono ?_
  rintro e w3 hw
  obtain rfl := hw.1
  have HY := Lib.hid (HX.out.seq hw)
  clear hw
  go_wp2
  go_ret
  exact HY.out

theorem B_WriteMessageBegin (p m b T : Nat) (cf c : Value) (cv : ConfV) (l : List UInt8) (s : ByteArray) (t n : Int) (w : World) (h : BP w p m b cf T true l) (hc : Cfg w cf cv) (hlim : T + (msgB cv.strictW s t n).length ≤ LIM) :
    Calls Tryz.prog 262 #[.pointer (some ⟨p, 0, none⟩), c, .string s, .int .i32 t, .int .i32 n] w (BW w p m b cf T l (msgB cv.strictW s t n)) := by
  have ha : s.data.toList.length = s.size := by rw [Array.length_toList]; rfl
  cases hs : cv.strictW <;> rw [hs] at hlim <;> simp only [msgB, if_true, Bool.false_eq_true, if_false, List.length_append, verB_length, be4_length, ha, List.length_singleton] at hlim
  · exact B_WriteMessageBegin_loose p m b T cf c cv l s t n w h hc hs (by omega)
  · exact B_WriteMessageBegin_strict p m b T cf c cv l s t n w h hc hs (by omega)
end Go.Proofs.YtdifknecndlklaaGreatDoor
