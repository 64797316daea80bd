/- The binary protocol over a memory buffer: what its writing methods write. -/
import Derived.Test.YtdedkoahfailcaaGreatDoorPutU
namespace Go.Proofs.YtdedkoahfailcaaGreatDoor
open Go Go.RowKit

abbrev PM : TypeId := 73
abbrev TM : TypeId := 83
abbrev TBP : TypeId := 191
/-- A memory buffer as a transport. -/
abbrev memI (m : Nat) : Value := .iface PM (.pointer (some ⟨m, 0, none⟩))

/-- A memory buffer in block m, its bytes.Buffer in block b. -/
def Mem (w : World) (m b : Nat) : Prop := ∃ sz, w.heap[m]? = some (.cells #[.pointer (some ⟨b, 0, none⟩), .int .i64 sz] TM (0, 0))

/-- A binary protocol in block p over the memory buffer m. -/
structure BP (w : World) (p m b : Nat) (cf : Value) (T : Nat) (z : Bool) (l : List UInt8) : Prop where
  arr : ∃ buf, buf.length = 64 ∧ Arr w p TBP [memI m, memI m, cf] buf
  mem : Mem w m b
  buf : Buf w b T z l

/-- Its blocks that turn. -/
def BPF (w : World) (p b : Nat) : Nat → Prop := fun k => k = p ∨ BF w b k

/-- The bytes of numbers, whatever their sign. -/
def b8 (v : Int) : UInt8 := ((v % 256).toNat).toUInt8
def be2 (v : Int) : List UInt8 := Lib.beBytes 2 (v % 65536).toNat
def be4 (v : Int) : List UInt8 := Lib.beBytes 4 (v % 4294967296).toNat
def be8 (v : Int) : List UInt8 := Lib.beBytes 8 (v % 18446744073709551616).toNat
theorem be2_length (v : Int) : (be2 v).length = 2 := Lib.beBytes_length _ _
theorem be4_length (v : Int) : (be4 v).length = 4 := Lib.beBytes_length _ _
theorem be8_length (v : Int) : (be8 v).length = 8 := Lib.beBytes_length _ _

/-- What a writing method leaves. -/
def BW (w : World) (p m b : Nat) (cf : Value) (T : Nat) (l news : List UInt8) (e : Ending) (w' : World) : Prop :=
  e = .returned .nilIface ∧ BP w' p m b cf (T + news.length) true (l ++ news) ∧ Fr (BPF w p b) (BPF w' p b) w w'

theorem exc_nil (w : World) : Calls Tryz.prog 163 #[.nilIface] w fun e w' => e = .returned .nilIface ∧ w = w' := by
  go_enter Tryz.func163, Tryz.ntmps163
  go_wp2
  go_ret
  exact ⟨rfl, rfl⟩

theorem BP.lift {w w' : World} {p m b T T' : Nat} {cf : Value} {z z' : Bool} {l l' : List UInt8} (h : BP w p m b cf T z l) (hb : Buf w' b T' z' l') (hf : Fr (BF w b) (BF w' b) w w') :
    BP w' p m b cf T' z' l' ∧ Fr (BPF w p b) (BPF w' p b) w w' := by
  obtain ⟨⟨bf, hbf, ha⟩, ⟨sz, hm⟩, hB⟩ := h
  refine ⟨⟨⟨bf, hbf, hf.block ha (hB.other ha (by decide) (by decide))⟩, ⟨sz, hf.block hm (hB.other hm (by decide) (by decide))⟩, hb⟩, ?_⟩
  exact ⟨hf.os, hf.tape, hf.output, hf.size, fun k hk hn => hf.keep k hk (fun x => hn (Or.inr x)), fun k hk hx => hx.elim Or.inl (fun y => Or.inr (hf.foot k hk y))⟩

/-- A method of the embedded buffer's, asked of the memory buffer. -/
theorem method_mem (name : String) (f : Nat) (hf : ((Tryz.prog.info? PM).bind fun i => i.methods.find? (·.name == name)).map (fun m => (m.path, m.func)) = some (#[⟨TM, 0, true⟩], some (f, true)))
    (n m b : Nat) (w : World) (hc : w.cell? ⟨m, 0, none⟩ = some (.pointer (some ⟨b, 0, none⟩))) :
    (method (n + 1) PM (.pointer (some ⟨m, 0, none⟩)) name).run Tryz.prog w = .ok (f, .pointer (some ⟨b, 0, none⟩)) w := by
  cases hi : Tryz.prog.info? PM with
  | none => simp [hi] at hf
  | some i =>
    simp only [hi, Option.bind_some] at hf
    cases hm : i.methods.find? (·.name == name) with
    | none => simp [hm] at hf
    | some mm =>
      simp only [hm, Option.map_some, Option.some.injEq, Prod.mk.injEq] at hf
      obtain ⟨hp, hfu⟩ := hf
      simp [method, typeInfo, hi, hm, hp, hfu, follow, run_underlying Tryz.underlying83, receiverAt, Place.get, hc, go_sem]
theorem find_Write : ((Tryz.prog.info? PM).bind fun i => i.methods.find? (·.name == "Write")).map (fun m => (m.path, m.func)) = some (#[⟨TM, 0, true⟩], some (78, true)) := by kernel_rfl
theorem meth_Write {m b : Nat} {w : World} (hc : w.cell? ⟨m, 0, none⟩ = some (.pointer (some ⟨b, 0, none⟩))) :
    (method 446 PM (.pointer (some ⟨m, 0, none⟩)) "Write").run Tryz.prog w = .ok (78, .pointer (some ⟨b, 0, none⟩)) w := method_mem "Write" _ find_Write 445 m b w hc
theorem ahead_Write (a : Addr) (w : World) : (nilAhead 446 PM (.pointer (some a)) "Write").run Tryz.prog w = .ok (some false) w := by kernel_rfl
theorem find_WriteByte : ((Tryz.prog.info? PM).bind fun i => i.methods.find? (·.name == "WriteByte")).map (fun m => (m.path, m.func)) = some (#[⟨TM, 0, true⟩], some (113, true)) := by kernel_rfl
theorem meth_WriteByte {m b : Nat} {w : World} (hc : w.cell? ⟨m, 0, none⟩ = some (.pointer (some ⟨b, 0, none⟩))) :
    (method 446 PM (.pointer (some ⟨m, 0, none⟩)) "WriteByte").run Tryz.prog w = .ok (113, .pointer (some ⟨b, 0, none⟩)) w := method_mem "WriteByte" _ find_WriteByte 445 m b w hc
theorem ahead_WriteByte (a : Addr) (w : World) : (nilAhead 446 PM (.pointer (some a)) "WriteByte").run Tryz.prog w = .ok (some false) w := by kernel_rfl
theorem find_WriteString : ((Tryz.prog.info? PM).bind fun i => i.methods.find? (·.name == "WriteString")).map (fun m => (m.path, m.func)) = some (#[⟨TM, 0, true⟩], some (114, true)) := by kernel_rfl
theorem meth_WriteString {m b : Nat} {w : World} (hc : w.cell? ⟨m, 0, none⟩ = some (.pointer (some ⟨b, 0, none⟩))) :
    (method 446 PM (.pointer (some ⟨m, 0, none⟩)) "WriteString").run Tryz.prog w = .ok (114, .pointer (some ⟨b, 0, none⟩)) w := method_mem "WriteString" _ find_WriteString 445 m b w hc
theorem ahead_WriteString (a : Addr) (w : World) : (nilAhead 446 PM (.pointer (some a)) "WriteString").run Tryz.prog w = .ok (some false) w := by kernel_rfl
theorem find_Read : ((Tryz.prog.info? PM).bind fun i => i.methods.find? (·.name == "Read")).map (fun m => (m.path, m.func)) = some (#[⟨TM, 0, true⟩], some (109, true)) := by kernel_rfl
theorem meth_Read {m b : Nat} {w : World} (hc : w.cell? ⟨m, 0, none⟩ = some (.pointer (some ⟨b, 0, none⟩))) :
    (method 446 PM (.pointer (some ⟨m, 0, none⟩)) "Read").run Tryz.prog w = .ok (109, .pointer (some ⟨b, 0, none⟩)) w := method_mem "Read" _ find_Read 445 m b w hc
theorem ahead_Read (a : Addr) (w : World) : (nilAhead 446 PM (.pointer (some a)) "Read").run Tryz.prog w = .ok (some false) w := by kernel_rfl
theorem find_ReadByte : ((Tryz.prog.info? PM).bind fun i => i.methods.find? (·.name == "ReadByte")).map (fun m => (m.path, m.func)) = some (#[⟨TM, 0, true⟩], some (110, true)) := by kernel_rfl
theorem meth_ReadByte {m b : Nat} {w : World} (hc : w.cell? ⟨m, 0, none⟩ = some (.pointer (some ⟨b, 0, none⟩))) :
    (method 446 PM (.pointer (some ⟨m, 0, none⟩)) "ReadByte").run Tryz.prog w = .ok (110, .pointer (some ⟨b, 0, none⟩)) w := method_mem "ReadByte" _ find_ReadByte 445 m b w hc
theorem ahead_ReadByte (a : Addr) (w : World) : (nilAhead 446 PM (.pointer (some a)) "ReadByte").run Tryz.prog w = .ok (some false) w := by kernel_rfl
theorem meth_Remaining (a : Addr) (w : World) : (method 446 PM (.pointer (some a)) "RemainingBytes").run Tryz.prog w = .ok (295, .pointer (some a)) w := by kernel_rfl

theorem Mem.cell {w : World} {m b : Nat} (h : Mem w m b) : w.cell? ⟨m, 0, none⟩ = some (.pointer (some ⟨b, 0, none⟩)) := by
  obtain ⟨sz, h⟩ := h; rw [cell_at h]; rfl

set_option maxHeartbeats 1000000 in
set_option maxRecDepth 100000 in
theorem B_WriteByte (p m b T : Nat) (cf c : Value) (l : List UInt8) (v : Int) (w : World) (h : BP w p m b cf T true l) (hlim : T + 1 ≤ LIM) :
    Calls Tryz.prog 229 #[.pointer (some ⟨p, 0, none⟩), c, .int .i8 v] w (BW w p m b cf T l [b8 v]) := by
  obtain ⟨bf, hbf, ha⟩ := h.arr
  have c0 := ha.head 0 _ rfl
  have hme := meth_WriteByte h.mem.cell
  have hu : v % 256 = ((b8 v).toNat : Int) := by
    unfold b8
    have : ((v % 256).toNat).toUInt8.toNat = (v % 256).toNat % 256 := by simp [Nat.toUInt8, UInt8.toNat_ofNat']
    rw [this]; omega
  have H := Lib.hid h
  have HU := Lib.hid hu
  have HL := Lib.hid hlim
  clear ha hbf h hu hlim
  go_enter Tryz.func229, Tryz.ntmps229
  go_wp2_with fail
  rw [HU.out]
  refine (Buf_WriteByte b T l _ _ H.out.buf HL.out).mono ?_
  rintro e w1 ⟨rfl, hB, hF⟩
  have HX := Lib.hid (H.out.lift hB hF)
  clear hB hF
  go_wp2_with (go_at_call 163; refine (exc_nil _).mono ?_; rintro e w' ⟨rfl, rfl⟩)
  go_ret
  exact ⟨rfl, HX.out.1, HX.out.2⟩

/-- The scratch array has turned. -/
theorem BP.scratch {w w' : World} {p m b T : Nat} {cf : Value} {z : Bool} {l buf : List UInt8} (h : BP w p m b cf T z l) (hb : buf.length = 64) (ha : Arr w' p TBP [memI m, memI m, cf] buf) (hf : Fr (one p) (one p) w w') :
    BP w' p m b cf T z l ∧ Fr (BPF w p b) (BPF w' p b) w w' := by
  obtain ⟨⟨bf, hbf, ha0⟩, ⟨sz, hm⟩, hB⟩ := h
  have hp : ∀ k, BF w b k → ¬ one p k := fun k hk he => (hB.other ha0 (by decide) (by decide)) (by rw [show p = k from he.symm]; exact hk)
  have hbs : w'.heap[b]? = w.heap[b]? := hf.keep b hB.lt (hp b (Or.inl rfl))
  refine ⟨⟨⟨buf, hb, ha⟩, ⟨sz, hf.block hm (fun he => by
      have he : m = p := he
      subst he
      exact tag_ne hm ha0 (by decide) rfl)⟩, hB.keep hf hp⟩, ?_⟩
  exact ⟨hf.os, hf.tape, hf.output, hf.size, fun k hk hn => hf.keep k hk (fun x => hn (Or.inl x)), fun k hk hx => hx.elim Or.inl (fun y => Or.inr ((BF.of_same hbs).1 y))⟩

/-- The head of the scratch array as a slice. -/
theorem Arr.rd {w : World} {p : Nat} {t : TypeId} {hd : List Value} {news rest : List UInt8} (o n : Nat) (h : Arr w p t hd (news ++ rest)) (ho : hd.length = o) (hn : news.length = n) (h64 : n ≤ 64) : Rd w (.slice (some ⟨p, o, none⟩) n 64) news := by
  subst ho
  refine Or.inr ⟨_, n, 64, rfl, hn, h64, by unfold maxLen; omega, fun j u hj => ?_⟩
  have hj' : (news ++ rest)[j]? = some u := by rw [List.getElem?_append_left (List.getElem?_eq_some_iff.1 hj).1, hj]
  have hlt := (List.getElem?_eq_some_iff.1 hj').1
  rw [Lib.addr_add, h.cell j hlt]
  congr 2
  have := (List.getElem?_eq_some_iff.1 hj').2
  rw [this]

set_option maxHeartbeats 1000000 in
set_option maxRecDepth 100000 in
theorem B_WriteI16 (p m b T : Nat) (cf c : Value) (l : List UInt8) (v : Int) (w : World) (h : BP w p m b cf T true l) (hlim : T + 2 ≤ LIM) :
    Calls Tryz.prog 234 #[.pointer (some ⟨p, 0, none⟩), c, .int .i16 v] w (BW w p m b cf T l (be2 v)) := by
  obtain ⟨bf, hbf, ha⟩ := h.arr
  have hu : IntKind.u16.wrap v = ((v % 65536).toNat : Int) := by (rw [IntKind.wrap_u16]); omega
  have hput := fun w' (hw' : Arr w' p TBP [memI m, memI m, cf] bf) => PutBE2 p 3 (v % 65536).toNat [memI m, memI m, cf] bf TBP w' hw' rfl (by omega) (by omega)
  have H := Lib.hid h
  have HU := Lib.hid hu
  have HL := Lib.hid hlim
  have HA := Lib.hid ha
  have HB := Lib.hid hbf
  have HP := Lib.hid hput
  clear ha hbf h hu hlim hput
  go_enter Tryz.func234, Tryz.ntmps234
  go_wp2_with fail
  rw [HU.out]
  refine (HP.out _ HA.out).mono ?_
  rintro e w1 ⟨rfl, hA1, hF1⟩
  obtain ⟨h1, hG1⟩ := H.out.scratch (by rw [List.length_append, Lib.beBytes_length, List.length_drop, HB.out]) hA1 hF1
  have c0 := hA1.head 0 _ rfl
  have hme := meth_Write h1.mem.cell
  have hfar : ∀ k, vblk (.slice (some ⟨p, 3, none⟩) 2 64) k → ¬ BF w1 b k := fun k hk => by
    cases hk; exact h1.buf.other hA1 (by decide) (by decide)
  have hw := Buf_Write b T l (Lib.beBytes 2 (v % 65536).toNat) (.slice (some ⟨p, 3, none⟩) 2 64) w1 h1.buf (by rw [Lib.beBytes_length]; exact HL.out) (hA1.rd 3 2 rfl (Lib.beBytes_length _ _) (by omega)) hfar
  have H1 := Lib.hid h1
  have HG := Lib.hid hG1
  have HW := Lib.hid hw
  clear hA1 hF1 h1 hG1 hfar hw
  go_wp2_with fail
  refine HW.out.mono ?_
  rintro e w2 ⟨rfl, hB2, hF2⟩
  have HX := Lib.hid (H1.out.lift hB2 hF2)
  clear hB2 hF2
  go_wp2_with (go_at_call 163; refine (exc_nil _).mono ?_; rintro e w' ⟨rfl, rfl⟩)
  go_ret
  exact ⟨rfl, HX.out.1, HG.out.trans HX.out.2⟩
set_option maxHeartbeats 1000000 in
set_option maxRecDepth 100000 in
theorem B_WriteI32 (p m b T : Nat) (cf c : Value) (l : List UInt8) (v : Int) (w : World) (h : BP w p m b cf T true l) (hlim : T + 4 ≤ LIM) :
    Calls Tryz.prog 235 #[.pointer (some ⟨p, 0, none⟩), c, .int .i32 v] w (BW w p m b cf T l (be4 v)) := by
  obtain ⟨bf, hbf, ha⟩ := h.arr
  have hu : v % 4294967296 = ((v % 4294967296).toNat : Int) := by (skip); omega
  have hput := fun w' (hw' : Arr w' p TBP [memI m, memI m, cf] bf) => PutBE4 p 3 (v % 4294967296).toNat [memI m, memI m, cf] bf TBP w' hw' rfl (by omega) (by omega)
  have H := Lib.hid h
  have HU := Lib.hid hu
  have HL := Lib.hid hlim
  have HA := Lib.hid ha
  have HB := Lib.hid hbf
  have HP := Lib.hid hput
  clear ha hbf h hu hlim hput
  go_enter Tryz.func235, Tryz.ntmps235
  go_wp2_with fail
  rw [HU.out]
  refine (HP.out _ HA.out).mono ?_
  rintro e w1 ⟨rfl, hA1, hF1⟩
  obtain ⟨h1, hG1⟩ := H.out.scratch (by rw [List.length_append, Lib.beBytes_length, List.length_drop, HB.out]) hA1 hF1
  have c0 := hA1.head 0 _ rfl
  have hme := meth_Write h1.mem.cell
  have hfar : ∀ k, vblk (.slice (some ⟨p, 3, none⟩) 4 64) k → ¬ BF w1 b k := fun k hk => by
    cases hk; exact h1.buf.other hA1 (by decide) (by decide)
  have hw := Buf_Write b T l (Lib.beBytes 4 (v % 4294967296).toNat) (.slice (some ⟨p, 3, none⟩) 4 64) w1 h1.buf (by rw [Lib.beBytes_length]; exact HL.out) (hA1.rd 3 4 rfl (Lib.beBytes_length _ _) (by omega)) hfar
  have H1 := Lib.hid h1
  have HG := Lib.hid hG1
  have HW := Lib.hid hw
  clear hA1 hF1 h1 hG1 hfar hw
  go_wp2_with fail
  refine HW.out.mono ?_
  rintro e w2 ⟨rfl, hB2, hF2⟩
  have HX := Lib.hid (H1.out.lift hB2 hF2)
  clear hB2 hF2
  go_wp2_with (go_at_call 163; refine (exc_nil _).mono ?_; rintro e w' ⟨rfl, rfl⟩)
  go_ret
  exact ⟨rfl, HX.out.1, HG.out.trans HX.out.2⟩
set_option maxHeartbeats 1000000 in
set_option maxRecDepth 100000 in
theorem B_WriteI64 (p m b T : Nat) (cf c : Value) (l : List UInt8) (v : Int) (w : World) (h : BP w p m b cf T true l) (hlim : T + 8 ≤ LIM) :
    Calls Tryz.prog 236 #[.pointer (some ⟨p, 0, none⟩), c, .int .i64 v] w (BW w p m b cf T l (be8 v)) := by
  obtain ⟨bf, hbf, ha⟩ := h.arr
  have hu : IntKind.u64.wrap v = ((v % 18446744073709551616).toNat : Int) := by (rw [IntKind.wrap_u64]); omega
  have hput := fun w' (hw' : Arr w' p TBP [memI m, memI m, cf] bf) => PutBE8 p 3 (v % 18446744073709551616).toNat [memI m, memI m, cf] bf TBP w' hw' rfl (by omega) (by omega)
  have H := Lib.hid h
  have HU := Lib.hid hu
  have HL := Lib.hid hlim
  have HA := Lib.hid ha
  have HB := Lib.hid hbf
  have HP := Lib.hid hput
  clear ha hbf h hu hlim hput
  go_enter Tryz.func236, Tryz.ntmps236
  go_wp2_with fail
  rw [HU.out]
  refine (HP.out _ HA.out).mono ?_
  rintro e w1 ⟨rfl, hA1, hF1⟩
  obtain ⟨h1, hG1⟩ := H.out.scratch (by rw [List.length_append, Lib.beBytes_length, List.length_drop, HB.out]) hA1 hF1
  have c0 := hA1.head 0 _ rfl
  have hme := meth_Write h1.mem.cell
  have hfar : ∀ k, vblk (.slice (some ⟨p, 3, none⟩) 8 64) k → ¬ BF w1 b k := fun k hk => by
    cases hk; exact h1.buf.other hA1 (by decide) (by decide)
  have hw := Buf_Write b T l (Lib.beBytes 8 (v % 18446744073709551616).toNat) (.slice (some ⟨p, 3, none⟩) 8 64) w1 h1.buf (by rw [Lib.beBytes_length]; exact HL.out) (hA1.rd 3 8 rfl (Lib.beBytes_length _ _) (by omega)) hfar
  have H1 := Lib.hid h1
  have HG := Lib.hid hG1
  have HW := Lib.hid hw
  clear hA1 hF1 h1 hG1 hfar hw
  go_wp2_with fail
  refine HW.out.mono ?_
  rintro e w2 ⟨rfl, hB2, hF2⟩
  have HX := Lib.hid (H1.out.lift hB2 hF2)
  clear hB2 hF2
  go_wp2_with (go_at_call 163; refine (exc_nil _).mono ?_; rintro e w' ⟨rfl, rfl⟩)
  go_ret
  exact ⟨rfl, HX.out.1, HG.out.trans HX.out.2⟩
end Go.Proofs.YtdedkoahfailcaaGreatDoor
