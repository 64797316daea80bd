/- The compact protocol over a memory buffer: texts, bytes, doubles, uuids are written. The compact protocol over a memory buffer: the begins of containers, fields, bools, messages are written. The compact protocol over a memory buffer: fields, bools, the begins and ends of structs are written. -/
import Derived.Deep.RegionHeld3
import Derived.Deep.AppendLies
import Derived.Deep.RegionLaw
import Derived.StillTailTactics
import Derived.Test.YtdifknecndlklaaGreatDoorZ2
import Derived.Test.YtdifknecndlklaaGreatDoorZ1
set_option linter.all false
namespace Go.Proofs.YtdifknecndlklaaGreatDoor
open Go Go.RowKit
set_option maxHeartbeats 1000000
set_option maxRecDepth 100000

theorem vint32_le (n : Nat) (h : n < 4294967296) : (vint n).length ≤ 5 := vint_length n 5 (by omega) (by decide)
theorem vint64_le (n : Nat) (h : n < 18446744073709551616) : (vint n).length ≤ 10 := vint_length n 10 (by omega) (by decide)
theorem wrap32_nat (n : Nat) : (wrap32 (n : Int) % 4294967296).toNat = n % 4294967296 := by unfold wrap32; omega
theorem CW.refl {w : World} {p m b T : Nat} {cf v : Value} {s : CSt} {l : List UInt8} (h : CP w p m b cf s T true l) : CW w p m b cf s s T l [] v (.returned v) w := ⟨rfl, by simpa using h, Fr.refl _ _⟩

/-- A size as a varint. -/
theorem C_size (p m b T : Nat) (cf : Value) (s : CSt) (l : List UInt8) (n : Nat) (w : World) (h : CP w p m b cf s T true l) (hlim : T + 5 ≤ LIM) :
    Calls Tryz.prog 208 #[.pointer (some ⟨p, 0, none⟩), .int .i32 (wrap32 n)] w (CW w p m b cf s s T l (vint (n % 4294967296)) (.tuple #[.int .i64 (vint (n % 4294967296)).length, .nilIface])) := by
  have := C_writeVarint32 p m b T cf s l (wrap32 n) w h hlim
  rwa [wrap32_nat] at this

theorem C_WriteString (p m b T : Nat) (cf c : Value) (st : CSt) (l : List UInt8) (s : ByteArray) (w : World) (h : CP w p m b cf st T true l) (hlim : T + 5 + s.size ≤ LIM) :
    Calls Tryz.prog 187 #[.pointer (some ⟨p, 0, none⟩), c, .string s] w (CW w p m b cf st st T l (vint (s.size % 4294967296) ++ s.data.toList) .nilIface) := by
  have hss : s.data.toList.length = s.size := by rw [Array.length_toList]; rfl
  have hvl := vint32_le (s.size % 4294967296) (by omega)
  have h1 := C_size p m b T cf st l s.size w h (by omega)
  have H1 := Lib.hid h1
  have HS := Lib.hid hss
  have HL := Lib.hid (show T + (vint (s.size % 4294967296)).length + s.size ≤ LIM by omega)
  clear h hss hlim h1 hvl
  go_enter Tryz.func187, Tryz.ntmps187
  go_wp2_with fail
  (with_reducible refine H1.out.mono ?_)
  rintro e w1 hw
  obtain rfl := hw.1
  have c0 := hw.2.1.trans
  have hme := meth_WriteString hw.2.1.mem.cell
  have HW := Lib.hid hw
  clear hw
  rcases Nat.eq_zero_or_pos s.size with h0 | h0
  · have h00 : (((s.size : Nat) : Int) == 0) = true := by simp [h0]
    have HD := Lib.hid (show s.data.toList = [] from List.eq_nil_of_length_eq_zero (by rw [HS.out]; exact h0))
    clear h0
    go_wp2
    go_ret
    refine ⟨rfl, ?_⟩
    rw [HD.out, List.append_nil]
    exact HW.out.2
  · have h01 : (((s.size : Nat) : Int) == 0) = false := beq_eq_false_iff_ne.2 (by omega)
    clear h0
    go_wp2_with fail
    refine (Buf_WriteString b _ _ s w1 HW.out.2.1.buf HL.out).mono ?_
    rintro e w2 ⟨rfl, hB, hF⟩
    have HX := Lib.hid (HW.out.2.1.lift hB hF)
    clear hB hF
    go_wp2
    go_ret
    exact HW.out.seq ⟨rfl, by rw [HS.out]; exact HX.out.1, HX.out.2⟩

theorem C_WriteBinary (p m b T : Nat) (cf c v : Value) (st : CSt) (l news : List UInt8) (w : World) (h : CP w p m b cf st T true l) (hlim : T + 5 + news.length ≤ LIM) (hv : Rd w v news) (hfar : ∀ k, vblk v k → ¬ CPF w p b k ∧ k < w.heap.size) :
    Calls Tryz.prog 169 #[.pointer (some ⟨p, 0, none⟩), c, v] w (CW w p m b cf st st T l (vint (news.length % 4294967296) ++ news) .nilIface) := by
  obtain ⟨sa, sc, rfl⟩ : ∃ sa sc, v = .slice sa news.length sc := by
    rcases hv with ⟨rfl, rfl⟩ | ⟨a, n, c, rfl, hl, _⟩
    · exact ⟨none, 0, rfl⟩
    · exact ⟨some a, c, by rw [hl]⟩
  have hvl := vint32_le (news.length % 4294967296) (by omega)
  have h1 := C_size p m b T cf st l news.length w h (by omega)
  have H1 := Lib.hid h1
  have HL := Lib.hid (show T + (vint (news.length % 4294967296)).length + news.length ≤ LIM by omega)
  have HV := Lib.hid hv
  have HF := Lib.hid hfar
  clear h hlim hv hfar h1 hvl
  go_enter Tryz.func169, Tryz.ntmps169
  go_wp2_with fail
  (with_reducible refine H1.out.mono ?_)
  rintro e w1 hw
  obtain rfl := hw.1
  have c0 := hw.2.1.trans
  have hme := meth_Write hw.2.1.mem.cell
  have HW := Lib.hid hw
  clear hw
  rcases Nat.eq_zero_or_pos news.length with h0 | h0
  · have h00 : ¬ (0 : Int) < ((news.length : Nat) : Int) := by omega
    have HD := Lib.hid (show vint (news.length % 4294967296) ++ news = vint (news.length % 4294967296) by rw [List.eq_nil_of_length_eq_zero h0, List.append_nil])
    clear h0
    go_wp2
    go_ret
    refine ⟨rfl, ?_⟩
    rw [HD.out]
    exact HW.out.2
  · have h00 : (0 : Int) < ((news.length : Nat) : Int) := by omega
    clear h0
    go_wp2_with fail
    refine (Buf_Write b _ _ news _ w1 HW.out.2.1.buf HL.out (HV.out.keep HW.out.2.2 fun k hk => (HF.out k hk).1) (fun k hk hb => (HF.out k hk).1 (HW.out.2.2.foot k (HF.out k hk).2 (Or.inr (Or.inl hb))))).mono ?_
    rintro e w2 ⟨rfl, hB, hF⟩
    have HX := Lib.hid (HW.out.2.1.lift hB hF)
    clear hB hF
    go_wp2_with (go_at_call 192; refine (exc_nil _).mono ?_; rintro e w' ⟨rfl, rfl⟩)
    go_ret
    exact HW.out.seq ⟨rfl, HX.out.1, HX.out.2⟩

/-- The eight bytes of a number, the lowest first. -/
def le8 (v : Int) : List UInt8 := Lib.leBytes 8 (v % 18446744073709551616).toNat
theorem le8_length (v : Int) : (le8 v).length = 8 := Lib.leBytes_length _ _

theorem C_WriteDouble (p m b T : Nat) (cf c : Value) (st : CSt) (l : List UInt8) (v : Nat) (hv : v < 18446744073709551616) (w : World) (h : CP w p m b cf st T true l) (hlim : T + 8 ≤ LIM) :
    Calls Tryz.prog 172 #[.pointer (some ⟨p, 0, none⟩), c, .float .f64 v] w (CW w p m b cf st st T l (le8 v) .nilIface) := by
  have hr := run_f64bits v
  obtain ⟨sv, bf, hbf, ha, ho⟩ := h.arr
  have hput := fun w' (hw' : Arr w' p TCP (hdC m cf sv st) bf) => PutLE8 p 10 v (hdC m cf sv st) bf TCP w' hw' rfl hv (by omega)
  have H := Lib.hid h
  have HL := Lib.hid hlim
  have HA := Lib.hid ha
  have HB := Lib.hid hbf
  have HP := Lib.hid hput
  have HE := Lib.hid (show le8 v = Lib.leBytes 8 v by unfold le8; rw [show ((v : Int) % 18446744073709551616).toNat = v by omega])
  clear ha hbf h hlim hput ho hv
  rw [HE.out]
  have HPW := Lib.hid (HP.out w.drew HA.out)
  have c00 := H.out.trans
  go_enter Tryz.func172, Tryz.ntmps172
  go_wp2_with fail
  go_region_held3 (fun w' => w'.cell? ⟨p, 0, none⟩ = some (memI m)) (first | exact c00 | exact c01)
    (first | (go_at_call 211; refine HPW.out.mono ?_; rintro e w1 ⟨rfl, hA1, hF1⟩; have c01 := hA1.head 0 _ rfl))
  obtain ⟨h1, hG1⟩ := H.out.scratch HA.out (by rw [List.length_append, Lib.leBytes_length, List.length_drop, HB.out]) hA1 (Fr.trans ((Fr.refl _ w).drew) hF1)
  have c0 := h1.trans
  have hme := meth_Write h1.mem.cell
  have hfar := h1.apart 10 8 64
  have hw := Buf_Write b T l (Lib.leBytes 8 v) (.slice (some ⟨p, 10, none⟩) 8 64) w1 h1.buf (by rw [Lib.leBytes_length]; exact HL.out) (hA1.rd 10 8 rfl (Lib.leBytes_length _ _) (by omega)) hfar
  have H1 := Lib.hid h1
  have HG := Lib.hid hG1
  have HW := Lib.hid hw
  clear hA1 hF1 h1 hG1 hfar hw c01 c00
  go_wp2_with fail
  refine HW.out.mono ?_
  rintro e w2 ⟨rfl, hB2, hF2⟩
  have HX := Lib.hid (H1.out.lift hB2 hF2)
  clear hB2 hF2
  go_wp2_with (go_at_call 192; refine (exc_nil _).mono ?_; rintro e w' ⟨rfl, rfl⟩)
  go_ret
  exact ⟨rfl, HX.out.1, HG.out.trans HX.out.2⟩

theorem C_WriteUUID (p m b T : Nat) (cf c : Value) (st : CSt) (l u : List UInt8) (w : World) (h : CP w p m b cf st T true l) (hlim : T + 16 ≤ LIM) (hu : u.length = 16) :
    Calls Tryz.prog 190 #[.pointer (some ⟨p, 0, none⟩), c, uuidV u] w (CW w p m b cf st st T l u .nilIface) := by
  obtain ⟨h1, f1⟩ := h.alloc (.cells (Lib.byteCells u).toArray 182)
  have c0 : (w.alloc (.cells (Lib.byteCells u).toArray 182)).cell? ⟨p, 0, none⟩ = some (memI m) := h1.trans
  have hme := meth_Write (w := (w.alloc (.cells (Lib.byteCells u).toArray 182)).drew) h1.mem.cell
  have hnew := alloc_new w (.cells (Lib.byteCells u).toArray 182)
  have hrd : Rd (w.alloc (.cells (Lib.byteCells u).toArray 182)) (.slice (some ⟨w.heap.size, 0, none⟩) 16 16) u :=
    Or.inr ⟨_, 16, 16, rfl, hu, Nat.le_refl _, by unfold maxLen; omega, fun j x hj => by rw [Lib.addr_add, cell_at hnew]; simp [Lib.byteCells, hj]⟩
  have hfar : ∀ k, vblk (.slice (some ⟨w.heap.size, 0, none⟩) 16 16) k → ¬ BF (w.alloc (.cells (Lib.byteCells u).toArray 182)) b k := fun k hk => by
    cases hk; exact h1.buf.other hnew (by decide) (by decide)
  have hw := Buf_Write b T l u (.slice (some ⟨w.heap.size, 0, none⟩) 16 16) (w.alloc (.cells (Lib.byteCells u).toArray 182)).drew h1.buf (by rw [hu]; exact hlim) hrd hfar
  rw [hu] at hw
  have hfin : ∀ w2, Buf w2 b (T + u.length) true (l ++ u) → Fr (BF (w.alloc (.cells (Lib.byteCells u).toArray 182)) b) (BF w2 b) (w.alloc (.cells (Lib.byteCells u).toArray 182)).drew w2 → CW w p m b cf st st T l u .nilIface (.returned .nilIface) w2 := fun w2 hB hF => by
    have h2 : CP (w.alloc (.cells (Lib.byteCells u).toArray 182)).drew p m b cf st T true l := h1.drew
    obtain ⟨a, f⟩ := h2.lift hB hF
    exact ⟨rfl, a, f1.drew.trans f⟩
  have hc2 : ∀ w2, Fr (BF (w.alloc (.cells (Lib.byteCells u).toArray 182)) b) (BF w2 b) (w.alloc (.cells (Lib.byteCells u).toArray 182)).drew w2 → w2.cell? ⟨p, 0, none⟩ = some (memI m) := fun w2 hF => by
    refine hF.cell (w := (w.alloc (.cells (Lib.byteCells u).toArray 182)).drew) c0 ?_
    obtain ⟨sv, bf, _, ha, _⟩ := h1.arr
    exact h1.buf.other ha (by decide) (by decide)
  have HC := Lib.hid hc2
  have HW := Lib.hid hw
  have HF := Lib.hid hfin
  clear hw hfin hc2 hfar hrd hnew h1 f1 h
  go_enter Tryz.func190, Tryz.ntmps190
  go_wp2_with fail
  go_region_held3 (fun w' => w'.cell? ⟨p, 0, none⟩ = some (memI m)) (first | exact c0 | exact d0)
    (first | (go_at_call 73; refine HW.out.mono ?_; rintro e w2 ⟨rfl, hB, hF⟩; have d0 := HC.out w2 hF))
  have HX := Lib.hid (HF.out w2 hB hF)
  clear hB hF
  go_wp2_with (go_at_call 192; refine (exc_nil _).mono ?_; rintro e w' ⟨rfl, rfl⟩)
  go_ret
  exact HX.out
end Go.Proofs.YtdifknecndlklaaGreatDoor
namespace Go.Proofs.YtdifknecndlklaaGreatDoor
open Go Go.RowKit
set_option maxHeartbeats 1000000
set_option maxRecDepth 100000

theorem ctype_lo (t : Int) : 0 ≤ ctype t := by unfold ctype; repeat' split <;> omega
theorem ctype_hi (t : Int) : ctype t ≤ 13 := by unfold ctype; repeat' split <;> omega
theorem b8_nat (v : Int) (h0 : 0 ≤ v) (h1 : v < 256) : ((b8 v).toNat : Int) = v := by
  unfold b8
  rw [show v % 256 = v by omega, UInt8.toNat_ofNat']
  omega

/-- A byte written directly, by its number. -/
theorem C_byteD (p m b T : Nat) (cf : Value) (s : CSt) (l : List UInt8) (v : Int) (h0 : 0 ≤ v) (h1 : v < 256) (w : World) (h : CP w p m b cf s T true l) (hlim : T + 1 ≤ LIM) :
    Calls Tryz.prog 210 #[.pointer (some ⟨p, 0, none⟩), .int .u8 v] w (CW w p m b cf s s T l [b8 v] .nilIface) := by
  have := C_writeByteDirect p m b T cf s l (b8 v) w h hlim
  rwa [b8_nat v h0 h1] at this

/-- The compact type is asked: something new lies behind. -/
theorem C_ct (p m b T : Nat) (cf : Value) (s : CSt) (l : List UInt8) (t : Int) (w : World) (h : CP w p m b cf s T true l) :
    Calls Tryz.prog 215 #[.pointer (some ⟨p, 0, none⟩), .int .u8 t] w fun e w' => e = .returned (.int .u8 (ctype t)) ∧ CP w' p m b cf s T true l ∧ Fr (CPF w p b) (CPF w' p b) w w' :=
  (C_getCompactType _ t w).mono fun e w' ⟨h1, h2⟩ => by
    subst h2
    exact ⟨h1, h.alloc _⟩
theorem CW.behind {w w1 w2 : World} {p m b T : Nat} {cf v : Value} {s s' : CSt} {l n : List UInt8} {e : Ending} (hf : Fr (CPF w p b) (CPF w1 p b) w w1) (h : CW w1 p m b cf s s' T l n v e w2) : CW w p m b cf s s' T l n v e w2 := ⟨h.1, h.2.1, hf.trans h.2.2⟩

/-- The begin of a list or a set. -/
def listC (t n : Int) : List UInt8 := if n ≤ 14 then [b8 (n * 16 + ctype t)] else b8 (240 + ctype t) :: vint (n % 4294967296).toNat
theorem or_low : ∀ (a : Fin 16) (c : Fin 16), bits .or .i32 ((a.val : Nat) * 16 : Int) ((c.val : Nat) : Int) = (a.val : Nat) * 16 + (c.val : Nat) := by decide
theorem or_low8 : ∀ (a : Fin 16) (c : Fin 16), bits .or .u8 ((a.val : Nat) * 16 : Int) ((c.val : Nat) : Int) = (a.val : Nat) * 16 + (c.val : Nat) := by decide
theorem or_i32 (a c : Int) (ha : 0 ≤ a) (ha2 : a < 16) (hc : 0 ≤ c) (hc2 : c < 16) : bits .or .i32 (a * 16) c = a * 16 + c := by
  have := or_low ⟨a.toNat, by omega⟩ ⟨c.toNat, by omega⟩
  simpa [Int.toNat_of_nonneg ha, Int.toNat_of_nonneg hc] using this
theorem or_u8 (a c : Int) (ha : 0 ≤ a) (ha2 : a < 16) (hc : 0 ≤ c) (hc2 : c < 16) : bits .or .u8 (a * 16) c = a * 16 + c := by
  have := or_low8 ⟨a.toNat, by omega⟩ ⟨c.toNat, by omega⟩
  simpa [Int.toNat_of_nonneg ha, Int.toNat_of_nonneg hc] using this

def CollR (w : World) (p m b : Nat) (cf : Value) (s : CSt) (T : Nat) (l n : List UInt8) (e : Ending) (w' : World) : Prop := ∃ k : Int, CW w p m b cf s s T l n (.tuple #[.int .i64 k, .nilIface]) e w'
theorem C_writeCollectionBegin (p m b T : Nat) (cf : Value) (s : CSt) (l : List UInt8) (t n : Int) (hn : 0 ≤ n) (hn2 : n < 2147483648) (w : World) (h : CP w p m b cf s T true l) (hlim : T + 6 ≤ LIM) :
    Calls Tryz.prog 214 #[.pointer (some ⟨p, 0, none⟩), .int .u8 t, .int .i64 n] w (CollR w p m b cf s T l (listC t n)) := by
  have hct := C_ct p m b T cf s l t w h
  have c0 := ctype_lo t
  have c1 := ctype_hi t
  obtain ⟨k, hk⟩ : ∃ k, k = ctype t := ⟨_, rfl⟩
  have HQ := Lib.hid (show listC t n = if n ≤ 14 then [b8 (n * 16 + k)] else b8 (240 + k) :: vint (n % 4294967296).toNat by rw [hk]; rfl)
  rw [← hk] at hct c0 c1
  have HL := Lib.hid hlim
  have HC := Lib.hid hct
  clear hlim hct h hk
  rcases Int.lt_or_le 14 n with hgt | hle
  · have hng : ¬ n ≤ 14 := by omega
    have HQ2 := Lib.hid (HQ.out.trans (if_neg hng))
    clear HQ
    have ho : bits .or .u8 240 k = 240 + k := or_u8 15 k (by decide) (by decide) c0 (by omega)
    rw [HQ2.out]
    go_enter Tryz.func214, Tryz.ntmps214
    go_wp2_with fail
    refine HC.out.mono ?_
    rintro e w1 ⟨rfl, hP, hF⟩
    have H1 := Lib.hid (And.intro hP hF)
    clear hP hF
    go_wp2_with fail
    refine (C_byteD p m b T cf s l _ (by omega) (by omega) w1 H1.out.1 (by have := HL.out; omega)).mono ?_
    rintro e w2 hw
    obtain rfl := hw.1
    have H2 := Lib.hid (CW.behind H1.out.2 hw)
    clear hw
    go_wp2_with fail
    refine (C_writeVarint32 p m b _ cf s _ _ w2 H2.out.2.1 (by have := HL.out; simp only [List.length_singleton]; omega)).mono ?_
    rintro e w3 hw
    obtain rfl := hw.1
    have H3 := Lib.hid (H2.out.seq hw)
    clear hw
    go_wp2
    go_ret2
    exact ⟨_, rfl, H3.out.2⟩
  · have HQ2 := Lib.hid (HQ.out.trans (if_pos hle))
    clear HQ
    rw [HQ2.out]
    have ho := or_i32 n k hn (by omega) c0 (by omega)
    go_enter Tryz.func214, Tryz.ntmps214
    go_wp2_with fail
    refine HC.out.mono ?_
    rintro e w1 ⟨rfl, hP, hF⟩
    have H1 := Lib.hid (And.intro hP hF)
    clear hP hF
    go_wp2_with fail
    refine (C_byteD p m b T cf s l _ (by omega) (by omega) w1 H1.out.1 (by have := HL.out; omega)).mono ?_
    rintro e w2 hw
    obtain rfl := hw.1
    have H2 := Lib.hid (CW.behind H1.out.2 hw)
    clear hw
    go_wp2
    go_ret2
    exact ⟨_, rfl, H2.out.2⟩

theorem C_WriteListBegin (p m b T : Nat) (cf c : Value) (s : CSt) (l : List UInt8) (t n : Int) (hn : 0 ≤ n) (hn2 : n < 2147483648) (w : World) (h : CP w p m b cf s T true l) (hlim : T + 6 ≤ LIM) :
    Calls Tryz.prog 179 #[.pointer (some ⟨p, 0, none⟩), c, .int .u8 t, .int .i64 n] w (CW w p m b cf s s T l (listC t n) .nilIface) := by
  have H := Lib.hid (C_writeCollectionBegin p m b T cf s l t n hn hn2 w h hlim)
  clear h hlim hn hn2
  go_enter Tryz.func179, Tryz.ntmps179
  go_wp2_with fail
  refine H.out.mono ?_
  rintro e w1 ⟨k, hw⟩
  obtain rfl := hw.1
  have HW := Lib.hid hw
  clear hw
  go_wp2_with (go_at_call 192; refine (exc_nil _).mono ?_; rintro e w' ⟨rfl, rfl⟩)
  go_ret
  exact ⟨rfl, HW.out.2⟩
theorem C_WriteSetBegin (p m b T : Nat) (cf c : Value) (s : CSt) (l : List UInt8) (t n : Int) (hn : 0 ≤ n) (hn2 : n < 2147483648) (w : World) (h : CP w p m b cf s T true l) (hlim : T + 6 ≤ LIM) :
    Calls Tryz.prog 185 #[.pointer (some ⟨p, 0, none⟩), c, .int .u8 t, .int .i64 n] w (CW w p m b cf s s T l (listC t n) .nilIface) := by
  have H := Lib.hid (C_writeCollectionBegin p m b T cf s l t n hn hn2 w h hlim)
  clear h hlim hn hn2
  go_enter Tryz.func185, Tryz.ntmps185
  go_wp2_with fail
  refine H.out.mono ?_
  rintro e w1 ⟨k, hw⟩
  obtain rfl := hw.1
  have HW := Lib.hid hw
  clear hw
  go_wp2_with (go_at_call 192; refine (exc_nil _).mono ?_; rintro e w' ⟨rfl, rfl⟩)
  go_ret
  exact ⟨rfl, HW.out.2⟩

/-- The begin of a map. -/
def mapC (k t n : Int) : List UInt8 := if n = 0 then [0] else vint (n % 4294967296).toNat ++ [b8 (ctype k * 16 + ctype t)]
theorem C_WriteMapBegin (p m b T : Nat) (cf c : Value) (s : CSt) (l : List UInt8) (k t n : Int) (hn : 0 ≤ n) (hn2 : n < 2147483648) (w : World) (h : CP w p m b cf s T true l) (hlim : T + 6 ≤ LIM) :
    Calls Tryz.prog 181 #[.pointer (some ⟨p, 0, none⟩), c, .int .u8 k, .int .u8 t, .int .i64 n] w (CW w p m b cf s s T l (mapC k t n) .nilIface) := by
  by_cases h0 : n = 0
  · subst h0
    have H := Lib.hid (C_writeByteDirect p m b T cf s l 0 w h (by omega))
    clear h hlim hn hn2
    go_enter Tryz.func181, Tryz.ntmps181
    go_wp2_with fail
    refine H.out.mono ?_
    rintro e w1 hw
    obtain rfl := hw.1
    have HW := Lib.hid hw
    clear hw
    go_wp2_with (go_at_call 192; refine (exc_nil _).mono ?_; rintro e w' ⟨rfl, rfl⟩)
    go_ret
    exact HW.out
  · have hv := C_writeVarint32 p m b T cf s l n w h (by omega)
    have hvl := vint32_le (n % 4294967296).toNat (by omega)
    have a0 := ctype_lo k
    have a1 := ctype_hi k
    have b0 := ctype_lo t
    have b1 := ctype_hi t
    have HQ := Lib.hid (show mapC k t n = vint (n % 4294967296).toNat ++ [b8 (ctype k * 16 + ctype t)] from if_neg h0)
    have HK := Lib.hid (fun X (hX : CP X p m b cf s (T + (vint (n % 4294967296).toNat).length) true (l ++ vint (n % 4294967296).toNat)) => C_ct p m b _ cf s _ k X hX)
    have HT := Lib.hid (fun X (hX : CP X p m b cf s (T + (vint (n % 4294967296).toNat).length) true (l ++ vint (n % 4294967296).toNat)) => C_ct p m b _ cf s _ t X hX)
    rw [HQ.out]
    obtain ⟨kk, hk⟩ : ∃ x, x = ctype k := ⟨_, rfl⟩
    obtain ⟨tt, ht⟩ : ∃ x, x = ctype t := ⟨_, rfl⟩
    rw [← hk] at a0 a1 HK ⊢
    rw [← ht] at b0 b1 HT ⊢
    have ho := or_u8 kk tt a0 (by omega) b0 (by omega)
    have hkm : kk * 16 % 256 = kk * 16 := by omega
    have H := Lib.hid hv
    have HL := Lib.hid (show T + (vint (n % 4294967296).toNat).length + 1 ≤ LIM by omega)
    have n0 : (n == 0) = false := beq_eq_false_iff_ne.2 h0
    clear h hlim hv hvl hk ht h0 HQ
    go_enter Tryz.func181, Tryz.ntmps181
    go_wp2_with fail
    (with_reducible refine H.out.mono ?_)
    rintro e w1 hw
    obtain rfl := hw.1
    have HKW := Lib.hid (HK.out _ hw.2.1)
    have HW := Lib.hid hw
    clear hw
    go_wp2_with fail
    (with_reducible refine HKW.out.mono ?_)
    rintro e w2 ⟨rfl, hP, hF⟩
    have H2 := Lib.hid (And.intro hP hF)
    have HTW := Lib.hid (HT.out _ hP)
    clear hP hF
    go_wp2_with fail
    (with_reducible refine HTW.out.mono ?_)
    rintro e w3 ⟨rfl, hP, hF⟩
    have H3 := Lib.hid (And.intro hP (H2.out.2.trans hF))
    clear hP hF
    go_wp2_with fail
    refine (C_byteD p m b _ cf s _ _ (by omega) (by omega) w3 H3.out.1 HL.out).mono ?_
    rintro e w4 hw
    obtain rfl := hw.1
    have H4 := Lib.hid (HW.out.seq (CW.behind H3.out.2 hw))
    clear hw
    go_wp2_with (go_at_call 192; refine (exc_nil _).mono ?_; rintro e w' ⟨rfl, rfl⟩)
    go_ret
    exact H4.out

/-- The begin of a message. -/
def msgC (s : ByteArray) (t n : Int) : List UInt8 := 130 :: b8 (t * 32 + 1) :: (vint (n % 4294967296).toNat ++ (vint (s.size % 4294967296) ++ s.data.toList))
theorem and224 : ∀ y : Fin 256, bits .or .u8 1 (bits .and .u8 (((y.val : Nat) : Int) * 32 % 256) 224) = ((y.val : Nat) : Int) * 32 % 256 + 1 := by decide
theorem or_and224 (t : Int) : bits .or .u8 1 (bits .and .u8 (t % 256 * 32 % 256) 224) = t % 256 * 32 % 256 + 1 := by
  have := and224 ⟨(t % 256).toNat, by omega⟩
  simpa [Int.toNat_of_nonneg (show 0 ≤ t % 256 by omega)] using this
theorem C_WriteMessageBegin (p m b T : Nat) (cf c : Value) (st : CSt) (l : List UInt8) (s : ByteArray) (t n : Int) (w : World) (h : CP w p m b cf st T true l) (hlim : T + (32 + s.size) ≤ LIM) :
    Calls Tryz.prog 183 #[.pointer (some ⟨p, 0, none⟩), c, .string s, .int .i32 t, .int .i32 n] w (CW w p m b cf st st T l (msgC s t n) .nilIface) := by
  have h1 := C_writeByteDirect p m b T cf st l 130 w h (by omega)
  have hvl := vint32_le (n % 4294967296).toNat (by omega)
  have ho := or_and224 t
  have HB := Lib.hid (show b8 (t % 256 * 32 % 256 + 1) = b8 (t * 32 + 1) by unfold b8; congr 2; omega)
  have H := Lib.hid h1
  have HL := Lib.hid (And.intro hlim hvl)
  clear h hlim h1 hvl
  go_enter Tryz.func183, Tryz.ntmps183
  go_wp2_with fail
  refine H.out.mono ?_
  rintro e w1 hw
  obtain rfl := hw.1
  have HW := Lib.hid hw
  clear hw
  go_wp2_with fail
  refine (C_byteD p m b _ cf st _ _ (by omega) (by omega) w1 HW.out.2.1 (by have := HL.out.1; simp only [List.length_singleton]; omega)).mono ?_
  rintro e w2 hw
  obtain rfl := hw.1
  have H2 := Lib.hid (HW.out.seq hw)
  clear hw
  go_wp2_with fail
  refine (C_writeVarint32 p m b _ cf st _ _ w2 H2.out.2.1 (by have := HL.out.1; simp only [List.length_append, List.length_singleton]; omega)).mono ?_
  rintro e w3 hw
  obtain rfl := hw.1
  have H3 := Lib.hid (H2.out.seq hw)
  clear hw
  go_wp2_with fail
  refine (C_WriteString p m b _ cf _ st _ s w3 H3.out.2.1 (by have := HL.out; simp only [List.length_append, List.length_singleton]; omega)).mono ?_
  rintro e w4 hw
  obtain rfl := hw.1
  have H4 := Lib.hid (H3.out.seq hw)
  clear hw
  go_wp2
  go_ret
  refine ⟨rfl, ?_, H4.out.2.2⟩
  have := H4.out.2.1
  rw [HB.out] at this
  simpa [msgC, List.append_assoc] using this
end Go.Proofs.YtdifknecndlklaaGreatDoor
namespace Go.Proofs.YtdifknecndlklaaGreatDoor
open Go Go.RowKit
set_option maxHeartbeats 1000000
set_option maxRecDepth 100000

/-- The begin of a field. -/
def fieldC (last code id : Int) : List UInt8 := if last < id ∧ id - last ≤ 15 then [b8 ((id - last) * 16 + code)] else b8 code :: vint (zig id).toNat

/-- The last id is stored. -/
theorem CP.setLast {w : World} {p m b T : Nat} {cf : Value} {s : CSt} {z : Bool} {l : List UInt8} (h : CP w p m b cf s T z l) (id : Int) :
    (∃ u, w.cell? ⟨p, 4, none⟩ = some u) ∧ w.frozen? ⟨p, 4, none⟩ = false ∧ CP (w.setCell ⟨p, 4, none⟩ (.int .i64 id)) p m b cf { s with last := id } T z l ∧ Fr (CPF w p b) (CPF (w.setCell ⟨p, 4, none⟩ (.int .i64 id)) p b) w (w.setCell ⟨p, 4, none⟩ (.int .i64 id)) := by
  obtain ⟨sv, bf, hbf, ha, ho⟩ := h.arr
  have hf : Fr (one p) (one p) w (w.setCell ⟨p, 4, none⟩ (.int .i64 id)) := (Fr.refl (one p) w).setCell (p := ⟨p, 4, none⟩) (Or.inl rfl) _
  obtain ⟨h1, h2⟩ := h.own (s' := { s with last := id }) hf rfl fun sv bf hb ha => ⟨bf, hb, ha.setHead 4 (by simp [hdC]) _⟩
  exact ⟨⟨_, ha.head 4 _ rfl⟩, ha.free 4, h1, h2⟩
theorem CP.setPend {w : World} {p m b T : Nat} {cf : Value} {s : CSt} {z : Bool} {l : List UInt8} (h : CP w p m b cf s T z l) (v : Bool) :
    (∃ u, w.cell? ⟨p, 7, none⟩ = some u) ∧ w.frozen? ⟨p, 7, none⟩ = false ∧ CP (w.setCell ⟨p, 7, none⟩ (.bool v)) p m b cf { s with pend := v } T z l ∧ Fr (CPF w p b) (CPF (w.setCell ⟨p, 7, none⟩ (.bool v)) p b) w (w.setCell ⟨p, 7, none⟩ (.bool v)) := by
  obtain ⟨sv, bf, hbf, ha, ho⟩ := h.arr
  have hf : Fr (one p) (one p) w (w.setCell ⟨p, 7, none⟩ (.bool v)) := (Fr.refl (one p) w).setCell (p := ⟨p, 7, none⟩) (Or.inl rfl) _
  obtain ⟨h1, h2⟩ := h.own (s' := { s with pend := v }) hf rfl fun sv bf hb ha => ⟨bf, hb, ha.setHead 7 (by simp [hdC]) _⟩
  exact ⟨⟨_, ha.head 7 _ rfl⟩, ha.free 7, h1, h2⟩
theorem CP.setBool {w : World} {p m b T : Nat} {cf : Value} {s : CSt} {z : Bool} {l : List UInt8} (h : CP w p m b cf s T z l) (nm : ByteArray) (id : Int) :
    CP (((w.setCell ⟨p, 5, none⟩ (.string nm)).setCell ⟨p, 6, none⟩ (.int .i16 id)).setCell ⟨p, 7, none⟩ (.bool true)) p m b cf { s with pend := true, pid := id, pnm := nm } T z l ∧ Fr (CPF w p b) (CPF (((w.setCell ⟨p, 5, none⟩ (.string nm)).setCell ⟨p, 6, none⟩ (.int .i16 id)).setCell ⟨p, 7, none⟩ (.bool true)) p b) w (((w.setCell ⟨p, 5, none⟩ (.string nm)).setCell ⟨p, 6, none⟩ (.int .i16 id)).setCell ⟨p, 7, none⟩ (.bool true)) := by
  have hf : Fr (one p) (one p) w (((w.setCell ⟨p, 5, none⟩ (.string nm)).setCell ⟨p, 6, none⟩ (.int .i16 id)).setCell ⟨p, 7, none⟩ (.bool true)) := (((Fr.refl (one p) w).setCell (p := ⟨p, 5, none⟩) (Or.inl rfl) _).setCell (p := ⟨p, 6, none⟩) (Or.inl rfl) _).setCell (p := ⟨p, 7, none⟩) (Or.inl rfl) _
  exact h.own (s' := { s with pend := true, pid := id, pnm := nm }) hf rfl fun sv bf hb ha => ⟨bf, hb, ((ha.setHead 5 (by simp [hdC]) (.string nm)).setHead 6 (by simp [hdC]) (.int .i16 id)).setHead 7 (by simp [hdC]) (.bool true)⟩

theorem C_fieldI (p m b T : Nat) (cf c nm : Value) (s : CSt) (l : List UInt8) (t id ov : Int) (code : Int) (hc0 : 0 ≤ code) (hc1 : code < 16) (hov : (ov = 255 ∧ code = ctype t) ∨ (ov ≠ 255 ∧ code = ov)) (hid : -32768 ≤ id ∧ id < 32768) (hlast : -32768 ≤ s.last ∧ s.last < 32768)
    (w : World) (h : CP w p m b cf s T true l) (hlim : T + 6 ≤ LIM) :
    Calls Tryz.prog 209 #[.pointer (some ⟨p, 0, none⟩), c, nm, .int .u8 t, .int .i16 id, .int .u8 ov] w (fun e w' => ∃ k : Int, CW w p m b cf s { s with last := id } T l (fieldC s.last code id) (.tuple #[.int .i64 k, .nilIface]) e w') := by
  -- the type, asked or given: what stands then
  have hct := C_ct p m b T cf s l t
  have HC := Lib.hid hct
  have hcell : ∀ X, CP X p m b cf s T true l → X.cell? ⟨p, 4, none⟩ = some (.int .i64 s.last) := fun X hX => by
    obtain ⟨sv, bf, hbf, ha, ho⟩ := hX.arr
    exact ha.head 4 _ rfl
  have HCe := Lib.hid hcell
  have hend : ∀ X news e v Y, Fr (CPF w p b) (CPF X p b) w X → CW X p m b cf s s T l news v e Y → (∃ u, Y.cell? ⟨p, 4, none⟩ = some u) ∧ Y.frozen? ⟨p, 4, none⟩ = false ∧ ∀ v', CW w p m b cf s { s with last := id } T l news v' (.returned v') (Y.setCell ⟨p, 4, none⟩ (.int .i64 id)) := fun X news e v Y hX hY => by
    obtain ⟨h1, h2, h3, h4⟩ := hY.2.1.setLast id
    exact ⟨h1, h2, fun v' => ⟨rfl, h3, hX.trans (hY.2.2.trans h4)⟩⟩
  have HE := Lib.hid hend
  have HQ := Lib.hid (show fieldC s.last code id = if s.last < id ∧ id - s.last ≤ 15 then [b8 ((id - s.last) * 16 + code)] else b8 code :: vint (zig id).toNat from rfl)
  obtain ⟨la, hla⟩ : ∃ la, la = s.last := ⟨_, rfl⟩
  rw [← hla] at HQ HCe hlast ⊢
  obtain ⟨l1, l2⟩ := hlast
  obtain ⟨d1, d2⟩ := hid
  have HL := Lib.hid hlim
  have H := Lib.hid h
  have w1' : wrap64 id = id := by unfold wrap64; omega
  have w2' : wrap64 (id - la) = id - la := by unfold wrap64; omega
  have w3' : wrap64 ((id - la) * 16) = (id - la) * 16 := by unfold wrap64; omega
  have i1 : IntKind.i64.wrap id = id := by rw [IntKind.wrap_i64]; omega
  clear hct hcell hend hlim hla
  rcases hov with ⟨rfl, hcode⟩ | ⟨hov, rfl⟩
  · have HC2 := Lib.hid (HC.out w H.out)
    rw [← hcode] at HC2
    clear hcode HC h
    go_enter Tryz.func209, Tryz.ntmps209
    go_wp2_with fail
    refine HC2.out.mono ?_
    rintro e w1 ⟨rfl, hP, hF⟩
    have H1 := Lib.hid (And.intro hP hF)
    clear hP hF
    rcases (show (la < id ∧ id - la ≤ 15) ∨ (¬ la < id) ∨ (la < id ∧ ¬ id - la ≤ 15) by omega) with ⟨q1, q2⟩ | q1 | ⟨q1, q2⟩
    · have c4 := HCe.out w1 H1.out.1
      have HD := Lib.hid (HQ.out.trans (if_pos ⟨q1, q2⟩))
      have ho := or_u8 (id - la) code (by omega) (by omega) hc0 hc1
      have hb : (id - la) * 16 % 256 = (id - la) * 16 := by omega
      go_wp2_with fail
      refine (C_byteD p m b T cf s l _ (by omega) (by omega) w1 H1.out.1 (by have := HL.out; omega)).mono ?_
      rintro e w2 hw
      obtain rfl := hw.1
      obtain ⟨⟨u4, c5⟩, f5, hfin⟩ := HE.out _ _ _ _ _ (H1.out.2) hw
      have HX := Lib.hid hfin
      clear hw hfin c4
      go_wp2
      go_ret2
      rw [HD.out]
      exact ⟨_, HX.out _⟩
    · have c4 := HCe.out w1 H1.out.1
      have HD := Lib.hid (HQ.out.trans (if_neg (by omega)))
      go_wp2_with fail
      refine (C_byteD p m b T cf s l _ hc0 (by omega) w1 H1.out.1 (by have := HL.out; omega)).mono ?_
      rintro e w2 hw
      obtain rfl := hw.1
      have H2 := Lib.hid hw
      clear hw c4
      go_wp2_with fail
      refine (C_WriteI16 p m b _ cf _ s _ id d1 d2 w2 H2.out.2.1 (by have := HL.out; simp only [List.length_singleton]; omega)).mono ?_
      rintro e w3 hw
      obtain rfl := hw.1
      obtain ⟨⟨u4, c5⟩, f5, hfin⟩ := HE.out _ _ _ _ _ (H1.out.2) (H2.out.seq hw)
      have HX := Lib.hid hfin
      clear hw hfin
      go_wp2
      go_ret2
      rw [HD.out]
      exact ⟨_, HX.out _⟩
    · have c4 := HCe.out w1 H1.out.1
      have HD := Lib.hid (HQ.out.trans (if_neg (by omega)))
      go_wp2_with fail
      refine (C_byteD p m b T cf s l _ hc0 (by omega) w1 H1.out.1 (by have := HL.out; omega)).mono ?_
      rintro e w2 hw
      obtain rfl := hw.1
      have H2 := Lib.hid hw
      clear hw c4
      go_wp2_with fail
      refine (C_WriteI16 p m b _ cf _ s _ id d1 d2 w2 H2.out.2.1 (by have := HL.out; simp only [List.length_singleton]; omega)).mono ?_
      rintro e w3 hw
      obtain rfl := hw.1
      obtain ⟨⟨u4, c5⟩, f5, hfin⟩ := HE.out _ _ _ _ _ (H1.out.2) (H2.out.seq hw)
      have HX := Lib.hid hfin
      clear hw hfin
      go_wp2
      go_ret2
      rw [HD.out]
      exact ⟨_, HX.out _⟩
  · have hov0 : (code == 255) = false := beq_eq_false_iff_ne.2 hov
    clear hov HC h
    go_enter Tryz.func209, Tryz.ntmps209
    rcases (show (la < id ∧ id - la ≤ 15) ∨ (¬ la < id) ∨ (la < id ∧ ¬ id - la ≤ 15) by omega) with ⟨q1, q2⟩ | q1 | ⟨q1, q2⟩
    · have c4 := HCe.out w H.out
      have HD := Lib.hid (HQ.out.trans (if_pos ⟨q1, q2⟩))
      have ho := or_u8 (id - la) code (by omega) (by omega) hc0 hc1
      have hb : (id - la) * 16 % 256 = (id - la) * 16 := by omega
      go_wp2_with fail
      refine (C_byteD p m b T cf s l _ (by omega) (by omega) w H.out (by have := HL.out; omega)).mono ?_
      rintro e w2 hw
      obtain rfl := hw.1
      obtain ⟨⟨u4, c5⟩, f5, hfin⟩ := HE.out _ _ _ _ _ (Fr.refl _ w) hw
      have HX := Lib.hid hfin
      clear hw hfin c4
      go_wp2
      go_ret2
      rw [HD.out]
      exact ⟨_, HX.out _⟩
    · have c4 := HCe.out w H.out
      have HD := Lib.hid (HQ.out.trans (if_neg (by omega)))
      go_wp2_with fail
      refine (C_byteD p m b T cf s l _ hc0 (by omega) w H.out (by have := HL.out; omega)).mono ?_
      rintro e w2 hw
      obtain rfl := hw.1
      have H2 := Lib.hid hw
      clear hw c4
      go_wp2_with fail
      refine (C_WriteI16 p m b _ cf _ s _ id d1 d2 w2 H2.out.2.1 (by have := HL.out; simp only [List.length_singleton]; omega)).mono ?_
      rintro e w3 hw
      obtain rfl := hw.1
      obtain ⟨⟨u4, c5⟩, f5, hfin⟩ := HE.out _ _ _ _ _ (Fr.refl _ w) (H2.out.seq hw)
      have HX := Lib.hid hfin
      clear hw hfin
      go_wp2
      go_ret2
      rw [HD.out]
      exact ⟨_, HX.out _⟩
    · have c4 := HCe.out w H.out
      have HD := Lib.hid (HQ.out.trans (if_neg (by omega)))
      go_wp2_with fail
      refine (C_byteD p m b T cf s l _ hc0 (by omega) w H.out (by have := HL.out; omega)).mono ?_
      rintro e w2 hw
      obtain rfl := hw.1
      have H2 := Lib.hid hw
      clear hw c4
      go_wp2_with fail
      refine (C_WriteI16 p m b _ cf _ s _ id d1 d2 w2 H2.out.2.1 (by have := HL.out; simp only [List.length_singleton]; omega)).mono ?_
      rintro e w3 hw
      obtain rfl := hw.1
      obtain ⟨⟨u4, c5⟩, f5, hfin⟩ := HE.out _ _ _ _ _ (Fr.refl _ w) (H2.out.seq hw)
      have HX := Lib.hid hfin
      clear hw hfin
      go_wp2
      go_ret2
      rw [HD.out]
      exact ⟨_, HX.out _⟩

theorem C_WriteFieldBegin (p m b T : Nat) (cf c : Value) (nm : ByteArray) (s : CSt) (l : List UInt8) (t id : Int) (w : World) (h : CP w p m b cf s T true l) (hlast : -32768 ≤ s.last ∧ s.last < 32768) (hid : -32768 ≤ id ∧ id < 32768) (hlim : T + 6 ≤ LIM) :
    Calls Tryz.prog 173 #[.pointer (some ⟨p, 0, none⟩), c, .string nm, .int .u8 t, .int .i16 id] w (CW w p m b cf s (if t = 2 then { s with pend := true, pid := id, pnm := nm } else { s with last := id }) T l (if t = 2 then [] else fieldC s.last (ctype t) id) .nilIface) := by
  by_cases ht : t = 2
  · subst ht
    simp only [if_true]
    obtain ⟨sv, bf, hbf, ha, ho⟩ := h.arr
    have c5 := ha.head 5 _ rfl
    have c6 := ha.head 6 _ rfl
    have c7 := ha.head 7 _ rfl
    have ff := ha.free
    have HB := Lib.hid (h.setBool nm id)
    clear h ha hbf ho hlim hlast hid
    go_enter Tryz.func173, Tryz.ntmps173
    go_wp2
    go_ret
    exact ⟨rfl, by simpa using HB.out.1, HB.out.2⟩
  · simp only [if_neg ht]
    have ht2 : (t == 2) = false := beq_eq_false_iff_ne.2 ht
    have H := Lib.hid (C_fieldI p m b T cf c (.string nm) s l t id 255 (ctype t) (ctype_lo t) (by have := ctype_hi t; omega) (Or.inl ⟨rfl, rfl⟩) hid hlast w h hlim)
    clear h hlim hlast hid ht
    go_enter Tryz.func173, Tryz.ntmps173
    go_wp2_with fail
    refine H.out.mono ?_
    rintro e w1 ⟨k, hw⟩
    obtain rfl := hw.1
    have HW := Lib.hid hw
    clear hw
    go_wp2_with (go_at_call 192; refine (exc_nil _).mono ?_; rintro e w' ⟨rfl, rfl⟩)
    go_ret
    exact ⟨rfl, HW.out.2⟩

theorem C_WriteBool (p m b T : Nat) (cf c : Value) (s : CSt) (l : List UInt8) (v : Bool) (w : World) (h : CP w p m b cf s T true l) (hlast : -32768 ≤ s.last ∧ s.last < 32768) (hid : -32768 ≤ s.pid ∧ s.pid < 32768) (hlim : T + 6 ≤ LIM) :
    Calls Tryz.prog 170 #[.pointer (some ⟨p, 0, none⟩), c, .bool v] w (CW w p m b cf s (if s.pend then { s with last := s.pid, pend := false } else s) T l (if s.pend then fieldC s.last (if v then 1 else 2) s.pid else [if v then 1 else 2]) .nilIface) := by
  obtain ⟨code, hcode, hcv⟩ : ∃ code : Int, 0 ≤ code ∧ code < 16 ∧ code ≠ 255 ∧ code = (if v then 1 else 2) := by
    refine ⟨if v then 1 else 2, ?_, ?_, ?_, rfl⟩ <;> cases v <;> decide
  obtain ⟨sv, bf, hbf, ha, ho⟩ := h.arr
  have c5 := ha.head 5 _ rfl
  have c6 := ha.head 6 _ rfl
  have c7 := ha.head 7 _ rfl
  cases hp : s.pend
  · rw [hp] at c7
    have H := Lib.hid (C_byteD p m b T cf s l code hcode (by omega) w h (by omega))
    have HB := Lib.hid (show [b8 code] = [if v then 1 else 2] by rw [hcv.2.2]; cases v <;> rfl)
    simp only [Bool.false_eq_true, if_false]
    obtain ⟨_, _, hcv⟩ := hcv
    clear h ha hbf ho hlim hlast hid c5 c6 hp hcode
    cases v
    all_goals
      simp only [Bool.false_eq_true, if_false, if_true] at hcv
      subst hcv
      go_enter Tryz.func170, Tryz.ntmps170
      go_wp2_with fail
      refine H.out.mono ?_
      rintro e w1 hw
      obtain rfl := hw.1
      rw [HB.out] at hw
      have HW := Lib.hid hw
      clear hw
      go_wp2_with (go_at_call 192; refine (exc_nil _).mono ?_; rintro e w' ⟨rfl, rfl⟩)
      go_ret
      exact HW.out
  · rw [hp] at c7
    have hcall := C_fieldI p m b T cf c (.string s.pnm) s l 2 s.pid code code hcode hcv.1 (Or.inr ⟨hcv.2.1, rfl⟩) hid hlast w.drew h.drew hlim
    have hS : ∀ v e Y, CW w.drew p m b cf s { s with last := s.pid } T l (fieldC s.last code s.pid) v e Y → (Y.cell? ⟨p, 5, none⟩ = some (.string s.pnm) ∧ Y.cell? ⟨p, 6, none⟩ = some (.int .i16 s.pid)) ∧ (∃ u, Y.cell? ⟨p, 7, none⟩ = some u) ∧ Y.frozen? ⟨p, 7, none⟩ = false ∧ CW w p m b cf s { s with last := s.pid, pend := false } T l (fieldC s.last code s.pid) .nilIface (.returned .nilIface) (Y.setCell ⟨p, 7, none⟩ (.bool false)) := fun v e Y hX => by
      obtain ⟨h1, h2, h3, h4⟩ := hX.2.1.setPend false
      obtain ⟨sv', bf', _, ha', _⟩ := hX.2.1.arr
      exact ⟨⟨ha'.head 5 _ rfl, ha'.head 6 _ rfl⟩, h1, h2, rfl, h3, Fr.trans ((Fr.refl _ w).drew) (hX.2.2.trans h4)⟩
    have HB := Lib.hid (show fieldC s.last code s.pid = fieldC s.last (if v then 1 else 2) s.pid by rw [hcv.2.2])
    simp only [if_true]
    obtain ⟨_, _, hcv⟩ := hcv
    obtain ⟨pn, hpn⟩ : ∃ x, x = s.pnm := ⟨_, rfl⟩
    obtain ⟨pi, hpi⟩ : ∃ x, x = s.pid := ⟨_, rfl⟩
    obtain ⟨R, hR⟩ : ∃ R : World → Prop, R = fun Y => CW w p m b cf s { s with last := s.pid, pend := false } T l (fieldC s.last code s.pid) .nilIface (.returned .nilIface) Y := ⟨_, rfl⟩
    have hcall2 : Calls Tryz.prog 209 #[.pointer (some ⟨p, 0, none⟩), c, .string pn, .int .u8 2, .int .i16 pi, .int .u8 code] w.drew (fun e Y => ∃ k : Int, e = .returned (.tuple #[.int .i64 k, .nilIface]) ∧ (Y.cell? ⟨p, 5, none⟩ = some (.string pn) ∧ Y.cell? ⟨p, 6, none⟩ = some (.int .i16 pi)) ∧ (∃ u, Y.cell? ⟨p, 7, none⟩ = some u) ∧ Y.frozen? ⟨p, 7, none⟩ = false ∧ R (Y.setCell ⟨p, 7, none⟩ (.bool false))) := by
      rw [hpn, hpi, hR]
      exact hcall.mono fun e Y ⟨k, hk⟩ => ⟨k, hk.1, hS _ _ _ hk⟩
    have HF := Lib.hid (show ∀ Y, R Y → CW w p m b cf s { s with last := s.pid, pend := false } T l (fieldC s.last (if v then 1 else 2) s.pid) .nilIface (.returned .nilIface) Y from fun Y hY => by
      rw [hR] at hY
      rw [← HB.out]
      exact hY)
    have HC := Lib.hid hcall2
    rw [← hpn] at c5
    rw [← hpi] at c6
    have q0 : w.cell? ⟨p, 5, none⟩ = some (.string pn) ∧ w.cell? ⟨p, 6, none⟩ = some (.int .i16 pi) := ⟨c5, c6⟩
    clear h ha hbf ho hlim hlast hid hp hcode hpn hpi hR hcall hcall2 hS HB c5 c6
    cases v
    all_goals
      simp only [Bool.false_eq_true, if_false, if_true] at hcv
      subst hcv
      go_enter Tryz.func170, Tryz.ntmps170
      go_wp2_with fail
      go_region_held3 (fun w' => w'.cell? ⟨p, 5, none⟩ = some (.string pn) ∧ w'.cell? ⟨p, 6, none⟩ = some (.int .i16 pi)) (first | exact q0 | exact q1) (first | (go_at_call 209; (with_reducible refine HC.out.mono ?_); rintro e Y ⟨k, rfl, q1, hc7, f7, hr⟩; have HR := Lib.hid (HF.out _ hr); clear hr) | fail)
      obtain ⟨u7, c8⟩ := hc7
      clear q0 q1 c7
      go_wp2_with (go_at_call 192; refine (exc_nil _).mono ?_; rintro e w' ⟨rfl, rfl⟩)
      go_ret
      exact HR.out

theorem ownBlock_of {w : World} {sv : Value} {n : Nat} {xs : List Value} (h : w.ownsRow 0 TI 1 sv n xs) {k : Nat} (hk : sv.ownBlock = some k) : (∃ cur, w.heap[k]? = some (.cells cur TI (0, 0))) ∧ ∃ c, sv = .slice (some ⟨k, 0, none⟩) n c := by
  rcases h.2 with ⟨rfl, _⟩ | ⟨g, cap, cur, rfl, _, hg, _⟩
  · cases hk
  · injection hk with hk
    have hk : g = k := hk
    subst hk
    exact ⟨⟨cur, hg⟩, cap, rfl⟩

/-- An id is pushed. -/
theorem CP.push {w X Z : World} {p m b T g cap : Nat} {cf sv : Value} {s : CSt} {z : Bool} {l bf : List UInt8} (h : CP w p m b cf s T z l) (hbf : bf.length = 64) (ha : Arr w p TCP (hdC m cf sv s) bf) (ho : w.ownsRow 0 TI 1 sv s.stack.length (s.stack.map (.int .i64)))
    (hX : Fr noF noF w X) (hown : Z.ownsRow 0 TI 1 (.slice (some ⟨g, 0, none⟩) (s.stack.length + 1) cap) (s.stack.length + 1) (s.stack.map (.int .i64) ++ [.int .i64 s.last])) (hg : X.grownBy Z sv.ownBlock) (hat : sv.ownBlock = some g ∨ g = X.heap.size) :
    (Z.cell? ⟨p, 3, none⟩ = some sv ∧ Z.frozen? ⟨p, 3, none⟩ = false) ∧ ((Z.setCell ⟨p, 3, none⟩ (.slice (some ⟨g, 0, none⟩) (s.stack.length + 1) cap)).cell? ⟨p, 4, none⟩ = some (.int .i64 s.last) ∧ (Z.setCell ⟨p, 3, none⟩ (.slice (some ⟨g, 0, none⟩) (s.stack.length + 1) cap)).frozen? ⟨p, 4, none⟩ = false) ∧
      CP ((Z.setCell ⟨p, 3, none⟩ (.slice (some ⟨g, 0, none⟩) (s.stack.length + 1) cap)).setCell ⟨p, 4, none⟩ (.int .i64 0)) p m b cf { s with stack := s.stack ++ [s.last], last := 0 } T z l ∧ Fr (CPF w p b) (CPF ((Z.setCell ⟨p, 3, none⟩ (.slice (some ⟨g, 0, none⟩) (s.stack.length + 1) cap)).setCell ⟨p, 4, none⟩ (.int .i64 0)) p b) w ((Z.setCell ⟨p, 3, none⟩ (.slice (some ⟨g, 0, none⟩) (s.stack.length + 1) cap)).setCell ⟨p, 4, none⟩ (.int .i64 0)) := by
  obtain ⟨_, ⟨sz, hm⟩, hB⟩ := h
  have hst : ∀ k, k < w.heap.size → sv.ownBlock ≠ some k → Z.heap[k]? = w.heap[k]? := fun k hk hn => (hg.block k (Nat.lt_of_lt_of_le hk hX.size) fun e => hn e.symm).trans (hX.keep k hk fun x => x)
  have htag : ∀ {k : Nat} {cs : Array Value} {t : TypeId} {f : Nat × Nat}, w.heap[k]? = some (.cells cs t f) → t ≠ TI → Z.heap[k]? = some (.cells cs t f) := fun {k cs t f} hk ht => (hst k (lt_heap hk) fun e => by
    obtain ⟨⟨cur, hc⟩, _⟩ := ownBlock_of ho e
    exact tag_ne hk hc ht rfl).trans hk
  have hap : Arr Z p TCP (hdC m cf sv s) bf := htag ha (by decide)
  have hbk : ∀ k, BF w b k → Z.heap[k]? = w.heap[k]? := fun k hk => by
    obtain ⟨cs, t, h1, h2⟩ := hB.tag hk
    rw [htag h1 (by rcases h2 with rfl | rfl <;> decide), h1]
  have hgZ : ∃ cur, Z.heap[g]? = some (.cells cur TI (0, 0)) := (ownBlock_of hown (k := g) rfl).1
  have hgp : g ≠ p := by
    obtain ⟨cur, hc⟩ := hgZ
    exact tag_ne hc hap (by decide)
  have ha3 := hap.setHead 3 (by simp [hdC]) (.slice (some ⟨g, 0, none⟩) (s.stack.length + 1) cap)
  have ha4 := ha3.setHead 4 (by simp [hdC]) (.int .i64 0)
  obtain ⟨W3, hW3⟩ : ∃ W3, W3 = Z.setCell ⟨p, 3, none⟩ (.slice (some ⟨g, 0, none⟩) (s.stack.length + 1) cap) := ⟨_, rfl⟩
  rw [← hW3] at ha3 ha4 ⊢
  obtain ⟨W4, hW4⟩ : ∃ W4, W4 = W3.setCell ⟨p, 4, none⟩ (.int .i64 0) := ⟨_, rfl⟩
  rw [← hW4] at ha4 ⊢
  have hne : ∀ k, k ≠ p → W4.heap[k]? = Z.heap[k]? := fun k hk => by
    rw [hW4, hW3]
    exact (Below.heap_setCell _ _ _ _ hk).trans (Below.heap_setCell _ _ _ _ hk)
  have hsz4 : W4.heap.size = Z.heap.size := by rw [hW4, hW3, setCell_size, setCell_size]
  have hbp : ∀ k, BF w b k → k ≠ p := fun k hk e => (hB.other ha (by decide) (by decide)) (e ▸ hk)
  have hmp : m ≠ p := tag_ne hm ha (by decide)
  have hCP : CP W4 p m b cf { s with stack := s.stack ++ [s.last], last := 0 } T z l := by
    refine ⟨⟨_, bf, hbf, ha4, ?_⟩, ⟨sz, (hne m hmp).trans (htag hm (by decide))⟩, hB.same fun k hk => (hne k (hbp k hk)).trans (hbk k hk)⟩
    have := owns_same (w' := W4) hown fun k hk => by
      injection hk with hk
      have hk : g = k := hk
      subst hk
      exact hne g hgp
    simpa using this
  refine ⟨⟨hap.head 3 _ rfl, hap.free 3⟩, ⟨ha3.head 4 _ rfl, ha3.free 4⟩, hCP, hW4 ▸ hW3 ▸ hg.os.trans hX.os, hW4 ▸ hW3 ▸ hg.tape.trans hX.tape, hW4 ▸ hW3 ▸ hg.output.trans hX.output, by rw [hsz4]; exact Nat.le_trans hX.size hg.size, fun k hk hn => ?_, fun k hk hx => ?_⟩
  · have h1 : k ≠ p := fun e => hn (Or.inl e)
    refine (hne k h1).trans (hst k hk fun e => hn (Or.inr (Or.inr ?_)))
    obtain ⟨_, c, hc⟩ := ownBlock_of ho e
    exact ⟨_, c, hc ▸ ha.head 3 _ rfl⟩
  · rcases hx with rfl | hx | ⟨n, c, hx⟩
    · exact Or.inl rfl
    · exact Or.inr (Or.inl ((BF.of_same ((hne b (hbp b (Or.inl rfl))).trans (hbk b (Or.inl rfl)))).1 hx))
    · rw [ha4.head 3 _ rfl] at hx
      injection hx with hx
      injection hx with e1 e2 e3
      injection e1 with e1
      injection e1 with e1
      subst e1
      rcases hat with hat | hat
      · obtain ⟨_, c, hc⟩ := ownBlock_of ho hat
        exact Or.inr (Or.inr ⟨_, c, hc ▸ ha.head 3 _ rfl⟩)
      · have := hX.size; omega

theorem info_TI : (Tryz.prog.info? TI).map (fun i => (i.zero, i.size, i.bytes)) = some (some (.int .i64 0), 1, 8) := by kernel_rfl
theorem C_WriteStructBegin (p m b T : Nat) (cf c nm : Value) (s : CSt) (l : List UInt8) (w : World) (h : CP w p m b cf s T true l) (hn : s.stack.length + 1 ≤ LIM) :
    Calls Tryz.prog 188 #[.pointer (some ⟨p, 0, none⟩), c, nm] w (CW w p m b cf s { s with stack := s.stack ++ [s.last], last := 0 } T l [] .nilIface) := by
  obtain ⟨sv, bf, hbf, ha, ho⟩ := h.arr
  obtain ⟨i0, hi, hz0, hz1, hz2⟩ := info_parts info_TI
  have HI := Lib.hid (And.intro hi (And.intro hz0 (And.intro hz1 hz2)))
  have c3 := ha.head 3 _ rfl
  have c4 := ha.head 4 _ rfl
  have hfW := fun q => ((Fr.refl noF w).alloc (.cells #[.int .i64 s.last] TI (0, 0))).drewN q
  have HP := Lib.hid (fun X Z g cap hX hown hg hat => h.push hbf ha ho hX hown hg hat (X := X) (Z := Z) (g := g) (cap := cap))
  have HO := Lib.hid ho
  have HL := Lib.hid (show s.stack.length + 1 ≤ maxLen ∧ (s.stack.length + 1) * 8 ≤ 140737488355328 by unfold LIM at hn; unfold maxLen; omega)
  have k3 : (w.alloc (.cells #[.int .i64 s.last] TI (0, 0))).cell? ⟨p, 3, none⟩ = some sv := by rw [cell_at (alloc_at ha)]; rfl
  clear h hi hz0 hz1 hz2 hbf ha ho hn
  go_enter Tryz.func188, Tryz.ntmps188
  go_wp2_with fail
  go_region_law (first | ((refine step_append_lies _ (by rfl) _ _ _ (by rfl) 0 TI i0 (.int .i64 0) 1 8 Tryz.underlying36 HI.out.1 HI.out.2.1 HI.out.2.2.1 HI.out.2.2.2 rfl (by decide) sv s.stack.length (s.stack.map (.int .i64)) (by rfl) (World.ownsRow.alloc HO.out _) ⟨w.heap.size, 0, none⟩ 1 1 [.int .i64 s.last] (by rfl) (by rfl) (app_cell w _ _) (app_one rfl) (by decide) HL.out.1 HL.out.2 (Nat.zero_le _) _ rfl ?_); intro g cap Z hown hgrow hat hlt; have hz := HP.out _ Z g cap (((Fr.refl noF w).alloc _).drew) hown hgrow (by simpa using hat); obtain ⟨⟨z3, f3⟩, ⟨z4, f4⟩, hfin⟩ := hz; have HX := Lib.hid hfin; clear hown hgrow hat hlt hfin) | fail)
  all_goals go_wp2
  all_goals go_ret
  all_goals exact ⟨rfl, by simpa using HX.out.1, HX.out.2⟩

/-- An id is popped: the last id, then the row. -/
theorem CP.pop {w : World} {p m b T : Nat} {cf sv : Value} {s : CSt} {z : Bool} {l bf : List UInt8} (h : CP w p m b cf s T z l) (hbf : bf.length = 64) (ha : Arr w p TCP (hdC m cf sv s) bf) (ho : w.ownsRow 0 TI 1 sv s.stack.length (s.stack.map (.int .i64))) (n : Nat) (hn : s.stack.length = n + 1) :
    ∃ g cap x, sv = .slice (some ⟨g, 0, none⟩) (n + 1) cap ∧ s.stack.getLastD 0 = x ∧ n + 1 ≤ cap ∧ cap ≤ maxLen ∧ w.cell? ⟨g, n, none⟩ = some (.int .i64 x) ∧
      (CP ((w.setCell ⟨p, 4, none⟩ (.int .i64 x)).setCell ⟨p, 3, none⟩ (.slice (some ⟨g, 0, none⟩) n cap)) p m b cf { s with stack := s.stack.dropLast, last := x } T z l ∧ Fr (CPF w p b) (CPF ((w.setCell ⟨p, 4, none⟩ (.int .i64 x)).setCell ⟨p, 3, none⟩ (.slice (some ⟨g, 0, none⟩) n cap)) p b) w ((w.setCell ⟨p, 4, none⟩ (.int .i64 x)).setCell ⟨p, 3, none⟩ (.slice (some ⟨g, 0, none⟩) n cap))) := by
  rcases ho.2 with ⟨_, h0⟩ | ⟨g, cap, cur, hsv, hb, hgg, hle, hmx, hsz, htk⟩
  · omega
  rw [hn] at hsv
  subst hsv
  have hx : s.stack[n]? = some (s.stack.getLastD 0) := by
    obtain ⟨x, hx⟩ : ∃ x, s.stack[n]? = some x := ⟨_, List.getElem?_eq_getElem (by omega)⟩
    have hl : s.stack.getLast? = some x := by rw [List.getLast?_eq_getElem?, show s.stack.length - 1 = n by omega]; exact hx
    rw [hx, List.getLastD_eq_getLast?, hl]
    rfl
  have hcx : cur[n]? = some (.int .i64 (s.stack.getLastD 0)) := by
    have h1 : (cur.toList.take (s.stack.length * 1))[n]? = (s.stack.map (Value.int .i64))[n]? := by rw [htk]
    rw [List.getElem?_take_of_lt (by omega), List.getElem?_map, hx] at h1
    simpa using h1
  obtain ⟨_, ⟨sz, hm⟩, hB⟩ := h
  have hgp : g ≠ p := tag_ne hgg ha (by decide)
  have hmp : m ≠ p := tag_ne hm ha (by decide)
  have hbp : ∀ k, BF w b k → k ≠ p := fun k hk e => (hB.other ha (by decide) (by decide)) (e ▸ hk)
  have ha4 := (ha.setHead 4 (by simp [hdC]) (.int .i64 (s.stack.getLastD 0))).setHead 3 (by simp [hdC]) (.slice (some ⟨g, 0, none⟩) n cap)
  refine ⟨g, cap, _, rfl, rfl, by omega, hmx, by rw [cell_at hgg]; exact hcx, ?_⟩
  obtain ⟨W4, hW4⟩ : ∃ W4, W4 = (w.setCell ⟨p, 4, none⟩ (.int .i64 (s.stack.getLastD 0))).setCell ⟨p, 3, none⟩ (.slice (some ⟨g, 0, none⟩) n cap) := ⟨_, rfl⟩
  rw [← hW4] at ha4 ⊢
  have hne : ∀ k, k ≠ p → W4.heap[k]? = w.heap[k]? := fun k hk => by
    rw [hW4]
    exact (Below.heap_setCell _ _ _ _ hk).trans (Below.heap_setCell _ _ _ _ hk)
  have hsz4 : W4.heap.size = w.heap.size := by rw [hW4, setCell_size, setCell_size]
  refine ⟨⟨⟨_, bf, hbf, ha4, ?_⟩, ⟨sz, (hne m hmp).trans hm⟩, hB.same fun k hk => hne k (hbp k hk)⟩, hW4 ▸ rfl, hW4 ▸ rfl, hW4 ▸ rfl, by rw [hsz4]; exact Nat.le_refl _, fun k hk hn' => hne k fun e => hn' (Or.inl e), fun k hk hx => ?_⟩
  · have hl : s.stack.dropLast.length = n := by rw [List.length_dropLast, hn]; rfl
    refine ⟨by simp, Or.inr ⟨g, cap, cur, by rw [hl], hb, (hne g hgp).trans hgg, by show s.stack.dropLast.length ≤ cap; omega, hmx, hsz, ?_⟩⟩
    show cur.toList.take (s.stack.dropLast.length * 1) = _
    rw [hl]
    have : cur.toList.take (n * 1) = (cur.toList.take (s.stack.length * 1)).take n := by rw [List.take_take, Nat.mul_one, Nat.mul_one, hn, Nat.min_eq_left (by omega)]
    rw [this, htk, ← List.map_take, List.dropLast_eq_take, hn]
    rfl
  · rcases hx with rfl | hx | ⟨n', c', hx⟩
    · exact Or.inl rfl
    · exact Or.inr (Or.inl ((BF.of_same (hne b (hbp b (Or.inl rfl)))).1 hx))
    · rw [ha4.head 3 _ rfl] at hx
      injection hx with hx
      injection hx with e1 e2 e3
      injection e1 with e1
      injection e1 with e1
      subst e1
      exact Or.inr (Or.inr ⟨_, _, ha.head 3 _ rfl⟩)

theorem C_WriteStructEnd (p m b T : Nat) (cf c : Value) (s : CSt) (l : List UInt8) (w : World) (h : CP w p m b cf s T true l) (hs : s.stack ≠ []) (hsl : s.stack.length ≤ LIM) :
    Calls Tryz.prog 189 #[.pointer (some ⟨p, 0, none⟩), c] w (CW w p m b cf s { s with stack := s.stack.dropLast, last := s.stack.getLastD 0 } T l [] .nilIface) := by
  obtain ⟨sv, bf, hbf, ha, ho⟩ := h.arr
  obtain ⟨n, hn⟩ : ∃ n, s.stack.length = n + 1 := ⟨s.stack.length - 1, by have := List.length_pos_iff.2 hs; omega⟩
  obtain ⟨g, cap, x, hsv, hx, hle, hmx, hcx, hP, hF⟩ := h.pop hbf ha ho n hn
  subst hsv
  have c3 := ha.head 3 _ rfl
  have c4 := ha.head 4 _ rfl
  have ff := ha.free
  have ha4 := ha.setHead 4 (by simp [hdC]) (.int .i64 x)
  have hgp : g ≠ p := by
    obtain ⟨⟨cur, hc⟩, _⟩ := ownBlock_of ho (k := g) rfl
    exact tag_ne hc ha (by decide)
  have d3 : (w.setCell ⟨p, 4, none⟩ (.int .i64 x)).cell? ⟨p, 3, none⟩ = some (.slice (some ⟨g, 0, none⟩) (n + 1) cap) := ha4.head 3 _ rfl
  have hcy : (w.setCell ⟨p, 4, none⟩ (.int .i64 x)).cell? ⟨g, n, none⟩ = some (.int .i64 x) := by
    rw [World.cell?_of_block (a := ⟨g, n, none⟩) (Below.heap_setCell w ⟨p, 4, none⟩ _ g hgp)]
    exact hcx
  have dff : ∀ j, (w.setCell ⟨p, 4, none⟩ (.int .i64 x)).frozen? ⟨p, j, none⟩ = false := ha4.free
  rw [hx]
  have HX := Lib.hid (And.intro hP hF)
  have hn0 : (n : Int) ≤ 9000000000000000000 := by unfold LIM at hsl; omega
  have hwn : IntKind.i64.wrap (n : Int) = (n : Int) := by rw [IntKind.wrap_i64]; omega
  have hwm : IntKind.i64.wrap ((n : Int) + 1 - 1) = (n : Int) := by rw [IntKind.wrap_i64]; omega
  have hlt : (n : Int) < (n : Int) + 1 := by omega
  have hlc : (n : Int) ≤ (cap : Int) := by omega
  have hn1 : (0 : Int) ≤ (n : Int) := by omega
  clear h ha ho hbf hs hn hle hmx hx hP hF ha4 hgp hsl
  go_enter Tryz.func189, Tryz.ntmps189
  go_wp2_with fail
  go_region_held3 (fun w' => w'.cell? ⟨p, 3, none⟩ = some (.slice (some ⟨g, 0, none⟩) (n + 1) cap) ∧ w'.cell? ⟨g, n, none⟩ = some (.int .i64 x)) (first | exact ⟨c3, hcx⟩ | exact ⟨d3, hcy⟩) (first | fail)
  go_wp2_with fail
  go_region_law (fail)
  all_goals go_wp2
  all_goals go_ret
  all_goals trace_state
  all_goals exact ⟨rfl, by simpa using HX.out.1.drew.drew, HX.out.2.drew.drew⟩
end Go.Proofs.YtdifknecndlklaaGreatDoor
