/- The compact protocol over a memory buffer: texts, bytes, doubles, uuids are written. -/
import Derived.Deep.RegionHeld3
import Derived.Test.YtoikkjefaakchaaGreatDoorZ2
set_option linter.all false
namespace Go.Proofs.YtoikkjefaakchaaGreatDoor
open Go Go.RowKit
set_option maxHeartbeats 1000000
set_option maxRecDepth 100000

theorem vint32_le (n : Nat) (h : n < 4294967296) : (vint n).length ≤ 5 := vint_length n 5 (by omega) (by decide)
theorem vint64_le (n : Nat) (h : n < 18446744073709551616) : (vint n).length ≤ 10 := vint_length n 10 (by omega) (by decide)
theorem wrap32_nat (n : Nat) : (wrap32 (n : Int) % 4294967296).toNat = n % 4294967296 := by unfold wrap32; omega
theorem CW.refl {w : World} {p m b T : Nat} {cf v : Value} {s : CSt} {l : List UInt8} (h : CP w p m b cf s T true l) : CW w p m b cf s s T l [] v (.returned v) w := ⟨rfl, by simpa using h, Fr.refl _ _⟩

/-- A size as a varint. -/
theorem C_size (p m b T : Nat) (cf : Value) (s : CSt) (l : List UInt8) (n : Nat) (w : World) (h : CP w p m b cf s T true l) (hlim : T + 5 ≤ LIM) :
    Calls Tryz.prog 92 #[.pointer (some ⟨p, 0, none⟩), .int .i32 (wrap32 n)] w (CW w p m b cf s s T l (vint (n % 4294967296)) (.tuple #[.int .i64 (vint (n % 4294967296)).length, .nilIface])) := by
  have := C_writeVarint32 p m b T cf s l (wrap32 n) w h hlim
  rwa [wrap32_nat] at this

theorem C_WriteString (p m b T : Nat) (cf c : Value) (st : CSt) (l : List UInt8) (s : ByteArray) (w : World) (h : CP w p m b cf st T true l) (hlim : T + 5 + s.size ≤ LIM) :
    Calls Tryz.prog 207 #[.pointer (some ⟨p, 0, none⟩), c, .string s] w (CW w p m b cf st st T l (vint (s.size % 4294967296) ++ s.data.toList) .nilIface) := by
  have hss : s.data.toList.length = s.size := by rw [Array.length_toList]; rfl
  have hvl := vint32_le (s.size % 4294967296) (by omega)
  have h1 := C_size p m b T cf st l s.size w h (by omega)
  have H1 := Lib.hid h1
  have HS := Lib.hid hss
  have HL := Lib.hid (show T + (vint (s.size % 4294967296)).length + s.size ≤ LIM by omega)
  clear h hss hlim h1 hvl
  go_enter Tryz.func207, Tryz.ntmps207
  go_wp2_with fail
  (with_reducible refine H1.out.mono ?_)
  rintro e w1 hw
  obtain rfl := hw.1
  have c0 := hw.2.1.trans
  have hme := meth_WriteString hw.2.1.mem.cell
  have HW := Lib.hid hw
  clear hw
  rcases Nat.eq_zero_or_pos s.size with h0 | h0
  · have h00 : (((s.size : Nat) : Int) == 0) = true := by simp [h0]
    have HD := Lib.hid (show s.data.toList = [] from List.eq_nil_of_length_eq_zero (by rw [HS.out]; exact h0))
    clear h0
    go_wp2
    go_ret
    refine ⟨rfl, ?_⟩
    rw [HD.out, List.append_nil]
    exact HW.out.2
  · have h01 : (((s.size : Nat) : Int) == 0) = false := beq_eq_false_iff_ne.2 (by omega)
    clear h0
    go_wp2_with fail
    refine (Buf_WriteString b _ _ s w1 HW.out.2.1.buf HL.out).mono ?_
    rintro e w2 ⟨rfl, hB, hF⟩
    have HX := Lib.hid (HW.out.2.1.lift hB hF)
    clear hB hF
    go_wp2
    go_ret
    exact HW.out.seq ⟨rfl, by rw [HS.out]; exact HX.out.1, HX.out.2⟩

theorem C_WriteBinary (p m b T : Nat) (cf c v : Value) (st : CSt) (l news : List UInt8) (w : World) (h : CP w p m b cf st T true l) (hlim : T + 5 + news.length ≤ LIM) (hv : Rd w v news) (hfar : ∀ k, vblk v k → ¬ CPF w p b k ∧ k < w.heap.size) :
    Calls Tryz.prog 189 #[.pointer (some ⟨p, 0, none⟩), c, v] w (CW w p m b cf st st T l (vint (news.length % 4294967296) ++ news) .nilIface) := by
  obtain ⟨sa, sc, rfl⟩ : ∃ sa sc, v = .slice sa news.length sc := by
    rcases hv with ⟨rfl, rfl⟩ | ⟨a, n, c, rfl, hl, _⟩
    · exact ⟨none, 0, rfl⟩
    · exact ⟨some a, c, by rw [hl]⟩
  have hvl := vint32_le (news.length % 4294967296) (by omega)
  have h1 := C_size p m b T cf st l news.length w h (by omega)
  have H1 := Lib.hid h1
  have HL := Lib.hid (show T + (vint (news.length % 4294967296)).length + news.length ≤ LIM by omega)
  have HV := Lib.hid hv
  have HF := Lib.hid hfar
  clear h hlim hv hfar h1 hvl
  go_enter Tryz.func189, Tryz.ntmps189
  go_wp2_with fail
  (with_reducible refine H1.out.mono ?_)
  rintro e w1 hw
  obtain rfl := hw.1
  have c0 := hw.2.1.trans
  have hme := meth_Write hw.2.1.mem.cell
  have HW := Lib.hid hw
  clear hw
  rcases Nat.eq_zero_or_pos news.length with h0 | h0
  · have h00 : ¬ (0 : Int) < ((news.length : Nat) : Int) := by omega
    have HD := Lib.hid (show vint (news.length % 4294967296) ++ news = vint (news.length % 4294967296) by rw [List.eq_nil_of_length_eq_zero h0, List.append_nil])
    clear h0
    go_wp2
    go_ret
    refine ⟨rfl, ?_⟩
    rw [HD.out]
    exact HW.out.2
  · have h00 : (0 : Int) < ((news.length : Nat) : Int) := by omega
    clear h0
    go_wp2_with fail
    refine (Buf_Write b _ _ news _ w1 HW.out.2.1.buf HL.out (HV.out.keep HW.out.2.2 fun k hk => (HF.out k hk).1) (fun k hk hb => (HF.out k hk).1 (HW.out.2.2.foot k (HF.out k hk).2 (Or.inr (Or.inl hb))))).mono ?_
    rintro e w2 ⟨rfl, hB, hF⟩
    have HX := Lib.hid (HW.out.2.1.lift hB hF)
    clear hB hF
    go_wp2_with (go_at_call 212; refine (exc_nil _).mono ?_; rintro e w' ⟨rfl, rfl⟩)
    go_ret
    exact HW.out.seq ⟨rfl, HX.out.1, HX.out.2⟩

/-- The eight bytes of a number, the lowest first. -/
def le8 (v : Int) : List UInt8 := Lib.leBytes 8 (v % 18446744073709551616).toNat
theorem le8_length (v : Int) : (le8 v).length = 8 := Lib.leBytes_length _ _

theorem C_WriteDouble (p m b T : Nat) (cf c : Value) (st : CSt) (l : List UInt8) (v : Nat) (hv : v < 18446744073709551616) (w : World) (h : CP w p m b cf st T true l) (hlim : T + 8 ≤ LIM) :
    Calls Tryz.prog 192 #[.pointer (some ⟨p, 0, none⟩), c, .float .f64 v] w (CW w p m b cf st st T l (le8 v) .nilIface) := by
  have hr := run_f64bits v
  obtain ⟨sv, bf, hbf, ha, ho⟩ := h.arr
  have hput := fun w' (hw' : Arr w' p TCP (hdC m cf sv st) bf) => PutLE8 p 10 v (hdC m cf sv st) bf TCP w' hw' rfl hv (by omega)
  have H := Lib.hid h
  have HL := Lib.hid hlim
  have HA := Lib.hid ha
  have HB := Lib.hid hbf
  have HP := Lib.hid hput
  have HE := Lib.hid (show le8 v = Lib.leBytes 8 v by unfold le8; rw [show ((v : Int) % 18446744073709551616).toNat = v by omega])
  clear ha hbf h hlim hput ho hv
  rw [HE.out]
  have HPW := Lib.hid (HP.out w.drew HA.out)
  have c00 := H.out.trans
  go_enter Tryz.func192, Tryz.ntmps192
  go_wp2_with fail
  go_region_held3 (fun w' => w'.cell? ⟨p, 0, none⟩ = some (memI m)) (first | exact c00 | exact c01)
    (first | (go_at_call 225; refine HPW.out.mono ?_; rintro e w1 ⟨rfl, hA1, hF1⟩; have c01 := hA1.head 0 _ rfl))
  obtain ⟨h1, hG1⟩ := H.out.scratch HA.out (by rw [List.length_append, Lib.leBytes_length, List.length_drop, HB.out]) hA1 (Fr.trans ((Fr.refl _ w).drew) hF1)
  have c0 := h1.trans
  have hme := meth_Write h1.mem.cell
  have hfar := h1.apart 10 8 64
  have hw := Buf_Write b T l (Lib.leBytes 8 v) (.slice (some ⟨p, 10, none⟩) 8 64) w1 h1.buf (by rw [Lib.leBytes_length]; exact HL.out) (hA1.rd 10 8 rfl (Lib.leBytes_length _ _) (by omega)) hfar
  have H1 := Lib.hid h1
  have HG := Lib.hid hG1
  have HW := Lib.hid hw
  clear hA1 hF1 h1 hG1 hfar hw c01 c00
  go_wp2_with fail
  refine HW.out.mono ?_
  rintro e w2 ⟨rfl, hB2, hF2⟩
  have HX := Lib.hid (H1.out.lift hB2 hF2)
  clear hB2 hF2
  go_wp2_with (go_at_call 212; refine (exc_nil _).mono ?_; rintro e w' ⟨rfl, rfl⟩)
  go_ret
  exact ⟨rfl, HX.out.1, HG.out.trans HX.out.2⟩

theorem C_WriteUUID (p m b T : Nat) (cf c : Value) (st : CSt) (l u : List UInt8) (w : World) (h : CP w p m b cf st T true l) (hlim : T + 16 ≤ LIM) (hu : u.length = 16) :
    Calls Tryz.prog 210 #[.pointer (some ⟨p, 0, none⟩), c, uuidV u] w (CW w p m b cf st st T l u .nilIface) := by
  obtain ⟨h1, f1⟩ := h.alloc (.cells (Lib.byteCells u).toArray 223)
  have c0 : (w.alloc (.cells (Lib.byteCells u).toArray 223)).cell? ⟨p, 0, none⟩ = some (memI m) := h1.trans
  have hme := meth_Write (w := (w.alloc (.cells (Lib.byteCells u).toArray 223)).drew) h1.mem.cell
  have hnew := alloc_new w (.cells (Lib.byteCells u).toArray 223)
  have hrd : Rd (w.alloc (.cells (Lib.byteCells u).toArray 223)) (.slice (some ⟨w.heap.size, 0, none⟩) 16 16) u :=
    Or.inr ⟨_, 16, 16, rfl, hu, Nat.le_refl _, by unfold maxLen; omega, fun j x hj => by rw [Lib.addr_add, cell_at hnew]; simp [Lib.byteCells, hj]⟩
  have hfar : ∀ k, vblk (.slice (some ⟨w.heap.size, 0, none⟩) 16 16) k → ¬ BF (w.alloc (.cells (Lib.byteCells u).toArray 223)) b k := fun k hk => by
    cases hk; exact h1.buf.other hnew (by decide) (by decide)
  have hw := Buf_Write b T l u (.slice (some ⟨w.heap.size, 0, none⟩) 16 16) (w.alloc (.cells (Lib.byteCells u).toArray 223)).drew h1.buf (by rw [hu]; exact hlim) hrd hfar
  rw [hu] at hw
  have hfin : ∀ w2, Buf w2 b (T + u.length) true (l ++ u) → Fr (BF (w.alloc (.cells (Lib.byteCells u).toArray 223)) b) (BF w2 b) (w.alloc (.cells (Lib.byteCells u).toArray 223)).drew w2 → CW w p m b cf st st T l u .nilIface (.returned .nilIface) w2 := fun w2 hB hF => by
    have h2 : CP (w.alloc (.cells (Lib.byteCells u).toArray 223)).drew p m b cf st T true l := h1.drew
    obtain ⟨a, f⟩ := h2.lift hB hF
    exact ⟨rfl, a, f1.drew.trans f⟩
  have hc2 : ∀ w2, Fr (BF (w.alloc (.cells (Lib.byteCells u).toArray 223)) b) (BF w2 b) (w.alloc (.cells (Lib.byteCells u).toArray 223)).drew w2 → w2.cell? ⟨p, 0, none⟩ = some (memI m) := fun w2 hF => by
    refine hF.cell (w := (w.alloc (.cells (Lib.byteCells u).toArray 223)).drew) c0 ?_
    obtain ⟨sv, bf, _, ha, _⟩ := h1.arr
    exact h1.buf.other ha (by decide) (by decide)
  have HC := Lib.hid hc2
  have HW := Lib.hid hw
  have HF := Lib.hid hfin
  clear hw hfin hc2 hfar hrd hnew h1 f1 h
  go_enter Tryz.func210, Tryz.ntmps210
  go_wp2_with fail
  go_region_held3 (fun w' => w'.cell? ⟨p, 0, none⟩ = some (memI m)) (first | exact c0 | exact d0)
    (first | (go_at_call 87; refine HW.out.mono ?_; rintro e w2 ⟨rfl, hB, hF⟩; have d0 := HC.out w2 hF))
  have HX := Lib.hid (HF.out w2 hB hF)
  clear hB hF
  go_wp2_with (go_at_call 212; refine (exc_nil _).mono ?_; rintro e w' ⟨rfl, rfl⟩)
  go_ret
  exact HX.out
end Go.Proofs.YtoikkjefaakchaaGreatDoor
