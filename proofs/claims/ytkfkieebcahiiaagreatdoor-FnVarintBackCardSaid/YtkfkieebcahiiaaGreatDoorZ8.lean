/- The binary protocol over a memory buffer: its reading methods of a known length. The binary protocol: the begins of lists, sets and maps are read. The binary protocol: the begins of lists, sets and maps are read. -/
import Derived.Deep.RegionHeld3
import Derived.Test.YtkfkieebcahiiaaGreatDoorZ3
set_option linter.all false
namespace Go.Proofs.YtkfkieebcahiiaaGreatDoor
open Go Go.RowKit
set_option maxHeartbeats 2000000
set_option maxRecDepth 100000

theorem Buf_ReadByte_some (b T : Nat) (z : Bool) (u : UInt8) (l : List UInt8) (w : World) (h : Buf w b T z (u :: l)) :
    Calls Tryz.prog 140 #[.pointer (some ⟨b, 0, none⟩)] w fun e w' => e = .returned (.tuple #[.int .u8 u.toNat, .nilIface]) ∧ Buf w' b T false l ∧ Fr (BF w b) (BF w' b) w w' := by
  have hE := Buf_empty b T z (u :: l) w h
  rw [show (u :: l).isEmpty = false from rfl] at hE
  rcases h with ⟨h0, -⟩ | ⟨lr, r, n, c, o, cur, hb, hr, hcs, hc, hon, hnc, hT, hl, hz⟩
  · cases h0
  have hlen : l.length + 1 = n - o := by
    have := congrArg List.length hl
    rw [bcells_length, List.length_drop, List.length_take, Array.length_toList] at this
    simp only [List.length_cons] at this
    omega
  have hcell : w.cell? ⟨r, o, none⟩ = some (.int .u8 u.toNat) := by
    have h0 : (Lib.byteCells (u :: l))[0]? = some (.int .u8 u.toNat) := rfl
    rw [← hl, List.getElem?_drop, List.getElem?_take_of_lt (by omega)] at h0
    rw [cell_at hr]
    simpa using h0
  have c0 := cell_at hb 0
  have c1 := cell_at hb 1
  have c2 := cell_at hb 2
  have f1 := free_at hb 1
  have f2 := free_at hb 2
  simp only [List.getElem?_toArray, List.getElem?_cons_zero, List.getElem?_cons_succ] at c0 c1 c2
  have hrb : r ≠ b := tag_ne hr hb (by decide)
  have hfin : ∀ q q', Buf ((((w.drewN q).setCell ⟨b, 1, none⟩ (.int .i64 ((o : Int) + 1))).setCell ⟨b, 2, none⟩ (.int .i8 (-1))).drewN q') b T false l ∧
      Fr (BF w b) (BF ((((w.drewN q).setCell ⟨b, 1, none⟩ (.int .i64 ((o : Int) + 1))).setCell ⟨b, 2, none⟩ (.int .i8 (-1))).drewN q') b) w ((((w.drewN q).setCell ⟨b, 1, none⟩ (.int .i64 ((o : Int) + 1))).setCell ⟨b, 2, none⟩ (.int .i8 (-1))).drewN q') := fun q q' => by
    have k1 := setCell_at (w := w.drewN q) (i := 1) hb (.int .i64 ((o : Int) + 1))
    have k2 := setCell_at (i := 2) k1 (.int .i8 (-1))
    refine ⟨Or.inr ⟨-1, r, n, c, o + 1, cur, k2, setCell_ne (setCell_ne (w := w.drewN q) hr hrb _) hrb _, hcs, hc, by omega, hnc, hT, ?_, fun hz => by cases hz⟩, ?_⟩
    · rw [← List.drop_drop, hl]
      rfl
    · refine (((((Fr.refl (BF w b) w).drewN q).setCell (p := ⟨b, 1, none⟩) (Or.inl (Or.inl rfl)) _).setCell (p := ⟨b, 2, none⟩) (Or.inl (Or.inl rfl)) _).drewN q').conv fun k _ hk => ?_
      rcases BF_of k2 hk with rfl | rfl
      · exact Or.inl rfl
      · exact BF_row hb
  have i1 : (0 : Int) ≤ (o : Int) := by omega
  have i2 : (o : Int) < (n : Int) := by omega
  have i3 : (o : Int) + 1 ≤ 9223372036854775807 := by unfold maxLen at hc; omega
  have HE := Lib.hid hE
  have HF := Lib.hid hfin
  clear hE hfin hb hr hcs hc hon hnc hT hl hz hlen hrb
  go_enter Tryz.func140, Tryz.ntmps140
  go_wp2_with (go_at_call 145; refine HE.out.mono ?_)
  rintro e W ⟨rfl, q, rfl⟩
  go_wp2_with fail
  go_quiet (fail)
  go_wp2
  go_ret2
  exact ⟨rfl, HF.out _ 0⟩

/-- What a method that reads leaves, whatever it tells. -/
def BV (w : World) (p m b : Nat) (cf : Value) (T : Nat) (l : List UInt8) (n : Nat) (v : Value) (e : Ending) (w' : World) : Prop :=
  e = .returned v ∧ BP w' p m b cf T false (l.drop n) ∧ Fr (BPF w p b) (BPF w' p b) w w'

theorem B_ReadByte (p m b T : Nat) (cf c : Value) (z : Bool) (u : UInt8) (l : List UInt8) (w : World) (h : BP w p m b cf T z (u :: l)) :
    Calls Tryz.prog 232 #[.pointer (some ⟨p, 0, none⟩), c] w (BV w p m b cf T (u :: l) 1 (.tuple #[.int .i8 (IntKind.i8.wrap u.toNat), .nilIface])) := by
  have c0 := h.trans
  have hme := meth_ReadByte h.mem.cell
  have H := Lib.hid h
  clear h
  go_enter Tryz.func232, Tryz.ntmps232
  go_wp2_with fail
  refine (Buf_ReadByte_some b T z u l w H.out.buf).mono ?_
  rintro e w1 ⟨rfl, hB, hF⟩
  have HX := Lib.hid (H.out.lift hB hF)
  clear hB hF
  go_wp2
  go_ret2
  exact ⟨rfl, HX.out.1, HX.out.2⟩

theorem BV.next {w w1 w2 : World} {p m b T n k : Nat} {cf v1 v2 : Value} {l : List UInt8} {e1 e2 : Ending} (h1 : BV w p m b cf T l n v1 e1 w1) (h2 : BV w1 p m b cf T (l.drop n) k v2 e2 w2) : BV w p m b cf T l (n + k) v2 e2 w2 :=
  ⟨h2.1, by rw [← List.drop_drop]; exact h2.2.1, h1.2.2.trans h2.2.2⟩

theorem i8_one (u : UInt8) : (IntKind.i8.wrap u.toNat = 1) ↔ u = 1 := by
  have h := u.toNat_lt
  rw [show IntKind.i8.wrap (u.toNat : Int) = ((u.toNat : Int) + 128) % 256 - 128 by simp [IntKind.wrap, IntKind.bits, IntKind.signed]; omega]
  constructor
  · intro e
    exact UInt8.toNat_inj.1 (by show u.toNat = 1; omega)
  · rintro rfl
    rfl

theorem B_ReadBool (p m b T : Nat) (cf c : Value) (z : Bool) (u : UInt8) (l : List UInt8) (w : World) (h : BP w p m b cf T z (u :: l)) :
    Calls Tryz.prog 231 #[.pointer (some ⟨p, 0, none⟩), c] w (BV w p m b cf T (u :: l) 1 (.tuple #[.bool (decide (u = 1)), .nilIface])) := by
  have hb := B_ReadByte p m b T cf c z u l w h
  have hu := i8_one u
  obtain ⟨x, hx⟩ : ∃ x, x = IntKind.i8.wrap u.toNat := ⟨_, rfl⟩
  rw [← hx] at hb hu
  have HB := Lib.hid hb
  clear hb h hx
  by_cases h1 : x = 1
  · obtain rfl := hu.1 h1
    subst h1
    clear hu
    go_enter Tryz.func231, Tryz.ntmps231
    go_wp2_with fail
    refine HB.out.mono ?_
    rintro e w1 hw
    obtain rfl := hw.1
    have HX := Lib.hid hw.2
    clear hw
    go_wp2
    go_ret2
    exact ⟨rfl, HX.out⟩
  · have hd : decide (u = 1) = false := decide_eq_false (fun e => h1 (hu.2 e))
    rw [hd]
    clear hu hd
    go_enter Tryz.func231, Tryz.ntmps231
    go_wp2_with fail
    refine HB.out.mono ?_
    rintro e w1 hw
    obtain rfl := hw.1
    have HX := Lib.hid hw.2
    clear hw
    go_wp2
    go_ret2
    exact ⟨rfl, HX.out⟩

theorem GetBE2 (g o : Nat) (b0 b1 : UInt8) (rest : List UInt8) (hd : List Value) (T : TypeId) (w : World) (h : Arr w g T hd (b0 :: b1 :: rest)) (ho : hd.length = o) :
    Calls Tryz.prog 278 #[.agg #[], .slice (some ⟨g, o, none⟩) 2 64] w fun e w' => e = .returned (.int .u16 (Lib.beNat [b0, b1])) ∧ ∃ q, (w.alloc (.cells #[] 366)).drewN q = w' := by
  subst ho
  have h' : Arr (w.alloc (.cells #[] 366)) g T hd (b0 :: b1 :: rest) := alloc_at h
  have d0 : (w.alloc (.cells #[] 366)).cell? ⟨g, hd.length, none⟩ = some (.int .u8 b0.toNat) := h'.cell 0 (by simp)
  have d1 : (w.alloc (.cells #[] 366)).cell? ⟨g, hd.length + 1, none⟩ = some (.int .u8 b1.toNat) := h'.cell 1 (by simp)
  have h0 : b0.toNat < 256 := b0.toNat_lt
  have h1 : b1.toNat < 256 := b1.toNat_lt
  have hv : ((Lib.beNat [b0, b1] : Nat) : Int) = (b1.toNat : Int) + (b0.toNat : Int) * 256 := by
    simp only [Lib.beNat, Lib.beFrom]
    push_cast
    omega
  have HV := Lib.hid hv
  clear hv h h'
  go_enter Tryz.func278, Tryz.ntmps278
  go_wp2
  go_quiet (fail)
  go_wp2
  go_ret
  refine ⟨?_, _, rfl⟩
  simp (disch := omega) only [u16_or8]
  rw [HV.out]
  rfl

theorem GetBE8 (g o : Nat) (b0 b1 b2 b3 b4 b5 b6 b7 : UInt8) (rest : List UInt8) (hd : List Value) (T : TypeId) (w : World) (h : Arr w g T hd (b0 :: b1 :: b2 :: b3 :: b4 :: b5 :: b6 :: b7 :: rest)) (ho : hd.length = o) :
    Calls Tryz.prog 277 #[.agg #[], .slice (some ⟨g, o, none⟩) 8 64] w fun e w' => e = .returned (.int .u64 (Lib.beNat [b0, b1, b2, b3, b4, b5, b6, b7])) ∧ ∃ q, (w.alloc (.cells #[] 366)).drewN q = w' := by
  subst ho
  have h' : Arr (w.alloc (.cells #[] 366)) g T hd (b0 :: b1 :: b2 :: b3 :: b4 :: b5 :: b6 :: b7 :: rest) := alloc_at h
  have d0 : (w.alloc (.cells #[] 366)).cell? ⟨g, hd.length, none⟩ = some (.int .u8 b0.toNat) := h'.cell 0 (by simp)
  have d1 : (w.alloc (.cells #[] 366)).cell? ⟨g, hd.length + 1, none⟩ = some (.int .u8 b1.toNat) := h'.cell 1 (by simp)
  have d2 : (w.alloc (.cells #[] 366)).cell? ⟨g, hd.length + 2, none⟩ = some (.int .u8 b2.toNat) := h'.cell 2 (by simp)
  have d3 : (w.alloc (.cells #[] 366)).cell? ⟨g, hd.length + 3, none⟩ = some (.int .u8 b3.toNat) := h'.cell 3 (by simp)
  have d4 : (w.alloc (.cells #[] 366)).cell? ⟨g, hd.length + 4, none⟩ = some (.int .u8 b4.toNat) := h'.cell 4 (by simp)
  have d5 : (w.alloc (.cells #[] 366)).cell? ⟨g, hd.length + 5, none⟩ = some (.int .u8 b5.toNat) := h'.cell 5 (by simp)
  have d6 : (w.alloc (.cells #[] 366)).cell? ⟨g, hd.length + 6, none⟩ = some (.int .u8 b6.toNat) := h'.cell 6 (by simp)
  have d7 : (w.alloc (.cells #[] 366)).cell? ⟨g, hd.length + 7, none⟩ = some (.int .u8 b7.toNat) := h'.cell 7 (by simp)
  have h0 : b0.toNat < 256 := b0.toNat_lt
  have h1 : b1.toNat < 256 := b1.toNat_lt
  have h2 : b2.toNat < 256 := b2.toNat_lt
  have h3 : b3.toNat < 256 := b3.toNat_lt
  have h4 : b4.toNat < 256 := b4.toNat_lt
  have h5 : b5.toNat < 256 := b5.toNat_lt
  have h6 : b6.toNat < 256 := b6.toNat_lt
  have h7 : b7.toNat < 256 := b7.toNat_lt
  have hv : ((Lib.beNat [b0, b1, b2, b3, b4, b5, b6, b7] : Nat) : Int) = (b7.toNat : Int) + (b6.toNat : Int) * 256 + (b5.toNat : Int) * 65536 + (b4.toNat : Int) * 16777216 + (b3.toNat : Int) * 4294967296 + (b2.toNat : Int) * 1099511627776 + (b1.toNat : Int) * 281474976710656 + (b0.toNat : Int) * 72057594037927936 := by
    simp only [Lib.beNat, Lib.beFrom]
    push_cast
    omega
  have HV := Lib.hid hv
  clear hv h h'
  go_enter Tryz.func277, Tryz.ntmps277
  go_wp2
  go_quiet (fail)
  go_wp2
  go_ret
  refine ⟨?_, _, rfl⟩
  simp (disch := omega) only [u64_or8, u64_or16, u64_or24, u64_or32, u64_or40, u64_or48, u64_or56]
  rw [HV.out]
  rfl

theorem two_of (l : List UInt8) (h : 2 ≤ l.length) : ∃ a b rest, l = a :: b :: rest := by
  match l, h with
  | a :: b :: rest, _ => exact ⟨a, b, rest, rfl⟩
theorem eight_of (l : List UInt8) (h : 8 ≤ l.length) : ∃ a b c d e f g i rest, l = a :: b :: c :: d :: e :: f :: g :: i :: rest := by
  match l, h with
  | a :: b :: c :: d :: e :: f :: g :: i :: rest, _ => exact ⟨a, b, c, d, e, f, g, i, rest, rfl⟩

theorem B_ReadI16 (p m b T : Nat) (cf : Value) (z : Bool) (l : List UInt8) (w : World) (h : BP w p m b cf T z l) (hl : 2 ≤ l.length) :
    Calls Tryz.prog 236 #[.pointer (some ⟨p, 0, none⟩), ctxV] w (BV w p m b cf T l 2 (.tuple #[.int .i16 (IntKind.i16.wrap (Lib.beNat (l.take 2))), .nilIface])) := by
  have hr := B_read p m b T 2 cf z l w h (by omega) (by omega) hl
  obtain ⟨b0, b1, rest, rfl⟩ := two_of l hl
  have H := Lib.hid hr
  clear hr h hl
  go_enter Tryz.func236, Tryz.ntmps236
  go_wp2_with fail
  refine H.out.mono ?_
  rintro e w1 ⟨rfl, hP, ⟨rs, hA⟩, hF⟩
  have hG := GetBE2 p 3 b0 b1 rs [memI m, memI m, cf] TBP w1 hA rfl
  have hfin : ∀ q, BV w p m b cf T (b0 :: b1 :: rest) 2 (.tuple #[.int .i16 (IntKind.i16.wrap (Lib.beNat [b0, b1])), .nilIface]) (.returned (.tuple #[.int .i16 (IntKind.i16.wrap (Lib.beNat [b0, b1])), .nilIface])) ((w1.alloc (.cells #[] 366)).drewN q) := fun q =>
    ⟨rfl, (hP.alloc _).1.drewN q, hF.trans ((hP.alloc _).2.drewN q)⟩
  have HG := Lib.hid hG
  have HF := Lib.hid hfin
  clear hP hA hF hG hfin
  go_wp2_with (go_at_call 278; refine HG.out.mono ?_; rintro e w2 ⟨rfl, q, rfl⟩)
  go_ret2
  exact HF.out q

abbrev i64of (n : Nat) : Value := .int .i64 (wrap64 n)
abbrev f64of (n : Nat) : Value := .float .f64 n
theorem B_ReadI64 (p m b T : Nat) (cf : Value) (z : Bool) (l : List UInt8) (w : World) (h : BP w p m b cf T z l) (hl : 8 ≤ l.length) :
    Calls Tryz.prog 238 #[.pointer (some ⟨p, 0, none⟩), ctxV] w (BV w p m b cf T l 8 (.tuple #[i64of (Lib.beNat (l.take 8)), .nilIface])) := by
  have hr := B_read p m b T 8 cf z l w h (by omega) (by omega) hl
  have hfr := run_f64from
  obtain ⟨b0, b1, b2, b3, b4, b5, b6, b7, rest, rfl⟩ := eight_of l hl
  have H := Lib.hid hr
  clear hr h hl
  go_enter Tryz.func238, Tryz.ntmps238
  go_wp2_with fail
  refine H.out.mono ?_
  rintro e w1 ⟨rfl, hP, ⟨rs, hA⟩, hF⟩
  have hG := GetBE8 p 3 b0 b1 b2 b3 b4 b5 b6 b7 rs [memI m, memI m, cf] TBP w1 hA rfl
  have hfin : ∀ q, BV w p m b cf T (b0 :: b1 :: b2 :: b3 :: b4 :: b5 :: b6 :: b7 :: rest) 8 (.tuple #[i64of (Lib.beNat [b0, b1, b2, b3, b4, b5, b6, b7]), .nilIface]) (.returned (.tuple #[i64of (Lib.beNat [b0, b1, b2, b3, b4, b5, b6, b7]), .nilIface])) ((w1.alloc (.cells #[] 366)).drewN q) := fun q =>
    ⟨rfl, (hP.alloc _).1.drewN q, hF.trans ((hP.alloc _).2.drewN q)⟩
  have HG := Lib.hid hG
  have HF := Lib.hid hfin
  clear hP hA hF hG hfin
  go_wp2_with (go_at_call 277; refine HG.out.mono ?_; rintro e w2 ⟨rfl, q, rfl⟩)
  go_ret2
  exact HF.out q
theorem B_ReadDouble (p m b T : Nat) (cf : Value) (z : Bool) (l : List UInt8) (w : World) (h : BP w p m b cf T z l) (hl : 8 ≤ l.length) :
    Calls Tryz.prog 233 #[.pointer (some ⟨p, 0, none⟩), ctxV] w (BV w p m b cf T l 8 (.tuple #[f64of (Lib.beNat (l.take 8)), .nilIface])) := by
  have hr := B_read p m b T 8 cf z l w h (by omega) (by omega) hl
  have hfr := run_f64from
  obtain ⟨b0, b1, b2, b3, b4, b5, b6, b7, rest, rfl⟩ := eight_of l hl
  have H := Lib.hid hr
  clear hr h hl
  go_enter Tryz.func233, Tryz.ntmps233
  go_wp2_with fail
  refine H.out.mono ?_
  rintro e w1 ⟨rfl, hP, ⟨rs, hA⟩, hF⟩
  have hG := GetBE8 p 3 b0 b1 b2 b3 b4 b5 b6 b7 rs [memI m, memI m, cf] TBP w1 hA rfl
  have hfin : ∀ q, BV w p m b cf T (b0 :: b1 :: b2 :: b3 :: b4 :: b5 :: b6 :: b7 :: rest) 8 (.tuple #[f64of (Lib.beNat [b0, b1, b2, b3, b4, b5, b6, b7]), .nilIface]) (.returned (.tuple #[f64of (Lib.beNat [b0, b1, b2, b3, b4, b5, b6, b7]), .nilIface])) ((w1.alloc (.cells #[] 366)).drewN q) := fun q =>
    ⟨rfl, (hP.alloc _).1.drewN q, hF.trans ((hP.alloc _).2.drewN q)⟩
  have HG := Lib.hid hG
  have HF := Lib.hid hfin
  clear hP hA hF hG hfin
  go_wp2_with (go_at_call 277; refine HG.out.mono ?_; rintro e w2 ⟨rfl, q, rfl⟩)
  go_ret2
  exact HF.out q

theorem B_ReadMessageEnd (p : Value) (c : Value) (w : World) : Calls Tryz.prog 244 #[p, c] w fun e w' => e = .returned .nilIface ∧ w = w' := by
  go_enter Tryz.func244, Tryz.ntmps244
  go_wp2
  go_ret
  exact ⟨rfl, rfl⟩
theorem B_ReadStructEnd (p : Value) (c : Value) (w : World) : Calls Tryz.prog 249 #[p, c] w fun e w' => e = .returned .nilIface ∧ w = w' := by
  go_enter Tryz.func249, Tryz.ntmps249
  go_wp2
  go_ret
  exact ⟨rfl, rfl⟩
theorem B_ReadFieldEnd (p : Value) (c : Value) (w : World) : Calls Tryz.prog 235 #[p, c] w fun e w' => e = .returned .nilIface ∧ w = w' := by
  go_enter Tryz.func235, Tryz.ntmps235
  go_wp2
  go_ret
  exact ⟨rfl, rfl⟩
theorem B_ReadMapEnd (p : Value) (c : Value) (w : World) : Calls Tryz.prog 242 #[p, c] w fun e w' => e = .returned .nilIface ∧ w = w' := by
  go_enter Tryz.func242, Tryz.ntmps242
  go_wp2
  go_ret
  exact ⟨rfl, rfl⟩
theorem B_ReadListEnd (p : Value) (c : Value) (w : World) : Calls Tryz.prog 240 #[p, c] w fun e w' => e = .returned .nilIface ∧ w = w' := by
  go_enter Tryz.func240, Tryz.ntmps240
  go_wp2
  go_ret
  exact ⟨rfl, rfl⟩
theorem B_ReadSetEnd (p : Value) (c : Value) (w : World) : Calls Tryz.prog 246 #[p, c] w fun e w' => e = .returned .nilIface ∧ w = w' := by
  go_enter Tryz.func246, Tryz.ntmps246
  go_wp2
  go_ret
  exact ⟨rfl, rfl⟩
theorem B_ReadStructBegin (p : Value) (c : Value) (w : World) : Calls Tryz.prog 248 #[p, c] w fun e w' => e = .returned (.tuple #[.string ⟨#[]⟩, .nilIface]) ∧ w = w' := by
  go_enter Tryz.func248, Tryz.ntmps248
  go_wp2
  go_ret2
  exact ⟨rfl, rfl⟩

/-- The begin of a field, and the stop of fields. -/
theorem B_ReadFieldBegin (p m b T : Nat) (cf : Value) (z : Bool) (u : UInt8) (l : List UInt8) (w : World) (h : BP w p m b cf T z (u :: l)) (hu : u ≠ 0) (hl : 2 ≤ l.length) :
    Calls Tryz.prog 234 #[.pointer (some ⟨p, 0, none⟩), ctxV] w (BV w p m b cf T (u :: l) 3 (.tuple #[.string ⟨#[]⟩, .int .u8 u.toNat, .int .i16 (IntKind.i16.wrap (Lib.beNat (l.take 2))), .nilIface])) := by
  have hb := B_ReadByte p m b T cf ctxV z u l w h
  have h16 : ∀ w1, BP w1 p m b cf T false l → Calls Tryz.prog 236 #[.pointer (some ⟨p, 0, none⟩), ctxV] w1 (BV w1 p m b cf T l 2 (.tuple #[.int .i16 (IntKind.i16.wrap (Lib.beNat (l.take 2))), .nilIface])) := fun w1 h1 => B_ReadI16 p m b T cf false l w1 h1 hl
  have h0 : IntKind.i8.wrap u.toNat ≠ 0 := fun e => hu (UInt8.toNat_inj.1 (by
    have := u.toNat_lt
    rw [show IntKind.i8.wrap (u.toNat : Int) = ((u.toNat : Int) + 128) % 256 - 128 by simp [IntKind.wrap, IntKind.bits, IntKind.signed]; omega] at e
    show u.toNat = 0
    omega))
  have h8 : IntKind.i8.wrap u.toNat % 256 = (u.toNat : Int) := by
    have := u.toNat_lt
    rw [show IntKind.i8.wrap (u.toNat : Int) = ((u.toNat : Int) + 128) % 256 - 128 by simp [IntKind.wrap, IntKind.bits, IntKind.signed]; omega]
    omega
  obtain ⟨x, hx⟩ : ∃ x, x = IntKind.i8.wrap u.toNat := ⟨_, rfl⟩
  rw [← hx] at hb h0 h8
  have HB := Lib.hid hb
  have HI := Lib.hid h16
  have H8 := Lib.hid h8
  have h0' : ¬ x = 0 := h0
  clear hb h h16 hx hu h0 h8
  go_enter Tryz.func234, Tryz.ntmps234
  go_wp2_with fail
  refine HB.out.mono ?_
  rintro e w1 hw
  obtain rfl := hw.1
  have H1 := Lib.hid hw
  clear hw
  go_wp2_with fail
  refine (HI.out w1 H1.out.2.1).mono ?_
  rintro e w2 hw
  obtain rfl := hw.1
  have H2 := Lib.hid (H1.out.next hw)
  clear hw
  go_wp2
  refine bodyPost_ret (v := .tuple #[.string ⟨#[]⟩, .int .u8 (x % 256), .int .i16 (IntKind.i16.wrap (Lib.beNat (l.take 2))), .nilIface]) ?_ rfl ⟨by rw [H8.out], H2.out.2⟩
  simp [results, Tryz.results234, go_sem]
theorem B_ReadFieldStop (p m b T : Nat) (cf : Value) (z : Bool) (l : List UInt8) (w : World) (h : BP w p m b cf T z (0 :: l)) :
    Calls Tryz.prog 234 #[.pointer (some ⟨p, 0, none⟩), ctxV] w (BV w p m b cf T (0 :: l) 1 (.tuple #[.string ⟨#[]⟩, .int .u8 0, .int .i16 0, .nilIface])) := by
  have hb := B_ReadByte p m b T cf ctxV z 0 l w h
  rw [show IntKind.i8.wrap ((0 : UInt8).toNat : Int) = 0 by decide] at hb
  have HB := Lib.hid hb
  clear hb h
  go_enter Tryz.func234, Tryz.ntmps234
  go_wp2_with fail
  refine HB.out.mono ?_
  rintro e w1 hw
  obtain rfl := hw.1
  have H1 := Lib.hid hw.2
  clear hw
  go_wp2
  refine bodyPost_ret (v := .tuple #[.string ⟨#[]⟩, .int .u8 0, .int .i16 0, .nilIface]) ?_ rfl ⟨rfl, H1.out⟩
  simp [results, Tryz.results234, go_sem]
end Go.Proofs.YtkfkieebcahiiaaGreatDoor
namespace Go.Proofs.YtkfkieebcahiiaaGreatDoor
open Go Go.RowKit
set_option maxHeartbeats 2000000
set_option maxRecDepth 100000

theorem M_Remaining (m b T : Nat) (z : Bool) (l : List UInt8) (w : World) (hm : w.cell? ⟨m, 0, none⟩ = some (.pointer (some ⟨b, 0, none⟩))) (h : Buf w b T z l) (hl : l.length ≤ LIM) :
    Calls Tryz.prog 342 #[.pointer (some ⟨m, 0, none⟩)] w fun e w' => e = .returned (.int .u64 (l.length : Nat)) ∧ ∃ q, w.drewN q = w' := by
  have HL := Lib.hid (Buf_Len b T z l w h)
  have hx : ((l.length : Nat) : Int) % 18446744073709551616 = (l.length : Nat) := by unfold LIM at hl; omega
  obtain ⟨n, hn⟩ : ∃ n : Nat, n = l.length := ⟨_, rfl⟩
  rw [← hn] at hx HL ⊢
  clear h hl hn
  go_enter Tryz.func342, Tryz.ntmps342
  go_wp2_with (go_at_call 64; refine HL.out.mono ?_; rintro e w' ⟨rfl, q, rfl⟩)
  go_ret
  exact ⟨rfl, q, rfl⟩

/-- The least number of bytes of a value. -/
def minB (t : Int) : Int := if t = 4 ∨ t = 10 then 8 else if t = 6 then 2 else if t = 8 ∨ t = 11 ∨ t = 13 ∨ t = 14 ∨ t = 15 then 4 else if t = 16 then 16 else 1
theorem B_min2 (p : Value) (w : World) : Calls Tryz.prog 280 #[p, .int .u8 2] w fun e w' => e = .returned (.int .i32 (minB 2)) ∧ w = w' := by
  go_enter Tryz.func280, Tryz.ntmps280
  go_wp2
  go_ret
  exact ⟨rfl, rfl⟩
theorem B_min3 (p : Value) (w : World) : Calls Tryz.prog 280 #[p, .int .u8 3] w fun e w' => e = .returned (.int .i32 (minB 3)) ∧ w = w' := by
  go_enter Tryz.func280, Tryz.ntmps280
  go_wp2
  go_ret
  exact ⟨rfl, rfl⟩
theorem B_min4 (p : Value) (w : World) : Calls Tryz.prog 280 #[p, .int .u8 4] w fun e w' => e = .returned (.int .i32 (minB 4)) ∧ w = w' := by
  go_enter Tryz.func280, Tryz.ntmps280
  go_wp2
  go_ret
  exact ⟨rfl, rfl⟩
theorem B_min6 (p : Value) (w : World) : Calls Tryz.prog 280 #[p, .int .u8 6] w fun e w' => e = .returned (.int .i32 (minB 6)) ∧ w = w' := by
  go_enter Tryz.func280, Tryz.ntmps280
  go_wp2
  go_ret
  exact ⟨rfl, rfl⟩
theorem B_min8 (p : Value) (w : World) : Calls Tryz.prog 280 #[p, .int .u8 8] w fun e w' => e = .returned (.int .i32 (minB 8)) ∧ w = w' := by
  go_enter Tryz.func280, Tryz.ntmps280
  go_wp2
  go_ret
  exact ⟨rfl, rfl⟩
theorem B_min10 (p : Value) (w : World) : Calls Tryz.prog 280 #[p, .int .u8 10] w fun e w' => e = .returned (.int .i32 (minB 10)) ∧ w = w' := by
  go_enter Tryz.func280, Tryz.ntmps280
  go_wp2
  go_ret
  exact ⟨rfl, rfl⟩
theorem B_min11 (p : Value) (w : World) : Calls Tryz.prog 280 #[p, .int .u8 11] w fun e w' => e = .returned (.int .i32 (minB 11)) ∧ w = w' := by
  go_enter Tryz.func280, Tryz.ntmps280
  go_wp2
  go_ret
  exact ⟨rfl, rfl⟩
theorem B_min12 (p : Value) (w : World) : Calls Tryz.prog 280 #[p, .int .u8 12] w fun e w' => e = .returned (.int .i32 (minB 12)) ∧ w = w' := by
  go_enter Tryz.func280, Tryz.ntmps280
  go_wp2
  go_ret
  exact ⟨rfl, rfl⟩
theorem B_min13 (p : Value) (w : World) : Calls Tryz.prog 280 #[p, .int .u8 13] w fun e w' => e = .returned (.int .i32 (minB 13)) ∧ w = w' := by
  go_enter Tryz.func280, Tryz.ntmps280
  go_wp2
  go_ret
  exact ⟨rfl, rfl⟩
theorem B_min14 (p : Value) (w : World) : Calls Tryz.prog 280 #[p, .int .u8 14] w fun e w' => e = .returned (.int .i32 (minB 14)) ∧ w = w' := by
  go_enter Tryz.func280, Tryz.ntmps280
  go_wp2
  go_ret
  exact ⟨rfl, rfl⟩
theorem B_min15 (p : Value) (w : World) : Calls Tryz.prog 280 #[p, .int .u8 15] w fun e w' => e = .returned (.int .i32 (minB 15)) ∧ w = w' := by
  go_enter Tryz.func280, Tryz.ntmps280
  go_wp2
  go_ret
  exact ⟨rfl, rfl⟩
theorem B_min16 (p : Value) (w : World) : Calls Tryz.prog 280 #[p, .int .u8 16] w fun e w' => e = .returned (.int .i32 (minB 16)) ∧ w = w' := by
  go_enter Tryz.func280, Tryz.ntmps280
  go_wp2
  go_ret
  exact ⟨rfl, rfl⟩
def isTy (t : Int) : Prop := t = 2 ∨ t = 3 ∨ t = 4 ∨ t = 6 ∨ t = 8 ∨ t = 10 ∨ t = 11 ∨ t = 12 ∨ t = 13 ∨ t = 14 ∨ t = 15 ∨ t = 16
theorem B_min (p : Value) (t : Int) (ht : isTy t) (w : World) : Calls Tryz.prog 280 #[p, .int .u8 t] w fun e w' => e = .returned (.int .i32 (minB t)) ∧ w = w' := by
  rcases ht with rfl | rfl | rfl | rfl | rfl | rfl | rfl | rfl | rfl | rfl | rfl | rfl
  · exact B_min2 p w
  · exact B_min3 p w
  · exact B_min4 p w
  · exact B_min6 p w
  · exact B_min8 p w
  · exact B_min10 p w
  · exact B_min11 p w
  · exact B_min12 p w
  · exact B_min13 p w
  · exact B_min14 p w
  · exact B_min15 p w
  · exact B_min16 p w
theorem minB_bounds (t : Int) : 1 ≤ minB t ∧ minB t ≤ 16 := by
  unfold minB
  (repeat' split) <;> omega

theorem T_checkSize (cf : Value) (c : ConfV) (n : Int) (w : World) (h : Cfg w cf c) (h0 : 0 ≤ n) (h1 : n ≤ c.maxMsg) :
    Calls Tryz.prog 202 #[.int .i32 n, cf] w fun e w' => e = .returned .nilIface ∧ w = w' := by
  have HM := Lib.hid (Cf_msg cf c w h)
  obtain ⟨M, hM⟩ : ∃ M, M = c.maxMsg := ⟨_, rfl⟩
  rw [← hM] at HM h1
  have q0 : ¬ n < 0 := by omega
  have q1 : ¬ M < n := by omega
  clear h hM h0 h1
  go_enter Tryz.func202, Tryz.ntmps202
  go_wp2_with (go_at_call 220; refine HM.out.mono ?_; rintro e w' ⟨rfl, rfl⟩)
  go_ret
  exact ⟨rfl, rfl⟩

theorem T_checkC (cf : Value) (c : ConfV) (n m r : Nat) (w : World) (h : Cfg w cf c) (h1 : n * m ≤ r) (h2 : (n : Int) ≤ c.maxCon) (h3 : ((n * m : Nat) : Int) ≤ c.maxMsg) (h4 : n * m ≤ 2147483647) (hm : 1 ≤ m ∧ m ≤ 32) (hr : r ≤ LIM) (hM : c.maxCon ≤ 2147483647) :
    Calls Tryz.prog 211 #[.int .i64 n, .int .i32 m, .int .u64 r, cf] w fun e w' => e = .returned .nilIface ∧ w = w' := by
  have HM := Lib.hid (Cf_con cf c w h)
  obtain ⟨M, hMd⟩ : ∃ M, M = c.maxCon := ⟨_, rfl⟩
  rw [← hMd] at HM h2 hM
  have hn : n ≤ n * m := Nat.le_mul_of_pos_right n hm.1
  obtain ⟨P, hP⟩ : ∃ P : Nat, P = n * m := ⟨_, rfl⟩
  rw [← hP] at h1 h3 h4 hn
  have HS := Lib.hid (T_checkSize cf c P w h (by omega) h3)
  have hprod : (n : Int) * (m : Int) = (P : Int) := by rw [hP]; push_cast; rfl
  unfold LIM at hr
  have q0 : ¬ (n : Int) < 0 := by omega
  have q1 : ¬ (2147483647 : Int) < (n : Int) := by omega
  have q2 : ¬ M < (n : Int) := by omega
  have q3 : (P : Int) ≤ 2147483647 := by omega
  have q4 : (0 : Int) ≤ (P : Int) := by omega
  have q5 : ((r : Int) != 18446744073709551615) = true := by simp; omega
  have q9 : (r : Int) ≤ 17592186044416 := by omega
  have q10 : 0 ≤ M := by omega
  have q11 : (m : Int) ≤ 32 := by omega
  have q12 : (0 : Int) ≤ (m : Int) := by omega
  have q6 : ¬ (r : Int) < (P : Int) := by omega
  have q7 : (P : Int) % 18446744073709551616 = (P : Int) := by omega
  have q8 : ¬ (2147483647 : Int) < (P : Int) := by omega
  clear h hMd h1 h2 h3 h4 hn hP hm hr
  go_enter Tryz.func211, Tryz.ntmps211
  go_wp2_with fail
  refine HM.out.mono ?_
  rintro e w' ⟨rfl, rfl⟩
  go_wp2_with fail
  refine HS.out.mono ?_
  rintro e w' ⟨rfl, rfl⟩
  go_wp2
  go_ret
  exact ⟨rfl, rfl⟩
end Go.Proofs.YtkfkieebcahiiaaGreatDoor
namespace Go.Proofs.YtkfkieebcahiiaaGreatDoor
open Go Go.RowKit
set_option maxHeartbeats 400000
set_option maxRecDepth 100000

/-- The configuration stands while a protocol works. -/
theorem Cfg.bp {w w' : World} {cf v : Value} {c : ConfV} {p m b T : Nat} {z : Bool} {l : List UInt8} (h : Cfg w v c) (hp : BP w p m b cf T z l) {F' : Nat → Prop} (hf : Fr (BPF w p b) F' w w') : Cfg w' v c :=
  h.keep hf fun k cs t hk ht => hp.notin hk (by rcases ht with rfl | rfl <;> decide) (by rcases ht with rfl | rfl <;> decide) (by rcases ht with rfl | rfl <;> decide)

theorem i8_u8 (u : UInt8) : IntKind.i8.wrap u.toNat % 256 = (u.toNat : Int) := by
  have := u.toNat_lt
  rw [show IntKind.i8.wrap (u.toNat : Int) = ((u.toNat : Int) + 128) % 256 - 128 by simp [IntKind.wrap, IntKind.bits, IntKind.signed]; omega]
  omega

theorem B_ReadListBegin (p m b T : Nat) (cf : Value) (c : ConfV) (z : Bool) (u : UInt8) (l : List UInt8) (n k : Nat) (w : World) (h : BP w p m b cf T z (u :: l)) (hc : Cfg w cf c) (hl : 4 ≤ l.length) (hn : wrap32 (Lib.beNat (l.take 4)) = n) (hu : isTy u.toNat) (hk : minB u.toNat = k)
    (hfit : n * k ≤ (l.drop 4).length) (h2 : (n : Int) ≤ c.maxCon) (h3 : ((n * k : Nat) : Int) ≤ c.maxMsg) (h4 : n * k ≤ 2147483647) (hll : l.length ≤ LIM) (hM : c.maxCon ≤ 2147483647) :
    Calls Tryz.prog 239 #[.pointer (some ⟨p, 0, none⟩), ctxV] w (BV w p m b cf T (u :: l) 5 (.tuple #[.int .u8 u.toNat, .int .i64 n, .nilIface])) := by
  have hkb := minB_bounds u.toNat
  have h1 := B_ReadByte p m b T cf ctxV z u l w h
  have h32 : ∀ w1, BP w1 p m b cf T false l → Calls Tryz.prog 237 #[.pointer (some ⟨p, 0, none⟩), ctxV] w1 (BV w1 p m b cf T l 4 (.tuple #[.int .i32 n, .nilIface])) := fun w1 hw1 => by
    have := B_ReadI32 p m b T cf false l w1 hw1 hl
    rw [hn] at this
    exact this
  have hmin : ∀ w1, Calls Tryz.prog 280 #[.pointer (some ⟨p, 0, none⟩), .int .u8 u.toNat] w1 fun e w' => e = .returned (.int .i32 k) ∧ w1 = w' := fun w1 => by
    have := B_min (.pointer (some ⟨p, 0, none⟩)) u.toNat hu w1
    rw [hk] at this
    exact this
  have h8 := i8_u8 u
  have hrest : ∀ w2 e v, BV w p m b cf T (u :: l) 5 v e w2 → Calls Tryz.prog 342 #[.pointer (some ⟨m, 0, none⟩)] w2.drew (fun e w3 => e = .returned (.int .u64 ((l.drop 4).length : Nat)) ∧ (w3.cell? ⟨p, 0, none⟩ = some (memI m) ∧ w3.cell? ⟨p, 2, none⟩ = some cf) ∧
      Calls Tryz.prog 211 #[.int .i64 n, .int .i32 k, .int .u64 ((l.drop 4).length : Nat), cf] w3 (fun e w4 => e = .returned .nilIface ∧ (w4.cell? ⟨p, 0, none⟩ = some (memI m) ∧ w4.cell? ⟨p, 2, none⟩ = some cf) ∧ BV w p m b cf T (u :: l) 5 v (.returned v) w4)) := fun w2 e v hw => by
    refine (M_Remaining m b T false ((u :: l).drop 5) w2.drew hw.2.1.mem.cell hw.2.1.drew.buf (by simp; omega)).mono ?_
    rintro e w3 ⟨rfl, q, rfl⟩
    have hc2 : (w2.drew.drewN q).cell? ⟨p, 0, none⟩ = some (memI m) ∧ (w2.drew.drewN q).cell? ⟨p, 2, none⟩ = some cf := ⟨hw.2.1.trans, by obtain ⟨bf, _, ha⟩ := hw.2.1.arr; exact ha.head 2 _ rfl⟩
    refine ⟨rfl, hc2, (T_checkC cf c n k _ _ (hc.bp h (hw.2.2.drew.drewN q)) hfit h2 h3 h4 (by omega) (by simp; omega) hM).mono ?_⟩
    rintro e w4 ⟨rfl, rfl⟩
    exact ⟨rfl, hc2, rfl, hw.2.1.drew.drewN q, hw.2.2.drew.drewN q⟩
  have hn1 : (n : Int) ≤ 2147483647 := by have : n ≤ n * k := Nat.le_mul_of_pos_right n (by omega); omega
  have hn0 : (0 : Int) ≤ (n : Int) := by omega
  have hwn : IntKind.i64.wrap (n : Int) = (n : Int) := by simp [IntKind.wrap, IntKind.bits, IntKind.signed]; omega
  obtain ⟨R, hRR⟩ : ∃ R, R = (l.drop 4).length := ⟨_, rfl⟩
  rw [← hRR] at hrest
  clear hRR
  obtain ⟨x, hx⟩ : ∃ x, x = IntKind.i8.wrap u.toNat := ⟨_, rfl⟩
  rw [← hx] at h1 h8
  simp only [← h8] at hmin
  have hme := fun (a : Addr) => meth_Remaining a
  have HB := Lib.hid h1
  have HI := Lib.hid h32
  have HM := Lib.hid hmin
  have HR := Lib.hid hrest
  have H8 := Lib.hid h8
  clear h1 h32 hmin hrest h8 h hc hl hn hu hk hfit h2 h3 h4 hll hx hkb
  go_enter Tryz.func239, Tryz.ntmps239
  go_wp2_with fail
  refine HB.out.mono ?_
  rintro e w1 hw
  obtain rfl := hw.1
  have H1 := Lib.hid hw
  clear hw
  go_wp2_with fail
  refine (HI.out w1 H1.out.2.1).mono ?_
  rintro e w2 hw
  obtain rfl := hw.1
  have H2 := Lib.hid (H1.out.next hw)
  have c0 : w2.cell? ⟨p, 0, none⟩ = some (memI m) := hw.2.1.trans
  have c2 : w2.cell? ⟨p, 2, none⟩ = some cf := by obtain ⟨bf, _, ha⟩ := hw.2.1.arr; exact ha.head 2 _ rfl
  have cS : w2.drew.cell? ⟨p, 0, none⟩ = some (memI m) ∧ w2.drew.cell? ⟨p, 2, none⟩ = some cf := ⟨c0, c2⟩
  clear hw
  go_wp2_with (go_at_call 280; refine (HM.out _).mono ?_; rintro e w' ⟨rfl, rfl⟩)
  have HN := Lib.hid (HR.out w2 _ (.tuple #[.int .u8 u.toNat, .int .i64 n, .nilIface]) ⟨rfl, H2.out.2⟩)
  clear c0 c2
  go_region_held3 (fun w' => w'.cell? ⟨p, 0, none⟩ = some (memI m) ∧ w'.cell? ⟨p, 2, none⟩ = some cf) (first | exact cS | exact dS | exact eS) (first | (go_at_call 342; refine HN.out.mono ?_; rintro e w3 ⟨rfl, dS, hcall⟩; have HC := Lib.hid hcall; clear hcall) | (go_at_call 211; ((with_reducible refine HC.out.mono ?_); rintro e w4 ⟨rfl, eS, hfin⟩; have HZ := Lib.hid hfin; clear hfin)))
  all_goals go_wp2
  all_goals go_ret3
  all_goals exact ⟨by rw [H8.out]; rfl, HZ.out.2⟩


theorem B_ReadSetBegin (p m b T : Nat) (cf : Value) (c : ConfV) (z : Bool) (u : UInt8) (l : List UInt8) (n k : Nat) (w : World) (h : BP w p m b cf T z (u :: l)) (hc : Cfg w cf c) (hl : 4 ≤ l.length) (hn : wrap32 (Lib.beNat (l.take 4)) = n) (hu : isTy u.toNat) (hk : minB u.toNat = k)
    (hfit : n * k ≤ (l.drop 4).length) (h2 : (n : Int) ≤ c.maxCon) (h3 : ((n * k : Nat) : Int) ≤ c.maxMsg) (h4 : n * k ≤ 2147483647) (hll : l.length ≤ LIM) (hM : c.maxCon ≤ 2147483647) :
    Calls Tryz.prog 245 #[.pointer (some ⟨p, 0, none⟩), ctxV] w (BV w p m b cf T (u :: l) 5 (.tuple #[.int .u8 u.toNat, .int .i64 n, .nilIface])) := by
  have hkb := minB_bounds u.toNat
  have h1 := B_ReadByte p m b T cf ctxV z u l w h
  have h32 : ∀ w1, BP w1 p m b cf T false l → Calls Tryz.prog 237 #[.pointer (some ⟨p, 0, none⟩), ctxV] w1 (BV w1 p m b cf T l 4 (.tuple #[.int .i32 n, .nilIface])) := fun w1 hw1 => by
    have := B_ReadI32 p m b T cf false l w1 hw1 hl
    rw [hn] at this
    exact this
  have hmin : ∀ w1, Calls Tryz.prog 280 #[.pointer (some ⟨p, 0, none⟩), .int .u8 u.toNat] w1 fun e w' => e = .returned (.int .i32 k) ∧ w1 = w' := fun w1 => by
    have := B_min (.pointer (some ⟨p, 0, none⟩)) u.toNat hu w1
    rw [hk] at this
    exact this
  have h8 := i8_u8 u
  have hrest : ∀ w2 e v, BV w p m b cf T (u :: l) 5 v e w2 → Calls Tryz.prog 342 #[.pointer (some ⟨m, 0, none⟩)] w2.drew (fun e w3 => e = .returned (.int .u64 ((l.drop 4).length : Nat)) ∧ (w3.cell? ⟨p, 0, none⟩ = some (memI m) ∧ w3.cell? ⟨p, 2, none⟩ = some cf) ∧
      Calls Tryz.prog 211 #[.int .i64 n, .int .i32 k, .int .u64 ((l.drop 4).length : Nat), cf] w3 (fun e w4 => e = .returned .nilIface ∧ (w4.cell? ⟨p, 0, none⟩ = some (memI m) ∧ w4.cell? ⟨p, 2, none⟩ = some cf) ∧ BV w p m b cf T (u :: l) 5 v (.returned v) w4)) := fun w2 e v hw => by
    refine (M_Remaining m b T false ((u :: l).drop 5) w2.drew hw.2.1.mem.cell hw.2.1.drew.buf (by simp; omega)).mono ?_
    rintro e w3 ⟨rfl, q, rfl⟩
    have hc2 : (w2.drew.drewN q).cell? ⟨p, 0, none⟩ = some (memI m) ∧ (w2.drew.drewN q).cell? ⟨p, 2, none⟩ = some cf := ⟨hw.2.1.trans, by obtain ⟨bf, _, ha⟩ := hw.2.1.arr; exact ha.head 2 _ rfl⟩
    refine ⟨rfl, hc2, (T_checkC cf c n k _ _ (hc.bp h (hw.2.2.drew.drewN q)) hfit h2 h3 h4 (by omega) (by simp; omega) hM).mono ?_⟩
    rintro e w4 ⟨rfl, rfl⟩
    exact ⟨rfl, hc2, rfl, hw.2.1.drew.drewN q, hw.2.2.drew.drewN q⟩
  have hn1 : (n : Int) ≤ 2147483647 := by have : n ≤ n * k := Nat.le_mul_of_pos_right n (by omega); omega
  have hn0 : (0 : Int) ≤ (n : Int) := by omega
  have hwn : IntKind.i64.wrap (n : Int) = (n : Int) := by simp [IntKind.wrap, IntKind.bits, IntKind.signed]; omega
  obtain ⟨R, hRR⟩ : ∃ R, R = (l.drop 4).length := ⟨_, rfl⟩
  rw [← hRR] at hrest
  clear hRR
  obtain ⟨x, hx⟩ : ∃ x, x = IntKind.i8.wrap u.toNat := ⟨_, rfl⟩
  rw [← hx] at h1 h8
  simp only [← h8] at hmin
  have hme := fun (a : Addr) => meth_Remaining a
  have HB := Lib.hid h1
  have HI := Lib.hid h32
  have HM := Lib.hid hmin
  have HR := Lib.hid hrest
  have H8 := Lib.hid h8
  clear h1 h32 hmin hrest h8 h hc hl hn hu hk hfit h2 h3 h4 hll hx hkb
  go_enter Tryz.func245, Tryz.ntmps245
  go_wp2_with fail
  refine HB.out.mono ?_
  rintro e w1 hw
  obtain rfl := hw.1
  have H1 := Lib.hid hw
  clear hw
  go_wp2_with fail
  refine (HI.out w1 H1.out.2.1).mono ?_
  rintro e w2 hw
  obtain rfl := hw.1
  have H2 := Lib.hid (H1.out.next hw)
  have c0 : w2.cell? ⟨p, 0, none⟩ = some (memI m) := hw.2.1.trans
  have c2 : w2.cell? ⟨p, 2, none⟩ = some cf := by obtain ⟨bf, _, ha⟩ := hw.2.1.arr; exact ha.head 2 _ rfl
  have cS : w2.drew.cell? ⟨p, 0, none⟩ = some (memI m) ∧ w2.drew.cell? ⟨p, 2, none⟩ = some cf := ⟨c0, c2⟩
  clear hw
  go_wp2_with (go_at_call 280; refine (HM.out _).mono ?_; rintro e w' ⟨rfl, rfl⟩)
  have HN := Lib.hid (HR.out w2 _ (.tuple #[.int .u8 u.toNat, .int .i64 n, .nilIface]) ⟨rfl, H2.out.2⟩)
  clear c0 c2
  go_region_held3 (fun w' => w'.cell? ⟨p, 0, none⟩ = some (memI m) ∧ w'.cell? ⟨p, 2, none⟩ = some cf) (first | exact cS | exact dS | exact eS) (first | (go_at_call 342; refine HN.out.mono ?_; rintro e w3 ⟨rfl, dS, hcall⟩; have HC := Lib.hid hcall; clear hcall) | (go_at_call 211; ((with_reducible refine HC.out.mono ?_); rintro e w4 ⟨rfl, eS, hfin⟩; have HZ := Lib.hid hfin; clear hfin)))
  all_goals go_wp2
  all_goals go_ret3
  all_goals exact ⟨by rw [H8.out]; rfl, HZ.out.2⟩



theorem B_ReadMapBegin (p m b T : Nat) (cf : Value) (c : ConfV) (z : Bool) (u1 u : UInt8) (l : List UInt8) (n k1 k2 : Nat) (w : World) (h : BP w p m b cf T z (u1 :: u :: l)) (hc : Cfg w cf c) (hl : 4 ≤ l.length) (hn : wrap32 (Lib.beNat (l.take 4)) = n) (hu1 : isTy u1.toNat) (hu : isTy u.toNat) (hk1 : minB u1.toNat = k1) (hk2 : minB u.toNat = k2)
    (hfit : n * (k1 + k2) ≤ (l.drop 4).length) (h2 : (n : Int) ≤ c.maxCon) (h3 : ((n * (k1 + k2) : Nat) : Int) ≤ c.maxMsg) (h4 : n * (k1 + k2) ≤ 2147483647) (hll : l.length ≤ LIM) (hM : c.maxCon ≤ 2147483647) :
    Calls Tryz.prog 241 #[.pointer (some ⟨p, 0, none⟩), ctxV] w (BV w p m b cf T (u1 :: u :: l) 6 (.tuple #[.int .u8 u1.toNat, .int .u8 u.toNat, .int .i64 n, .nilIface])) := by
  have hkb := minB_bounds u.toNat
  have hkb1 := minB_bounds u1.toNat
  obtain ⟨k, hkk⟩ : ∃ k, k = k1 + k2 := ⟨_, rfl⟩
  rw [← hkk] at hfit h3 h4
  have h1 := B_ReadByte p m b T cf ctxV z u1 (u :: l) w h
  have h1' : ∀ w1, BP w1 p m b cf T false (u :: l) → Calls Tryz.prog 232 #[.pointer (some ⟨p, 0, none⟩), ctxV] w1 (BV w1 p m b cf T (u :: l) 1 (.tuple #[.int .i8 (IntKind.i8.wrap u.toNat), .nilIface])) := fun w1 hw1 => B_ReadByte p m b T cf ctxV false u l w1 hw1
  have h32 : ∀ w1, BP w1 p m b cf T false l → Calls Tryz.prog 237 #[.pointer (some ⟨p, 0, none⟩), ctxV] w1 (BV w1 p m b cf T l 4 (.tuple #[.int .i32 n, .nilIface])) := fun w1 hw1 => by
    have := B_ReadI32 p m b T cf false l w1 hw1 hl
    rw [hn] at this
    exact this
  have hmin1 : ∀ w1, Calls Tryz.prog 280 #[.pointer (some ⟨p, 0, none⟩), .int .u8 u1.toNat] w1 fun e w' => e = .returned (.int .i32 k1) ∧ w1 = w' := fun w1 => by
    have := B_min (.pointer (some ⟨p, 0, none⟩)) u1.toNat hu1 w1
    rw [hk1] at this
    exact this
  have hmin2 : ∀ w1, Calls Tryz.prog 280 #[.pointer (some ⟨p, 0, none⟩), .int .u8 u.toNat] w1 fun e w' => e = .returned (.int .i32 k2) ∧ w1 = w' := fun w1 => by
    have := B_min (.pointer (some ⟨p, 0, none⟩)) u.toNat hu w1
    rw [hk2] at this
    exact this
  have g8 := i8_u8 u1
  have h8 := i8_u8 u
  have hrest : ∀ w2 e v, BV w p m b cf T (u1 :: u :: l) 6 v e w2 → Calls Tryz.prog 342 #[.pointer (some ⟨m, 0, none⟩)] w2.drew (fun e w3 => e = .returned (.int .u64 ((l.drop 4).length : Nat)) ∧ (w3.cell? ⟨p, 0, none⟩ = some (memI m) ∧ w3.cell? ⟨p, 2, none⟩ = some cf) ∧
      Calls Tryz.prog 211 #[.int .i64 n, .int .i32 k, .int .u64 ((l.drop 4).length : Nat), cf] w3 (fun e w4 => e = .returned .nilIface ∧ (w4.cell? ⟨p, 0, none⟩ = some (memI m) ∧ w4.cell? ⟨p, 2, none⟩ = some cf) ∧ BV w p m b cf T (u1 :: u :: l) 6 v (.returned v) w4)) := fun w2 e v hw => by
    refine (M_Remaining m b T false ((u1 :: u :: l).drop 6) w2.drew hw.2.1.mem.cell hw.2.1.drew.buf (by simp; omega)).mono ?_
    rintro e w3 ⟨rfl, q, rfl⟩
    have hc2 : (w2.drew.drewN q).cell? ⟨p, 0, none⟩ = some (memI m) ∧ (w2.drew.drewN q).cell? ⟨p, 2, none⟩ = some cf := ⟨hw.2.1.trans, by obtain ⟨bf, _, ha⟩ := hw.2.1.arr; exact ha.head 2 _ rfl⟩
    refine ⟨rfl, hc2, (T_checkC cf c n k _ _ (hc.bp h (hw.2.2.drew.drewN q)) hfit h2 h3 h4 (by omega) (by simp; omega) hM).mono ?_⟩
    rintro e w4 ⟨rfl, rfl⟩
    exact ⟨rfl, hc2, rfl, hw.2.1.drew.drewN q, hw.2.2.drew.drewN q⟩
  have hn1 : (n : Int) ≤ 2147483647 := by have : n ≤ n * k := Nat.le_mul_of_pos_right n (by omega); omega
  have hn0 : (0 : Int) ≤ (n : Int) := by omega
  have hwn : IntKind.i64.wrap (n : Int) = (n : Int) := by simp [IntKind.wrap, IntKind.bits, IntKind.signed]; omega
  obtain ⟨R, hRR⟩ : ∃ R, R = (l.drop 4).length := ⟨_, rfl⟩
  rw [← hRR] at hrest
  clear hRR
  obtain ⟨y, hy⟩ : ∃ y, y = IntKind.i8.wrap u1.toNat := ⟨_, rfl⟩
  rw [← hy] at h1 g8
  simp only [← g8] at hmin1
  obtain ⟨x, hx⟩ : ∃ x, x = IntKind.i8.wrap u.toNat := ⟨_, rfl⟩
  rw [← hx] at h1' h8
  simp only [← h8] at hmin2
  have s1 : (k1 : Int) ≤ 16 := by omega
  have s2 : (k2 : Int) ≤ 16 := by omega
  have s3 : (0 : Int) ≤ (k1 : Int) := by omega
  have s4 : (0 : Int) ≤ (k2 : Int) := by omega
  have s5 : (k1 : Int) + (k2 : Int) = (k : Int) := by omega
  have hme := fun (a : Addr) => meth_Remaining a
  have HB := Lib.hid h1
  have HB' := Lib.hid h1'
  have HI := Lib.hid h32
  have HM1 := Lib.hid hmin1
  have HM2 := Lib.hid hmin2
  have HR := Lib.hid hrest
  have H8 := Lib.hid h8
  have G8 := Lib.hid g8
  clear h1 h1' h32 hmin1 hmin2 hrest h8 g8 h hc hl hn hu hu1 hk1 hk2 hkk hfit h2 h3 h4 hll hx hy hkb hkb1
  go_enter Tryz.func241, Tryz.ntmps241
  go_wp2_with fail
  refine HB.out.mono ?_
  rintro e w0 hw
  obtain rfl := hw.1
  have H0 := Lib.hid hw
  clear hw
  go_wp2_with fail
  refine (HB'.out w0 H0.out.2.1).mono ?_
  rintro e w1 hw
  obtain rfl := hw.1
  have H1 := Lib.hid (H0.out.next hw)
  have H1' := Lib.hid hw
  clear hw
  go_wp2_with fail
  refine (HI.out w1 H1'.out.2.1).mono ?_
  rintro e w2 hw
  obtain rfl := hw.1
  have H2 := Lib.hid (H1.out.next hw)
  have c0 : w2.cell? ⟨p, 0, none⟩ = some (memI m) := hw.2.1.trans
  have c2 : w2.cell? ⟨p, 2, none⟩ = some cf := by obtain ⟨bf, _, ha⟩ := hw.2.1.arr; exact ha.head 2 _ rfl
  have cS : w2.drew.cell? ⟨p, 0, none⟩ = some (memI m) ∧ w2.drew.cell? ⟨p, 2, none⟩ = some cf := ⟨c0, c2⟩
  clear hw
  go_wp2_with fail
  (with_reducible refine (HM1.out _).mono ?_)
  rintro e w' ⟨rfl, rfl⟩
  go_wp2_with fail
  (with_reducible refine (HM2.out _).mono ?_)
  rintro e w' ⟨rfl, rfl⟩
  go_wp2_with fail
  have HN := Lib.hid (HR.out w2 _ (.tuple #[.int .u8 u1.toNat, .int .u8 u.toNat, .int .i64 n, .nilIface]) ⟨rfl, H2.out.2⟩)
  clear c0 c2
  go_region_held3 (fun w' => w'.cell? ⟨p, 0, none⟩ = some (memI m) ∧ w'.cell? ⟨p, 2, none⟩ = some cf) (first | exact cS | exact dS | exact eS) (first | (go_at_call 342; refine HN.out.mono ?_; rintro e w3 ⟨rfl, dS, hcall⟩; have HC := Lib.hid hcall; clear hcall) | (go_at_call 211; ((with_reducible refine HC.out.mono ?_); rintro e w4 ⟨rfl, eS, hfin⟩; have HZ := Lib.hid hfin; clear hfin)))
  all_goals go_wp2
  all_goals refine bodyPost_ret (v := .tuple #[.int .u8 (y % 256), .int .u8 (x % 256), .int .i64 n, .nilIface]) ?_ rfl ⟨by rw [H8.out, G8.out], HZ.out.2⟩
  all_goals simp [results, Tryz.results241, go_sem]


end Go.Proofs.YtkfkieebcahiiaaGreatDoor
