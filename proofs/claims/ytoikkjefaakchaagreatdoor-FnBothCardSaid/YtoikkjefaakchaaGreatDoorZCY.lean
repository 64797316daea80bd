/- The compact protocol over a memory buffer: the begins of containers, fields, bools, messages are written. -/
import Derived.Test.YtoikkjefaakchaaGreatDoorZCX
set_option linter.all false
namespace Go.Proofs.YtoikkjefaakchaaGreatDoor
open Go Go.RowKit
set_option maxHeartbeats 1000000
set_option maxRecDepth 100000

theorem ctype_lo (t : Int) : 0 ≤ ctype t := by unfold ctype; repeat' split <;> omega
theorem ctype_hi (t : Int) : ctype t ≤ 13 := by unfold ctype; repeat' split <;> omega
theorem b8_nat (v : Int) (h0 : 0 ≤ v) (h1 : v < 256) : ((b8 v).toNat : Int) = v := by
  unfold b8
  rw [show v % 256 = v by omega, UInt8.toNat_ofNat']
  omega

/-- A byte written directly, by its number. -/
theorem C_byteD (p m b T : Nat) (cf : Value) (s : CSt) (l : List UInt8) (v : Int) (h0 : 0 ≤ v) (h1 : v < 256) (w : World) (h : CP w p m b cf s T true l) (hlim : T + 1 ≤ LIM) :
    Calls Tryz.prog 224 #[.pointer (some ⟨p, 0, none⟩), .int .u8 v] w (CW w p m b cf s s T l [b8 v] .nilIface) := by
  have := C_writeByteDirect p m b T cf s l (b8 v) w h hlim
  rwa [b8_nat v h0 h1] at this

/-- The compact type is asked: something new lies behind. -/
theorem C_ct (p m b T : Nat) (cf : Value) (s : CSt) (l : List UInt8) (t : Int) (w : World) (h : CP w p m b cf s T true l) :
    Calls Tryz.prog 228 #[.pointer (some ⟨p, 0, none⟩), .int .u8 t] w fun e w' => e = .returned (.int .u8 (ctype t)) ∧ CP w' p m b cf s T true l ∧ Fr (CPF w p b) (CPF w' p b) w w' :=
  (C_getCompactType _ t w).mono fun e w' ⟨h1, h2⟩ => by
    subst h2
    exact ⟨h1, h.alloc _⟩
theorem CW.behind {w w1 w2 : World} {p m b T : Nat} {cf v : Value} {s s' : CSt} {l n : List UInt8} {e : Ending} (hf : Fr (CPF w p b) (CPF w1 p b) w w1) (h : CW w1 p m b cf s s' T l n v e w2) : CW w p m b cf s s' T l n v e w2 := ⟨h.1, h.2.1, hf.trans h.2.2⟩

/-- The begin of a list or a set. -/
def listC (t n : Int) : List UInt8 := if n ≤ 14 then [b8 (n * 16 + ctype t)] else b8 (240 + ctype t) :: vint (n % 4294967296).toNat
theorem or_low : ∀ (a : Fin 16) (c : Fin 16), bits .or .i32 ((a.val : Nat) * 16 : Int) ((c.val : Nat) : Int) = (a.val : Nat) * 16 + (c.val : Nat) := by decide
theorem or_low8 : ∀ (a : Fin 16) (c : Fin 16), bits .or .u8 ((a.val : Nat) * 16 : Int) ((c.val : Nat) : Int) = (a.val : Nat) * 16 + (c.val : Nat) := by decide
theorem or_i32 (a c : Int) (ha : 0 ≤ a) (ha2 : a < 16) (hc : 0 ≤ c) (hc2 : c < 16) : bits .or .i32 (a * 16) c = a * 16 + c := by
  have := or_low ⟨a.toNat, by omega⟩ ⟨c.toNat, by omega⟩
  simpa [Int.toNat_of_nonneg ha, Int.toNat_of_nonneg hc] using this
theorem or_u8 (a c : Int) (ha : 0 ≤ a) (ha2 : a < 16) (hc : 0 ≤ c) (hc2 : c < 16) : bits .or .u8 (a * 16) c = a * 16 + c := by
  have := or_low8 ⟨a.toNat, by omega⟩ ⟨c.toNat, by omega⟩
  simpa [Int.toNat_of_nonneg ha, Int.toNat_of_nonneg hc] using this

def CollR (w : World) (p m b : Nat) (cf : Value) (s : CSt) (T : Nat) (l n : List UInt8) (e : Ending) (w' : World) : Prop := ∃ k : Int, CW w p m b cf s s T l n (.tuple #[.int .i64 k, .nilIface]) e w'
theorem C_writeCollectionBegin (p m b T : Nat) (cf : Value) (s : CSt) (l : List UInt8) (t n : Int) (hn : 0 ≤ n) (hn2 : n < 2147483648) (w : World) (h : CP w p m b cf s T true l) (hlim : T + 6 ≤ LIM) :
    Calls Tryz.prog 227 #[.pointer (some ⟨p, 0, none⟩), .int .u8 t, .int .i64 n] w (CollR w p m b cf s T l (listC t n)) := by
  have hct := C_ct p m b T cf s l t w h
  have c0 := ctype_lo t
  have c1 := ctype_hi t
  obtain ⟨k, hk⟩ : ∃ k, k = ctype t := ⟨_, rfl⟩
  have HQ := Lib.hid (show listC t n = if n ≤ 14 then [b8 (n * 16 + k)] else b8 (240 + k) :: vint (n % 4294967296).toNat by rw [hk]; rfl)
  rw [← hk] at hct c0 c1
  have HL := Lib.hid hlim
  have HC := Lib.hid hct
  clear hlim hct h hk
  rcases Int.lt_or_le 14 n with hgt | hle
  · have hng : ¬ n ≤ 14 := by omega
    have HQ2 := Lib.hid (HQ.out.trans (if_neg hng))
    clear HQ
    have ho : bits .or .u8 240 k = 240 + k := or_u8 15 k (by decide) (by decide) c0 (by omega)
    rw [HQ2.out]
    go_enter Tryz.func227, Tryz.ntmps227
    go_wp2_with fail
    refine HC.out.mono ?_
    rintro e w1 ⟨rfl, hP, hF⟩
    have H1 := Lib.hid (And.intro hP hF)
    clear hP hF
    go_wp2_with fail
    refine (C_byteD p m b T cf s l _ (by omega) (by omega) w1 H1.out.1 (by have := HL.out; omega)).mono ?_
    rintro e w2 hw
    obtain rfl := hw.1
    have H2 := Lib.hid (CW.behind H1.out.2 hw)
    clear hw
    go_wp2_with fail
    refine (C_writeVarint32 p m b _ cf s _ _ w2 H2.out.2.1 (by have := HL.out; simp only [List.length_singleton]; omega)).mono ?_
    rintro e w3 hw
    obtain rfl := hw.1
    have H3 := Lib.hid (H2.out.seq hw)
    clear hw
    go_wp2
    go_ret2
    exact ⟨_, rfl, H3.out.2⟩
  · have HQ2 := Lib.hid (HQ.out.trans (if_pos hle))
    clear HQ
    rw [HQ2.out]
    have ho := or_i32 n k hn (by omega) c0 (by omega)
    go_enter Tryz.func227, Tryz.ntmps227
    go_wp2_with fail
    refine HC.out.mono ?_
    rintro e w1 ⟨rfl, hP, hF⟩
    have H1 := Lib.hid (And.intro hP hF)
    clear hP hF
    go_wp2_with fail
    refine (C_byteD p m b T cf s l _ (by omega) (by omega) w1 H1.out.1 (by have := HL.out; omega)).mono ?_
    rintro e w2 hw
    obtain rfl := hw.1
    have H2 := Lib.hid (CW.behind H1.out.2 hw)
    clear hw
    go_wp2
    go_ret2
    exact ⟨_, rfl, H2.out.2⟩

theorem C_WriteListBegin (p m b T : Nat) (cf c : Value) (s : CSt) (l : List UInt8) (t n : Int) (hn : 0 ≤ n) (hn2 : n < 2147483648) (w : World) (h : CP w p m b cf s T true l) (hlim : T + 6 ≤ LIM) :
    Calls Tryz.prog 199 #[.pointer (some ⟨p, 0, none⟩), c, .int .u8 t, .int .i64 n] w (CW w p m b cf s s T l (listC t n) .nilIface) := by
  have H := Lib.hid (C_writeCollectionBegin p m b T cf s l t n hn hn2 w h hlim)
  clear h hlim hn hn2
  go_enter Tryz.func199, Tryz.ntmps199
  go_wp2_with fail
  refine H.out.mono ?_
  rintro e w1 ⟨k, hw⟩
  obtain rfl := hw.1
  have HW := Lib.hid hw
  clear hw
  go_wp2_with (go_at_call 212; refine (exc_nil _).mono ?_; rintro e w' ⟨rfl, rfl⟩)
  go_ret
  exact ⟨rfl, HW.out.2⟩
theorem C_WriteSetBegin (p m b T : Nat) (cf c : Value) (s : CSt) (l : List UInt8) (t n : Int) (hn : 0 ≤ n) (hn2 : n < 2147483648) (w : World) (h : CP w p m b cf s T true l) (hlim : T + 6 ≤ LIM) :
    Calls Tryz.prog 205 #[.pointer (some ⟨p, 0, none⟩), c, .int .u8 t, .int .i64 n] w (CW w p m b cf s s T l (listC t n) .nilIface) := by
  have H := Lib.hid (C_writeCollectionBegin p m b T cf s l t n hn hn2 w h hlim)
  clear h hlim hn hn2
  go_enter Tryz.func205, Tryz.ntmps205
  go_wp2_with fail
  refine H.out.mono ?_
  rintro e w1 ⟨k, hw⟩
  obtain rfl := hw.1
  have HW := Lib.hid hw
  clear hw
  go_wp2_with (go_at_call 212; refine (exc_nil _).mono ?_; rintro e w' ⟨rfl, rfl⟩)
  go_ret
  exact ⟨rfl, HW.out.2⟩

/-- The begin of a map. -/
def mapC (k t n : Int) : List UInt8 := if n = 0 then [0] else vint (n % 4294967296).toNat ++ [b8 (ctype k * 16 + ctype t)]
theorem C_WriteMapBegin (p m b T : Nat) (cf c : Value) (s : CSt) (l : List UInt8) (k t n : Int) (hn : 0 ≤ n) (hn2 : n < 2147483648) (w : World) (h : CP w p m b cf s T true l) (hlim : T + 6 ≤ LIM) :
    Calls Tryz.prog 201 #[.pointer (some ⟨p, 0, none⟩), c, .int .u8 k, .int .u8 t, .int .i64 n] w (CW w p m b cf s s T l (mapC k t n) .nilIface) := by
  by_cases h0 : n = 0
  · subst h0
    have H := Lib.hid (C_writeByteDirect p m b T cf s l 0 w h (by omega))
    clear h hlim hn hn2
    go_enter Tryz.func201, Tryz.ntmps201
    go_wp2_with fail
    refine H.out.mono ?_
    rintro e w1 hw
    obtain rfl := hw.1
    have HW := Lib.hid hw
    clear hw
    go_wp2_with (go_at_call 212; refine (exc_nil _).mono ?_; rintro e w' ⟨rfl, rfl⟩)
    go_ret
    exact HW.out
  · have hv := C_writeVarint32 p m b T cf s l n w h (by omega)
    have hvl := vint32_le (n % 4294967296).toNat (by omega)
    have a0 := ctype_lo k
    have a1 := ctype_hi k
    have b0 := ctype_lo t
    have b1 := ctype_hi t
    have HQ := Lib.hid (show mapC k t n = vint (n % 4294967296).toNat ++ [b8 (ctype k * 16 + ctype t)] from if_neg h0)
    have HK := Lib.hid (fun X (hX : CP X p m b cf s (T + (vint (n % 4294967296).toNat).length) true (l ++ vint (n % 4294967296).toNat)) => C_ct p m b _ cf s _ k X hX)
    have HT := Lib.hid (fun X (hX : CP X p m b cf s (T + (vint (n % 4294967296).toNat).length) true (l ++ vint (n % 4294967296).toNat)) => C_ct p m b _ cf s _ t X hX)
    rw [HQ.out]
    obtain ⟨kk, hk⟩ : ∃ x, x = ctype k := ⟨_, rfl⟩
    obtain ⟨tt, ht⟩ : ∃ x, x = ctype t := ⟨_, rfl⟩
    rw [← hk] at a0 a1 HK ⊢
    rw [← ht] at b0 b1 HT ⊢
    have ho := or_u8 kk tt a0 (by omega) b0 (by omega)
    have hkm : kk * 16 % 256 = kk * 16 := by omega
    have H := Lib.hid hv
    have HL := Lib.hid (show T + (vint (n % 4294967296).toNat).length + 1 ≤ LIM by omega)
    have n0 : (n == 0) = false := beq_eq_false_iff_ne.2 h0
    clear h hlim hv hvl hk ht h0 HQ
    go_enter Tryz.func201, Tryz.ntmps201
    go_wp2_with fail
    (with_reducible refine H.out.mono ?_)
    rintro e w1 hw
    obtain rfl := hw.1
    have HKW := Lib.hid (HK.out _ hw.2.1)
    have HW := Lib.hid hw
    clear hw
    go_wp2_with fail
    (with_reducible refine HKW.out.mono ?_)
    rintro e w2 ⟨rfl, hP, hF⟩
    have H2 := Lib.hid (And.intro hP hF)
    have HTW := Lib.hid (HT.out _ hP)
    clear hP hF
    go_wp2_with fail
    (with_reducible refine HTW.out.mono ?_)
    rintro e w3 ⟨rfl, hP, hF⟩
    have H3 := Lib.hid (And.intro hP (H2.out.2.trans hF))
    clear hP hF
    go_wp2_with fail
    refine (C_byteD p m b _ cf s _ _ (by omega) (by omega) w3 H3.out.1 HL.out).mono ?_
    rintro e w4 hw
    obtain rfl := hw.1
    have H4 := Lib.hid (HW.out.seq (CW.behind H3.out.2 hw))
    clear hw
    go_wp2_with (go_at_call 212; refine (exc_nil _).mono ?_; rintro e w' ⟨rfl, rfl⟩)
    go_ret
    exact H4.out

/-- The begin of a message. -/
def msgC (s : ByteArray) (t n : Int) : List UInt8 := 130 :: b8 (t * 32 + 1) :: (vint (n % 4294967296).toNat ++ (vint (s.size % 4294967296) ++ s.data.toList))
theorem and224 : ∀ y : Fin 256, bits .or .u8 1 (bits .and .u8 (((y.val : Nat) : Int) * 32 % 256) 224) = ((y.val : Nat) : Int) * 32 % 256 + 1 := by decide
theorem or_and224 (t : Int) : bits .or .u8 1 (bits .and .u8 (t % 256 * 32 % 256) 224) = t % 256 * 32 % 256 + 1 := by
  have := and224 ⟨(t % 256).toNat, by omega⟩
  simpa [Int.toNat_of_nonneg (show 0 ≤ t % 256 by omega)] using this
theorem C_WriteMessageBegin (p m b T : Nat) (cf c : Value) (st : CSt) (l : List UInt8) (s : ByteArray) (t n : Int) (w : World) (h : CP w p m b cf st T true l) (hlim : T + (32 + s.size) ≤ LIM) :
    Calls Tryz.prog 203 #[.pointer (some ⟨p, 0, none⟩), c, .string s, .int .i32 t, .int .i32 n] w (CW w p m b cf st st T l (msgC s t n) .nilIface) := by
  have h1 := C_writeByteDirect p m b T cf st l 130 w h (by omega)
  have hvl := vint32_le (n % 4294967296).toNat (by omega)
  have ho := or_and224 t
  have HB := Lib.hid (show b8 (t % 256 * 32 % 256 + 1) = b8 (t * 32 + 1) by unfold b8; congr 2; omega)
  have H := Lib.hid h1
  have HL := Lib.hid (And.intro hlim hvl)
  clear h hlim h1 hvl
  go_enter Tryz.func203, Tryz.ntmps203
  go_wp2_with fail
  refine H.out.mono ?_
  rintro e w1 hw
  obtain rfl := hw.1
  have HW := Lib.hid hw
  clear hw
  go_wp2_with fail
  refine (C_byteD p m b _ cf st _ _ (by omega) (by omega) w1 HW.out.2.1 (by have := HL.out.1; simp only [List.length_singleton]; omega)).mono ?_
  rintro e w2 hw
  obtain rfl := hw.1
  have H2 := Lib.hid (HW.out.seq hw)
  clear hw
  go_wp2_with fail
  refine (C_writeVarint32 p m b _ cf st _ _ w2 H2.out.2.1 (by have := HL.out.1; simp only [List.length_append, List.length_singleton]; omega)).mono ?_
  rintro e w3 hw
  obtain rfl := hw.1
  have H3 := Lib.hid (H2.out.seq hw)
  clear hw
  go_wp2_with fail
  refine (C_WriteString p m b _ cf _ st _ s w3 H3.out.2.1 (by have := HL.out; simp only [List.length_append, List.length_singleton]; omega)).mono ?_
  rintro e w4 hw
  obtain rfl := hw.1
  have H4 := Lib.hid (H3.out.seq hw)
  clear hw
  go_wp2
  go_ret
  refine ⟨rfl, ?_, H4.out.2.2⟩
  have := H4.out.2.1
  rw [HB.out] at this
  simpa [msgC, List.append_assoc] using this
end Go.Proofs.YtoikkjefaakchaaGreatDoor
