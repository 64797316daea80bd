/- The compact protocol over a memory buffer: bytes and varints are read. -/
import Derived.Test.YtkfkieebcahiiaaGreatDoorZRpC
import Derived.Test.YtkfkieebcahiiaaGreatDoorZEof
import Derived.Test.YtkfkieebcahiiaaGreatDoorZVarint0
set_option linter.all false
namespace Go.Proofs.YtkfkieebcahiiaaGreatDoor
open Go Go.RowKit
set_option maxHeartbeats 2000000
set_option maxRecDepth 100000
set_option linter.all false

theorem w64c (x : Int) : IntKind.i64.wrap x = wrap64 x := by
  unfold wrap64
  simp [IntKind.wrap, IntKind.bits, IntKind.signed]
  omega
theorem u8_and127_fin : ∀ y : Fin 256, bits .and .u8 ((y.val : Nat) : Int) 127 = ((y.val % 128 : Nat) : Int) := by decide
theorem u8_and128_fin : ∀ y : Fin 256, bits .and .u8 ((y.val : Nat) : Int) 128 = if y.val < 128 then 0 else 128 := by decide
theorem u8_and127 (u : UInt8) : bits .and .u8 (u.toNat : Int) 127 = ((u.toNat % 128 : Nat) : Int) := u8_and127_fin ⟨u.toNat, u.toNat_lt⟩
theorem u8_and128_lo (u : UInt8) (h : u.toNat < 128) : bits .and .u8 (u.toNat : Int) 128 = 0 := by
  have := u8_and128_fin ⟨u.toNat, u.toNat_lt⟩
  rw [if_pos h] at this
  exact this
theorem u8_and128_hi (u : UInt8) (h : ¬ u.toNat < 128) : bits .and .u8 (u.toNat : Int) 128 = 128 := by
  have := u8_and128_fin ⟨u.toNat, u.toNat_lt⟩
  rw [if_neg h] at this
  exact this
/-- Bits laid above a number. -/
theorem or_above (res m s : Nat) (hr : res < 2 ^ s) (hs : s ≤ 63) : bits .or .i64 (res : Int) (IntKind.i64.wrap ((m * 2 ^ s : Nat) : Int)) = IntKind.i64.wrap ((m * 2 ^ s + res : Nat) : Int) := by
  have hp : 2 ^ s ≤ 2 ^ 63 := Nat.pow_le_pow_right (by decide) hs
  have hr64 : res < 2 ^ 64 := by have : (2 : Nat) ^ 63 < 2 ^ 64 := by decide
                                 omega
  show IntKind.i64.wrap ((BitVec.ofInt 64 (res : Int) ||| BitVec.ofInt 64 (IntKind.i64.wrap ((m * 2 ^ s : Nat) : Int))).toNat : Int) = _
  have e1 : (BitVec.ofInt 64 (res : Int)).toNat = res := by
    rw [BitVec.toNat_ofInt]
    omega
  have e2 : (BitVec.ofInt 64 (IntKind.i64.wrap ((m * 2 ^ s : Nat) : Int))).toNat = (m * 2 ^ s) % 2 ^ 64 := by
    rw [BitVec.toNat_ofInt, IntKind.wrap_i64]
    omega
  have hsp : (2 : Nat) ^ 64 = 2 ^ (64 - s) * 2 ^ s := by rw [← Nat.pow_add]; congr 1; omega
  have e3 : (m * 2 ^ s) % 2 ^ 64 = (m % 2 ^ (64 - s)) <<< s := by
    rw [Nat.shiftLeft_eq, hsp, Nat.mul_mod_mul_right]
  rw [BitVec.toNat_or, e1, e2, e3, Nat.or_comm, ← Nat.shiftLeft_add_eq_or_of_lt hr, ← e3]
  rw [IntKind.wrap_i64, IntKind.wrap_i64]
  omega

theorem pow128 (k : Nat) : 128 ^ k = 2 ^ (7 * k) := by rw [Nat.pow_mul]
theorem or_above_k (res q k : Nat) (hr : res < 128 ^ k) (hk : k ≤ 9) : bits .or .i64 (res : Int) (wrap64 ((q : Int) * 2 ^ (7 * k))) = IntKind.i64.wrap ((q * 128 ^ k + res : Nat) : Int) := by
  have h := or_above res q (7 * k) (by rw [← pow128]; exact hr) (by omega)
  rw [← pow128] at h
  rw [← h, ← w64c]
  congr 2
  push_cast
  rw [show ((128 : Int) ^ k) = 2 ^ (7 * k) by rw [Int.pow_mul]; rfl]
theorem next_lt {d k res : Nat} (hd : d < 128) (hr : res < 128 ^ k) : d * 128 ^ k + res < 128 ^ (k + 1) := by
  have h1 : d * 128 ^ k ≤ 127 * 128 ^ k := Nat.mul_le_mul_right _ (by omega)
  rw [Nat.pow_succ]
  omega
theorem C_readByteDirect_some (p m b T : Nat) (cf : Value) (st : CSt) (z : Bool) (u : UInt8) (l : List UInt8) (w : World) (h : CP w p m b cf st T z (u :: l)) :
    Calls Tryz.prog 111 #[.pointer (some ⟨p, 0, none⟩)] w (CV w p m b cf st T false l (.tuple #[.int .u8 u.toNat, .nilIface])) := by
  have c0 := h.trans
  have hme := meth_ReadByte h.mem.cell
  have H := Lib.hid h
  clear h
  go_enter Tryz.func111, Tryz.ntmps111
  go_wp2_with fail
  refine (Buf_ReadByte_some b T z u l w H.out.buf).mono ?_
  rintro e w1 ⟨rfl, hB, hF⟩
  have HX := Lib.hid (H.out.lift hB hF)
  clear hB hF
  go_wp2
  go_ret2
  exact ⟨rfl, HX.out.1, HX.out.2⟩
theorem C_readByteDirect_none (p m b T : Nat) (cf : Value) (st : CSt) (z : Bool) (w : World) (h : CP w p m b cf st T z []) (ev : Value) (h0 : w.cell? ⟨0, 0, none⟩ = some ev) (hn : ¬ BF w b 0) :
    Calls Tryz.prog 111 #[.pointer (some ⟨p, 0, none⟩)] w (CV w p m b cf st T true [] (.tuple #[.int .u8 0, ev])) := by
  have c0 := h.trans
  have hme := meth_ReadByte h.mem.cell
  have H := Lib.hid h
  have HE := Lib.hid (show ∀ X, Fr (BF w b) (BF X b) w X → X.cell? ⟨0, 0, none⟩ = some ev from fun X hX => hX.cell h0 hn)
  clear h h0 hn
  go_enter Tryz.func111, Tryz.ntmps111
  go_wp2_with fail
  refine (Buf_ReadByte_none b T z w H.out.buf ev HE.out).mono ?_
  rintro e w1 ⟨rfl, hB, hF⟩
  have HX := Lib.hid (H.out.lift hB hF)
  clear hB hF
  go_wp2
  go_ret2
  exact ⟨rfl, HX.out.1, HX.out.2⟩

theorem vint_nine {n m k res : Nat} (hn : n < 18446744073709551616) (he : n = m * 128 ^ k + res) (hm : 128 ≤ m) (hk : k ≤ 9) : k + 1 ≤ 9 := by
  rcases Nat.lt_or_ge k 9 with h | h
  · omega
  · obtain rfl : k = 9 := by omega
    simp at he
    omega

theorem C_readVarint64 (p m b T : Nat) (cf : Value) (st : CSt) (z : Bool) (n : Nat) (hn : n < 18446744073709551616) (tail : List UInt8) (w : World) (h : CP w p m b cf st T z (vint n ++ tail)) :
    Calls Tryz.prog 94 #[.pointer (some ⟨p, 0, none⟩)] w (CV w p m b cf st T false tail (.tuple #[.int .i64 (wrap64 (n : Nat)), .nilIface])) := by
  have H := Lib.hid h
  clear h
  go_enter Tryz.func94, Tryz.ntmps94
  go_wp2_with fail
  go_loopw [4, 5, 8] (fun s r i wr => ∃ (k q res : Nat) (zz : Bool), i = .int .i64 k ∧ s = .int .u64 (7 * k : Nat) ∧ r = .int .i64 res ∧ n = q * 128 ^ k + res ∧ res < 128 ^ k ∧ k ≤ 9 ∧ CP wr p m b cf st T zz (vint q ++ tail) ∧ Fr (CPF w p b) (CPF wr p b) w wr) (fun _ _ i _ => 10 - (intOf i).toNat)
  case atStart => exact ⟨0, n, 0, z, rfl, rfl, rfl, by simp, by simp, by omega, H.out, Fr.refl _ _⟩
  case round =>
    obtain ⟨k, q, res, zz, rfl, rfl, rfl, he, hr, hk, hC, hF⟩ := hrel
    have hk0 : (0 : Int) ≤ (k : Int) := by omega
    have hk1 : (k : Int) < 10 := by omega
    have hk9 : (k : Int) ≤ 9 := by omega
    rcases Nat.lt_or_ge q 128 with hq | hq
    · rw [vint_small hq] at hC
      have hu : ((q.toUInt8).toNat : Int) = (q : Int) := u8_nat q (by omega)
      have hun : (q.toUInt8).toNat = q := by omega
      have h127 : bits .and .u8 (q : Int) 127 = (q : Int) := by have h := u8_and127 q.toUInt8; rw [hu, hun] at h; rw [h]; omega
      have h128 : bits .and .u8 (q : Int) 128 = 0 := by have h := u8_and128_lo q.toUInt8 (by omega); rw [hu] at h; exact h
      have hwq : wrap64 (q : Int) = (q : Int) := by unfold wrap64; omega
      have hor := or_above_k res q k hr hk
      rw [← he] at hor
      obtain ⟨u, hud⟩ : ∃ u, u = q.toUInt8 := ⟨_, rfl⟩
      rw [← hud] at hC hu
      have HB := Lib.hid (C_readByteDirect_some p m b T cf st zz u tail wr hC)
      clear hC hun he hr hud
      go_wp2_with fail
      (with_reducible refine HB.out.mono ?_)
      rintro e w1 ⟨rfl, hC1, hF1⟩
      have HX := Lib.hid (And.intro hC1 (hF.trans hF1))
      clear hC1 hF1 hF
      go_wp2
      go_ret2
      exact ⟨rfl, HX.out⟩
    · rw [vint_big (by omega)] at hC
      obtain ⟨d, hd⟩ : ∃ d, d = q % 128 := ⟨_, rfl⟩
      obtain ⟨y, hy⟩ : ∃ y, y = d + 128 := ⟨_, rfl⟩
      have hdl : d < 128 := by omega
      rw [← hd, ← hy] at hC
      have hk9 := vint_nine hn he hq hk
      have hu : ((y.toUInt8).toNat : Int) = (y : Int) := u8_nat y (by omega)
      have hun : (y.toUInt8).toNat = y := by omega
      have h127 : bits .and .u8 (y : Int) 127 = (d : Int) := by have h := u8_and127 y.toUInt8; rw [hu, hun] at h; rw [h]; omega
      have h128 : bits .and .u8 (y : Int) 128 = 128 := by have h := u8_and128_hi y.toUInt8 (by omega); rw [hu] at h; exact h
      have hwq : wrap64 (d : Int) = (d : Int) := by unfold wrap64; omega
      have hlt := next_lt hdl hr
      have hsp : n = q / 128 * 128 ^ (k + 1) + (d * 128 ^ k + res) := by
        rw [he, Nat.pow_succ, show q / 128 * (128 ^ k * 128) = (q / 128 * 128) * 128 ^ k by rw [Nat.mul_assoc, Nat.mul_comm 128], ← Nat.add_assoc, ← Nat.add_mul, hd]
        congr 2
        omega
      have hor := or_above_k res d k hr hk
      have hbig : d * 128 ^ k + res < 9223372036854775808 := by
        have : (128 : Nat) ^ (k + 1) ≤ 128 ^ 9 := Nat.pow_le_pow_right (by decide) hk9
        have h9 : (128 : Nat) ^ 9 = 9223372036854775808 := by decide
        omega
      have hwr : IntKind.i64.wrap ((d * 128 ^ k + res : Nat) : Int) = ((d * 128 ^ k + res : Nat) : Int) := by rw [IntKind.wrap_i64]; omega
      rw [hwr] at hor
      obtain ⟨rs, hrs⟩ : ∃ rs, rs = d * 128 ^ k + res := ⟨_, rfl⟩
      rw [← hrs] at hor hlt hsp
      obtain ⟨u, hud⟩ : ∃ u, u = y.toUInt8 := ⟨_, rfl⟩
      rw [← hud] at hC hu
      have HB := Lib.hid (C_readByteDirect_some p m b T cf st zz u (vint (q / 128) ++ tail) wr hC)
      have HS := Lib.hid (And.intro hsp (And.intro hlt hk9))
      clear hC hun he hr hd hy hdl hlt hsp hbig hwr hrs hk9 hud
      go_wp2_with fail
      (with_reducible refine HB.out.mono ?_)
      rintro e w1 ⟨rfl, hC1, hF1⟩
      have HX := Lib.hid (And.intro hC1 (hF.trans hF1))
      clear hC1 hF1 hF
      go_wp2
      go_roundw
      case rel => exact ⟨k + 1, q / 128, rs, false, by go_num, by go_num, rfl, HS.out.1, HS.out.2.1, HS.out.2.2, HX.out.1, HX.out.2⟩
      case measure => simp [intOf]; omega

theorem C_readVarint64_eof (p m b T : Nat) (cf : Value) (st : CSt) (z : Bool) (l : List UInt8) (hl : l.length ≤ 9) (hhi : ∀ u ∈ l, 128 ≤ u.toNat) (a0 : Addr) (w : World) (h : CP w p m b cf st T z l) (h0 : w.cell? ⟨0, 0, none⟩ = some (eofV a0)) (hn : ¬ CPF w p b 0) :
    Calls Tryz.prog 94 #[.pointer (some ⟨p, 0, none⟩)] w (CV w p m b cf st T true [] (.tuple #[.int .i64 0, eofV a0])) := by
  have H := Lib.hid h
  have HE := Lib.hid (show ∀ X, Fr (CPF w p b) (CPF X p b) w X → X.cell? ⟨0, 0, none⟩ = some (eofV a0) ∧ ¬ BF X b 0 from fun X hX => ⟨hX.cell h0 hn, fun hx => hn (hX.foot _ (World.block_lt_of_cell? w _ h0) (Or.inr (Or.inl hx)))⟩)
  clear h h0 hn
  go_enter Tryz.func94, Tryz.ntmps94
  go_wp2_with fail
  go_loopw [4, 5, 8] (fun s r i wr => ∃ (k : Nat) (x : Int) (zz : Bool), i = .int .i64 k ∧ s = .int .u64 (7 * k : Nat) ∧ r = .int .i64 x ∧ k ≤ l.length ∧ CP wr p m b cf st T zz (l.drop k) ∧ Fr (CPF w p b) (CPF wr p b) w wr) (fun _ _ i _ => 10 - (intOf i).toNat)
  case atStart => exact ⟨0, 0, z, rfl, rfl, rfl, by omega, H.out, Fr.refl _ _⟩
  case round =>
    obtain ⟨k, x, zz, rfl, rfl, rfl, hk, hC, hF⟩ := hrel
    have hk0 : (0 : Int) ≤ (k : Int) := by omega
    have hk1 : (k : Int) < 10 := by omega
    have hk9 : (k : Int) ≤ 9 := by omega
    rcases Nat.lt_or_ge k l.length with hlt | hge
    · rw [List.drop_eq_getElem_cons hlt] at hC
      obtain ⟨u, hu⟩ : ∃ u, u = l[k] := ⟨_, rfl⟩
      have hum := hhi u (hu ▸ List.getElem_mem hlt)
      rw [← hu] at hC
      have h128 := u8_and128_hi u (by omega)
      have HB := Lib.hid (C_readByteDirect_some p m b T cf st zz u (l.drop (k + 1)) wr hC)
      have hlt0 : (k : Int) < (l.length : Int) := by omega
      clear hC hu hum
      go_wp2_with fail
      (with_reducible refine HB.out.mono ?_)
      rintro e w1 ⟨rfl, hC1, hF1⟩
      have HX := Lib.hid (And.intro hC1 (hF.trans hF1))
      clear hC1 hF1 hF
      go_wp2
      go_roundw
      case rel => exact ⟨k + 1, _, false, by go_num, by go_num, rfl, by omega, HX.out.1, HX.out.2⟩
      case measure => simp [intOf]; omega
    · rw [List.drop_of_length_le hge] at hC
      have HB := Lib.hid (C_readByteDirect_none p m b T cf st zz wr hC (eofV a0) (HE.out wr hF).1 (HE.out wr hF).2)
      clear hC
      go_wp2_with fail
      (with_reducible refine HB.out.mono ?_)
      rintro e w1 ⟨rfl, hC1, hF1⟩
      have HX := Lib.hid (And.intro hC1 (hF.trans hF1))
      clear hC1 hF1 hF
      go_wp2
      go_ret2
      exact ⟨rfl, HX.out⟩
end Go.Proofs.YtkfkieebcahiiaaGreatDoor
