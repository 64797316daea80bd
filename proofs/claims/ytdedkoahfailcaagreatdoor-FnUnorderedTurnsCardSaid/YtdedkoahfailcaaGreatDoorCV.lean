/- The varints of the compact protocol. -/
import Derived.Test.YtdedkoahfailcaaGreatDoorCW
import Derived.Test.YtdedkoahfailcaaGreatDoorBits
import Derived.Deep.RegionHeld3
namespace Go.Proofs.YtdedkoahfailcaaGreatDoor
open Go Go.RowKit

/-- Where a varint's loop stands: k bytes lie in the array, v is left of the number x. -/
def VL (w0 : World) (p : Nat) (hd : List Value) (x M : Nat) (k : Nat) (v : Nat) (w : World) : Prop :=
  ∃ bf : List UInt8, bf.length = 64 ∧ Arr w p TCP hd bf ∧ Fr (one p) (one p) w0 w ∧ vint x = bf.take k ++ vint v ∧ v < 128 ^ (M - k)

theorem VL.last {w0 w : World} {p x M k v : Nat} {hd : List Value} {y : Int} (h : VL w0 p hd x M k v w) (hk : k < M) (hM : M ≤ 10) (hs : v < 128) (ho : hd.length = 10) (hy : y = v) :
    ∃ bf : List UInt8, bf.length = 64 ∧ Arr (w.setCell ⟨p, 10 + k, none⟩ (.int .u8 y)) p TCP hd bf ∧ Fr (one p) (one p) w0 (w.setCell ⟨p, 10 + k, none⟩ (.int .u8 y)) ∧ vint x = bf.take (k + 1) := by
  obtain ⟨bf, hb, ha, hf, he, hv⟩ := h
  have hu : y = ((v.toUInt8).toNat : Int) := by rw [u8_nat _ (by omega), hy]
  rw [hu, ← ho]
  refine ⟨bf.set k v.toUInt8, by simpa using hb, ha.set k _, hf.setCell (p := ⟨p, hd.length + k, none⟩) (Or.inl rfl) _, ?_⟩
  rw [he, vint_small hs]
  rw [List.take_add_one]
  simp [hb, show k < 64 by omega, List.take_set_of_le]
theorem VL.next {w0 w : World} {p x M k v : Nat} {hd : List Value} {y : Int} (h : VL w0 p hd x M k v w) (hk : k < M) (hM : M ≤ 10) (hs : 128 ≤ v) (ho : hd.length = 10) (hy : y = ((v % 128 + 128 : Nat) : Int)) :
    k + 1 < M ∧ VL w0 p hd x M (k + 1) (v / 128) (w.setCell ⟨p, 10 + k, none⟩ (.int .u8 y)) := by
  obtain ⟨bf, hb, ha, hf, he, hv⟩ := h
  have hlt : k + 1 < M := by
    rcases Nat.lt_or_ge (k + 1) M with h | h
    · exact h
    · have : M - k = 1 := by omega
      rw [this] at hv
      omega
  refine ⟨hlt, ?_⟩
  have hu : y = (((v % 128 + 128).toUInt8).toNat : Int) := by rw [u8_nat _ (by omega), hy]
  rw [hu, ← ho]
  refine ⟨bf.set k (v % 128 + 128).toUInt8, by simpa using hb, ha.set k _, hf.setCell (p := ⟨p, hd.length + k, none⟩) (Or.inl rfl) _, ?_, ?_⟩
  · rw [he, vint_big (by omega)]
    rw [List.take_add_one]
    simp [hb, show k < 64 by omega, List.take_set_of_le]
  · rw [Nat.div_lt_iff_lt_mul (by omega), ← Nat.pow_succ, show (M - (k + 1)).succ = M - k by omega]
    exact hv
theorem VL.cell {w0 w : World} {p x M k v : Nat} {hd : List Value} (h : VL w0 p hd x M k v w) (hk : k < 64) (ho : hd.length = 10) : (∃ u, w.cell? ⟨p, 10 + k, none⟩ = some u) ∧ w.frozen? ⟨p, 10 + k, none⟩ = false := by
  obtain ⟨bf, hb, ha, hf, he, hv⟩ := h
  rw [← ho]
  exact ⟨⟨_, ha.cell k (by omega)⟩, ha.free _⟩
/-- The array alone has turned: the protocol stands. -/
theorem CP.scratch {w w' : World} {p m b T : Nat} {cf sv : Value} {s : CSt} {z : Bool} {l bf bf0 : List UInt8} (h : CP w p m b cf s T z l) (h0 : Arr w p TCP (hdC m cf sv s) bf0) (hb : bf.length = 64) (ha : Arr w' p TCP (hdC m cf sv s) bf) (hf : Fr (one p) (one p) w w') :
    CP w' p m b cf s T z l ∧ Fr (CPF w p b) (CPF w' p b) w w' := by
  refine h.own hf rfl fun sv' bf' _ h1 => ⟨bf, hb, ?_⟩
  have e1 := h1.head 3 sv' rfl
  rw [h0.head 3 sv rfl] at e1
  injection e1 with e1
  subst e1
  exact ha
theorem CP.apart {w : World} {p m b T : Nat} {cf : Value} {s : CSt} {z : Bool} {l : List UInt8} (h : CP w p m b cf s T z l) (o n c : Nat) : ∀ k, vblk (.slice (some ⟨p, o, none⟩) n c) k → ¬ BF w b k := fun k hk => by
  obtain ⟨sv, bf, _, ha, _⟩ := h.arr
  rcases n with _ | n
  · exact hk.elim
  · cases hk
    exact h.buf.other ha (by decide) (by decide)

/-- The head of the array goes to the buffer: what the last region of a varint's writing needs. -/
structure VW (w w' : World) (p m b T : Nat) (cf : Value) (s : CSt) (l news : List UInt8) : Prop where
  c0 : w'.cell? ⟨p, 0, none⟩ = some (memI m)
  meth : (method 446 PM (.pointer (some ⟨m, 0, none⟩)) "Write").run Tryz.prog w'.drew = .ok (78, .pointer (some ⟨b, 0, none⟩)) w'.drew
  call : Calls Tryz.prog 78 #[.pointer (some ⟨b, 0, none⟩), .slice (some ⟨p, 10, none⟩) news.length 64] w'.drew (Wrote w'.drew b T l news (.tuple #[.int .i64 (news.length : Nat), .nilIface]))
  held : ∀ w2, Fr (BF w'.drew b) (BF w2 b) w'.drew w2 → w2.cell? ⟨p, 0, none⟩ = some (memI m)
  done : ∀ w2, Buf w2 b (T + news.length) true (l ++ news) → Fr (BF w'.drew b) (BF w2 b) w'.drew w2 → CW w p m b cf s s T l news (.tuple #[.int .i64 (news.length : Nat), .nilIface]) (.returned (.tuple #[.int .i64 (news.length : Nat), .nilIface])) w2

theorem CP.vw {w w' : World} {p m b T n : Nat} {cf sv : Value} {s : CSt} {l bf bf0 : List UInt8} (h : CP w p m b cf s T true l) (h0 : Arr w p TCP (hdC m cf sv s) bf0) (hb : bf.length = 64) (ha : Arr w' p TCP (hdC m cf sv s) bf) (hf : Fr (one p) (one p) w w') (hn : n ≤ 64) (hlim : T + n ≤ LIM) : VW w w' p m b T cf s l (bf.take n) := by
  obtain ⟨h1, f1⟩ := h.scratch h0 hb ha hf
  have h2 : CP w'.drew p m b cf s T true l := h1.drew
  have hl : (bf.take n).length = n := by simp [hb]; omega
  have hrd : Rd w'.drew (.slice (some ⟨p, 10, none⟩) (bf.take n).length 64) (bf.take n) := by
    have ha' : Arr w' p TCP (hdC m cf sv s) (bf.take n ++ bf.drop n) := by rw [List.take_append_drop]; exact ha
    exact Arr.rd 10 _ ha' rfl rfl (by omega)
  refine ⟨h1.trans, meth_Write h2.mem.cell, Buf_Write b T l _ _ _ h2.buf (by omega) hrd (h2.apart _ _ _), fun w2 hF => ?_, fun w2 hB hF => ?_⟩
  · refine hF.cell (w := w'.drew) h2.trans ?_
    obtain ⟨sv, bf, _, ha, _⟩ := h2.arr
    exact h2.buf.other ha (by decide) (by decide)
  · obtain ⟨a, f⟩ := h2.lift hB hF
    exact ⟨rfl, a, f1.drew.trans f⟩


set_option maxHeartbeats 1000000 in
set_option maxRecDepth 100000 in
theorem C_writeVarint32 (p m b T : Nat) (cf : Value) (s : CSt) (l : List UInt8) (v : Int) (w : World) (h : CP w p m b cf s T true l) (hlim : T + 5 ≤ LIM) :
    Calls Tryz.prog 71 #[.pointer (some ⟨p, 0, none⟩), .int .i32 v] w (CW w p m b cf s s T l (vint (v % 4294967296).toNat) (.tuple #[.int .i64 (vint (v % 4294967296).toNat).length, .nilIface])) := by
  obtain ⟨sv, bf, hbf, ha, ho⟩ := h.arr
  have h0 : VL w p (hdC m cf sv s) (v % 4294967296).toNat 5 0 (v % 4294967296).toNat w := ⟨bf, hbf, ha, Fr.refl _ _, rfl, by omega⟩
  have H := Lib.hid h
  have H0 := Lib.hid h0
  have HA := Lib.hid ha
  clear ha hbf h h0 ho
  go_enter Tryz.func71, Tryz.ntmps71
  go_wp2_with fail
  go_loopw [1, 7, 8] (fun n i u wr => ∃ (k : Nat) (x : Int), i = .int .i64 k ∧ k < 5 ∧ n = .int .i32 x ∧ VL w p (hdC m cf sv s) (v % 4294967296).toNat 5 k (x % 4294967296).toNat wr) (fun _ i _ _ => 5 - (intOf i).toNat)
  case atStart => exact ⟨0, v, rfl, by omega, rfl, H0.out⟩
  case round =>
    obtain ⟨k, x, rfl, hk, rfl, hV⟩ := hrel
    obtain ⟨⟨u, c1⟩, f1⟩ := hV.cell (by omega) rfl
    have HV := Lib.hid hV
    clear hV
    rcases Nat.lt_or_ge (x % 4294967296).toNat 128 with hsm | hsm
    · have ht : (bits .and .i32 x (-128) == 0) = true := by rw [i32_small]; exact decide_eq_true hsm
      have hy : x % 256 = (x % 4294967296).toNat := by omega
      obtain ⟨bf1, hb1, ha1, hf1, hv1⟩ := HV.out.last hk (by omega) hsm rfl hy
      have hvw := H.out.vw HA.out hb1 ha1 hf1 (n := k + 1) (by omega) (by omega)
      rw [← hv1] at hvw
      have c0 := hvw.c0
      have hme := hvw.meth
      have hl : k + 1 = (vint (v % 4294967296).toNat).length := by rw [hv1]; simp [hb1]; omega
      have hk0 : (0 : Int) ≤ (k : Int) + 1 := by omega
      have hk1 : (k : Int) + 1 ≤ 64 := by omega
      have HW := Lib.hid hvw
      clear hvw ha1 hf1 hv1 hb1 hy
      go_wp2_with fail
      go_region_held3 (fun w' => w'.cell? ⟨p, 0, none⟩ = some (memI m)) (first | exact c0 | exact d0)
        (first | (go_at_call 78; refine HW.out.call.mono ?_; rintro e w2 ⟨rfl, hB, hF⟩; have d0 := HW.out.held w2 hF))
      have HX := Lib.hid (HW.out.done w2 hB hF)
      clear hB hF
      go_wp2
      go_ret2
      exact HX.out
    · have ht : (bits .and .i32 x (-128) == 0) = false := by rw [i32_small]; exact decide_eq_false (by omega)
      have hy : bits .or .i32 (bits .and .i32 x 127) 128 % 256 = (((x % 4294967296).toNat % 128 + 128 : Nat) : Int) := by rw [i32_and127, i32_or128 _ (by omega) (by omega)]; omega
      have hx := HV.out.next hk (by omega) hsm rfl hy
      have hz : (x % 4294967296 / 128 % 4294967296).toNat = (x % 4294967296).toNat / 128 := by
        try simp only [IntKind.wrap_u64, wrap64]
        omega
      have HX := Lib.hid hx
      have HZ := Lib.hid hz
      clear hx hy hz
      go_wp2_with fail
      refine ⟨⟨k + 1, _, rfl, HX.out.1, rfl, ?_⟩, ?_⟩
      · rw [HZ.out]; exact HX.out.2
      · have e1 : intOf (Value.int IntKind.i64 (↑k + 1)) = k + 1 := rfl
        have e2 : intOf (Value.int IntKind.i64 (k : Int)) = k := rfl
        rw [e1, e2]; omega
set_option maxHeartbeats 1000000 in
set_option maxRecDepth 100000 in
theorem C_writeVarint64 (p m b T : Nat) (cf : Value) (s : CSt) (l : List UInt8) (v : Int) (w : World) (h : CP w p m b cf s T true l) (hlim : T + 10 ≤ LIM) :
    Calls Tryz.prog 70 #[.pointer (some ⟨p, 0, none⟩), .int .i64 v] w (CW w p m b cf s s T l (vint (v % 18446744073709551616).toNat) (.tuple #[.int .i64 (vint (v % 18446744073709551616).toNat).length, .nilIface])) := by
  obtain ⟨sv, bf, hbf, ha, ho⟩ := h.arr
  have h0 : VL w p (hdC m cf sv s) (v % 18446744073709551616).toNat 10 0 (v % 18446744073709551616).toNat w := ⟨bf, hbf, ha, Fr.refl _ _, rfl, by omega⟩
  have H := Lib.hid h
  have H0 := Lib.hid h0
  have HA := Lib.hid ha
  clear ha hbf h h0 ho
  go_enter Tryz.func70, Tryz.ntmps70
  go_wp2_with fail
  go_loopw [1, 7, 8] (fun n i u wr => ∃ (k : Nat) (x : Int), i = .int .i64 k ∧ k < 10 ∧ n = .int .i64 x ∧ VL w p (hdC m cf sv s) (v % 18446744073709551616).toNat 10 k (x % 18446744073709551616).toNat wr) (fun _ i _ _ => 10 - (intOf i).toNat)
  case atStart => exact ⟨0, v, rfl, by omega, rfl, H0.out⟩
  case round =>
    obtain ⟨k, x, rfl, hk, rfl, hV⟩ := hrel
    obtain ⟨⟨u, c1⟩, f1⟩ := hV.cell (by omega) rfl
    have HV := Lib.hid hV
    clear hV
    rcases Nat.lt_or_ge (x % 18446744073709551616).toNat 128 with hsm | hsm
    · have ht : (bits .and .i64 x (-128) == 0) = true := by rw [i64_small]; exact decide_eq_true hsm
      have hy : x % 256 = (x % 18446744073709551616).toNat := by omega
      obtain ⟨bf1, hb1, ha1, hf1, hv1⟩ := HV.out.last hk (by omega) hsm rfl hy
      have hvw := H.out.vw HA.out hb1 ha1 hf1 (n := k + 1) (by omega) (by omega)
      rw [← hv1] at hvw
      have c0 := hvw.c0
      have hme := hvw.meth
      have hl : k + 1 = (vint (v % 18446744073709551616).toNat).length := by rw [hv1]; simp [hb1]; omega
      have hk0 : (0 : Int) ≤ (k : Int) + 1 := by omega
      have hk1 : (k : Int) + 1 ≤ 64 := by omega
      have HW := Lib.hid hvw
      clear hvw ha1 hf1 hv1 hb1 hy
      go_wp2_with fail
      go_region_held3 (fun w' => w'.cell? ⟨p, 0, none⟩ = some (memI m)) (first | exact c0 | exact d0)
        (first | (go_at_call 78; refine HW.out.call.mono ?_; rintro e w2 ⟨rfl, hB, hF⟩; have d0 := HW.out.held w2 hF))
      have HX := Lib.hid (HW.out.done w2 hB hF)
      clear hB hF
      go_wp2
      go_ret2
      exact HX.out
    · have ht : (bits .and .i64 x (-128) == 0) = false := by rw [i64_small]; exact decide_eq_false (by omega)
      have hy : bits .or .i64 (bits .and .i64 x 127) 128 % 256 = (((x % 18446744073709551616).toNat % 128 + 128 : Nat) : Int) := by rw [i64_and127, i64_or128 _ (by omega) (by omega)]; omega
      have hx := HV.out.next hk (by omega) hsm rfl hy
      have hz : (wrap64 (IntKind.u64.wrap x / 128) % 18446744073709551616).toNat = (x % 18446744073709551616).toNat / 128 := by
        try simp only [IntKind.wrap_u64, wrap64]
        omega
      have HX := Lib.hid hx
      have HZ := Lib.hid hz
      clear hx hy hz
      go_wp2_with fail
      refine ⟨⟨k + 1, _, rfl, HX.out.1, rfl, ?_⟩, ?_⟩
      · rw [HZ.out]; exact HX.out.2
      · have e1 : intOf (Value.int IntKind.i64 (↑k + 1)) = k + 1 := rfl
        have e2 : intOf (Value.int IntKind.i64 (k : Int)) = k := rfl
        rw [e1, e2]; omega
end Go.Proofs.YtdedkoahfailcaaGreatDoor
