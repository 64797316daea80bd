/- FnVarint: both sides write a number alike. -/
import Derived.Test.YtdedkoahfailcaaGreatDoorOwned
import Derived.Test.YtdedkoahfailcaaGreatDoorKnown
namespace Go.Proofs.YtdedkoahfailcaaGreatDoor
open Go Go.RowKit
set_option maxHeartbeats 2000000
set_option maxRecDepth 100000

theorem u8_or128_fin : ∀ y : Fin 256, bits .or .u8 ((y.val : Nat) : Int) 128 = ((y.val % 128 + 128 : Nat) : Int) := by decide
theorem u8_or128 (y : Int) (h0 : 0 ≤ y) (h1 : y < 256) : bits .or .u8 y 128 = y % 128 + 128 := by
  have h := u8_or128_fin ⟨y.toNat, by omega⟩
  simp only [Int.toNat_of_nonneg h0] at h
  rw [h]
  omega

theorem S_varint (x : Nat) (hx : x < 18446744073709551616) (w : World) : Calls Tryz.prog 56 #[.int .u64 x] w (NewR (vint x) w) := by
  obtain ⟨i0, hi, hz0, hz1, hz2⟩ := info_parts info_u8
  have HN := Lib.hid (OwnB.nil w w.heap.size)
  have hlen := vint_length x 10 (by omega) (by decide)
  go_enter Tryz.func56, Tryz.ntmps56
  go_wp2_with fail
  go_loopw [0, 3] (fun n o wr => ∃ (m : Nat) (O : List UInt8), n = .int .u64 m ∧ m ≤ x ∧ O ++ vint m = vint x ∧ OwnB wr w.heap.size o O ∧ Fr noF noF w wr) (fun n _ _ => (intOf n).toNat)
  case atStart => exact ⟨x, [], rfl, Nat.le_refl _, rfl, HN.out, Fr.refl noF w⟩
  case round =>
    obtain ⟨m, O, rfl, hm, hv, hown, hfr⟩ := hrel
    have hOl : O.length ≤ 10 := by have := congrArg List.length hv; simp at this; omega
    have hsz := hfr.size
    rcases Nat.lt_or_ge m 128 with hlt | hge
    · have hd : ¬ (128 : Int) ≤ (m : Int) := by omega
      have hb : (m : Int) = ((m.toUInt8).toNat : Int) := (u8_nat m (by omega)).symm
      rw [vint_small hlt] at hv
      have HV := Lib.hid (And.intro hv (And.intro hfr hb))
      clear hv hfr hb
      go_wp2_with (at_builtin; refine wpList_append_own _ rfl _ _ 35 rfl w.heap.size U8 i0 (.int .u8 0) 1 1 Tryz.underlying35 hi hz0 hz1 hz2 rfl (by decide) _ _ _ rfl (hown.alloc _) ⟨wr.heap.size, 0, none⟩ 1 1 [.int .u8 (m : Int)] rfl rfl (app_cell _ _ _) (app_one rfl) (by unfold maxLen; omega) (by omega) (by first | omega | (simp; omega)) ?_)
      · intro v' w1 hown' hg _
        have HG := Lib.hid (And.intro (OwnB.snoc (l := O) (u := m.toUInt8) hown' rfl HV.out.2.2) (((HV.out.2.1.alloc _).grown hg fun k hk => by have := hown.own k hk; exact this)))
        clear hown' hg hown
        go_wp2
        go_ret
        refine ⟨_, rfl, ?_, HG.out.2⟩
        have := HG.out.1
        rw [HV.out.1] at this
        exact this
    · have hd : (128 : Int) ≤ (m : Int) := by omega
      have ho : bits .or .u8 ((m : Int) % 256) 128 = (m : Int) % 128 + 128 := by rw [u8_or128 _ (by omega) (by omega)]; omega
      have hb : (m : Int) % 128 + 128 = (((m % 128 + 128).toUInt8).toNat : Int) := by rw [u8_nat _ (by omega)]; omega
      have HQ := Lib.hid (show (m : Int) / 128 = ((m / 128 : Nat) : Int) by omega)
      rw [vint_big (by omega)] at hv
      have HV := Lib.hid (And.intro hv (And.intro hfr hb))
      clear hv hfr hb
      go_wp2_with (at_builtin; refine wpList_append_own _ rfl _ _ 35 rfl w.heap.size U8 i0 (.int .u8 0) 1 1 Tryz.underlying35 hi hz0 hz1 hz2 rfl (by decide) _ _ _ rfl (hown.alloc _) ⟨wr.heap.size, 0, none⟩ 1 1 [.int .u8 ((m : Int) % 128 + 128)] rfl rfl (app_cell _ _ _) (app_one rfl) (by unfold maxLen; omega) (by omega) (by first | omega | (simp; omega)) ?_)
      · intro v' w1 hown' hg _
        have HG := Lib.hid (And.intro (OwnB.snoc (l := O) (u := (m % 128 + 128).toUInt8) hown' rfl HV.out.2.2) (((HV.out.2.1.alloc _).grown hg fun k hk => by have := hown.own k hk; exact this)))
        clear hown' hg hown
        go_wp2
        refine ⟨⟨m / 128, O ++ [(m % 128 + 128).toUInt8], by rw [← HQ.out], by omega, ?_, HG.out.1, HG.out.2⟩, ?_⟩
        · rw [List.append_assoc]; exact HV.out.1
        · simp [intOf]; omega

theorem S_Varint (n : Int) (long : Bool) (w : World) : Calls Tryz.prog 26 #[.int .i64 n, .bool long] w (NewR (vint (if long then (n % 18446744073709551616).toNat else (n % 4294967296).toNat)) w) := by
  have HV := Lib.hid S_varint
  cases long
  · have e : (n % 4294967296) = (((n % 4294967296).toNat : Nat) : Int) := by omega
    have hV := S_varint (n % 4294967296).toNat (by omega) w
    rw [← e] at hV
    have H := Lib.hid hV
    clear hV e
    go_enter Tryz.func26, Tryz.ntmps26
    go_wp2_with (go_at_call 56; refine H.out.mono ?_; rintro e w' ⟨v, rfl, ho, hf⟩; have HR := Lib.hid (And.intro ho hf); clear ho hf)
    go_ret
    exact ⟨_, rfl, HR.out.1, HR.out.2⟩
  · have e : (n % 18446744073709551616) = (((n % 18446744073709551616).toNat : Nat) : Int) := by omega
    have hV := S_varint (n % 18446744073709551616).toNat (by omega) w
    rw [← e] at hV
    have H := Lib.hid hV
    clear hV e
    go_enter Tryz.func26, Tryz.ntmps26
    go_wp2_with (go_at_call 56; refine H.out.mono ?_; rintro e w' ⟨v, rfl, ho, hf⟩; have HR := Lib.hid (And.intro ho hf); clear ho hf)
    go_ret
    exact ⟨_, rfl, HR.out.1, HR.out.2⟩

theorem DoorV64 (p m b T : Nat) (cf : Value) (s : CSt) (l : List UInt8) (v : Int) (w : World) (h : CP w p m b cf s T true l) (hlim : T + 10 ≤ LIM) :
    Calls Tryz.prog 53 #[.pointer (some ⟨p, 0, none⟩), .int .i64 v] w (CW w p m b cf s s T l (vint (v % 18446744073709551616).toNat) (.tuple #[.int .i64 (vint (v % 18446744073709551616).toNat).length, .nilIface])) := by
  have H := Lib.hid (C_writeVarint64 p m b T cf s l v w h hlim)
  go_enter Tryz.func53, Tryz.ntmps53
  go_wp2_with (go_at_call 70; refine H.out.mono ?_; rintro e w' ⟨rfl, hc, hf⟩; have HR := Lib.hid (And.intro hc hf); clear hc hf)
  go_ret2
  exact ⟨rfl, HR.out.1, HR.out.2⟩
theorem DoorV32 (p m b T : Nat) (cf : Value) (s : CSt) (l : List UInt8) (v : Int) (w : World) (h : CP w p m b cf s T true l) (hlim : T + 5 ≤ LIM) :
    Calls Tryz.prog 54 #[.pointer (some ⟨p, 0, none⟩), .int .i32 v] w (CW w p m b cf s s T l (vint (v % 4294967296).toNat) (.tuple #[.int .i64 (vint (v % 4294967296).toNat).length, .nilIface])) := by
  have H := Lib.hid (C_writeVarint32 p m b T cf s l v w h hlim)
  go_enter Tryz.func54, Tryz.ntmps54
  go_wp2_with (go_at_call 71; refine H.out.mono ?_; rintro e w' ⟨rfl, hc, hf⟩; have HR := Lib.hid (And.intro hc hf); clear hc hf)
  go_ret2
  exact ⟨rfl, HR.out.1, HR.out.2⟩

/-- What impl.Varint tells. -/
def VarR (l : List UInt8) (w : World) (e : Ending) (w' : World) : Prop := ∃ v, e = .returned v ∧ Rd w' v l ∧ (∀ k, vblk v k → w.heap.size ≤ k) ∧ Fr noF noF w w'
theorem var_end {w w2 : World} {p b : Nat} {v : Value} {l : List UInt8} (hf : Fr noF (CPF w2 p b) w w2) (q : Nat) (hR : Rd (w2.drewN q) v l) (hv : ∀ k, vblk v k → BF w2 b k) :
    VarR l w (.returned v) (w2.drewN q) :=
  ⟨v, rfl, hR, fun k hk => by
    rcases Nat.lt_or_ge k w.heap.size with hlt | hge
    · exact (hf.foot k hlt (Or.inr (Or.inl (hv k hk)))).elim
    · exact hge, (hf.drewN q).conv fun _ _ x => x.elim⟩

theorem I_Varint (n : Int) (long : Bool) (w : World) : Calls Tryz.prog 25 #[.int .i64 n, .bool long] w (VarR (vint (if long then (n % 18446744073709551616).toNat else (n % 4294967296).toNat)) w) := by
  have HM := Lib.hid (NewTMemoryBuffer_raw w)
  have HC := Lib.hid NewC_raw
  have HD := Lib.hid DoorV64
  have HE := Lib.hid DoorV32
  have HB := Lib.hid Buf_Bytes
  cases long
  · go_enter Tryz.func25, Tryz.ntmps25
    go_wp2_with fail
    refine HM.out.mono ?_
    rintro e w1 ⟨m, b, rfl, hm, hb, hf, hmn⟩
    have H1 := Lib.hid (And.intro hm (And.intro hb hf))
    clear hm hb hf hmn HM
    go_wp2_with fail
    refine (HC.out m b 0 true [] (.pointer none) ⟨0, true, false, false, 0, 0, 0⟩ w1 (Or.inl ⟨rfl, rfl⟩) H1.out.1 H1.out.2.1).mono ?_
    rintro e w2 ⟨p, rfl, hP, hF, hp⟩
    have H2 := Lib.hid (And.intro hP (H1.out.2.2.trans hF))
    clear hP hF hp H1
    go_wp2_with fail
    refine (HE.out p m b 0 (.pointer none) CSt.new [] _ w2 H2.out.1 (by unfold LIM; omega)).mono ?_
    rintro e w3 ⟨rfl, hP, hF⟩
    have m0 := hP.mem.cell
    have H3 := Lib.hid (And.intro hP (H2.out.2.trans hF))
    clear hP hF H2
    go_wp2_with fail
    refine (HB.out b _ true _ w3 H3.out.1.buf).mono ?_
    rintro e w4 ⟨v, q, rfl, rfl, hR, hblk⟩
    have hw : wrap32 n % 4294967296 = n % 4294967296 := by unfold wrap32; omega
    have hr := var_end H3.out.2 q hR hblk
    rw [hw] at hr
    have HR := Lib.hid hr
    clear hR hblk hw hr
    go_wp2
    go_ret
    exact HR.out
  · go_enter Tryz.func25, Tryz.ntmps25
    go_wp2_with fail
    refine HM.out.mono ?_
    rintro e w1 ⟨m, b, rfl, hm, hb, hf, hmn⟩
    have H1 := Lib.hid (And.intro hm (And.intro hb hf))
    clear hm hb hf hmn HM
    go_wp2_with fail
    refine (HC.out m b 0 true [] (.pointer none) ⟨0, true, false, false, 0, 0, 0⟩ w1 (Or.inl ⟨rfl, rfl⟩) H1.out.1 H1.out.2.1).mono ?_
    rintro e w2 ⟨p, rfl, hP, hF, hp⟩
    have H2 := Lib.hid (And.intro hP (H1.out.2.2.trans hF))
    clear hP hF hp H1
    go_wp2_with fail
    refine (HD.out p m b 0 (.pointer none) CSt.new [] _ w2 H2.out.1 (by unfold LIM; omega)).mono ?_
    rintro e w3 ⟨rfl, hP, hF⟩
    have m0 := hP.mem.cell
    have H3 := Lib.hid (And.intro hP (H2.out.2.trans hF))
    clear hP hF H2
    go_wp2_with fail
    refine (HB.out b _ true _ w3 H3.out.1.buf).mono ?_
    rintro e w4 ⟨v, q, rfl, rfl, hR, hblk⟩
    have HR := Lib.hid (var_end H3.out.2 q hR hblk)
    clear hR hblk
    go_wp2
    go_ret
    exact HR.out

theorem L_FnVarint (n : Int) (long : Bool) (w : World) : Calls Tryz.prog 9 #[.int .i64 n, .bool long] w fun e w' => e = .returned (.bool true) ∧ Fr noF noF w w' := by
  have H1 := Lib.hid (I_Varint n long)
  have H2 := Lib.hid (S_Varint n long)
  have HE := Lib.hid L_equal
  have HK := Lib.hid L_known
  obtain ⟨l, hl⟩ : ∃ l, l = vint (if long then (n % 18446744073709551616).toNat else (n % 4294967296).toNat) := ⟨_, rfl⟩
  rw [← hl] at H1 H2
  clear hl
  go_enter Tryz.func9, Tryz.ntmps9
  go_wp2_with fail
  refine (H1.out _).mono ?_
  rintro e w1 ⟨v1, rfl, hr1, hb1, hf1⟩
  have R1 := Lib.hid (And.intro hr1 hf1)
  clear hr1 hb1 hf1
  go_wp2_with fail
  refine (H2.out _).mono ?_
  rintro e w2 ⟨v2, rfl, ho, hf⟩
  have R2 := Lib.hid (And.intro (R1.out.1.keep (F := noF) hf fun _ _ x => x) (And.intro ho.rd (R1.out.2.trans hf)))
  clear ho hf R1
  go_wp2_with fail
  refine (HE.out v1 v2 l l w2 R2.out.1 R2.out.2.1).mono ?_
  rintro e w3 ⟨rfl, q, rfl⟩
  have HF := Lib.hid (R2.out.2.2.drewN q)
  clear R2
  have hd : decide (l = l) = true := decide_eq_true rfl
  go_wp2_with fail
  refine (HK.out _).mono ?_
  rintro e w4 ⟨rfl, hf⟩
  have HX := Lib.hid (HF.out.trans hf)
  clear hf HF
  go_wp2
  go_ret
  exact ⟨rfl, HX.out⟩
end Go.Proofs.YtdedkoahfailcaaGreatDoor
