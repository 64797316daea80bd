/- impl.Varint: the bytes of a number by the compact protocol. -/
import Derived.Test.YtkfkieebcahiiaaGreatDoorZVarint0
import Derived.Test.YtkfkieebcahiiaaGreatDoorZ3
import Derived.Test.YtkfkieebcahiiaaGreatDoorZ2
set_option linter.all false
namespace Go.Proofs.YtkfkieebcahiiaaGreatDoor
open Go Go.RowKit
set_option maxHeartbeats 2000000
set_option maxRecDepth 100000

theorem DoorV64 (p m b T : Nat) (cf : Value) (s : CSt) (l : List UInt8) (v : Int) (w : World) (h : CP w p m b cf s T true l) (hlim : T + 10 ≤ LIM) :
    Calls Tryz.prog 66 #[.pointer (some ⟨p, 0, none⟩), .int .i64 v] w (CW w p m b cf s s T l (vint (v % 18446744073709551616).toNat) (.tuple #[.int .i64 (vint (v % 18446744073709551616).toNat).length, .nilIface])) := by
  have H := Lib.hid (C_writeVarint64 p m b T cf s l v w h hlim)
  go_enter Tryz.func66, Tryz.ntmps66
  go_wp2_with (go_at_call 92; refine H.out.mono ?_; rintro e w' ⟨rfl, hc, hf⟩; have HR := Lib.hid (And.intro hc hf); clear hc hf)
  go_ret2
  exact ⟨rfl, HR.out.1, HR.out.2⟩
theorem DoorV32 (p m b T : Nat) (cf : Value) (s : CSt) (l : List UInt8) (v : Int) (w : World) (h : CP w p m b cf s T true l) (hlim : T + 5 ≤ LIM) :
    Calls Tryz.prog 67 #[.pointer (some ⟨p, 0, none⟩), .int .i32 v] w (CW w p m b cf s s T l (vint (v % 4294967296).toNat) (.tuple #[.int .i64 (vint (v % 4294967296).toNat).length, .nilIface])) := by
  have H := Lib.hid (C_writeVarint32 p m b T cf s l v w h hlim)
  go_enter Tryz.func67, Tryz.ntmps67
  go_wp2_with (go_at_call 93; refine H.out.mono ?_; rintro e w' ⟨rfl, hc, hf⟩; have HR := Lib.hid (And.intro hc hf); clear hc hf)
  go_ret2
  exact ⟨rfl, HR.out.1, HR.out.2⟩

/-- What impl.Varint tells. -/
def VarR (l : List UInt8) (w : World) (e : Ending) (w' : World) : Prop := ∃ v, e = .returned v ∧ Rd w' v l ∧ (∀ k, vblk v k → w.heap.size ≤ k) ∧ Fr noF noF w w'
theorem var_end {w w2 : World} {p b : Nat} {v : Value} {l : List UInt8} (hf : Fr noF (CPF w2 p b) w w2) (q : Nat) (hR : Rd (w2.drewN q) v l) (hv : ∀ k, vblk v k → BF w2 b k) :
    VarR l w (.returned v) (w2.drewN q) :=
  ⟨v, rfl, hR, fun k hk => by
    rcases Nat.lt_or_ge k w.heap.size with hlt | hge
    · exact (hf.foot k hlt (Or.inr (Or.inl (hv k hk)))).elim
    · exact hge, (hf.drewN q).conv fun _ _ x => x.elim⟩

theorem I_Varint (n : Int) (long : Bool) (w : World) : Calls Tryz.prog 39 #[.int .i64 n, .bool long] w (VarR (vint (if long then (n % 18446744073709551616).toNat else (n % 4294967296).toNat)) w) := by
  have HM := Lib.hid (NewTMemoryBuffer_raw w)
  have HC := Lib.hid NewC_raw
  have HD := Lib.hid DoorV64
  have HE := Lib.hid DoorV32
  have HB := Lib.hid Buf_Bytes
  cases long
  · go_enter Tryz.func39, Tryz.ntmps39
    go_wp2_with fail
    refine HM.out.mono ?_
    rintro e w1 ⟨m, b, rfl, hm, hb, hf, hmn⟩
    have H1 := Lib.hid (And.intro hm (And.intro hb hf))
    clear hm hb hf hmn HM
    go_wp2_with fail
    refine (HC.out m b 0 true [] (.pointer none) ⟨0, true, false, false, 0, 0, 0⟩ w1 (Or.inl ⟨rfl, rfl⟩) H1.out.1 H1.out.2.1).mono ?_
    rintro e w2 ⟨p, rfl, hP, hF, hp⟩
    have H2 := Lib.hid (And.intro hP (H1.out.2.2.trans hF))
    clear hP hF hp H1
    go_wp2_with fail
    refine (HE.out p m b 0 (.pointer none) CSt.new [] _ w2 H2.out.1 (by unfold LIM; omega)).mono ?_
    rintro e w3 ⟨rfl, hP, hF⟩
    have m0 := hP.mem.cell
    have H3 := Lib.hid (And.intro hP (H2.out.2.trans hF))
    clear hP hF H2
    go_wp2_with fail
    refine (HB.out b _ true _ w3 H3.out.1.buf).mono ?_
    rintro e w4 ⟨v, q, rfl, rfl, hR, hblk⟩
    have hw : wrap32 n % 4294967296 = n % 4294967296 := by unfold wrap32; omega
    have hr := var_end H3.out.2 q hR hblk
    rw [hw] at hr
    have HR := Lib.hid hr
    clear hR hblk hw hr
    go_wp2
    go_ret
    exact HR.out
  · go_enter Tryz.func39, Tryz.ntmps39
    go_wp2_with fail
    refine HM.out.mono ?_
    rintro e w1 ⟨m, b, rfl, hm, hb, hf, hmn⟩
    have H1 := Lib.hid (And.intro hm (And.intro hb hf))
    clear hm hb hf hmn HM
    go_wp2_with fail
    refine (HC.out m b 0 true [] (.pointer none) ⟨0, true, false, false, 0, 0, 0⟩ w1 (Or.inl ⟨rfl, rfl⟩) H1.out.1 H1.out.2.1).mono ?_
    rintro e w2 ⟨p, rfl, hP, hF, hp⟩
    have H2 := Lib.hid (And.intro hP (H1.out.2.2.trans hF))
    clear hP hF hp H1
    go_wp2_with fail
    refine (HD.out p m b 0 (.pointer none) CSt.new [] _ w2 H2.out.1 (by unfold LIM; omega)).mono ?_
    rintro e w3 ⟨rfl, hP, hF⟩
    have m0 := hP.mem.cell
    have H3 := Lib.hid (And.intro hP (H2.out.2.trans hF))
    clear hP hF H2
    go_wp2_with fail
    refine (HB.out b _ true _ w3 H3.out.1.buf).mono ?_
    rintro e w4 ⟨v, q, rfl, rfl, hR, hblk⟩
    have HR := Lib.hid (var_end H3.out.2 q hR hblk)
    clear hR hblk
    go_wp2
    go_ret
    exact HR.out

end Go.Proofs.YtkfkieebcahiiaaGreatDoor
