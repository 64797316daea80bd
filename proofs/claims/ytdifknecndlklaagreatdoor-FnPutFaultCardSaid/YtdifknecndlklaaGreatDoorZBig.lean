/- laws.big: the lowest bytes of a number, the highest one first. -/
import Derived.Test.YtdifknecndlklaaGreatDoorZ4
import Derived.Test.YtdifknecndlklaaGreatDoorZ1
set_option linter.all false
namespace Go.Proofs.YtdifknecndlklaaGreatDoor
open Go Go.RowKit
set_option maxHeartbeats 2000000
set_option maxRecDepth 100000

theorem big_more (j m V : Nat) : Lib.beBytes (m + 1) (V / 256 ^ j) = Lib.beBytes m (V / 256 ^ (j + 1)) ++ [(V / 256 ^ j % 256).toUInt8] := by
  rw [beBytes_succ, Nat.div_div_eq_div_mul, ← Nat.pow_succ]
theorem big_val (n : Int) (j : Nat) : IntKind.u64.wrap n / 2 ^ (8 * j) % 256 = (((n % 18446744073709551616).toNat / 256 ^ j % 256).toUInt8.toNat : Int) := by
  have h1 : IntKind.u64.wrap n = ((n % 18446744073709551616).toNat : Int) := by rw [IntKind.wrap_u64]; omega
  rw [h1, Int.pow_mul]
  have h2 : ((2 : Int) ^ 8) ^ j = ((256 ^ j : Nat) : Int) := by norm_cast
  rw [h2]
  obtain ⟨V, hV⟩ : ∃ V, V = (n % 18446744073709551616).toNat := ⟨_, rfl⟩
  rw [← hV]
  have h3 : (V / 256 ^ j % 256).toUInt8.toNat = V / 256 ^ j % 256 := by
    show (UInt8.ofNat _).toNat = _
    rw [UInt8.toNat_ofNat']
    omega
  rw [h3]
  push_cast
  rfl

theorem L_big (n : Int) (size : Nat) (hs : size ≤ 8) (w : World) : Calls Tryz.prog 28 #[.int .i64 n, .int .i64 size] w (NewR (bigB n size) w) := by
  obtain ⟨i0, hi, hz0, hz1, hz2⟩ := info_parts info_u8
  have HI := Lib.hid (And.intro hi (And.intro hz0 (And.intro hz1 hz2)))
  obtain ⟨V, hV⟩ : ∃ V, V = (n % 18446744073709551616).toNat := ⟨_, rfl⟩
  have HB := Lib.hid (show bigB n size = Lib.beBytes size V by rw [hV]; rfl)
  have HV := Lib.hid (show ∀ j, IntKind.u64.wrap n / 2 ^ (8 * j) % 256 = ((V / 256 ^ j % 256).toUInt8.toNat : Int) from fun j => by rw [hV]; exact big_val n j)
  have hs' : (size : Int) ≤ 8 := by omega
  clear hi hz0 hz1 hz2 hV
  go_enter Tryz.func28, Tryz.ntmps28
  go_wp2
  go_loopw [5, 6] (fun v i wr => ∃ k : Nat, i = .int .i64 ((k : Int) - 1) ∧ k ≤ size ∧ OwnB wr w.heap.size v (Lib.beBytes (size - k) (V / 256 ^ k)) ∧ Fr noF noF w wr) (fun _ i _ => (intOf i + 1).toNat)
  case atStart =>
    refine ⟨size, by first | rfl | go_num, Nat.le_refl _, ?_, Fr.refl noF w⟩
    rw [Nat.sub_self]
    exact OwnB.nil w _
  case round =>
    obtain ⟨k, rfl, hk, hown, hf⟩ := hrel
    rcases Nat.eq_zero_or_pos k with rfl | hpos
    · have HX := Lib.hid (And.intro hown hf)
      clear hown hf
      go_wp2
      go_ret
      refine ⟨_, rfl, ?_, HX.out.2⟩
      have := HX.out.1
      rw [Nat.sub_zero, Nat.pow_zero, Nat.div_one, ← HB.out] at this
      exact this
    · obtain ⟨j, rfl⟩ : ∃ j, k = j + 1 := ⟨k - 1, by omega⟩
      have e1 : ((j + 1 : Nat) : Int) - 1 = (j : Int) := by omega
      rw [e1]
      have hj0 : (0 : Int) ≤ (j : Int) := by omega
      have hj1 : (j : Int) ≤ 7 := by omega
      have hnx := big_more j (size - (j + 1)) V
      rw [show size - (j + 1) + 1 = size - j by omega] at hnx
      have hlen : (Lib.beBytes (size - (j + 1)) (V / 256 ^ (j + 1))).length ≤ 8 := by rw [Lib.beBytes_length]; omega
      obtain ⟨L, hL⟩ : ∃ L, L = Lib.beBytes (size - (j + 1)) (V / 256 ^ (j + 1)) := ⟨_, rfl⟩
      rw [← hL] at hown hnx hlen
      have HX := Lib.hid (And.intro hown (And.intro hf (And.intro hnx hlen)))
      have hz := hf.size
      clear hown hf e1 hnx hL hlen
      have hzz : w.heap.size ≤ (wr.alloc (.cells #[.int .u8 (IntKind.u64.wrap n / 2 ^ (8 * j) % 256)] U8 (0, 0))).heap.size := by simp; omega
      have HZ := Lib.hid hzz
      clear hz hzz
      go_wp2_with (at_builtin; refine wpList_append_own _ rfl _ _ 24 rfl w.heap.size U8 i0 (.int .u8 0) 1 1 Tryz.underlying24 HI.out.1 HI.out.2.1 HI.out.2.2.1 HI.out.2.2.2 rfl (by decide) _ L.length (Lib.byteCells L) rfl (HX.out.1.alloc _) ⟨wr.heap.size, 0, none⟩ 1 1 [.int .u8 (IntKind.u64.wrap n / 2 ^ (8 * j) % 256)] rfl rfl (app_cell _ _ _) (app_one rfl) (by have := HX.out.2.2.2; unfold maxLen; omega) (by have := HX.out.2.2.2; omega) HZ.out ?_)
      intro v' w1 hown' hgrow _
      have hY : OwnB w1 w.heap.size v' (Lib.beBytes (size - j) (V / 256 ^ j)) := by
        rw [HX.out.2.2.1]
        exact OwnB.snoc hown' rfl (HV.out j)
      have hfr := ((HX.out.2.1.alloc _).grown hgrow (fun k hk => (HX.out.1.own k hk)))
      have HY := Lib.hid (And.intro hY hfr)
      clear hown' hgrow hY hfr
      go_wp2_with fail
      go_roundw
      case rel => exact ⟨j, by first | rfl | go_num, by omega, HY.out.1, HY.out.2⟩
      case measure => simp [intOf]
end Go.Proofs.YtdifknecndlklaaGreatDoor
