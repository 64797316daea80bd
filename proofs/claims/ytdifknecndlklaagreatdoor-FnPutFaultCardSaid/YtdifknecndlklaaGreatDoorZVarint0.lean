/- The specification's varint. -/
import Derived.Test.YtdifknecndlklaaGreatDoorZ1
import Derived.Test.YtdifknecndlklaaGreatDoorZ2
set_option linter.all false
namespace Go.Proofs.YtdifknecndlklaaGreatDoor
open Go Go.RowKit
set_option maxHeartbeats 2000000
set_option maxRecDepth 100000

theorem u8_or128_fin : ∀ y : Fin 256, bits .or .u8 ((y.val : Nat) : Int) 128 = ((y.val % 128 + 128 : Nat) : Int) := by decide
theorem u8_or128 (y : Int) (h0 : 0 ≤ y) (h1 : y < 256) : bits .or .u8 y 128 = y % 128 + 128 := by
  have h := u8_or128_fin ⟨y.toNat, by omega⟩
  simp only [Int.toNat_of_nonneg h0] at h
  rw [h]
  omega

theorem S_varint (x : Nat) (hx : x < 18446744073709551616) (w : World) : Calls Tryz.prog 101 #[.int .u64 x] w (NewR (vint x) w) := by
  obtain ⟨i0, hi, hz0, hz1, hz2⟩ := info_parts info_u8
  have HN := Lib.hid (OwnB.nil w w.heap.size)
  have hlen := vint_length x 10 (by omega) (by decide)
  go_enter Tryz.func101, Tryz.ntmps101
  go_wp2_with fail
  go_loopw [0, 3] (fun n o wr => ∃ (m : Nat) (O : List UInt8), n = .int .u64 m ∧ m ≤ x ∧ O ++ vint m = vint x ∧ OwnB wr w.heap.size o O ∧ Fr noF noF w wr) (fun n _ _ => (intOf n).toNat)
  case atStart => exact ⟨x, [], rfl, Nat.le_refl _, rfl, HN.out, Fr.refl noF w⟩
  case round =>
    obtain ⟨m, O, rfl, hm, hv, hown, hfr⟩ := hrel
    have hOl : O.length ≤ 10 := by have := congrArg List.length hv; simp at this; omega
    have hsz := hfr.size
    rcases Nat.lt_or_ge m 128 with hlt | hge
    · have hd : ¬ (128 : Int) ≤ (m : Int) := by omega
      have hb : (m : Int) = ((m.toUInt8).toNat : Int) := (u8_nat m (by omega)).symm
      rw [vint_small hlt] at hv
      have HV := Lib.hid (And.intro hv (And.intro hfr hb))
      clear hv hfr hb
      go_wp2_with (at_builtin; refine wpList_append_own _ rfl _ _ 24 rfl w.heap.size U8 i0 (.int .u8 0) 1 1 Tryz.underlying24 hi hz0 hz1 hz2 rfl (by decide) _ _ _ rfl (hown.alloc _) ⟨wr.heap.size, 0, none⟩ 1 1 [.int .u8 (m : Int)] rfl rfl (app_cell _ _ _) (app_one rfl) (by unfold maxLen; omega) (by omega) (by first | omega | (simp; omega)) ?_)
      · intro v' w1 hown' hg _
        have HG := Lib.hid (And.intro (OwnB.snoc (l := O) (u := m.toUInt8) hown' rfl HV.out.2.2) (((HV.out.2.1.alloc _).grown hg fun k hk => by have := hown.own k hk; exact this)))
        clear hown' hg hown
        go_wp2
        go_ret
        refine ⟨_, rfl, ?_, HG.out.2⟩
        have := HG.out.1
        rw [HV.out.1] at this
        exact this
    · have hd : (128 : Int) ≤ (m : Int) := by omega
      have ho : bits .or .u8 ((m : Int) % 256) 128 = (m : Int) % 128 + 128 := by rw [u8_or128 _ (by omega) (by omega)]; omega
      have hb : (m : Int) % 128 + 128 = (((m % 128 + 128).toUInt8).toNat : Int) := by rw [u8_nat _ (by omega)]; omega
      have HQ := Lib.hid (show (m : Int) / 128 = ((m / 128 : Nat) : Int) by omega)
      rw [vint_big (by omega)] at hv
      have HV := Lib.hid (And.intro hv (And.intro hfr hb))
      clear hv hfr hb
      go_wp2_with (at_builtin; refine wpList_append_own _ rfl _ _ 24 rfl w.heap.size U8 i0 (.int .u8 0) 1 1 Tryz.underlying24 hi hz0 hz1 hz2 rfl (by decide) _ _ _ rfl (hown.alloc _) ⟨wr.heap.size, 0, none⟩ 1 1 [.int .u8 ((m : Int) % 128 + 128)] rfl rfl (app_cell _ _ _) (app_one rfl) (by unfold maxLen; omega) (by omega) (by first | omega | (simp; omega)) ?_)
      · intro v' w1 hown' hg _
        have HG := Lib.hid (And.intro (OwnB.snoc (l := O) (u := (m % 128 + 128).toUInt8) hown' rfl HV.out.2.2) (((HV.out.2.1.alloc _).grown hg fun k hk => by have := hown.own k hk; exact this)))
        clear hown' hg hown
        go_wp2
        refine ⟨⟨m / 128, O ++ [(m % 128 + 128).toUInt8], by rw [← HQ.out], by omega, ?_, HG.out.1, HG.out.2⟩, ?_⟩
        · rw [List.append_assoc]; exact HV.out.1
        · simp [intOf]; omega

end Go.Proofs.YtdifknecndlklaaGreatDoor
