/- FnUuidBack: walked. -/
import Derived.Test.YtdedkoahfailcaaGreatDoorUuidB
import Derived.Test.YtdedkoahfailcaaGreatDoorKnown
namespace Go.Proofs.YtdedkoahfailcaaGreatDoor
open Go Go.RowKit
set_option maxHeartbeats 4000000
set_option maxRecDepth 100000

theorem Rd.bound {w : World} {a : Option Addr} {n c : Nat} {l : List UInt8} (h : Rd w (.slice a n c) l) : l.length = n ∧ (n : Int) ≤ 9223372036854775807 := by
  rcases h with ⟨h, rfl⟩ | ⟨_, _, _, h, hl, hc, hm, _⟩
  · injection h with _ h _; subst h; exact ⟨rfl, by omega⟩
  · injection h with _ h _; unfold maxLen at hm; subst h; exact ⟨hl, by omega⟩

theorem L_FnUuidBack (vb : Value) (b : List UInt8) (vs : Value) (s : List UInt8) (w : World) (hb : Rd w vb b) (hs : Rd w vs s) : Calls Tryz.prog 8 #[vb, vs] w fun e w' => e = .returned (.bool true) ∧ Fr noF noF w w' := by
  have HK := Lib.hid L_known
  have HT := Lib.hid I_UuidText
  have HU := Lib.hid I_Uuid
  have HUp := Lib.hid L_upper
  have HLo := Lib.hid L_lower
  have HP := Lib.hid L_padded
  have HE := Lib.hid L_equal
  obtain ⟨a1, n1, c1, rfl, _⟩ := hb.len
  obtain ⟨a2, n2, c2, rfl, _⟩ := hs.len
  obtain ⟨l1, m1⟩ := hb.bound
  obtain ⟨l2, m2⟩ := hs.bound
  have HB := Lib.hid hb
  have HS := Lib.hid hs
  have HL := Lib.hid (And.intro l1 l2)
  clear hb hs l1 l2
  rcases (show (2147483647 < n1) ∨ (n1 ≤ 2147483647 ∧ 2147483647 < n2) ∨ (n1 ≤ 2147483647 ∧ n2 ≤ 2147483647) by omega) with h | ⟨h, h'⟩ | ⟨h, h'⟩
  · have q1 : (2147483647 : Int) < (n1 : Int) := by omega
    clear h
    go_enter Tryz.func8, Tryz.ntmps8
    go_wp2
    go_ret
    exact ⟨rfl, Fr.refl noF w⟩
  · have q1 : ¬ (2147483647 : Int) < (n1 : Int) := by omega
    have q2 : (2147483647 : Int) < (n2 : Int) := by omega
    clear h h'
    go_enter Tryz.func8, Tryz.ntmps8
    go_wp2
    go_ret
    exact ⟨rfl, Fr.refl noF w⟩
  have q1 : ¬ (2147483647 : Int) < (n1 : Int) := by omega
  have q2 : ¬ (2147483647 : Int) < (n2 : Int) := by omega
  clear h h'
  rcases (show (65536 < n1) ∨ (n1 ≤ 65536 ∧ 65536 < n2) ∨ (n1 ≤ 65536 ∧ n2 ≤ 65536) by omega) with h | ⟨h, h'⟩ | ⟨h, h'⟩
  · have q3 : (65536 : Int) < (n1 : Int) := by omega
    clear h
    go_enter Tryz.func8, Tryz.ntmps8
    go_wp2_with (go_at_call 13; refine (HK.out _).mono ?_; rintro e w1 ⟨rfl, hf⟩; have HX := Lib.hid hf; clear hf)
    go_ret
    exact ⟨rfl, HX.out⟩
  · have q3 : ¬ (65536 : Int) < (n1 : Int) := by omega
    have q4 : (65536 : Int) < (n2 : Int) := by omega
    clear h h'
    go_enter Tryz.func8, Tryz.ntmps8
    go_wp2_with (go_at_call 13; refine (HK.out _).mono ?_; rintro e w1 ⟨rfl, hf⟩; have HX := Lib.hid hf; clear hf)
    go_ret
    exact ⟨rfl, HX.out⟩
  have q3 : ¬ (65536 : Int) < (n1 : Int) := by omega
  have q4 : ¬ (65536 : Int) < (n2 : Int) := by omega
  have hs2 : s.length ≤ 100000 := by have := HL.out.2; omega
  have HS2 := Lib.hid hs2
  clear h h' hs2
  obtain ⟨U, hU⟩ : ∃ U, U = pad16 b := ⟨_, rfl⟩
  have hUl : U.length = 16 := by rw [hU]; exact pad16_len b
  have HUU := Lib.hid (And.intro hU (And.intro (uu_text hUl) (And.intro (uu_upper hUl) (utext_len hUl))))
  clear hU hUl
  go_enter Tryz.func8, Tryz.ntmps8
  go_wp2_with fail
  refine (HT.out _ b w HB.out).mono ?_
  rintro e w1 ⟨v1, rfl, hr, _, hf⟩
  rw [← HUU.out.1] at hr
  obtain ⟨t1, k1, d1, rfl, hk1⟩ := hr.len
  obtain rfl : 36 = k1 := by rw [← hk1]; exact HUU.out.2.2.2.symm
  have R1 := Lib.hid (And.intro hr hf)
  clear hr hf hk1
  go_wp2_with fail
  refine (HU.out _ _ w1 R1.out.1).mono ?_
  rintro e w2 ⟨hf, v2, rfl, hr⟩
  rw [HUU.out.2.1]
  have R2 := Lib.hid (And.intro (R1.out.1.keep (F := noF) hf fun _ _ x => x) (And.intro (hr _ HUU.out.2.1).1 (R1.out.2.trans hf)))
  clear hr hf R1
  simp only [Option.isSome]
  go_wp2_with fail
  refine (HUp.out _ _ w2 R2.out.1 (by rw [HUU.out.2.2.2]; decide)).mono ?_
  rintro e w3 ⟨v3, rfl, hr, _, hf⟩
  have R3 := Lib.hid (And.intro hr (And.intro (R2.out.2.1.keep (F := noF) hf fun _ _ x => x) (R2.out.2.2.trans hf)))
  clear hr hf R2
  go_wp2_with fail
  refine (HU.out _ _ w3 R3.out.1).mono ?_
  rintro e w4 ⟨hf, v4, rfl, hr⟩
  rw [HUU.out.2.2.1]
  have R4 := Lib.hid (And.intro (hr _ HUU.out.2.2.1).1 (And.intro (R3.out.2.1.keep (F := noF) hf fun _ _ x => x) (R3.out.2.2.trans hf)))
  clear hr hf R3
  simp only [Option.isSome]
  go_wp2_with fail
  refine (HP.out _ b w4 (HB.out.keep (F := noF) R4.out.2.2 fun _ _ x => x)).mono ?_
  rintro e w5 ⟨v5, rfl, hr, _, hf⟩
  rw [← HUU.out.1] at hr
  have R5 := Lib.hid (And.intro hr (And.intro (R4.out.1.keep (F := noF) hf fun _ _ x => x) (And.intro (R4.out.2.1.keep (F := noF) hf fun _ _ x => x) (R4.out.2.2.trans hf))))
  clear hr hf R4
  go_wp2_with fail
  refine (HE.out v2 v5 U U w5 R5.out.2.2.1 R5.out.1).mono ?_
  rintro e w6 ⟨rfl, q6, rfl⟩
  have hdd : decide (U = U) = true := decide_eq_true rfl
  have R6 := Lib.hid (And.intro (R5.out.2.1.keep (F := noF) ((Fr.refl noF w5).drewN q6) fun _ _ x => x) (And.intro (R5.out.2.2.1.keep (F := noF) ((Fr.refl noF w5).drewN q6) fun _ _ x => x) (R5.out.2.2.2.drewN q6)))
  clear R5
  go_wp2_with fail
  refine (HE.out v4 v2 U U _ R6.out.1 R6.out.2.1).mono ?_
  rintro e w7 ⟨rfl, q7, rfl⟩
  have hr7 := R6.out.2.2.drewN q7
  rw [World.drewN_drewN] at hr7
  have R7 := Lib.hid hr7
  clear hr7
  clear R6
  go_wp2_with fail
  refine (HU.out _ s _ (HS.out.keep (F := noF) R7.out fun _ _ x => x)).mono ?_
  rintro e w8 ⟨hf, v8, rfl, hr⟩
  have R8 := Lib.hid (And.intro hr (R7.out.trans hf))
  clear hr hf R7 hdd
  cases hu : uu s with
  | none =>
    simp only [Option.isSome]
    clear hu
    go_wp2_with fail
    refine (HK.out _).mono ?_
    rintro e w9 ⟨rfl, hf⟩
    have HX := Lib.hid (R8.out.2.trans hf)
    clear hf
    go_wp2
    go_ret
    exact ⟨rfl, HX.out⟩
  | some d =>
    simp only [Option.isSome]
    have HD := Lib.hid (And.intro (R8.out.1 d hu).1 (And.intro (uu_back hu) (uu_len hu).1))
    clear hu
    go_wp2_with fail
    refine (HT.out _ d w8 HD.out.1).mono ?_
    rintro e w9 ⟨v9, rfl, hr, _, hf⟩
    have hpd : pad16 d = d := pad16_same HD.out.2.2
    rw [hpd, HD.out.2.1] at hr
    have R9 := Lib.hid (And.intro hr (R8.out.2.trans hf))
    clear hr hf hpd R8 HD
    go_wp2_with fail
    refine (HLo.out _ s w9 (HS.out.keep (F := noF) R9.out.2 fun _ _ x => x) HS2.out).mono ?_
    rintro e w10 ⟨v10, rfl, hr, _, hf⟩
    have R10 := Lib.hid (And.intro hr (And.intro (R9.out.1.keep (F := noF) hf fun _ _ x => x) (R9.out.2.trans hf)))
    clear hr hf R9
    go_wp2_with fail
    refine (HE.out v9 v10 _ _ w10 R10.out.2.1 R10.out.1).mono ?_
    rintro e w11 ⟨rfl, q11, rfl⟩
    have hdd : decide (s.map loB = s.map loB) = true := decide_eq_true rfl
    have R11 := Lib.hid (R10.out.2.2.drewN q11)
    clear R10
    go_wp2_with fail
    refine (HK.out _).mono ?_
    rintro e w12 ⟨rfl, hf⟩
    have HX := Lib.hid (R11.out.trans hf)
    clear hf
    go_wp2
    go_ret
    exact ⟨rfl, HX.out⟩
end Go.Proofs.YtdedkoahfailcaaGreatDoor
