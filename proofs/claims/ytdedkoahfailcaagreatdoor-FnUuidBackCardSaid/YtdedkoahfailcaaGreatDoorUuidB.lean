/- FnUuidBack: a uuid's text is read back; a text that is read is the text of what it is. -/
import Derived.Test.YtdedkoahfailcaaGreatDoorText
import Derived.Test.YtdedkoahfailcaaGreatDoorUuid
namespace Go.Proofs.YtdedkoahfailcaaGreatDoor
open Go Go.RowKit Go.Lib
set_option maxHeartbeats 2000000
set_option maxRecDepth 100000

def pairOf (a b : Int) : Option UInt8 :=
  match hexd a, hexd b with
  | some x, some y => some (UInt8.ofNat (16 * x + y).toNat)
  | _, _ => none
theorem hexd_digit_fin : ∀ d : Fin 16, hexd (((Hx.digit d.val).toNat : Nat) : Int) = some ((d.val : Nat) : Int) ∧ hexd (((upB (Hx.digit d.val)).toNat : Nat) : Int) = some ((d.val : Nat) : Int) := by decide +kernel
theorem hexd_lower_fin : ∀ n : Fin 256, (match hexd ((n.val : Nat) : Int) with | some a => decide (Hx.digit a.toNat = loB (UInt8.ofNat n.val)) | none => true) = true := by decide +kernel
theorem byte16 (u : UInt8) : UInt8.ofNat (16 * ((u.toNat / 16 : Nat) : Int) + ((u.toNat % 16 : Nat) : Int)).toNat = u := by
  have h : (16 * ((u.toNat / 16 : Nat) : Int) + ((u.toNat % 16 : Nat) : Int)).toNat = u.toNat := by omega
  rw [h]
  simp
theorem pair_digits (u : UInt8) : pairOf (((Hx.digit (u.toNat / 16)).toNat : Nat) : Int) (((Hx.digit (u.toNat % 16)).toNat : Nat) : Int) = some u := by
  have hu := UInt8.toNat_lt u
  have h1 := (hexd_digit_fin ⟨u.toNat / 16, by omega⟩).1
  have h2 := (hexd_digit_fin ⟨u.toNat % 16, by omega⟩).1
  unfold pairOf
  rw [h1, h2]
  exact congrArg some (byte16 u)
theorem pair_uppers (u : UInt8) : pairOf (((upB (Hx.digit (u.toNat / 16))).toNat : Nat) : Int) (((upB (Hx.digit (u.toNat % 16))).toNat : Nat) : Int) = some u := by
  have hu := UInt8.toNat_lt u
  have h1 := (hexd_digit_fin ⟨u.toNat / 16, by omega⟩).2
  have h2 := (hexd_digit_fin ⟨u.toNat % 16, by omega⟩).2
  unfold pairOf
  rw [h1, h2]
  exact congrArg some (byte16 u)
theorem hexd_lower {c : UInt8} {a : Int} (h : hexd ((c.toNat : Nat) : Int) = some a) : Hx.digit a.toNat = loB c := by
  have := hexd_lower_fin ⟨c.toNat, UInt8.toNat_lt c⟩
  simp only [h] at this
  rw [of_decide_eq_true this]
  simp
theorem pair_inv {a b x : UInt8} (h : pairOf ((a.toNat : Nat) : Int) ((b.toNat : Nat) : Int) = some x) : Hx.digit (x.toNat / 16) = loB a ∧ Hx.digit (x.toNat % 16) = loB b := by
  unfold pairOf at h
  cases ha : hexd ((a.toNat : Nat) : Int) with
  | none => rw [ha] at h; cases h
  | some p =>
    cases hb : hexd ((b.toNat : Nat) : Int) with
    | none => rw [ha, hb] at h; cases h
    | some q =>
      rw [ha, hb] at h
      injection h with h
      have hp := hexd_range ha
      have hq := hexd_range hb
      have hx : x.toNat = (16 * p + q).toNat := by rw [← h, UInt8.toNat_ofNat']; omega
      rw [← hexd_lower ha, ← hexd_lower hb, hx]
      exact ⟨congrArg Hx.digit (by omega), congrArg Hx.digit (by omega)⟩

theorem fold_pre {l : List UInt8} : ∀ {js : List Nat} {O W : List UInt8}, js.foldl (acc l) (some O) = some W → ∃ R, W = O ++ R
  | [], O, W, h => by injection h with h; subst h; exact ⟨[], by simp⟩
  | i :: js, O, W, h => by
    simp only [List.foldl_cons] at h
    cases hp : pairAt l i with
    | none => rw [show acc l (some O) i = none by simp [acc, hp], foldl_none] at h; cases h
    | some x =>
      rw [show acc l (some O) i = some (O ++ [x]) by simp [acc, hp]] at h
      obtain ⟨R, hR⟩ := fold_pre h
      exact ⟨x :: R, by rw [hR]; simp⟩
theorem fold_keep {l : List UInt8} {js : List Nat} {O W : List UInt8} {x : UInt8} (h : js.foldl (acc l) (some (O ++ [x])) = some W) : W[O.length + 0]? = some x := by
  obtain ⟨R, rfl⟩ := fold_pre h
  simp
theorem fold_get {l : List UInt8} : ∀ {js : List Nat} {O W : List UInt8}, js.foldl (acc l) (some O) = some W → ∀ (k j : Nat), js[k]? = some j → ∃ x, pairAt l j = some x ∧ W[O.length + k]? = some x
  | [], O, W, h, k, j, hk => by cases hk
  | i :: js, O, W, h, k, j, hk => by
    simp only [List.foldl_cons] at h
    cases hp : pairAt l i with
    | none => rw [show acc l (some O) i = none by simp [acc, hp], foldl_none] at h; cases h
    | some x =>
      rw [show acc l (some O) i = some (O ++ [x]) by simp [acc, hp]] at h
      cases k with
      | zero =>
        simp at hk
        subst hk
        refine ⟨x, hp, ?_⟩
        have := fold_keep h
        exact this
      | succ k =>
        obtain ⟨y, h1, h2⟩ := fold_get h k j (by simpa using hk)
        refine ⟨y, h1, ?_⟩
        rw [List.length_append] at h2
        rw [show O.length + (k + 1) = O.length + [x].length + k by simp; omega]
        exact h2

theorem uu_text {U : List UInt8} (h : U.length = 16) : uu (utext U) = some U := by
  obtain ⟨u0, u1, u2, u3, u4, u5, u6, u7, u8, u9, u10, u11, u12, u13, u14, u15, rfl⟩ := list16 h
  have p0 : pairAt ((utext [u0, u1, u2, u3, u4, u5, u6, u7, u8, u9, u10, u11, u12, u13, u14, u15])) 0 = some u0 := pair_digits u0
  have p1 : pairAt ((utext [u0, u1, u2, u3, u4, u5, u6, u7, u8, u9, u10, u11, u12, u13, u14, u15])) 2 = some u1 := pair_digits u1
  have p2 : pairAt ((utext [u0, u1, u2, u3, u4, u5, u6, u7, u8, u9, u10, u11, u12, u13, u14, u15])) 4 = some u2 := pair_digits u2
  have p3 : pairAt ((utext [u0, u1, u2, u3, u4, u5, u6, u7, u8, u9, u10, u11, u12, u13, u14, u15])) 6 = some u3 := pair_digits u3
  have p4 : pairAt ((utext [u0, u1, u2, u3, u4, u5, u6, u7, u8, u9, u10, u11, u12, u13, u14, u15])) 9 = some u4 := pair_digits u4
  have p5 : pairAt ((utext [u0, u1, u2, u3, u4, u5, u6, u7, u8, u9, u10, u11, u12, u13, u14, u15])) 11 = some u5 := pair_digits u5
  have p6 : pairAt ((utext [u0, u1, u2, u3, u4, u5, u6, u7, u8, u9, u10, u11, u12, u13, u14, u15])) 14 = some u6 := pair_digits u6
  have p7 : pairAt ((utext [u0, u1, u2, u3, u4, u5, u6, u7, u8, u9, u10, u11, u12, u13, u14, u15])) 16 = some u7 := pair_digits u7
  have p8 : pairAt ((utext [u0, u1, u2, u3, u4, u5, u6, u7, u8, u9, u10, u11, u12, u13, u14, u15])) 19 = some u8 := pair_digits u8
  have p9 : pairAt ((utext [u0, u1, u2, u3, u4, u5, u6, u7, u8, u9, u10, u11, u12, u13, u14, u15])) 21 = some u9 := pair_digits u9
  have p10 : pairAt ((utext [u0, u1, u2, u3, u4, u5, u6, u7, u8, u9, u10, u11, u12, u13, u14, u15])) 24 = some u10 := pair_digits u10
  have p11 : pairAt ((utext [u0, u1, u2, u3, u4, u5, u6, u7, u8, u9, u10, u11, u12, u13, u14, u15])) 26 = some u11 := pair_digits u11
  have p12 : pairAt ((utext [u0, u1, u2, u3, u4, u5, u6, u7, u8, u9, u10, u11, u12, u13, u14, u15])) 28 = some u12 := pair_digits u12
  have p13 : pairAt ((utext [u0, u1, u2, u3, u4, u5, u6, u7, u8, u9, u10, u11, u12, u13, u14, u15])) 30 = some u13 := pair_digits u13
  have p14 : pairAt ((utext [u0, u1, u2, u3, u4, u5, u6, u7, u8, u9, u10, u11, u12, u13, u14, u15])) 32 = some u14 := pair_digits u14
  have p15 : pairAt ((utext [u0, u1, u2, u3, u4, u5, u6, u7, u8, u9, u10, u11, u12, u13, u14, u15])) 34 = some u15 := pair_digits u15
  have hd : dashed ((utext [u0, u1, u2, u3, u4, u5, u6, u7, u8, u9, u10, u11, u12, u13, u14, u15])) := ⟨rfl, rfl, rfl, rfl⟩
  have hl : (((utext [u0, u1, u2, u3, u4, u5, u6, u7, u8, u9, u10, u11, u12, u13, u14, u15]))).length = 36 := rfl
  unfold uu
  rw [if_pos ⟨hl, hd⟩]
  simp only [JS, List.foldl_cons, List.foldl_nil, acc, Option.bind_some, Option.map_some, p0, p1, p2, p3, p4, p5, p6, p7, p8, p9, p10, p11, p12, p13, p14, p15]
  rfl

theorem uu_upper {U : List UInt8} (h : U.length = 16) : uu ((utext U).map upB) = some U := by
  obtain ⟨u0, u1, u2, u3, u4, u5, u6, u7, u8, u9, u10, u11, u12, u13, u14, u15, rfl⟩ := list16 h
  have p0 : pairAt ((utext [u0, u1, u2, u3, u4, u5, u6, u7, u8, u9, u10, u11, u12, u13, u14, u15]).map upB) 0 = some u0 := pair_uppers u0
  have p1 : pairAt ((utext [u0, u1, u2, u3, u4, u5, u6, u7, u8, u9, u10, u11, u12, u13, u14, u15]).map upB) 2 = some u1 := pair_uppers u1
  have p2 : pairAt ((utext [u0, u1, u2, u3, u4, u5, u6, u7, u8, u9, u10, u11, u12, u13, u14, u15]).map upB) 4 = some u2 := pair_uppers u2
  have p3 : pairAt ((utext [u0, u1, u2, u3, u4, u5, u6, u7, u8, u9, u10, u11, u12, u13, u14, u15]).map upB) 6 = some u3 := pair_uppers u3
  have p4 : pairAt ((utext [u0, u1, u2, u3, u4, u5, u6, u7, u8, u9, u10, u11, u12, u13, u14, u15]).map upB) 9 = some u4 := pair_uppers u4
  have p5 : pairAt ((utext [u0, u1, u2, u3, u4, u5, u6, u7, u8, u9, u10, u11, u12, u13, u14, u15]).map upB) 11 = some u5 := pair_uppers u5
  have p6 : pairAt ((utext [u0, u1, u2, u3, u4, u5, u6, u7, u8, u9, u10, u11, u12, u13, u14, u15]).map upB) 14 = some u6 := pair_uppers u6
  have p7 : pairAt ((utext [u0, u1, u2, u3, u4, u5, u6, u7, u8, u9, u10, u11, u12, u13, u14, u15]).map upB) 16 = some u7 := pair_uppers u7
  have p8 : pairAt ((utext [u0, u1, u2, u3, u4, u5, u6, u7, u8, u9, u10, u11, u12, u13, u14, u15]).map upB) 19 = some u8 := pair_uppers u8
  have p9 : pairAt ((utext [u0, u1, u2, u3, u4, u5, u6, u7, u8, u9, u10, u11, u12, u13, u14, u15]).map upB) 21 = some u9 := pair_uppers u9
  have p10 : pairAt ((utext [u0, u1, u2, u3, u4, u5, u6, u7, u8, u9, u10, u11, u12, u13, u14, u15]).map upB) 24 = some u10 := pair_uppers u10
  have p11 : pairAt ((utext [u0, u1, u2, u3, u4, u5, u6, u7, u8, u9, u10, u11, u12, u13, u14, u15]).map upB) 26 = some u11 := pair_uppers u11
  have p12 : pairAt ((utext [u0, u1, u2, u3, u4, u5, u6, u7, u8, u9, u10, u11, u12, u13, u14, u15]).map upB) 28 = some u12 := pair_uppers u12
  have p13 : pairAt ((utext [u0, u1, u2, u3, u4, u5, u6, u7, u8, u9, u10, u11, u12, u13, u14, u15]).map upB) 30 = some u13 := pair_uppers u13
  have p14 : pairAt ((utext [u0, u1, u2, u3, u4, u5, u6, u7, u8, u9, u10, u11, u12, u13, u14, u15]).map upB) 32 = some u14 := pair_uppers u14
  have p15 : pairAt ((utext [u0, u1, u2, u3, u4, u5, u6, u7, u8, u9, u10, u11, u12, u13, u14, u15]).map upB) 34 = some u15 := pair_uppers u15
  have hd : dashed ((utext [u0, u1, u2, u3, u4, u5, u6, u7, u8, u9, u10, u11, u12, u13, u14, u15]).map upB) := ⟨rfl, rfl, rfl, rfl⟩
  have hl : (((utext [u0, u1, u2, u3, u4, u5, u6, u7, u8, u9, u10, u11, u12, u13, u14, u15]).map upB)).length = 36 := rfl
  unfold uu
  rw [if_pos ⟨hl, hd⟩]
  simp only [JS, List.foldl_cons, List.foldl_nil, acc, Option.bind_some, Option.map_some, p0, p1, p2, p3, p4, p5, p6, p7, p8, p9, p10, p11, p12, p13, p14, p15]
  rfl

theorem list36 {α : Type} {l : List α} (h : l.length = 36) : ∃ s0 s1 s2 s3 s4 s5 s6 s7 s8 s9 s10 s11 s12 s13 s14 s15 s16 s17 s18 s19 s20 s21 s22 s23 s24 s25 s26 s27 s28 s29 s30 s31 s32 s33 s34 s35, l = [s0, s1, s2, s3, s4, s5, s6, s7, s8, s9, s10, s11, s12, s13, s14, s15, s16, s17, s18, s19, s20, s21, s22, s23, s24, s25, s26, s27, s28, s29, s30, s31, s32, s33, s34, s35] := by
  match l, h with
  | s0 :: s1 :: s2 :: s3 :: s4 :: s5 :: s6 :: s7 :: s8 :: s9 :: s10 :: s11 :: s12 :: s13 :: s14 :: s15 :: s16 :: s17 :: s18 :: s19 :: s20 :: s21 :: s22 :: s23 :: s24 :: s25 :: s26 :: s27 :: s28 :: s29 :: s30 :: s31 :: s32 :: s33 :: s34 :: s35 :: [], _ => exact ⟨s0, s1, s2, s3, s4, s5, s6, s7, s8, s9, s10, s11, s12, s13, s14, s15, s16, s17, s18, s19, s20, s21, s22, s23, s24, s25, s26, s27, s28, s29, s30, s31, s32, s33, s34, s35, rfl⟩

theorem uu_back {t d : List UInt8} (h : uu t = some d) : utext d = t.map loB := by
  obtain ⟨hd, ht⟩ := uu_len h
  obtain ⟨u0, u1, u2, u3, u4, u5, u6, u7, u8, u9, u10, u11, u12, u13, u14, u15, rfl⟩ := list16 hd
  obtain ⟨s0, s1, s2, s3, s4, s5, s6, s7, s8, s9, s10, s11, s12, s13, s14, s15, s16, s17, s18, s19, s20, s21, s22, s23, s24, s25, s26, s27, s28, s29, s30, s31, s32, s33, s34, s35, rfl⟩ := list36 ht
  unfold uu at h
  by_cases hc : ([s0, s1, s2, s3, s4, s5, s6, s7, s8, s9, s10, s11, s12, s13, s14, s15, s16, s17, s18, s19, s20, s21, s22, s23, s24, s25, s26, s27, s28, s29, s30, s31, s32, s33, s34, s35] : List UInt8).length = 36 ∧ dashed [s0, s1, s2, s3, s4, s5, s6, s7, s8, s9, s10, s11, s12, s13, s14, s15, s16, s17, s18, s19, s20, s21, s22, s23, s24, s25, s26, s27, s28, s29, s30, s31, s32, s33, s34, s35]
  rotate_left
  · rw [if_neg hc] at h; cases h
  · rw [if_pos hc] at h
    have hg := fold_get h
    obtain ⟨x, h1, h2⟩ := hg 0 0 rfl
    obtain rfl : u0 = x := by simpa using h2
    have q0 := pair_inv (a := s0) (b := s1) (x := u0) h1
    clear h1 h2
    obtain ⟨x, h1, h2⟩ := hg 1 2 rfl
    obtain rfl : u1 = x := by simpa using h2
    have q1 := pair_inv (a := s2) (b := s3) (x := u1) h1
    clear h1 h2
    obtain ⟨x, h1, h2⟩ := hg 2 4 rfl
    obtain rfl : u2 = x := by simpa using h2
    have q2 := pair_inv (a := s4) (b := s5) (x := u2) h1
    clear h1 h2
    obtain ⟨x, h1, h2⟩ := hg 3 6 rfl
    obtain rfl : u3 = x := by simpa using h2
    have q3 := pair_inv (a := s6) (b := s7) (x := u3) h1
    clear h1 h2
    obtain ⟨x, h1, h2⟩ := hg 4 9 rfl
    obtain rfl : u4 = x := by simpa using h2
    have q4 := pair_inv (a := s9) (b := s10) (x := u4) h1
    clear h1 h2
    obtain ⟨x, h1, h2⟩ := hg 5 11 rfl
    obtain rfl : u5 = x := by simpa using h2
    have q5 := pair_inv (a := s11) (b := s12) (x := u5) h1
    clear h1 h2
    obtain ⟨x, h1, h2⟩ := hg 6 14 rfl
    obtain rfl : u6 = x := by simpa using h2
    have q6 := pair_inv (a := s14) (b := s15) (x := u6) h1
    clear h1 h2
    obtain ⟨x, h1, h2⟩ := hg 7 16 rfl
    obtain rfl : u7 = x := by simpa using h2
    have q7 := pair_inv (a := s16) (b := s17) (x := u7) h1
    clear h1 h2
    obtain ⟨x, h1, h2⟩ := hg 8 19 rfl
    obtain rfl : u8 = x := by simpa using h2
    have q8 := pair_inv (a := s19) (b := s20) (x := u8) h1
    clear h1 h2
    obtain ⟨x, h1, h2⟩ := hg 9 21 rfl
    obtain rfl : u9 = x := by simpa using h2
    have q9 := pair_inv (a := s21) (b := s22) (x := u9) h1
    clear h1 h2
    obtain ⟨x, h1, h2⟩ := hg 10 24 rfl
    obtain rfl : u10 = x := by simpa using h2
    have q10 := pair_inv (a := s24) (b := s25) (x := u10) h1
    clear h1 h2
    obtain ⟨x, h1, h2⟩ := hg 11 26 rfl
    obtain rfl : u11 = x := by simpa using h2
    have q11 := pair_inv (a := s26) (b := s27) (x := u11) h1
    clear h1 h2
    obtain ⟨x, h1, h2⟩ := hg 12 28 rfl
    obtain rfl : u12 = x := by simpa using h2
    have q12 := pair_inv (a := s28) (b := s29) (x := u12) h1
    clear h1 h2
    obtain ⟨x, h1, h2⟩ := hg 13 30 rfl
    obtain rfl : u13 = x := by simpa using h2
    have q13 := pair_inv (a := s30) (b := s31) (x := u13) h1
    clear h1 h2
    obtain ⟨x, h1, h2⟩ := hg 14 32 rfl
    obtain rfl : u14 = x := by simpa using h2
    have q14 := pair_inv (a := s32) (b := s33) (x := u14) h1
    clear h1 h2
    obtain ⟨x, h1, h2⟩ := hg 15 34 rfl
    obtain rfl : u15 = x := by simpa using h2
    have q15 := pair_inv (a := s34) (b := s35) (x := u15) h1
    clear h1 h2
    have e8 : s8 = 45 := UInt8.toNat_inj.1 (Int.ofNat.inj (hc.2.1))
    have e13 : s13 = 45 := UInt8.toNat_inj.1 (Int.ofNat.inj (hc.2.2.1))
    have e18 : s18 = 45 := UInt8.toNat_inj.1 (Int.ofNat.inj (hc.2.2.2.1))
    have e23 : s23 = 45 := UInt8.toNat_inj.1 (Int.ofNat.inj (hc.2.2.2.2))
    show [Hx.digit (u0.toNat / 16), Hx.digit (u0.toNat % 16), Hx.digit (u1.toNat / 16), Hx.digit (u1.toNat % 16), Hx.digit (u2.toNat / 16), Hx.digit (u2.toNat % 16), Hx.digit (u3.toNat / 16), Hx.digit (u3.toNat % 16), 45, Hx.digit (u4.toNat / 16), Hx.digit (u4.toNat % 16), Hx.digit (u5.toNat / 16), Hx.digit (u5.toNat % 16), 45, Hx.digit (u6.toNat / 16), Hx.digit (u6.toNat % 16), Hx.digit (u7.toNat / 16), Hx.digit (u7.toNat % 16), 45, Hx.digit (u8.toNat / 16), Hx.digit (u8.toNat % 16), Hx.digit (u9.toNat / 16), Hx.digit (u9.toNat % 16), 45, Hx.digit (u10.toNat / 16), Hx.digit (u10.toNat % 16), Hx.digit (u11.toNat / 16), Hx.digit (u11.toNat % 16), Hx.digit (u12.toNat / 16), Hx.digit (u12.toNat % 16), Hx.digit (u13.toNat / 16), Hx.digit (u13.toNat % 16), Hx.digit (u14.toNat / 16), Hx.digit (u14.toNat % 16), Hx.digit (u15.toNat / 16), Hx.digit (u15.toNat % 16)] = [loB s0, loB s1, loB s2, loB s3, loB s4, loB s5, loB s6, loB s7, loB s8, loB s9, loB s10, loB s11, loB s12, loB s13, loB s14, loB s15, loB s16, loB s17, loB s18, loB s19, loB s20, loB s21, loB s22, loB s23, loB s24, loB s25, loB s26, loB s27, loB s28, loB s29, loB s30, loB s31, loB s32, loB s33, loB s34, loB s35]
    rw [q0.1, q0.2, q1.1, q1.2, q2.1, q2.2, q3.1, q3.2, q4.1, q4.2, q5.1, q5.2, q6.1, q6.2, q7.1, q7.2, q8.1, q8.2, q9.1, q9.2, q10.1, q10.2, q11.1, q11.2, q12.1, q12.2, q13.1, q13.2, q14.1, q14.2, q15.1, q15.2, e8, e13, e18, e23]
    rfl

end Go.Proofs.YtdedkoahfailcaaGreatDoor
