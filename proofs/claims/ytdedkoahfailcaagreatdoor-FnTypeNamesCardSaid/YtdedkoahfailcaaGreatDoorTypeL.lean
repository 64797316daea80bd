/- FnTypeName, FnTypeNames: walked. -/
import Derived.Test.YtdedkoahfailcaaGreatDoorTypeN
import Derived.Test.YtdedkoahfailcaaGreatDoorConv
import Derived.Lib.SmallJoins
namespace Go.Proofs.YtdedkoahfailcaaGreatDoor
open Go Go.RowKit
set_option maxHeartbeats 1000000
set_option maxRecDepth 100000

theorem and255_i64 (n : Int) : bits .and .i64 n 255 = n % 256 := by
  have h1 : (BitVec.ofInt 64 255).toNat = 2 ^ 8 - 1 := by decide
  have key : (BitVec.ofInt 64 n &&& BitVec.ofInt 64 255).toNat = (n % ((2 ^ 64 : Nat) : Int)).toNat % 2 ^ 8 := by
    rw [BitVec.toNat_and, BitVec.toNat_ofInt, h1, Nat.and_two_pow_sub_one_eq_mod]
  show IntKind.i64.wrap ((BitVec.ofInt 64 n &&& BitVec.ofInt 64 255).toNat : Nat) = n % 256
  rw [key]
  rw [IntKind.wrap_i64]
  omega

abbrev unkS : ByteArray := ⟨#[85, 110, 107, 110, 111, 119, 110]⟩
abbrev unkL : List UInt8 := [85, 110, 107, 110, 111, 119, 110]
theorem const_rd (W : World) (l : List UInt8) (hl : l.length ≤ 100) (f : Nat × Nat) : Rd (W.alloc (.cells (Lib.byteCells l).toArray U8 f)) (.slice (some ⟨W.heap.size, 0, none⟩) l.length l.length) l :=
  Or.inr ⟨_, l.length, l.length, rfl, rfl, Nat.le_refl _, by unfold maxLen; omega, fun j u hj => by
    rw [Lib.addr_add, cell_at (alloc_new W _)]
    simp only [Lib.byteCells, List.getElem?_toArray, Nat.zero_add, List.getElem?_map, hj, Option.map_some]⟩
theorem text_const {w W : World} (h : Fr noF noF w W) (s : ByteArray) (l : List UInt8) (hs : s.data.toList = l) (hl : l.length ≤ 100) (f : Nat × Nat) :
    TextR s w (.returned (.slice (some ⟨W.heap.size, 0, none⟩) l.length l.length)) (W.alloc (.cells (Lib.byteCells l).toArray U8 f)) :=
  ⟨_, rfl, by rw [hs]; exact const_rd W l hl f, fun k hk => by
    generalize l.length = n at hk
    cases n with
    | zero => exact hk.elim
    | succ n => rw [← (show W.heap.size = k from hk)]; exact h.size, h.alloc _⟩

theorem text_at {w W : World} (h : Fr noF noF w W) (s : ByteArray) (l : List UInt8) (hs : s.data.toList = l) (hl : l.length ≤ 100) (f : Nat × Nat) (g : Nat) (hg : W.heap.size = g) :
    TextR s w (.returned (.slice (some ⟨g, 0, none⟩) l.length l.length)) (W.alloc (.cells (Lib.byteCells l).toArray U8 f)) := by
  subst hg
  exact text_const h s l hs hl f
theorem S_TypeName (t : Int) (w : World) : Calls Tryz.prog 17 #[.int .i64 t] w (TextR (tname (t % 256)) w) := by
  obtain ⟨n, hn⟩ : ∃ n : Nat, t % 256 = n := ⟨(t % 256).toNat, by omega⟩
  have ha : bits .and .i64 t 255 = (n : Int) := by rw [and255_i64, hn]
  rw [hn]
  rcases Nat.lt_or_ge n 17 with hlt | hge
  · have hcell : specNames.toList[n]'(show n < specNames.toList.length from hlt) = .string (specN n) := (List.getElem?_eq_some_iff.1 (by have := specN_at n hlt; simpa using this)).2
    simp only [specNames, List.toList_toArray] at hcell
    have hk0 : (0 : Int) ≤ (n : Int) := by omega
    have hk1 : (n : Int) < 17 := by omega
    rcases specN_tname n hlt with ⟨h1, h2⟩ | ⟨h1, h2⟩
    · have h1' : specN n = { data := #[] } := h1
      rw [h1'] at hcell
      rw [h2]
      have hcv := Joins.run_convert_bytes_const_at (P := Tryz.prog) (w.alloc (.cells specNames 9 (0, 0))) 35 5 #[Value.int .u8 85, .int .u8 110, .int .u8 107, .int .u8 110, .int .u8 111, .int .u8 119, .int .u8 110] 7 7 (w.heap.size + 1) (by simp) Tryz.underlying35 Tryz.underlying5
      simp only [specNames] at hcv
      have HF := Lib.hid fun f => text_at ((Fr.refl noF w).alloc (.cells specNames 9 (0, 0))) unkS unkL rfl (by decide) f (w.heap.size + 1) (by simp)
      clear h1 h1' h2 hn
      go_enter Tryz.func17, Tryz.ntmps17
      go_wp2
      go_ret
      exact HF.out _
    · have hne : (specN n).toList.isEmpty = false := by
        rw [ByteArray.toList_eq]
        cases hc : (specN n).data.toList with
        | nil => exact absurd (ByteArray.ext (Array.toList_inj.1 hc)) h1
        | cons => rfl
      have hs : (specN n).size ≤ 100 := by rw [← h2]; have := tname_size n; omega
      have HS := Lib.hid hs
      rw [h2]
      have hcv := run_conv
      have HF := Lib.hid ((Fr.refl noF w).alloc (.cells specNames 9 (0, 0)))
      clear h1 h2 hn hs
      go_enter Tryz.func17, Tryz.ntmps17
      go_wp2
      go_ret
      exact text_conv HF.out _ HS.out
  · rw [tname_high n (by omega)]
    have hk0 : (17 : Int) ≤ (n : Int) := by omega
    have hcv := Joins.run_convert_bytes_const_at (P := Tryz.prog) (w.alloc (.cells specNames 9 (0, 0))) 35 5 #[Value.int .u8 85, .int .u8 110, .int .u8 107, .int .u8 110, .int .u8 111, .int .u8 119, .int .u8 110] 7 7 (w.heap.size + 1) (by simp) Tryz.underlying35 Tryz.underlying5
    simp only [specNames] at hcv
    have HF := Lib.hid fun f => text_at ((Fr.refl noF w).alloc (.cells specNames 9 (0, 0))) unkS unkL rfl (by decide) f (w.heap.size + 1) (by simp)
    clear hn
    go_enter Tryz.func17, Tryz.ntmps17
    go_wp2
    go_ret
    exact HF.out _

theorem L_FnTypeName (t : Int) (w : World) : Calls Tryz.prog 5 #[.int .i64 t] w fun e w' => e = .returned (.bool true) ∧ Fr noF noF w w' := by
  have H1 := Lib.hid (I_TypeName t)
  have H2 := Lib.hid (S_TypeName t)
  have HE := Lib.hid L_equal
  have HK := Lib.hid L_known
  obtain ⟨s, hs⟩ : ∃ s, s = tname (t % 256) := ⟨_, rfl⟩
  rw [← hs] at H1 H2
  clear hs
  go_enter Tryz.func5, Tryz.ntmps5
  go_wp2_with fail
  refine (H1.out _).mono ?_
  rintro e w1 ⟨v1, rfl, hr1, hb1, hf1⟩
  have R1 := Lib.hid (And.intro hr1 hf1)
  clear hr1 hb1 hf1
  go_wp2_with fail
  refine (H2.out _).mono ?_
  rintro e w2 ⟨v2, rfl, hr, hb, hf⟩
  have R2 := Lib.hid (And.intro (R1.out.1.keep (F := noF) hf fun _ _ x => x) (And.intro hr (R1.out.2.trans hf)))
  clear hr hb hf R1
  go_wp2_with fail
  refine (HE.out v1 v2 _ _ w2 R2.out.1 R2.out.2.1).mono ?_
  rintro e w3 ⟨rfl, q, rfl⟩
  have HF := Lib.hid (R2.out.2.2.drewN q)
  clear R2
  have hd : decide (s.data.toList = s.data.toList) = true := decide_eq_true rfl
  go_wp2_with fail
  refine (HK.out _).mono ?_
  rintro e w4 ⟨rfl, hf⟩
  have HX := Lib.hid (HF.out.trans hf)
  clear hf HF
  go_wp2
  go_ret
  exact ⟨rfl, HX.out⟩

/-- Is it a type of values? -/
def isT (t : Int) : Bool := decide (t = 2 ∨ t = 3 ∨ t = 4 ∨ t = 6 ∨ t = 8 ∨ t = 10 ∨ (11 ≤ t ∧ t ≤ 16))
theorem isT_ways {t : Int} (h : isT t = true) : t = 2 ∨ t = 3 ∨ t = 4 ∨ t = 6 ∨ t = 8 ∨ t = 10 ∨ t = 11 ∨ t = 12 ∨ t = 13 ∨ t = 14 ∨ t = 15 ∨ t = 16 := by
  have := of_decide_eq_true h
  omega
theorem L_isType (t : Int) (w : World) : Calls Tryz.prog 18 #[.int .i64 t] w fun e w' => e = .returned (.bool (isT t)) ∧ w = w' := by
  cases h : isT t with
  | true =>
    rcases isT_ways h with rfl | rfl | rfl | rfl | rfl | rfl | rfl | rfl | rfl | rfl | rfl | rfl
    all_goals go_enter Tryz.func18, Tryz.ntmps18
    all_goals go_wp2
    all_goals go_ret
    all_goals exact ⟨rfl, rfl⟩
  | false =>
    have hn := of_decide_eq_false h
    have g2 : (t == 2) = false := by simp; omega
    have g3 : (t == 3) = false := by simp; omega
    have g4 : (t == 4) = false := by simp; omega
    have g6 : (t == 6) = false := by simp; omega
    have g8 : (t == 8) = false := by simp; omega
    have g10 : (t == 10) = false := by simp; omega
    rcases (show t < 11 ∨ 16 < t by omega) with h1 | h1
    · clear hn h
      go_enter Tryz.func18, Tryz.ntmps18
      go_wp2
      go_ret
      exact ⟨rfl, rfl⟩
    · clear hn h
      go_enter Tryz.func18, Tryz.ntmps18
      go_wp2
      go_ret
      refine ⟨?_, rfl⟩
      show Ending.returned (.bool (decide (t ≤ 16))) = _
      rw [decide_eq_false (by omega)]

theorem tname_pos {t : Int} (h : isT t = true) : 0 < (tname (t % 256)).data.toList.length := by
  rcases isT_ways h with rfl | rfl | rfl | rfl | rfl | rfl | rfl | rfl | rfl | rfl | rfl | rfl <;> decide +kernel
theorem tname_inj_list : ∀ a ∈ [(2 : Int), 3, 4, 6, 8, 10, 11, 12, 13, 14, 15, 16], ∀ b ∈ [(2 : Int), 3, 4, 6, 8, 10, 11, 12, 13, 14, 15, 16], (tname (a % 256)).data.toList = (tname (b % 256)).data.toList → a = b := by decide +kernel
theorem tname_inj {a b : Int} (ha : isT a = true) (hb : isT b = true) (h : (tname (a % 256)).data.toList = (tname (b % 256)).data.toList) : a = b := by
  refine tname_inj_list a ?_ b ?_ h
  · have := isT_ways ha
    simp only [List.mem_cons, List.not_mem_nil, or_false]
    exact this
  · have := isT_ways hb
    simp only [List.mem_cons, List.not_mem_nil, or_false]
    exact this

theorem L_FnTypeNames (a b : Int) (w : World) : Calls Tryz.prog 6 #[.int .i64 a, .int .i64 b] w fun e w' => e = .returned (.bool true) ∧ Fr noF noF w w' := by
  have H1 := Lib.hid (I_TypeName a)
  have H2 := Lib.hid (I_TypeName b)
  have HE := Lib.hid L_equal
  have HK := Lib.hid L_known
  have HT := Lib.hid L_isType
  have HP := Lib.hid (@tname_pos a)
  have HI := Lib.hid (@tname_inj a b)
  obtain ⟨s, hs⟩ : ∃ s, s = tname (a % 256) := ⟨_, rfl⟩
  obtain ⟨s', hs'⟩ : ∃ s', s' = tname (b % 256) := ⟨_, rfl⟩
  have hab : a = b → s = s' := fun e => by rw [hs, hs', e]
  have HAB := Lib.hid hab
  rw [← hs] at H1 HP HI
  rw [← hs'] at H2 HI
  clear hs hs' hab
  go_enter Tryz.func6, Tryz.ntmps6
  go_wp2_with fail
  refine (H1.out _).mono ?_
  rintro e w1 ⟨v1, rfl, hr1, hb1, hf1⟩
  have R1 := Lib.hid (And.intro hr1 hf1)
  clear hr1 hb1 hf1
  go_wp2_with fail
  refine (H2.out _).mono ?_
  rintro e w2 ⟨v2, rfl, hr, hb, hf⟩
  have R2 := Lib.hid (And.intro (R1.out.1.keep (F := noF) hf fun _ _ x => x) (And.intro hr (R1.out.2.trans hf)))
  clear hr hb hf R1
  obtain ⟨a1, n1, c1, rfl, hn1⟩ := R2.out.1.len
  have HN := Lib.hid hn1
  clear hn1
  cases ha : isT a with
  | false =>
    go_wp2_with (first | (go_at_call 18; refine (HT.out _ _).mono ?_; rintro e w' ⟨rfl, rfl⟩; simp only [ha]) | (go_at_call 13; refine (HK.out _).mono ?_; rintro e w4 ⟨rfl, hf⟩; have HX := Lib.hid (R2.out.2.2.trans hf); clear hf))
    go_ret
    exact ⟨rfl, HX.out⟩
  | true =>
    have hpos : (0 : Int) < (n1 : Int) := by have := HP.out ha; have := HN.out; omega
    cases hb : isT b with
    | false =>
      go_wp2_with (first | (go_at_call 18; refine (HT.out _ _).mono ?_; rintro e w' ⟨rfl, rfl⟩; simp only [ha, hb]) | (go_at_call 13; refine (HK.out _).mono ?_; rintro e w4 ⟨rfl, hf⟩; have HX := Lib.hid (R2.out.2.2.trans hf); clear hf))
      go_ret
      exact ⟨rfl, HX.out⟩
    | true =>
      have hd : decide (s.data.toList = s'.data.toList) = (a == b) := by
        by_cases hab : a = b
        · rw [HAB.out hab]; simp [hab]
        · rw [decide_eq_false (fun h => hab (HI.out ha hb h))]; simp [hab]
      have HD := Lib.hid hd
      have hbb : ((a == b) == (a == b)) = true := by simp
      clear hd
      go_wp2_with (first | (go_at_call 18; refine (HT.out _ _).mono ?_; rintro e w' ⟨rfl, rfl⟩; simp only [ha, hb]) | (go_at_call 15; refine (HE.out _ v2 _ _ w2 R2.out.1 R2.out.2.1).mono ?_; rintro e w3 ⟨rfl, q, rfl⟩; simp only [HD.out]; have HF := Lib.hid (R2.out.2.2.drewN q)) | (go_at_call 13; refine (HK.out _).mono ?_; rintro e w4 ⟨rfl, hf⟩; have HX := Lib.hid (HF.out.trans hf); clear hf))
      go_ret
      exact ⟨rfl, HX.out⟩
end Go.Proofs.YtdedkoahfailcaaGreatDoor
