/- FnBinaryNumbers: walked. -/
import Derived.Deep.RegionHeld3
import Derived.Test.YtoifjckhccbmlaaGreatDoorZNumsA
set_option linter.all false
namespace Go.Proofs.YtoifjckhccbmlaaGreatDoor
open Go Go.RowKit
set_option maxHeartbeats 40000000
set_option maxRecDepth 100000

theorem L_FnBinaryNumbers (c : ConfV) (n : Int) (tv : Value) (tail : List UInt8) (w : World) (hn : -9223372036854775808 ≤ n ∧ n ≤ 9223372036854775807) (ht : Rd w tv tail) : Calls Tryz.prog 13 #[c.val, .int .i64 n, tv] w fun e w' => e = .returned (.bool true) ∧ Fr noF noF w w' := by
  obtain ⟨ta, tn, tc, rfl, htn⟩ := ht.len
  subst htn
  have HK := Lib.hid L_known
  have hby := L_by 0 c
  obtain ⟨pr, pl, sr, sw, ms, co, fr⟩ := c
  have hal : tail.length ≤ 65536 → ∀ op N want, ((numS op n).binB (ConfV.strictW ⟨0, pl, sr, sw, ms, co, fr⟩) = want ∧ brun ⟨0, pl, sr, sw, ms, co, fr⟩ (want ++ tail) [numS op n] = some ([({ n := N } : GotD)], tail)) → want.length ≤ 8 → ∀ X wv, Fr noF noF w X → Rd X wv want →
      Calls Tryz.prog 35 #[.agg #[.int .i64 0, .bool pl, .bool sr, .bool sw, .int .i32 ms, .int .i32 co, .int .i32 fr], (numS op n).val, wv, .slice ta tail.length tc, .agg (({ n := N } : GotD).cells 0 (.slice none 0 0))] X (fun e w' => e = .returned (.bool true) ∧ Fr noF noF X w' ∧ Fr noF noF w w') := fun h65 op N want h hl X wv hX hw =>
    (num_alone ⟨0, pl, sr, sw, ms, co, fr⟩ (show (0 : Int) ≠ 1 by decide) op n N want tail h hl h65 X wv _ hw (ht.keep hX fun _ _ x => x)).mono fun e w' ⟨h1, h2⟩ => ⟨h1, h2, hX.trans h2⟩
  rcases Nat.lt_or_ge 65536 tail.length with hbig | hsm
  · have q0 : (65536 : Int) < (tail.length : Int) := by omega
    have HY := Lib.hid hby
    have hf0 := (Fr.refl noF w).alloc (.cells #[.int .i64 pr, .bool pl, .bool sr, .bool sw, .int .i32 ms, .int .i32 co, .int .i32 fr] 31 (0, 0))
    have HF := Lib.hid hf0
    obtain ⟨m, hm⟩ : ∃ m, m = tail.length := ⟨_, rfl⟩
    rw [← hm] at q0 ⊢
    clear hal ht hby hf0 hbig hm hn
    rcases Int.lt_or_le 2147483647 (m : Int) with q1 | q1
    · go_enter Tryz.func13, Tryz.ntmps13
      go_wp2
      go_ret
      exact ⟨rfl, HF.out⟩
    · have q2 : ¬ (2147483647 : Int) < (m : Int) := by omega
      go_enter Tryz.func13, Tryz.ntmps13
      go_wp2_with fail
      refine (HK.out _).mono ?_
      rintro e w1 ⟨rfl, hf⟩
      have HX := Lib.hid hf
      clear hf
      go_wp2
      go_ret
      exact ⟨rfl, HF.out.trans HX.out⟩
  · have q0 : (tail.length : Int) ≤ 65536 := by omega
    have HY := Lib.hid hby
    have hbit : ∃ (bit : Int) (u : UInt8), (n = 0 ∧ bit = 0 ∧ u = 0) ∨ (n ≠ 0 ∧ bit = 1 ∧ u = 1) := by
      by_cases h : n = 0
      · exact ⟨0, 0, Or.inl ⟨h, rfl, rfl⟩⟩
      · exact ⟨1, 1, Or.inr ⟨h, rfl, rfl⟩⟩
    have h14 : ∀ X wv, Fr noF noF w X → Rd X wv (bigB n 1) → Calls Tryz.prog 35 #[.agg #[.int .i64 0, .bool pl, .bool sr, .bool sw, .int .i32 ms, .int .i32 co, .int .i32 fr], .agg #[.int .i64 14, .int .i64 0, .int .i64 0, .int .i64 0, .int .i64 0, .int .i64 n, .slice none 0 0], wv, .slice ta tail.length tc, .agg #[.int .i64 0, .int .i64 0, .int .i64 0, .int .i64 0, .int .i64 0, .int .i64 (IntKind.i64.wrap (IntKind.i8.wrap n)), .slice none 0 0]] X (fun e w' => e = .returned (.bool true) ∧ Fr noF noF X w' ∧ Fr noF noF w w') := hal hsm 14 (IntKind.i64.wrap (IntKind.i8.wrap n)) (bigB n 1) (by have h := num14 ⟨0, pl, sr, sw, ms, co, fr⟩ n tail; rw [← w64] at h; exact h) (by rw [bigB_length]; decide)
    have h15 : ∀ X wv, Fr noF noF w X → Rd X wv (bigB n 2) → Calls Tryz.prog 35 #[.agg #[.int .i64 0, .bool pl, .bool sr, .bool sw, .int .i32 ms, .int .i32 co, .int .i32 fr], .agg #[.int .i64 15, .int .i64 0, .int .i64 0, .int .i64 0, .int .i64 0, .int .i64 n, .slice none 0 0], wv, .slice ta tail.length tc, .agg #[.int .i64 0, .int .i64 0, .int .i64 0, .int .i64 0, .int .i64 0, .int .i64 (IntKind.i64.wrap (IntKind.i16.wrap n)), .slice none 0 0]] X (fun e w' => e = .returned (.bool true) ∧ Fr noF noF X w' ∧ Fr noF noF w w') := hal hsm 15 (IntKind.i64.wrap (IntKind.i16.wrap n)) (bigB n 2) (by have h := num15 ⟨0, pl, sr, sw, ms, co, fr⟩ n tail; rw [← w64] at h; exact h) (by rw [bigB_length]; decide)
    have h16 : ∀ X wv, Fr noF noF w X → Rd X wv (bigB n 4) → Calls Tryz.prog 35 #[.agg #[.int .i64 0, .bool pl, .bool sr, .bool sw, .int .i32 ms, .int .i32 co, .int .i32 fr], .agg #[.int .i64 16, .int .i64 0, .int .i64 0, .int .i64 0, .int .i64 0, .int .i64 n, .slice none 0 0], wv, .slice ta tail.length tc, .agg #[.int .i64 0, .int .i64 0, .int .i64 0, .int .i64 0, .int .i64 0, .int .i64 (IntKind.i64.wrap (IntKind.i32.wrap n)), .slice none 0 0]] X (fun e w' => e = .returned (.bool true) ∧ Fr noF noF X w' ∧ Fr noF noF w w') := hal hsm 16 (IntKind.i64.wrap (IntKind.i32.wrap n)) (bigB n 4) (by have h := num16 ⟨0, pl, sr, sw, ms, co, fr⟩ n tail; rw [← w64] at h; exact h) (by rw [bigB_length]; decide)
    have h17 : ∀ X wv, Fr noF noF w X → Rd X wv (bigB n 8) → Calls Tryz.prog 35 #[.agg #[.int .i64 0, .bool pl, .bool sr, .bool sw, .int .i32 ms, .int .i32 co, .int .i32 fr], .agg #[.int .i64 17, .int .i64 0, .int .i64 0, .int .i64 0, .int .i64 0, .int .i64 n, .slice none 0 0], wv, .slice ta tail.length tc, .agg #[.int .i64 0, .int .i64 0, .int .i64 0, .int .i64 0, .int .i64 0, .int .i64 (n), .slice none 0 0]] X (fun e w' => e = .returned (.bool true) ∧ Fr noF noF X w' ∧ Fr noF noF w w') := hal hsm 17 _ _ (num17 _ n tail hn.1 hn.2) (by rw [bigB_length]; decide)
    have h18 : ∀ X wv, Fr noF noF w X → Rd X wv (bigB n 8) → Calls Tryz.prog 35 #[.agg #[.int .i64 0, .bool pl, .bool sr, .bool sw, .int .i32 ms, .int .i32 co, .int .i32 fr], .agg #[.int .i64 18, .int .i64 0, .int .i64 0, .int .i64 0, .int .i64 0, .int .i64 n, .slice none 0 0], wv, .slice ta tail.length tc, .agg #[.int .i64 0, .int .i64 0, .int .i64 0, .int .i64 0, .int .i64 0, .int .i64 (n), .slice none 0 0]] X (fun e w' => e = .returned (.bool true) ∧ Fr noF noF X w' ∧ Fr noF noF w w') := hal hsm 18 _ _ (num18 _ n tail hn.1 hn.2) (by rw [bigB_length]; decide)
    have h13 : ∀ bit u, ((n = 0 ∧ bit = 0 ∧ u = 0) ∨ (n ≠ 0 ∧ bit = 1 ∧ u = 1)) → ∀ X wv, Fr noF noF w X → Rd X wv [u] → Calls Tryz.prog 35 #[.agg #[.int .i64 0, .bool pl, .bool sr, .bool sw, .int .i32 ms, .int .i32 co, .int .i32 fr], .agg #[.int .i64 13, .int .i64 0, .int .i64 0, .int .i64 0, .int .i64 0, .int .i64 n, .slice none 0 0], wv, .slice ta tail.length tc, .agg #[.int .i64 0, .int .i64 0, .int .i64 0, .int .i64 0, .int .i64 0, .int .i64 (bit), .slice none 0 0]] X (fun e w' => e = .returned (.bool true) ∧ Fr noF noF X w' ∧ Fr noF noF w w') := fun bit u hb => hal hsm 13 _ _ (num13 _ n bit u tail hb) (by simp)
    have hbg : ∀ size : Nat, size ≤ 8 → ∀ X, Calls Tryz.prog 36 #[.int .i64 n, .int .i64 size] X (NewR (bigB n size) X) := fun size hs X => L_big n size hs X
    have g1 : ∀ X, Calls Tryz.prog 36 #[.int .i64 n, .int .i64 1] X (NewR (bigB n 1) X) := hbg 1 (by decide)
    have g2 : ∀ X, Calls Tryz.prog 36 #[.int .i64 n, .int .i64 2] X (NewR (bigB n 2) X) := hbg 2 (by decide)
    have g4 : ∀ X, Calls Tryz.prog 36 #[.int .i64 n, .int .i64 4] X (NewR (bigB n 4) X) := hbg 4 (by decide)
    have g8 : ∀ X, Calls Tryz.prog 36 #[.int .i64 n, .int .i64 8] X (NewR (bigB n 8) X) := hbg 8 (by decide)
    have G1 := Lib.hid g1
    have G2 := Lib.hid g2
    have G4 := Lib.hid g4
    have G8 := Lib.hid g8
    have H13 := Lib.hid h13
    have H14 := Lib.hid h14
    have H15 := Lib.hid h15
    have H16 := Lib.hid h16
    have H17 := Lib.hid h17
    have H18 := Lib.hid h18
    obtain ⟨m, hm⟩ : ∃ m, m = tail.length := ⟨_, rfl⟩
    rw [← hm] at q0 ⊢
    rw [← hm] at H13
    rw [← hm] at H14
    rw [← hm] at H15
    rw [← hm] at H16
    rw [← hm] at H17
    rw [← hm] at H18
    have q1 : ¬ (2147483647 : Int) < (m : Int) := by omega
    have q2 : ¬ (65536 : Int) < (m : Int) := by omega
    have n1 := hn.1
    have n2 := hn.2
    have hf0 := (Fr.refl noF w).alloc (.cells #[.int .i64 pr, .bool pl, .bool sr, .bool sw, .int .i32 ms, .int .i32 co, .int .i32 fr] 31 (0, 0))
    have HF := Lib.hid hf0
    clear hal ht hby hbg g1 g2 g4 g8 h13 h14 h15 h16 h17 h18 hsm hm hf0 hn
    obtain ⟨bit, u, hb⟩ := hbit
    have H13b := Lib.hid (H13.out bit u hb)
    rcases hb with ⟨hz, rfl, rfl⟩ | ⟨hz, rfl, rfl⟩
    ·
      have hz0 : (n != 0) = false := by simpa using hz
      clear hz
      go_enter Tryz.func13, Tryz.ntmps13
      go_wp2_with fail
      refine (HY.out _).mono ?_
      rintro e w1 ⟨rfl, hf⟩
      have hbx := hf.block (alloc_new w _) fun x => x
      have c0 := cell_at hbx 0; have c1 := cell_at hbx 1; have c2 := cell_at hbx 2; have c3 := cell_at hbx 3; have c4 := cell_at hbx 4; have c5 := cell_at hbx 5; have c6 := cell_at hbx 6; have ff := free_at hbx
      simp only [List.getElem?_toArray, List.getElem?_cons_zero, List.getElem?_cons_succ] at c0 c1 c2 c3 c4 c5 c6
      have hby7 := store7_at hbx (.int .i64 0) (.bool pl) (.bool sr) (.bool sw) (.int .i32 ms) (.int .i32 co) (.int .i32 fr)
      have hfW : Fr noF noF w (store7 w1 w.heap.size (.int .i64 0) (.bool pl) (.bool sr) (.bool sw) (.int .i32 ms) (.int .i32 co) (.int .i32 fr)) := store7_fr (HF.out.trans hf) (Or.inr (Nat.le_refl _)) (.int .i64 0) (.bool pl) (.bool sr) (.bool sw) (.int .i32 ms) (.int .i32 co) (.int .i32 fr)
      have hsz : (store7 w1 w.heap.size (.int .i64 0) (.bool pl) (.bool sr) (.bool sw) (.int .i32 ms) (.int .i32 co) (.int .i32 fr)).heap.size = w1.heap.size := by simp only [setCell_size]
      have hr := Rd_byte (store7 w1 w.heap.size (.int .i64 0) (.bool pl) (.bool sr) (.bool sw) (.int .i32 ms) (.int .i32 co) (.int .i32 fr)) w1.heap.size hsz 0 (IntKind.u8.wrap 0) (by decide)
      have ha13 := H13b.out ((store7 w1 w.heap.size (.int .i64 0) (.bool pl) (.bool sr) (.bool sw) (.int .i32 ms) (.int .i32 co) (.int .i32 fr)).alloc (.cells #[.int .u8 (IntKind.u8.wrap 0)] U8 (0, 0))).drew (.slice (some ⟨w1.heap.size, 0, none⟩) 1 1) (hfW.alloc _).drew hr
      have HA13 := Lib.hid ha13
      have hbw : (store7 w1 w.heap.size (.int .i64 0) (.bool pl) (.bool sr) (.bool sw) (.int .i32 ms) (.int .i32 co) (.int .i32 fr)).drew.heap[w.heap.size]? = some (.cells #[.int .i64 0, .bool pl, .bool sr, .bool sw, .int .i32 ms, .int .i32 co, .int .i32 fr] 31 (0, 0)) := drew_at hby7
      have HB7 := Lib.hid (show ((store7 w1 w.heap.size (.int .i64 0) (.bool pl) (.bool sr) (.bool sw) (.int .i32 ms) (.int .i32 co) (.int .i32 fr)).alloc (.cells #[.int .u8 (IntKind.u8.wrap 0)] U8 (0, 0))).drew.heap[w.heap.size]? = some (.cells #[.int .i64 0, .bool pl, .bool sr, .bool sw, .int .i32 ms, .int .i32 co, .int .i32 fr] 31 (0, 0)) from drew_at (alloc_at hby7))
      clear hby7 hfW hf hbx hsz hr ha13
      go_wp2_with fail
      clear c0 c1 c2 c3 c4 c5 c6 ff
      have hs7 : ∀ X : World, X.heap[w.heap.size]? = some (.cells #[.int .i64 0, .bool pl, .bool sr, .bool sw, .int .i32 ms, .int .i32 co, .int .i32 fr] 31 (0, 0)) → (X.cell? ⟨w.heap.size, 0, none⟩ = some (.int .i64 0) ∧ X.cell? ⟨w.heap.size, 1, none⟩ = some (.bool pl) ∧ X.cell? ⟨w.heap.size, 2, none⟩ = some (.bool sr) ∧ X.cell? ⟨w.heap.size, 3, none⟩ = some (.bool sw) ∧ X.cell? ⟨w.heap.size, 4, none⟩ = some (.int .i32 ms) ∧ X.cell? ⟨w.heap.size, 5, none⟩ = some (.int .i32 co) ∧ X.cell? ⟨w.heap.size, 6, none⟩ = some (.int .i32 fr)) := fun X hX => ⟨by rw [cell_at hX]; rfl, by rw [cell_at hX]; rfl, by rw [cell_at hX]; rfl, by rw [cell_at hX]; rfl, by rw [cell_at hX]; rfl, by rw [cell_at hX]; rfl, by rw [cell_at hX]; rfl⟩
      have HS7 := Lib.hid hs7
      have s00 := hs7 _ hbw
      have s01 := hs7 _ HB7.out
      clear hs7 hbw
      simp only [List.append]
      go_region_held3 (fun w' => w'.cell? ⟨w.heap.size, 0, none⟩ = some (.int .i64 0) ∧ w'.cell? ⟨w.heap.size, 1, none⟩ = some (.bool pl) ∧ w'.cell? ⟨w.heap.size, 2, none⟩ = some (.bool sr) ∧ w'.cell? ⟨w.heap.size, 3, none⟩ = some (.bool sw) ∧ w'.cell? ⟨w.heap.size, 4, none⟩ = some (.int .i32 ms) ∧ w'.cell? ⟨w.heap.size, 5, none⟩ = some (.int .i32 co) ∧ w'.cell? ⟨w.heap.size, 6, none⟩ = some (.int .i32 fr)) (with_reducible assumption) (first | ((with_reducible refine HA13.out.mono ?_); rintro e X0 ⟨rfl, hfa, hfw⟩; have HX0 := Lib.hid (And.intro (hfa.block HB7.out fun x => x) hfw); have sx0 := HS7.out X0 HX0.out.1; clear hfa hfw) | ((with_reducible refine HA14.out.mono ?_); rintro e X1 ⟨rfl, hfa, hfw⟩; have HX1 := Lib.hid (And.intro (hfa.block HY1.out fun x => x) hfw); have sx1 := HS7.out X1 HX1.out.1; clear hfa hfw) | ((with_reducible refine HA15.out.mono ?_); rintro e X2 ⟨rfl, hfa, hfw⟩; have HX2 := Lib.hid (And.intro (hfa.block HY2.out fun x => x) hfw); have sx2 := HS7.out X2 HX2.out.1; clear hfa hfw) | ((with_reducible refine HA16.out.mono ?_); rintro e X3 ⟨rfl, hfa, hfw⟩; have HX3 := Lib.hid (And.intro (hfa.block HY3.out fun x => x) hfw); have sx3 := HS7.out X3 HX3.out.1; clear hfa hfw) | ((with_reducible refine HA17.out.mono ?_); rintro e X4 ⟨rfl, hfa, hfw⟩; have HX4 := Lib.hid (And.intro (hfa.block HY4.out fun x => x) hfw); have sx4 := HS7.out X4 HX4.out.1; clear hfa hfw) | ((with_reducible refine HA18.out.mono ?_); rintro e X5 ⟨rfl, hfa, hfw⟩; have HX5 := Lib.hid (And.intro (hfa.block HY5.out fun x => x) hfw); have sx5 := HS7.out X5 HX5.out.1; clear hfa hfw) | ((with_reducible refine (G8.out X4).mono ?_); rintro e Y5 ⟨v5, rfl, hown, hfy⟩; have HA18 := Lib.hid (H18.out Y5 v5 (HX4.out.2.trans hfy) hown.rd); have HY5 := Lib.hid (hfy.block HX4.out.1 fun x => x); have sy5 := HS7.out Y5 HY5.out; clear hown hfy) | ((with_reducible refine (G8.out X3).mono ?_); rintro e Y4 ⟨v4, rfl, hown, hfy⟩; have HA17 := Lib.hid (H17.out Y4 v4 (HX3.out.2.trans hfy) hown.rd); have HY4 := Lib.hid (hfy.block HX3.out.1 fun x => x); have sy4 := HS7.out Y4 HY4.out; clear hown hfy) | ((with_reducible refine (G4.out X2).mono ?_); rintro e Y3 ⟨v3, rfl, hown, hfy⟩; have HA16 := Lib.hid (H16.out Y3 v3 (HX2.out.2.trans hfy) hown.rd); have HY3 := Lib.hid (hfy.block HX2.out.1 fun x => x); have sy3 := HS7.out Y3 HY3.out; clear hown hfy) | ((with_reducible refine (G2.out X1).mono ?_); rintro e Y2 ⟨v2, rfl, hown, hfy⟩; have HA15 := Lib.hid (H15.out Y2 v2 (HX1.out.2.trans hfy) hown.rd); have HY2 := Lib.hid (hfy.block HX1.out.1 fun x => x); have sy2 := HS7.out Y2 HY2.out; clear hown hfy) | ((with_reducible refine (G1.out X0).mono ?_); rintro e Y1 ⟨v1, rfl, hown, hfy⟩; have HA14 := Lib.hid (H14.out Y1 v1 (HX0.out.2.trans hfy) hown.rd); have HY1 := Lib.hid (hfy.block HX0.out.1 fun x => x); have sy1 := HS7.out Y1 HY1.out; clear hown hfy) | ((with_reducible refine (HK.out X5).mono ?_); rintro e Z ⟨rfl, hf⟩; have HZ := Lib.hid (HX5.out.2.trans hf); have sz := HS7.out Z (hf.block HX5.out.1 fun x => x); clear hf) | fail)
      all_goals go_wp2
      all_goals go_ret
      all_goals exact ⟨rfl, HZ.out⟩
    ·
      have hz0 : (n != 0) = true := by simpa using hz
      clear hz
      go_enter Tryz.func13, Tryz.ntmps13
      go_wp2_with fail
      refine (HY.out _).mono ?_
      rintro e w1 ⟨rfl, hf⟩
      have hbx := hf.block (alloc_new w _) fun x => x
      have c0 := cell_at hbx 0; have c1 := cell_at hbx 1; have c2 := cell_at hbx 2; have c3 := cell_at hbx 3; have c4 := cell_at hbx 4; have c5 := cell_at hbx 5; have c6 := cell_at hbx 6; have ff := free_at hbx
      simp only [List.getElem?_toArray, List.getElem?_cons_zero, List.getElem?_cons_succ] at c0 c1 c2 c3 c4 c5 c6
      have hby7 := store7_at hbx (.int .i64 0) (.bool pl) (.bool sr) (.bool sw) (.int .i32 ms) (.int .i32 co) (.int .i32 fr)
      have hfW : Fr noF noF w (store7 w1 w.heap.size (.int .i64 0) (.bool pl) (.bool sr) (.bool sw) (.int .i32 ms) (.int .i32 co) (.int .i32 fr)) := store7_fr (HF.out.trans hf) (Or.inr (Nat.le_refl _)) (.int .i64 0) (.bool pl) (.bool sr) (.bool sw) (.int .i32 ms) (.int .i32 co) (.int .i32 fr)
      have hsz : (store7 w1 w.heap.size (.int .i64 0) (.bool pl) (.bool sr) (.bool sw) (.int .i32 ms) (.int .i32 co) (.int .i32 fr)).heap.size = w1.heap.size := by simp only [setCell_size]
      have hr := Rd_byte (store7 w1 w.heap.size (.int .i64 0) (.bool pl) (.bool sr) (.bool sw) (.int .i32 ms) (.int .i32 co) (.int .i32 fr)) w1.heap.size hsz 1 (IntKind.u8.wrap 1) (by decide)
      have ha13 := H13b.out ((store7 w1 w.heap.size (.int .i64 0) (.bool pl) (.bool sr) (.bool sw) (.int .i32 ms) (.int .i32 co) (.int .i32 fr)).alloc (.cells #[.int .u8 (IntKind.u8.wrap 1)] U8 (0, 0))).drew (.slice (some ⟨w1.heap.size, 0, none⟩) 1 1) (hfW.alloc _).drew hr
      have HA13 := Lib.hid ha13
      have hbw : (store7 w1 w.heap.size (.int .i64 0) (.bool pl) (.bool sr) (.bool sw) (.int .i32 ms) (.int .i32 co) (.int .i32 fr)).drew.heap[w.heap.size]? = some (.cells #[.int .i64 0, .bool pl, .bool sr, .bool sw, .int .i32 ms, .int .i32 co, .int .i32 fr] 31 (0, 0)) := drew_at hby7
      have HB7 := Lib.hid (show ((store7 w1 w.heap.size (.int .i64 0) (.bool pl) (.bool sr) (.bool sw) (.int .i32 ms) (.int .i32 co) (.int .i32 fr)).alloc (.cells #[.int .u8 (IntKind.u8.wrap 1)] U8 (0, 0))).drew.heap[w.heap.size]? = some (.cells #[.int .i64 0, .bool pl, .bool sr, .bool sw, .int .i32 ms, .int .i32 co, .int .i32 fr] 31 (0, 0)) from drew_at (alloc_at hby7))
      clear hby7 hfW hf hbx hsz hr ha13
      go_wp2_with fail
      clear c0 c1 c2 c3 c4 c5 c6 ff
      have hs7 : ∀ X : World, X.heap[w.heap.size]? = some (.cells #[.int .i64 0, .bool pl, .bool sr, .bool sw, .int .i32 ms, .int .i32 co, .int .i32 fr] 31 (0, 0)) → (X.cell? ⟨w.heap.size, 0, none⟩ = some (.int .i64 0) ∧ X.cell? ⟨w.heap.size, 1, none⟩ = some (.bool pl) ∧ X.cell? ⟨w.heap.size, 2, none⟩ = some (.bool sr) ∧ X.cell? ⟨w.heap.size, 3, none⟩ = some (.bool sw) ∧ X.cell? ⟨w.heap.size, 4, none⟩ = some (.int .i32 ms) ∧ X.cell? ⟨w.heap.size, 5, none⟩ = some (.int .i32 co) ∧ X.cell? ⟨w.heap.size, 6, none⟩ = some (.int .i32 fr)) := fun X hX => ⟨by rw [cell_at hX]; rfl, by rw [cell_at hX]; rfl, by rw [cell_at hX]; rfl, by rw [cell_at hX]; rfl, by rw [cell_at hX]; rfl, by rw [cell_at hX]; rfl, by rw [cell_at hX]; rfl⟩
      have HS7 := Lib.hid hs7
      have s00 := hs7 _ hbw
      have s01 := hs7 _ HB7.out
      clear hs7 hbw
      simp only [List.append]
      go_region_held3 (fun w' => w'.cell? ⟨w.heap.size, 0, none⟩ = some (.int .i64 0) ∧ w'.cell? ⟨w.heap.size, 1, none⟩ = some (.bool pl) ∧ w'.cell? ⟨w.heap.size, 2, none⟩ = some (.bool sr) ∧ w'.cell? ⟨w.heap.size, 3, none⟩ = some (.bool sw) ∧ w'.cell? ⟨w.heap.size, 4, none⟩ = some (.int .i32 ms) ∧ w'.cell? ⟨w.heap.size, 5, none⟩ = some (.int .i32 co) ∧ w'.cell? ⟨w.heap.size, 6, none⟩ = some (.int .i32 fr)) (with_reducible assumption) (first | ((with_reducible refine HA13.out.mono ?_); rintro e X0 ⟨rfl, hfa, hfw⟩; have HX0 := Lib.hid (And.intro (hfa.block HB7.out fun x => x) hfw); have sx0 := HS7.out X0 HX0.out.1; clear hfa hfw) | ((with_reducible refine HA14.out.mono ?_); rintro e X1 ⟨rfl, hfa, hfw⟩; have HX1 := Lib.hid (And.intro (hfa.block HY1.out fun x => x) hfw); have sx1 := HS7.out X1 HX1.out.1; clear hfa hfw) | ((with_reducible refine HA15.out.mono ?_); rintro e X2 ⟨rfl, hfa, hfw⟩; have HX2 := Lib.hid (And.intro (hfa.block HY2.out fun x => x) hfw); have sx2 := HS7.out X2 HX2.out.1; clear hfa hfw) | ((with_reducible refine HA16.out.mono ?_); rintro e X3 ⟨rfl, hfa, hfw⟩; have HX3 := Lib.hid (And.intro (hfa.block HY3.out fun x => x) hfw); have sx3 := HS7.out X3 HX3.out.1; clear hfa hfw) | ((with_reducible refine HA17.out.mono ?_); rintro e X4 ⟨rfl, hfa, hfw⟩; have HX4 := Lib.hid (And.intro (hfa.block HY4.out fun x => x) hfw); have sx4 := HS7.out X4 HX4.out.1; clear hfa hfw) | ((with_reducible refine HA18.out.mono ?_); rintro e X5 ⟨rfl, hfa, hfw⟩; have HX5 := Lib.hid (And.intro (hfa.block HY5.out fun x => x) hfw); have sx5 := HS7.out X5 HX5.out.1; clear hfa hfw) | ((with_reducible refine (G8.out X4).mono ?_); rintro e Y5 ⟨v5, rfl, hown, hfy⟩; have HA18 := Lib.hid (H18.out Y5 v5 (HX4.out.2.trans hfy) hown.rd); have HY5 := Lib.hid (hfy.block HX4.out.1 fun x => x); have sy5 := HS7.out Y5 HY5.out; clear hown hfy) | ((with_reducible refine (G8.out X3).mono ?_); rintro e Y4 ⟨v4, rfl, hown, hfy⟩; have HA17 := Lib.hid (H17.out Y4 v4 (HX3.out.2.trans hfy) hown.rd); have HY4 := Lib.hid (hfy.block HX3.out.1 fun x => x); have sy4 := HS7.out Y4 HY4.out; clear hown hfy) | ((with_reducible refine (G4.out X2).mono ?_); rintro e Y3 ⟨v3, rfl, hown, hfy⟩; have HA16 := Lib.hid (H16.out Y3 v3 (HX2.out.2.trans hfy) hown.rd); have HY3 := Lib.hid (hfy.block HX2.out.1 fun x => x); have sy3 := HS7.out Y3 HY3.out; clear hown hfy) | ((with_reducible refine (G2.out X1).mono ?_); rintro e Y2 ⟨v2, rfl, hown, hfy⟩; have HA15 := Lib.hid (H15.out Y2 v2 (HX1.out.2.trans hfy) hown.rd); have HY2 := Lib.hid (hfy.block HX1.out.1 fun x => x); have sy2 := HS7.out Y2 HY2.out; clear hown hfy) | ((with_reducible refine (G1.out X0).mono ?_); rintro e Y1 ⟨v1, rfl, hown, hfy⟩; have HA14 := Lib.hid (H14.out Y1 v1 (HX0.out.2.trans hfy) hown.rd); have HY1 := Lib.hid (hfy.block HX0.out.1 fun x => x); have sy1 := HS7.out Y1 HY1.out; clear hown hfy) | ((with_reducible refine (HK.out X5).mono ?_); rintro e Z ⟨rfl, hf⟩; have HZ := Lib.hid (HX5.out.2.trans hf); have sz := HS7.out Z (hf.block HX5.out.1 fun x => x); clear hf) | fail)
      all_goals go_wp2
      all_goals go_ret
      all_goals exact ⟨rfl, HZ.out⟩
end Go.Proofs.YtoifjckhccbmlaaGreatDoor
