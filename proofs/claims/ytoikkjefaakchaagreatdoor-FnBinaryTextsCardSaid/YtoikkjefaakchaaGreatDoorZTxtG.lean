/- FnBinaryTexts: walked. -/
import Derived.Test.YtoikkjefaakchaaGreatDoorZTxtF
import Derived.Test.YtoikkjefaakchaaGreatDoorZJn
import Derived.Test.YtoikkjefaakchaaGreatDoorZ9
set_option linter.all false
namespace Go.Proofs.YtoikkjefaakchaaGreatDoor
open Go Go.RowKit
set_option maxHeartbeats 40000000
set_option maxRecDepth 100000
set_option linter.all false

theorem FnBinaryTexts_main (c : ConfV) (hw : Wide c) (sv tv : Value) (s tail : List UInt8) (w : World) (hs : Rd w sv s) (ht : Rd w tv tail) (hl : s.length ≤ 65536) (hl2 : tail.length ≤ 65536) : Calls Tryz.prog 3 #[c.val, sv, tv] w fun e w' => e = .returned (.bool true) ∧ Fr noF noF w w' := by
  obtain ⟨sa, sn, sc, rfl, hsn⟩ := hs.len
  obtain ⟨ta, tn, tc, rfl, htn⟩ := ht.len
  subst hsn htn
  have HK := Lib.hid L_known
  have HY := Lib.hid (L_by 0 c)
  have hwd : ∀ X, Calls Tryz.prog 15 #[c.val] X (fun e w' => e = .returned (.bool true) ∧ Fr noF noF X w') := fun X => (L_isWide c X).mono fun e w' ⟨b, he, hb, hf⟩ => by
    cases b
    · exact absurd (hb.2 hw) (by simp)
    · exact ⟨he, hf⟩
  have HW := Lib.hid hwd
  have ha19 : ∀ X wv, Fr noF noF w X → Rd X wv (be4 s.length ++ s) → Calls Tryz.prog 20 #[({ c with proto := 0 } : ConfV).val, .agg #[.int .i64 19, .int .i64 0, .int .i64 0, .int .i64 0, .int .i64 0, .int .i64 0, .slice sa s.length sc], wv, .slice ta tail.length tc, .agg #[.int .i64 0, .int .i64 0, .int .i64 0, .int .i64 0, .int .i64 0, .int .i64 0, .slice sa s.length sc]] X fun e w' => e = .returned (.bool true) ∧ Fr noF noF X w' := fun X wv hX hr => by
    have hsX := hs.keep hX fun _ _ x => x
    have htX := ht.keep hX fun _ _ x => x
    exact L_alone { c with proto := 0 } (show (0 : Int) ≠ 1 by decide) ⟨19, 0, 0, 0, 0, 0, .slice sa s.length sc, s⟩ wv _ (.slice sa s.length sc) _ tail { s := s } X hr htX hsX (show s.length ≤ maxLen by unfold maxLen; omega) hsX (txt19 (c := { c with proto := 0 }) hw _ s tail hl).1 (txt19 (c := { c with proto := 0 }) hw (.slice sa s.length sc) s tail hl).2 (by rw [List.length_append, be4_length]; omega)
  have ha20 : ∀ X wv, Fr noF noF w X → Rd X wv (be4 s.length ++ s) → Calls Tryz.prog 20 #[({ c with proto := 0 } : ConfV).val, .agg #[.int .i64 20, .int .i64 0, .int .i64 0, .int .i64 0, .int .i64 0, .int .i64 0, .slice sa s.length sc], wv, .slice ta tail.length tc, .agg #[.int .i64 0, .int .i64 0, .int .i64 0, .int .i64 0, .int .i64 0, .int .i64 0, .slice sa s.length sc]] X fun e w' => e = .returned (.bool true) ∧ Fr noF noF X w' := fun X wv hX hr => by
    have hsX := hs.keep hX fun _ _ x => x
    have htX := ht.keep hX fun _ _ x => x
    exact L_alone { c with proto := 0 } (show (0 : Int) ≠ 1 by decide) ⟨20, 0, 0, 0, 0, 0, .slice sa s.length sc, s⟩ wv _ (.slice sa s.length sc) _ tail { s := s } X hr htX hsX (show s.length ≤ maxLen by unfold maxLen; omega) hsX (txt20 (c := { c with proto := 0 }) hw _ s tail hl).1 (txt20 (c := { c with proto := 0 }) hw (.slice sa s.length sc) s tail hl).2 (by rw [List.length_append, be4_length]; omega)
  have ha21 : ∀ X wv gv, Fr noF noF w X → Rd X wv (pad16 s) → Rd X gv (pad16 s) → Calls Tryz.prog 20 #[({ c with proto := 0 } : ConfV).val, .agg #[.int .i64 21, .int .i64 0, .int .i64 0, .int .i64 0, .int .i64 0, .int .i64 0, .slice sa s.length sc], wv, .slice ta tail.length tc, .agg #[.int .i64 0, .int .i64 0, .int .i64 0, .int .i64 0, .int .i64 0, .int .i64 0, gv]] X fun e w' => e = .returned (.bool true) ∧ Fr noF noF X w' := fun X wv gv hX hr hg => by
    have hsX := hs.keep hX fun _ _ x => x
    have htX := ht.keep hX fun _ _ x => x
    exact L_alone { c with proto := 0 } (show (0 : Int) ≠ 1 by decide) ⟨21, 0, 0, 0, 0, 0, .slice sa s.length sc, s⟩ wv _ gv _ tail { s := pad16 s } X hr htX hsX (show s.length ≤ maxLen by unfold maxLen; omega) hg (txt21 { c with proto := 0 } _ s tail).1 (txt21 { c with proto := 0 } (.slice sa s.length sc) s tail).2 (by rw [pad16_len]; omega)
  have hg : ∀ X, Calls Tryz.prog 19 #[.int .i64 s.length, .int .i64 4] X (fun e w' => ∃ a n c, e = .returned (.slice a n c) ∧ Rd w' (.slice a n c) (be4 s.length) ∧ Fr noF noF X w') := fun X => by
    have := L_big s.length 4 (by decide) X
    rw [bigB_4] at this
    exact this.mono fun e w' ⟨v, he, ho, hf⟩ => by
      obtain ⟨a, n, c, rfl, -⟩ := ho.rd.len
      exact ⟨a, n, c, he, ho.rd, hf⟩
  have hpd : ∀ X, Fr noF noF w X → Calls Tryz.prog 21 #[.slice sa s.length sc] X (fun e w' => ∃ a n c, e = .returned (.slice a n c) ∧ Rd w' (.slice a n c) (pad16 s) ∧ Fr noF noF X w') := fun X hX =>
    (L_padded (.slice sa s.length sc) s X (hs.keep hX fun _ _ x => x)).mono fun e w' ⟨v, he, ho, _, hf⟩ => by
      obtain ⟨a, n, c, rfl, -⟩ := ho.len
      exact ⟨a, n, c, he, ho, hf⟩
  have hj : ∀ (X : World) (g : Nat) (a1 : Option Addr) (n1 c1 : Nat), Fr noF noF w X → X.heap[g]? = some (.cells #[.slice a1 n1 c1, .slice sa s.length sc] 24 (0, 0)) → Rd X (.slice a1 n1 c1) (be4 s.length) →
      Calls Tryz.prog 18 #[.slice (some ⟨g, 0, none⟩) 2 2] X (fun e w' => ∃ a n' c, e = .returned (.slice a n' c) ∧ Rd w' (.slice a n' c) (be4 s.length ++ s) ∧ Fr noF noF X w') := fun X g a1 n1 c1 hX hb hr => joined2 (be4 s.length) s (by rw [be4_length]; decide) (by omega) hb hr (hs.keep hX fun _ _ x => x)
  have HG := Lib.hid hg
  have HPD := Lib.hid hpd
  have HJ := Lib.hid hj
  obtain ⟨want, hwant⟩ : ∃ W, W = be4 s.length ++ s := ⟨_, rfl⟩
  rw [← hwant] at ha19 ha20 HJ
  obtain ⟨N, hN⟩ : ∃ N, N = s.length := ⟨_, rfl⟩
  obtain ⟨M, hM⟩ : ∃ M, M = tail.length := ⟨_, rfl⟩
  rw [← hN] at ha19 ha20 ha21 HG HPD HJ hl ⊢
  rw [← hM] at ha19 ha20 ha21 hl2 ⊢
  obtain ⟨pr, pl, sr, sw, ms, co, fr⟩ := c
  have H19 := Lib.hid ha19
  have H20 := Lib.hid ha20
  have H21 := Lib.hid ha21
  have q0 : ¬ (65536 : Int) < (N : Int) := by omega
  have q1 : ¬ (65536 : Int) < (M : Int) := by omega
  have q2 : ¬ (2147483647 : Int) < (N : Int) := by omega
  have q3 : ¬ (2147483647 : Int) < (M : Int) := by omega
  clear ha19 ha20 ha21 hg hpd hj hwd hs ht hl hl2 hwant hN hM hw
  go_enter Tryz.func3, Tryz.ntmps3
  have n1 := alloc_new w (.cells #[.int .i64 pr, .bool pl, .bool sr, .bool sw, .int .i32 ms, .int .i32 co, .int .i32 fr] 23 (0, 0))
  have hf0 := (Fr.refl noF w).alloc (.cells #[.int .i64 pr, .bool pl, .bool sr, .bool sw, .int .i32 ms, .int .i32 co, .int .i32 fr] 23 (0, 0))
  have H1 := Lib.hid (And.intro hf0 n1)
  clear n1 hf0
  go_wp2_with fail
  (with_reducible refine (HW.out _).mono ?_)
  rintro e w1 ⟨rfl, hf⟩
  have hbx := hf.block H1.out.2 fun x => x
  have H2 := Lib.hid (And.intro (H1.out.1.trans hf) hbx)
  have c0 := cell_at hbx 0; have c1 := cell_at hbx 1; have c2 := cell_at hbx 2; have c3 := cell_at hbx 3; have c4 := cell_at hbx 4; have c5 := cell_at hbx 5; have c6 := cell_at hbx 6; have ff := free_at hbx
  simp only [List.getElem?_toArray, List.getElem?_cons_zero, List.getElem?_cons_succ] at c0 c1 c2 c3 c4 c5 c6
  clear hf hbx
  go_wp2_with fail
  refine (HY.out _).mono ?_
  rintro e w2 ⟨rfl, hf⟩
  have hbx := hf.block H2.out.2 fun x => x
  have hby7 := store7_at hbx (.int .i64 0) (.bool pl) (.bool sr) (.bool sw) (.int .i32 ms) (.int .i32 co) (.int .i32 fr)
  have hfW : Fr noF noF w (store7 w2 w.heap.size (.int .i64 0) (.bool pl) (.bool sr) (.bool sw) (.int .i32 ms) (.int .i32 co) (.int .i32 fr)) := store7_fr (H2.out.1.trans hf) (Or.inr (Nat.le_refl _)) (.int .i64 0) (.bool pl) (.bool sr) (.bool sw) (.int .i32 ms) (.int .i32 co) (.int .i32 fr)
  clear c0 c1 c2 c3 c4 c5 c6 ff
  have c0 := cell_at hbx 0; have c1 := cell_at hbx 1; have c2 := cell_at hbx 2; have c3 := cell_at hbx 3; have c4 := cell_at hbx 4; have c5 := cell_at hbx 5; have c6 := cell_at hbx 6; have ff := free_at hbx
  simp only [List.getElem?_toArray, List.getElem?_cons_zero, List.getElem?_cons_succ] at c0 c1 c2 c3 c4 c5 c6
  have hs7 : ∀ X : World, X.heap[w.heap.size]? = some (.cells #[.int .i64 0, .bool pl, .bool sr, .bool sw, .int .i32 ms, .int .i32 co, .int .i32 fr] 23 (0, 0)) → (X.cell? ⟨w.heap.size, 0, none⟩ = some (.int .i64 0) ∧ X.cell? ⟨w.heap.size, 1, none⟩ = some (.bool pl) ∧ X.cell? ⟨w.heap.size, 2, none⟩ = some (.bool sr) ∧ X.cell? ⟨w.heap.size, 3, none⟩ = some (.bool sw) ∧ X.cell? ⟨w.heap.size, 4, none⟩ = some (.int .i32 ms) ∧ X.cell? ⟨w.heap.size, 5, none⟩ = some (.int .i32 co) ∧ X.cell? ⟨w.heap.size, 6, none⟩ = some (.int .i32 fr)) := fun X hX => ⟨by rw [cell_at hX]; rfl, by rw [cell_at hX]; rfl, by rw [cell_at hX]; rfl, by rw [cell_at hX]; rfl, by rw [cell_at hX]; rfl, by rw [cell_at hX]; rfl, by rw [cell_at hX]; rfl⟩
  obtain ⟨V, hV⟩ : ∃ V, V = (store7 w2 w.heap.size (.int .i64 0) (.bool pl) (.bool sr) (.bool sw) (.int .i32 ms) (.int .i32 co) (.int .i32 fr)) := ⟨_, rfl⟩
  rw [← hV] at hfW hby7
  unfold store7 at hV
  have HS7 := Lib.hid hs7
  have HV := Lib.hid hV
  clear hs7 hf hbx hV
  go_upto_region 6 with fail
  rw [← HV.out]
  clear c0 c1 c2 c3 c4 c5 c6 ff
  go_wp2_with fail
  (with_reducible refine (HG.out _).mono ?_)
  rintro e G ⟨ga, gn, gc, rfl, hrg, hfg⟩
  have HJG := Lib.hid (HJ.out (G.alloc (.cells #[.slice ga gn gc, .slice sa N sc] 24 (0, 0))) G.heap.size ga gn gc ((hfW.trans hfg).alloc _) (alloc_new _ _) (hrg.keep (F := noF) (F' := noF) ((Fr.refl noF G).alloc _) fun _ _ x => x))
  go_wp2_with fail
  (with_reducible refine HJG.out.mono ?_)
  rintro e J ⟨ja, jn, jc, rfl, hrj, hfj⟩
  have hVJ : Fr noF noF V J := (hfg.alloc _).trans hfj
  have hwJ : Fr noF noF w J := hfW.trans hVJ
  have hJb := hVJ.block hby7 fun x => x
  clear hfW hVJ hby7 hfg hfj hrg
  have s0 := HS7.out _ (drew_at hJb)
  go_wp2_with fail
  go_region_held3 (fun w' => w'.cell? ⟨w.heap.size, 0, none⟩ = some (.int .i64 0) ∧ w'.cell? ⟨w.heap.size, 1, none⟩ = some (.bool pl) ∧ w'.cell? ⟨w.heap.size, 2, none⟩ = some (.bool sr) ∧ w'.cell? ⟨w.heap.size, 3, none⟩ = some (.bool sw) ∧ w'.cell? ⟨w.heap.size, 4, none⟩ = some (.int .i32 ms) ∧ w'.cell? ⟨w.heap.size, 5, none⟩ = some (.int .i32 co) ∧ w'.cell? ⟨w.heap.size, 6, none⟩ = some (.int .i32 fr)) (first | with_reducible assumption | ((with_reducible refine HS7.out _ ?_); (focus ((repeat (first | with_reducible assumption | with_reducible exact alloc_new _ _ | ((with_reducible refine alloc_newE ?_); (first | with_reducible rfl | (simp; done))) | with_reducible refine alloc_at ?_ | with_reducible refine drew_at ?_ | with_reducible refine Fr.block (F := noF) (F' := noF) (by with_reducible assumption) ?_ (fun x => x) | fail)); done))) | fail) (first | ((with_reducible refine (H19.out _ _ ?_ ?_).mono ?_); (focus ((repeat (first | with_reducible exact Fr.refl _ _ | with_reducible assumption | with_reducible refine Fr.alloc ?_ _ | with_reducible refine Fr.drew ?_ | with_reducible refine Fr.drewN ?_ _ | with_reducible refine Fr.trans (F' := noF) ?_ (by with_reducible assumption) | fail)); done)); (focus ((repeat (first | with_reducible assumption | with_reducible refine Rd.keep (F := noF) (F' := noF) ?_ (Fr.alloc (Fr.refl noF _) _) (fun _ _ x => x) | with_reducible refine Rd.keep (F := noF) (F' := noF) ?_ (Fr.drew (Fr.refl noF _)) (fun _ _ x => x) | with_reducible refine Rd.keep (F := noF) (F' := noF) ?_ (by with_reducible assumption) (fun _ _ x => x) | fail)); done)); rintro e A19 ⟨rfl, hfa19⟩; have sa19 := HS7.out A19 (by (focus ((repeat (first | with_reducible assumption | with_reducible exact alloc_new _ _ | ((with_reducible refine alloc_newE ?_); (first | with_reducible rfl | (simp; done))) | with_reducible refine alloc_at ?_ | with_reducible refine drew_at ?_ | with_reducible refine Fr.block (F := noF) (F' := noF) (by with_reducible assumption) ?_ (fun x => x) | fail)); done)))) | ((with_reducible refine (H20.out _ _ ?_ ?_).mono ?_); (focus ((repeat (first | with_reducible exact Fr.refl _ _ | with_reducible assumption | with_reducible refine Fr.alloc ?_ _ | with_reducible refine Fr.drew ?_ | with_reducible refine Fr.drewN ?_ _ | with_reducible refine Fr.trans (F' := noF) ?_ (by with_reducible assumption) | fail)); done)); (focus ((repeat (first | with_reducible assumption | with_reducible refine Rd.keep (F := noF) (F' := noF) ?_ (Fr.alloc (Fr.refl noF _) _) (fun _ _ x => x) | with_reducible refine Rd.keep (F := noF) (F' := noF) ?_ (Fr.drew (Fr.refl noF _)) (fun _ _ x => x) | with_reducible refine Rd.keep (F := noF) (F' := noF) ?_ (by with_reducible assumption) (fun _ _ x => x) | fail)); done)); rintro e A20 ⟨rfl, hfa20⟩; have sa20 := HS7.out A20 (by (focus ((repeat (first | with_reducible assumption | with_reducible exact alloc_new _ _ | ((with_reducible refine alloc_newE ?_); (first | with_reducible rfl | (simp; done))) | with_reducible refine alloc_at ?_ | with_reducible refine drew_at ?_ | with_reducible refine Fr.block (F := noF) (F' := noF) (by with_reducible assumption) ?_ (fun x => x) | fail)); done)))) | ((with_reducible refine (HPD.out _ ?_).mono ?_); (focus ((repeat (first | with_reducible exact Fr.refl _ _ | with_reducible assumption | with_reducible refine Fr.alloc ?_ _ | with_reducible refine Fr.drew ?_ | with_reducible refine Fr.drewN ?_ _ | with_reducible refine Fr.trans (F' := noF) ?_ (by with_reducible assumption) | fail)); done)); rintro e P ⟨pa, pn, pc, rfl, hrp, hfp⟩; have sp := HS7.out P (by (focus ((repeat (first | with_reducible assumption | with_reducible exact alloc_new _ _ | ((with_reducible refine alloc_newE ?_); (first | with_reducible rfl | (simp; done))) | with_reducible refine alloc_at ?_ | with_reducible refine drew_at ?_ | with_reducible refine Fr.block (F := noF) (F' := noF) (by with_reducible assumption) ?_ (fun x => x) | fail)); done)))) | ((with_reducible refine (H21.out _ _ _ ?_ ?_ ?_).mono ?_); (focus ((repeat (first | with_reducible exact Fr.refl _ _ | with_reducible assumption | with_reducible refine Fr.alloc ?_ _ | with_reducible refine Fr.drew ?_ | with_reducible refine Fr.drewN ?_ _ | with_reducible refine Fr.trans (F' := noF) ?_ (by with_reducible assumption) | fail)); done)); (focus ((repeat (first | with_reducible assumption | with_reducible refine Rd.keep (F := noF) (F' := noF) ?_ (Fr.alloc (Fr.refl noF _) _) (fun _ _ x => x) | with_reducible refine Rd.keep (F := noF) (F' := noF) ?_ (Fr.drew (Fr.refl noF _)) (fun _ _ x => x) | with_reducible refine Rd.keep (F := noF) (F' := noF) ?_ (by with_reducible assumption) (fun _ _ x => x) | fail)); done)); (focus ((repeat (first | with_reducible assumption | with_reducible refine Rd.keep (F := noF) (F' := noF) ?_ (Fr.alloc (Fr.refl noF _) _) (fun _ _ x => x) | with_reducible refine Rd.keep (F := noF) (F' := noF) ?_ (Fr.drew (Fr.refl noF _)) (fun _ _ x => x) | with_reducible refine Rd.keep (F := noF) (F' := noF) ?_ (by with_reducible assumption) (fun _ _ x => x) | fail)); done)); rintro e A21 ⟨rfl, hfa21⟩; have sa21 := HS7.out A21 (by (focus ((repeat (first | with_reducible assumption | with_reducible exact alloc_new _ _ | ((with_reducible refine alloc_newE ?_); (first | with_reducible rfl | (simp; done))) | with_reducible refine alloc_at ?_ | with_reducible refine drew_at ?_ | with_reducible refine Fr.block (F := noF) (F' := noF) (by with_reducible assumption) ?_ (fun x => x) | fail)); done)))) | ((with_reducible refine (HK.out _).mono ?_); rintro e B ⟨rfl, hfb⟩; have sb := HS7.out B (by (focus ((repeat (first | with_reducible assumption | with_reducible exact alloc_new _ _ | ((with_reducible refine alloc_newE ?_); (first | with_reducible rfl | (simp; done))) | with_reducible refine alloc_at ?_ | with_reducible refine drew_at ?_ | with_reducible refine Fr.block (F := noF) (F' := noF) (by with_reducible assumption) ?_ (fun x => x) | fail)); done)))) | fail)
  all_goals have HF := Lib.hid (show Fr noF noF w B by (focus ((repeat (first | with_reducible exact Fr.refl _ _ | with_reducible assumption | with_reducible refine Fr.alloc ?_ _ | with_reducible refine Fr.drew ?_ | with_reducible refine Fr.drewN ?_ _ | with_reducible refine Fr.trans (F' := noF) ?_ (by with_reducible assumption) | fail)); done)))
  all_goals clear hfb hfa19 hfa20 hfa21 hwJ s0 sa19 sa20 sa21 sb
  all_goals go_wp2
  all_goals go_ret
  all_goals exact ⟨rfl, HF.out⟩

theorem L_FnBinaryTexts (c : ConfV) (sv : Value) (s : List UInt8) (tv : Value) (tail : List UInt8) (w : World) (hs : Rd w sv s) (ht : Rd w tv tail) : Calls Tryz.prog 3 #[c.val, sv, tv] w fun e w' => e = .returned (.bool true) ∧ Fr noF noF w w' := by
  rcases Nat.lt_or_ge 65536 s.length with h | h
  · exact FnBinaryTexts_big c sv tv s tail w hs ht (Or.inl h)
  rcases Nat.lt_or_ge 65536 tail.length with h2 | h2
  · exact FnBinaryTexts_big c sv tv s tail w hs ht (Or.inr h2)
  by_cases hw : Wide c
  · exact FnBinaryTexts_main c hw sv tv s tail w hs ht h h2
  · exact FnBinaryTexts_narrow c hw sv tv s tail w hs ht h h2
end Go.Proofs.YtoikkjefaakchaaGreatDoor
