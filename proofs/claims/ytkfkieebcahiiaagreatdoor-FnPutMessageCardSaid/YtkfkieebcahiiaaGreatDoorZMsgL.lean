/- laws.FnPutMessage: the walk. Printed by gen_msgl.py. -/
import Derived.Test.YtkfkieebcahiiaaGreatDoorZMsgPl
import Derived.Test.YtkfkieebcahiiaaGreatDoorZHvy
import Derived.Test.YtkfkieebcahiiaaGreatDoorZV
import Derived.Test.YtkfkieebcahiiaaGreatDoorZImP
import Derived.Test.YtkfkieebcahiiaaGreatDoorZToldW
import Derived.Test.YtkfkieebcahiiaaGreatDoorZSameK
import Derived.Test.YtkfkieebcahiiaaGreatDoorZ3
set_option linter.all false
namespace Go.Proofs.YtkfkieebcahiiaaGreatDoor
open Go Go.RowKit
set_option maxHeartbeats 4000000
set_option maxRecDepth 100000
set_option linter.all false

theorem L_FnPutMessage (c : ConfV) (nv : Value) (nm : List UInt8) (t sq : Int) (x : VT) (v : Value) (w : World) (hn : Rd w nv nm) (hsq : -2147483648 ≤ sq ∧ sq ≤ 2147483647) (hv : ValR w x v) (hr : x.rng) : Calls Tryz.prog 3 #[c.val, nv, .int .i64 t, .int .i32 sq, v] w (fun e w' => e = .returned (.bool true) ∧ Fr noF noF w w') := by
  obtain ⟨T, N, Sb, K, E, ids, L⟩ := x
  obtain ⟨vS, vI, vL, us, rfl, h1, h2, ⟨la, lc, rfl, -⟩, -⟩ := hv.inv
  obtain ⟨sa, sn, sc, rfl, -⟩ := h1.len
  obtain ⟨ia, il, ic, rfl, -⟩ := h2.len
  obtain ⟨na, nn, nc, rfl, hnn⟩ := hn.len
  obtain ⟨ll, hll⟩ : ∃ ll, ll = L.length := ⟨_, rfl⟩
  rw [← hll] at hv ⊢
  clear h1 h2 hll
  have hwsq : IntKind.i32.wrap sq = sq := by rw [wrap_i32']; omega
  have hvx : ∀ X, Fr noF noF w X → ValR X (VT.mk T N Sb K E ids L) (.agg (valA T N (.slice sa sn sc) K E (.slice ia il ic) (.slice la ll lc))) := fun X hX => hv.keep hX
  have hnx : ∀ X, Fr noF noF w X → Rd X (.slice na nn nc) nm := fun X hX => hn.keep hX fun _ _ x => x
  have hz : ∀ X, Fr noF noF w X → Calls Tryz.prog 11 #[(.agg (valA T N (.slice sa sn sc) K E (.slice ia il ic) (.slice la ll lc)))] X (BoolR X) := fun X hX => L_zzFits1 _ X _ (hvx X hX)
  have hhv : ∀ X, Fr noF noF w X → Calls Tryz.prog 12 #[.slice (some ⟨X.heap.size, 0, none⟩) 1 1] (X.alloc (.cells (valA T N (.slice sa sn sc) K E (.slice ia il ic) (.slice la ll lc)) 28 (0, 0))) (fun e w' => ∃ b, e = .returned (.bool b) ∧ (b = false → (VT.mk T N Sb K E ids L).small ∧ (VT.mk T N Sb K E ids L).weight ≤ 65536) ∧ Fr noF noF X w') := fun X hX =>
    (L_isHeavy1 X.heap.size (VT.mk T N Sb K E ids L) sa sn sc ia il ic la ll lc _ (alloc_new X _) (hvx _ (hX.alloc _))).mono fun e w' ⟨b, h1, h2, h3⟩ => ⟨b, h1, h2, ((Fr.refl noF X).alloc _).trans h3⟩
  have hput : ∀ X, (VT.mk T N Sb K E ids L).small ∧ (VT.mk T N Sb K E ids L).weight ≤ 65536 → nn ≤ 65536 → Fr noF noF w X → Calls Tryz.prog 14 #[c.val, .slice na nn nc, .int .i64 t, .int .i32 sq, (.agg (valA T N (.slice sa sn sc) K E (.slice ia il ic) (.slice la ll lc)))] X (fun e w' => ∃ ba bn bc, e = .returned (.tuple #[.slice ba bn bc, .int .i64 0]) ∧ Rd w' (.slice ba bn bc) (encAll c CSt.new (msgL nm (IntKind.i32.wrap t) sq (VT.mk T N Sb K E ids L))) ∧ Fr noF noF X w') := fun X hs hl hX =>
    (I_PutMessage c _ hs.1 nm (by omega) t sq _ _ X (hvx X hX) (hnx X hX) (msgL nm (IntKind.i32.wrap t) sq (VT.mk T N Sb K E ids L)) rfl (by have := msg_most nm (IntKind.i32.wrap t) sq (VT.mk T N Sb K E ids L) hs.2 (by omega); unfold LIM; omega) (msg_rng nm _ sq _ hs.1 hr) (fun _ => msg_dep nm _ sq _ _)).mono fun e w' ⟨u, he, h1, _, h3⟩ => by
      obtain ⟨a, n, k, rfl, -⟩ := h1.len
      exact ⟨a, n, k, he, h1, h3⟩
  have htold : ∀ X, (VT.mk T N Sb K E ids L).small ∧ (VT.mk T N Sb K E ids L).weight ≤ 65536 → nn ≤ 65536 → Fr noF noF w X → Calls Tryz.prog 16 #[(.agg (valA T N (.slice sa sn sc) K E (.slice ia il ic) (.slice la ll lc)))] X (fun e w' => ∃ sa sn sc ia il ic la ll lc, e = .returned (.agg (valA T N (.slice sa sn sc) K E (.slice ia il ic) (.slice la ll lc))) ∧
      Calls Tryz.prog 15 #[c.val, .slice na nn nc, .int .i64 t, .int .i32 sq, .agg (valA T N (.slice sa sn sc) K E (.slice ia il ic) (.slice la ll lc))] w' (fun e w2 => ∃ da dn dc k, e = .returned (.tuple #[.slice da dn dc, .int .i64 k]) ∧ ((k = 0 ∧ Rd w2 (.slice da dn dc) (encAll c CSt.new (msgL nm (IntKind.i32.wrap t) sq (VT.mk T N Sb K E ids L)))) ∨ k = -2) ∧ Fr noF noF w' w2) ∧ Fr noF noF X w') := fun X hs hl hX =>
    (L_told _ hs.1 X _ (hvx X hX)).mono fun e w' ⟨sa, sn, sc, ia, il, ic, la, ll, lc, he, h1, h2⟩ => ⟨sa, sn, sc, ia, il, ic, la, ll, lc, he,
      (S_PutMessage c _ hs.1 nm t sq _ _ w' h1 ((hnx X hX).keep h2 fun _ _ x => x) (by omega) (by omega) (by rw [hwsq]; exact msg_good nm _ sq _ hs.1 hr hs.2 (by omega)) (srun c SSt.new (msgL nm (IntKind.i32.wrap t) sq (VT.mk T N Sb K E ids L))) (by rw [hwsq]; rfl)).mono fun e w2 ⟨r, he, h3, _, h5⟩ => by
        obtain ⟨a, n, k, rfl, -⟩ := h3.len
        refine ⟨a, n, k, _, he, ?_, h5⟩
        rcases srun_kind c (msgL nm (IntKind.i32.wrap t) sq (VT.mk T N Sb K E ids L)) SSt.new with hk | hk
        · refine Or.inl ⟨hk, ?_⟩
          rw [← srun_enc c _ hk]
          exact h3
        · exact Or.inr hk, h2⟩
  obtain ⟨B, hB⟩ : ∃ B, B = encAll c CSt.new (msgL nm (IntKind.i32.wrap t) sq (VT.mk T N Sb K E ids L)) := ⟨_, rfl⟩
  rw [← hB] at hput htold
  obtain ⟨P, hP⟩ : ∃ P : Prop, P = ((VT.mk T N Sb K E ids L).small ∧ (VT.mk T N Sb K E ids L).weight ≤ 65536) := ⟨_, rfl⟩
  rw [← hP] at hhv hput htold
  have hnn0 : (0 : Int) ≤ (nn : Int) := by omega
  obtain ⟨pr, pl, sr, sw, ms, co, fr⟩ := c
  have q2 := new2 w (.cells #[.int .i64 pr, .bool pl, .bool sr, .bool sw, .int .i32 ms, .int .i32 co, .int .i32 fr] 23 (0, 0)) (.cells (valA T N (.slice sa sn sc) K E (.slice ia il ic) (.slice la ll lc)) 28 (0, 0))
  have hf2 : Fr noF noF w ((w.alloc (.cells #[.int .i64 pr, .bool pl, .bool sr, .bool sw, .int .i32 ms, .int .i32 co, .int .i32 fr] 23 (0, 0))).alloc (.cells (valA T N (.slice sa sn sc) K E (.slice ia il ic) (.slice la ll lc)) 28 (0, 0))) := ((Fr.refl noF w).alloc _).alloc _
  have hbx : ∀ X, Fr noF noF ((w.alloc (.cells #[.int .i64 pr, .bool pl, .bool sr, .bool sw, .int .i32 ms, .int .i32 co, .int .i32 fr] 23 (0, 0))).alloc (.cells (valA T N (.slice sa sn sc) K E (.slice ia il ic) (.slice la ll lc)) 28 (0, 0))) X → Boxes X w.heap.size pr pl sr sw ms co fr (.int .i64 T) (.int .i64 N) (.slice sa sn sc) (.int .i64 K) (.int .i64 E) (.slice ia il ic) (.slice la ll lc) := fun X hX => boxes (hX.block q2.1 fun x => x) (hX.block q2.2 fun x => x)
  obtain ⟨W, hW⟩ : ∃ W, W = ((w.alloc (.cells #[.int .i64 pr, .bool pl, .bool sr, .bool sw, .int .i32 ms, .int .i32 co, .int .i32 fr] 23 (0, 0))).alloc (.cells (valA T N (.slice sa sn sc) K E (.slice ia il ic) (.slice la ll lc)) 28 (0, 0))) := ⟨_, rfl⟩
  have HW := Lib.hid hW
  rw [← hW] at hbx hf2
  have HB := Lib.hid hbx
  have HF2 := Lib.hid hf2
  have HZ := Lib.hid (hz W hf2)
  have HHV := Lib.hid (fun X hX => hhv X (hf2.trans hX))
  have HPUT := Lib.hid (fun X h h' hX => hput X h h' (hf2.trans hX))
  have HT := Lib.hid (fun X h h' hX => htold X h h' (hf2.trans hX))
  have HK := Lib.hid L_known
  have HE := Lib.hid L_equal
  have HSK := Lib.hid (show ∀ k, k = 0 ∨ k = -2 → ∀ X, Calls Tryz.prog 17 #[.int .i64 0, .int .i64 k] X fun e w' => e = .returned (.bool true) ∧ X = w' from fun k hk X => (S_SameKind 0 k X).mono fun e w' h => ⟨by rw [h.1]; rcases hk with rfl | rfl <;> rfl, h.2.symm⟩)
  clear hbx hf2 hz hhv hput htold hvx hnx hB hP hv hr hn hnn hwsq q2 hW hsq
  show Calls Tryz.prog 3 #[_, _, .int .i64 t, .int .i32 sq, .agg (valA T N (.slice sa sn sc) K E (.slice ia il ic) (.slice la ll lc))] w _
  go_enter Tryz.func3, Tryz.ntmps3
  go_upto_region 1 with fail
  rw [← HW.out]
  rcases Decidable.em ((nn : Int) > 2147483647) with k0 | k0
  · have HX := Lib.hid HF2.out
    go_wp2
    go_ret
    exact ⟨rfl, HX.out⟩
  have c0 := HB.out W (Fr.refl noF W)
  unfold Boxes at c0
  obtain ⟨a0, a1, a2, a3, a4, a5, a6, b0, b1, b2, b3, b4, b5, b6⟩ := c0
  go_wp2_with fail
  (with_reducible refine HZ.out.mono ?_)
  rintro e X1 ⟨b, rfl, hX1⟩
  clear a0 a1 a2 a3 a4 a5 a6 b0 b1 b2 b3 b4 b5 b6
  cases b
  · have HX := Lib.hid (HF2.out.trans hX1)
    clear hX1
    go_wp2
    go_ret
    exact ⟨rfl, HX.out⟩
  have c0 := HB.out X1 hX1
  unfold Boxes at c0
  obtain ⟨a0, a1, a2, a3, a4, a5, a6, b0, b1, b2, b3, b4, b5, b6⟩ := c0
  go_wp2_with fail
  (with_reducible refine (HHV.out X1 hX1).mono ?_)
  rintro e X2 ⟨b, rfl, hbp, hX2⟩
  have h2 := hX1.trans hX2
  clear a0 a1 a2 a3 a4 a5 a6 b0 b1 b2 b3 b4 b5 b6 hX1 hX2
  cases b
  rotate_left
  · clear hbp
    go_wp2_with fail
    (with_reducible refine (HK.out _).mono ?_)
    rintro e Z ⟨rfl, hz⟩
    have HX := Lib.hid (HF2.out.trans (h2.trans hz))
    clear hz h2
    go_wp2
    go_ret
    exact ⟨rfl, HX.out⟩
  have HP := Lib.hid (hbp rfl)
  clear hbp
  rcases Decidable.em ((nn : Int) > 65536) with k1 | k1
  · go_wp2_with fail
    (with_reducible refine (HK.out _).mono ?_)
    rintro e Z ⟨rfl, hz⟩
    have HX := Lib.hid (HF2.out.trans (h2.trans hz))
    clear hz h2
    go_wp2
    go_ret
    exact ⟨rfl, HX.out⟩
  have HN := Lib.hid (show nn ≤ 65536 by omega)
  have c0 := HB.out X2 h2
  unfold Boxes at c0
  obtain ⟨a0, a1, a2, a3, a4, a5, a6, b0, b1, b2, b3, b4, b5, b6⟩ := c0
  go_wp2_with fail
  (with_reducible refine (HPUT.out X2 HP.out HN.out h2).mono ?_)
  rintro e Z ⟨ba, bn, bc, rfl, hr, hz⟩
  have hwz := h2.trans hz
  have HQZ := Lib.hid (show ∀ X, Fr noF noF Z X → Boxes X w.heap.size pr pl sr sw ms co fr (.int .i64 T) (.int .i64 N) (.slice sa sn sc) (.int .i64 K) (.int .i64 E) (.slice ia il ic) (.slice la ll lc) from fun X hX => HB.out X (hwz.trans hX))
  have HR := Lib.hid hr
  clear hz hr a0 a1 a2 a3 a4 a5 a6 b0 b1 b2 b3 b4 b5 b6 h2
  have c0 := HQZ.out _ (Fr.refl noF Z).drew
  go_wp2_with fail
  go_region_held3 (fun w' => w'.cell? ⟨w.heap.size, 0, none⟩ = some (.int .i64 pr) ∧ w'.cell? ⟨w.heap.size, 1, none⟩ = some (.bool pl) ∧ w'.cell? ⟨w.heap.size, 2, none⟩ = some (.bool sr) ∧ w'.cell? ⟨w.heap.size, 3, none⟩ = some (.bool sw) ∧ w'.cell? ⟨w.heap.size, 4, none⟩ = some (.int .i32 ms) ∧ w'.cell? ⟨w.heap.size, 5, none⟩ = some (.int .i32 co) ∧ w'.cell? ⟨w.heap.size, 6, none⟩ = some (.int .i32 fr) ∧ w'.cell? ⟨w.heap.size + 1, 0, none⟩ = some (.int .i64 T) ∧ w'.cell? ⟨w.heap.size + 1, 1, none⟩ = some (.int .i64 N) ∧ w'.cell? ⟨w.heap.size + 1, 2, none⟩ = some (.slice sa sn sc) ∧ w'.cell? ⟨w.heap.size + 1, 3, none⟩ = some (.int .i64 K) ∧ w'.cell? ⟨w.heap.size + 1, 4, none⟩ = some (.int .i64 E) ∧ w'.cell? ⟨w.heap.size + 1, 5, none⟩ = some (.slice ia il ic) ∧ w'.cell? ⟨w.heap.size + 1, 6, none⟩ = some (.slice la ll lc)) (first | exact c2 | exact c1 | exact c0 | fail) (first | (go_at_call 16; (with_reducible refine (HT.out _ HP.out HN.out ?_).mono ?_); (focus ((repeat (first | with_reducible exact Fr.refl _ _ | with_reducible assumption | with_reducible refine Fr.alloc ?_ _ | with_reducible refine Fr.drew ?_ | with_reducible refine Fr.drewN ?_ _ | with_reducible refine Fr.trans (F' := noF) ?_ (by with_reducible assumption) | fail)); done)); rintro e X3 ⟨ua, un, uc, pa, pl', pc, oa, ol, oc, rfl, hsp, hx1⟩; have c1 := HQZ.out X3 (by (focus ((repeat (first | with_reducible exact Fr.refl _ _ | with_reducible assumption | with_reducible refine Fr.alloc ?_ _ | with_reducible refine Fr.drew ?_ | with_reducible refine Fr.drewN ?_ _ | with_reducible refine Fr.trans (F' := noF) ?_ (by with_reducible assumption) | fail)); done))); have HSP := Lib.hid hsp; clear hsp) | (go_at_call 15; (with_reducible refine HSP.out.mono ?_); rintro e X4 ⟨da, dn, dc, kk, rfl, hrd, hx2⟩; have c2 := HQZ.out X4 (by (focus ((repeat (first | with_reducible exact Fr.refl _ _ | with_reducible assumption | with_reducible refine Fr.alloc ?_ _ | with_reducible refine Fr.drew ?_ | with_reducible refine Fr.drewN ?_ _ | with_reducible refine Fr.trans (F' := noF) ?_ (by with_reducible assumption) | fail)); done))); have HRD := Lib.hid hrd; clear hrd) | fail)
  all_goals have HF := Lib.hid (show Fr noF noF Z X4 by (focus ((repeat (first | with_reducible exact Fr.refl _ _ | with_reducible assumption | with_reducible refine Fr.alloc ?_ _ | with_reducible refine Fr.drew ?_ | with_reducible refine Fr.drewN ?_ _ | with_reducible refine Fr.trans (F' := noF) ?_ (by with_reducible assumption) | fail)); done)))
  all_goals have HWF := Lib.hid (HF2.out.trans (hwz.trans HF.out))
  all_goals clear hwz hx1 hx2 c0 c1 c2
  all_goals have hrd := HRD.out
  all_goals clear HRD
  all_goals rcases hrd with ⟨rfl, hrd⟩ | rfl
  all_goals go_wp2_with fail
  all_goals (first | (with_reducible refine (HSK.out 0 (Or.inl rfl) X4).mono ?_) | (with_reducible refine (HSK.out (-2) (Or.inr rfl) X4).mono ?_))
  all_goals rintro e w' ⟨rfl, rfl⟩
  all_goals go_wp2_with fail
  all_goals (try (refine (HE.out _ _ B B X4 (HR.out.keep HF.out fun _ _ x => x) (by assumption)).mono ?_; rintro e w' ⟨he, q, rfl⟩; rw [decide_eq_true rfl] at he; subst he; clear hrd; go_wp2_with fail))
  all_goals (with_reducible refine (HK.out _).mono ?_)
  all_goals rintro e V ⟨rfl, hv⟩
  all_goals (first | have HV := Lib.hid (HWF.out.trans hv) | have HV := Lib.hid ((HWF.out.drewN q).trans hv))
  all_goals clear hv
  all_goals go_wp2
  all_goals go_ret
  all_goals exact ⟨rfl, HV.out⟩
end Go.Proofs.YtkfkieebcahiiaaGreatDoor
