/- laws.FnBoth: the walk. Printed by gen_bothl.py. -/
import Derived.Test.YtoikkjefaakchaaGreatDoorZBoth
import Derived.Test.YtoikkjefaakchaaGreatDoorZRight
import Derived.Test.YtoikkjefaakchaaGreatDoorZ3
set_option linter.all false
namespace Go.Proofs.YtoikkjefaakchaaGreatDoor
open Go Go.RowKit
set_option maxHeartbeats 4000000
set_option maxRecDepth 100000
set_option linter.all false

theorem L_FnBoth (a c : ConfV) (x : VT) (v : Value) (w : World) (hv : ValR w x v) (hr : x.rng) : Calls Tryz.prog 14 #[a.val, c.val, v] w (fun e w' => e = .returned (.bool true) ∧ Fr noF noF w w') := by
  obtain ⟨T, N, Sb, K, E, ids, L⟩ := x
  obtain ⟨vS, vI, vL, us, rfl, h1, h2, ⟨la, lc, rfl, -⟩, -⟩ := hv.inv
  obtain ⟨sa, sn, sc, rfl, -⟩ := h1.len
  obtain ⟨ia, il, ic, rfl, -⟩ := h2.len
  obtain ⟨ll, hll⟩ : ∃ ll, ll = L.length := ⟨_, rfl⟩
  rw [← hll] at hv ⊢
  clear h1 h2 hll
  have hvx : ∀ X, Fr noF noF w X → ValR X (VT.mk T N Sb K E ids L) (.agg (valA T N (.slice sa sn sc) K E (.slice ia il ic) (.slice la ll lc))) := fun X hX => hv.keep hX
  have hz : ∀ X, Fr noF noF w X → Calls Tryz.prog 36 #[(.agg (valA T N (.slice sa sn sc) K E (.slice ia il ic) (.slice la ll lc)))] X (BoolR X) := fun X hX => L_zzFits1 _ X _ (hvx X hX)
  have hri : ∀ X, Fr noF noF w X → Calls Tryz.prog 49 #[(.agg (valA T N (.slice sa sn sc) K E (.slice ia il ic) (.slice la ll lc)))] X (BoolR X) := fun X hX => L_isRight _ X _ (hvx X hX)
  have hhv : ∀ X, Fr noF noF w X → Calls Tryz.prog 37 #[.slice (some ⟨X.heap.size, 0, none⟩) 1 1] (X.alloc (.cells (valA T N (.slice sa sn sc) K E (.slice ia il ic) (.slice la ll lc)) 58 (0, 0))) (fun e w' => ∃ b, e = .returned (.bool b) ∧ (b = false → (VT.mk T N Sb K E ids L).small ∧ (VT.mk T N Sb K E ids L).weight ≤ 65536) ∧ Fr noF noF X w') := fun X hX =>
    (L_isHeavy1 X.heap.size (VT.mk T N Sb K E ids L) sa sn sc ia il ic la ll lc _ (alloc_new X _) (hvx _ (hX.alloc _))).mono fun e w' ⟨b, h1, h2, h3⟩ => ⟨b, h1, h2, ((Fr.refl noF X).alloc _).trans h3⟩
  have hput : ∀ (c : ConfV) X, (VT.mk T N Sb K E ids L).small ∧ (VT.mk T N Sb K E ids L).weight ≤ 65536 → Fr noF noF w X → Calls Tryz.prog 30 #[c.val, (.agg (valA T N (.slice sa sn sc) K E (.slice ia il ic) (.slice la ll lc)))] X (fun e w' => ∃ u, e = .returned (.tuple #[u, .int .i64 0]) ∧ Rd w' u (encAll c CSt.new (VT.mk T N Sb K E ids L).wops) ∧ Fr noF noF X w') := fun c X hs hX =>
    (I_Put_any c _ hs.1 hr _ X (hvx X hX) (by have := most_wops (VT.mk T N Sb K E ids L); unfold LIM; omega)).mono fun e w' ⟨u, he, h1, _, h3⟩ => ⟨u, he, h1, h3⟩
  have hboth : ∀ X, (VT.mk T N Sb K E ids L).small ∧ (VT.mk T N Sb K E ids L).weight ≤ 65536 → Fr noF noF w X → Calls Tryz.prog 51 #[a.val, c.val, (.agg (valA T N (.slice sa sn sc) K E (.slice ia il ic) (.slice la ll lc)))] X (BothR X (encAll a CSt.new (VT.mk T N Sb K E ids L).wops) (encAll c CSt.new (VT.mk T N Sb K E ids L).wops)) := fun X hs hX =>
    I_PutBoth a c _ hs.1 hr _ X (hvx X hX) (by have := most_wops (VT.mk T N Sb K E ids L); unfold LIM; omega)
  have hpa := hput a
  have hpc := hput c
  clear hput
  obtain ⟨xs, hxs⟩ : ∃ l, l = encAll a CSt.new (VT.mk T N Sb K E ids L).wops := ⟨_, rfl⟩
  obtain ⟨ys, hys⟩ : ∃ l, l = encAll c CSt.new (VT.mk T N Sb K E ids L).wops := ⟨_, rfl⟩
  rw [← hxs] at hpa hboth
  rw [← hys] at hpc hboth
  obtain ⟨P, hP⟩ : ∃ P : Prop, P = ((VT.mk T N Sb K E ids L).small ∧ (VT.mk T N Sb K E ids L).weight ≤ 65536) := ⟨_, rfl⟩
  rw [← hP] at hhv hpa hpc hboth
  obtain ⟨a0, a1, a2, a3, a4, a5, a6⟩ := a
  obtain ⟨c0, c1, c2, c3, c4, c5, c6⟩ := c
  have q3 := new3 w (.cells #[.int .i64 a0, .bool a1, .bool a2, .bool a3, .int .i32 a4, .int .i32 a5, .int .i32 a6] 23 (0, 0)) (.cells #[.int .i64 c0, .bool c1, .bool c2, .bool c3, .int .i32 c4, .int .i32 c5, .int .i32 c6] 23 (0, 0)) (.cells #[.int .i64 T, .int .i64 N, .slice sa sn sc, .int .i64 K, .int .i64 E, .slice ia il ic, .slice la ll lc] 58 (0, 0))
  have hf3 : Fr noF noF w (((w.alloc (.cells #[.int .i64 a0, .bool a1, .bool a2, .bool a3, .int .i32 a4, .int .i32 a5, .int .i32 a6] 23 (0, 0))).alloc (.cells #[.int .i64 c0, .bool c1, .bool c2, .bool c3, .int .i32 c4, .int .i32 c5, .int .i32 c6] 23 (0, 0))).alloc (.cells #[.int .i64 T, .int .i64 N, .slice sa sn sc, .int .i64 K, .int .i64 E, .slice ia il ic, .slice la ll lc] 58 (0, 0))) := (((Fr.refl noF w).alloc _).alloc _).alloc _
  have hbx : ∀ X, Fr noF noF (((w.alloc (.cells #[.int .i64 a0, .bool a1, .bool a2, .bool a3, .int .i32 a4, .int .i32 a5, .int .i32 a6] 23 (0, 0))).alloc (.cells #[.int .i64 c0, .bool c1, .bool c2, .bool c3, .int .i32 c4, .int .i32 c5, .int .i32 c6] 23 (0, 0))).alloc (.cells #[.int .i64 T, .int .i64 N, .slice sa sn sc, .int .i64 K, .int .i64 E, .slice ia il ic, .slice la ll lc] 58 (0, 0))) X → X.cell? ⟨w.heap.size, 0, none⟩ = some (.int .i64 a0) ∧ X.cell? ⟨w.heap.size, 1, none⟩ = some (.bool a1) ∧ X.cell? ⟨w.heap.size, 2, none⟩ = some (.bool a2) ∧ X.cell? ⟨w.heap.size, 3, none⟩ = some (.bool a3) ∧ X.cell? ⟨w.heap.size, 4, none⟩ = some (.int .i32 a4) ∧ X.cell? ⟨w.heap.size, 5, none⟩ = some (.int .i32 a5) ∧ X.cell? ⟨w.heap.size, 6, none⟩ = some (.int .i32 a6) ∧ X.cell? ⟨w.heap.size + 1, 0, none⟩ = some (.int .i64 c0) ∧ X.cell? ⟨w.heap.size + 1, 1, none⟩ = some (.bool c1) ∧ X.cell? ⟨w.heap.size + 1, 2, none⟩ = some (.bool c2) ∧ X.cell? ⟨w.heap.size + 1, 3, none⟩ = some (.bool c3) ∧ X.cell? ⟨w.heap.size + 1, 4, none⟩ = some (.int .i32 c4) ∧ X.cell? ⟨w.heap.size + 1, 5, none⟩ = some (.int .i32 c5) ∧ X.cell? ⟨w.heap.size + 1, 6, none⟩ = some (.int .i32 c6) ∧ X.cell? ⟨w.heap.size + 1 + 1, 0, none⟩ = some (.int .i64 T) ∧ X.cell? ⟨w.heap.size + 1 + 1, 1, none⟩ = some (.int .i64 N) ∧ X.cell? ⟨w.heap.size + 1 + 1, 2, none⟩ = some (.slice sa sn sc) ∧ X.cell? ⟨w.heap.size + 1 + 1, 3, none⟩ = some (.int .i64 K) ∧ X.cell? ⟨w.heap.size + 1 + 1, 4, none⟩ = some (.int .i64 E) ∧ X.cell? ⟨w.heap.size + 1 + 1, 5, none⟩ = some (.slice ia il ic) ∧ X.cell? ⟨w.heap.size + 1 + 1, 6, none⟩ = some (.slice la ll lc) := fun X hX => by
    have e0 := hX.block q3.1 fun x => x
    have e1 := hX.block q3.2.1 fun x => x
    have e2 := hX.block q3.2.2 fun x => x
    exact ⟨cell_at e0 0, cell_at e0 1, cell_at e0 2, cell_at e0 3, cell_at e0 4, cell_at e0 5, cell_at e0 6, cell_at e1 0, cell_at e1 1, cell_at e1 2, cell_at e1 3, cell_at e1 4, cell_at e1 5, cell_at e1 6, cell_at e2 0, cell_at e2 1, cell_at e2 2, cell_at e2 3, cell_at e2 4, cell_at e2 5, cell_at e2 6⟩
  obtain ⟨W, hW⟩ : ∃ W, W = (((w.alloc (.cells #[.int .i64 a0, .bool a1, .bool a2, .bool a3, .int .i32 a4, .int .i32 a5, .int .i32 a6] 23 (0, 0))).alloc (.cells #[.int .i64 c0, .bool c1, .bool c2, .bool c3, .int .i32 c4, .int .i32 c5, .int .i32 c6] 23 (0, 0))).alloc (.cells #[.int .i64 T, .int .i64 N, .slice sa sn sc, .int .i64 K, .int .i64 E, .slice ia il ic, .slice la ll lc] 58 (0, 0))) := ⟨_, rfl⟩
  have HW := Lib.hid hW
  rw [← hW] at hbx hf3
  have HB := Lib.hid hbx
  have HF3 := Lib.hid hf3
  have HZ := Lib.hid (hz W hf3)
  have HHV := Lib.hid (fun X hX => hhv X (hf3.trans hX))
  have HRI := Lib.hid (fun X hX => hri X (hf3.trans hX))
  have HPA := Lib.hid (fun X h hX => hpa X h (hf3.trans hX))
  have HPC := Lib.hid (fun X h hX => hpc X h (hf3.trans hX))
  have HBO := Lib.hid (fun X h hX => hboth X h (hf3.trans hX))
  have HK := Lib.hid L_known
  have HE := Lib.hid L_equal
  obtain ⟨x0, x1, x2, x3, x4, x5, x6, x7, x8, x9, x10, x11, x12, x13, x14, x15, x16, x17, x18, x19, x20⟩ := hbx W (Fr.refl noF W)
  clear hbx hf3 hz hri hhv hpa hpc hboth q3 hW hxs hys hP hvx hv hr
  show Calls Tryz.prog 14 #[_, _, .agg (valA T N (.slice sa sn sc) K E (.slice ia il ic) (.slice la ll lc))] w _
  go_enter Tryz.func14, Tryz.ntmps14
  go_upto_region 1 with fail
  rw [← HW.out]
  go_wp2_with fail
  (with_reducible refine HZ.out.mono ?_)
  rintro e X1 ⟨b, rfl, hX1⟩
  clear x0 x1 x2 x3 x4 x5 x6 x7 x8 x9 x10 x11 x12 x13 x14 x15 x16 x17 x18 x19 x20
  cases b
  · have HX := Lib.hid (HF3.out.trans hX1)
    go_wp2
    go_ret
    exact ⟨rfl, HX.out⟩
  obtain ⟨x0, x1, x2, x3, x4, x5, x6, x7, x8, x9, x10, x11, x12, x13, x14, x15, x16, x17, x18, x19, x20⟩ := HB.out X1 hX1
  go_wp2_with fail
  (with_reducible refine (HHV.out X1 hX1).mono ?_)
  rintro e X2 ⟨b, rfl, hbp, hX2⟩
  have h2 := hX1.trans hX2
  clear x0 x1 x2 x3 x4 x5 x6 x7 x8 x9 x10 x11 x12 x13 x14 x15 x16 x17 x18 x19 x20 hX1 hX2
  cases b
  rotate_left
  · clear hbp
    go_wp2_with fail
    (with_reducible refine (HK.out _).mono ?_)
    rintro e Z ⟨rfl, hz⟩
    have HX := Lib.hid (HF3.out.trans (h2.trans hz))
    clear hz h2
    go_wp2
    go_ret
    exact ⟨rfl, HX.out⟩
  have HP := Lib.hid (hbp rfl)
  clear hbp
  obtain ⟨x0, x1, x2, x3, x4, x5, x6, x7, x8, x9, x10, x11, x12, x13, x14, x15, x16, x17, x18, x19, x20⟩ := HB.out X2 h2
  go_wp2_with fail
  (with_reducible refine (HRI.out X2 h2).mono ?_)
  rintro e X3 ⟨b, rfl, hX3⟩
  have h3 := h2.trans hX3
  clear x0 x1 x2 x3 x4 x5 x6 x7 x8 x9 x10 x11 x12 x13 x14 x15 x16 x17 x18 x19 x20 hX3 h2
  cases b
  · go_wp2_with fail
    (with_reducible refine (HK.out _).mono ?_)
    rintro e Z ⟨rfl, hz⟩
    have HX := Lib.hid (HF3.out.trans (h3.trans hz))
    clear hz h3
    go_wp2
    go_ret
    exact ⟨rfl, HX.out⟩
  obtain ⟨x0, x1, x2, x3, x4, x5, x6, x7, x8, x9, x10, x11, x12, x13, x14, x15, x16, x17, x18, x19, x20⟩ := HB.out X3 h3
  go_wp2_with fail
  (with_reducible refine (HBO.out X3 HP.out h3).mono ?_)
  rintro e X4 ⟨p, q, rfl, hp, hq, hX4⟩
  have h4 := h3.trans hX4
  clear x0 x1 x2 x3 x4 x5 x6 x7 x8 x9 x10 x11 x12 x13 x14 x15 x16 x17 x18 x19 x20 hX4 h3
  obtain ⟨x0, x1, x2, x3, x4, x5, x6, x7, x8, x9, x10, x11, x12, x13, x14, x15, x16, x17, x18, x19, x20⟩ := HB.out X4 h4
  go_wp2_with fail
  (with_reducible refine (HPA.out X4 HP.out h4).mono ?_)
  rintro e X5 ⟨z, rfl, hz, hX5⟩
  have h5 := h4.trans hX5
  have hp5 := hp.keep hX5 fun _ _ x => x
  have hq5 := hq.keep hX5 fun _ _ x => x
  clear x0 x1 x2 x3 x4 x5 x6 x7 x8 x9 x10 x11 x12 x13 x14 x15 x16 x17 x18 x19 x20 hX5 h4 hp hq
  obtain ⟨x0, x1, x2, x3, x4, x5, x6, x7, x8, x9, x10, x11, x12, x13, x14, x15, x16, x17, x18, x19, x20⟩ := HB.out X5 h5
  go_wp2_with fail
  (with_reducible refine (HPC.out X5 HP.out h5).mono ?_)
  rintro e X6 ⟨u, rfl, hu, hX6⟩
  have HX := Lib.hid (And.intro (hp5.keep hX6 fun _ _ x => x) (And.intro (hq5.keep hX6 fun _ _ x => x) (And.intro (hz.keep hX6 fun _ _ x => x) (And.intro hu (HF3.out.trans (h5.trans hX6))))))
  clear x0 x1 x2 x3 x4 x5 x6 x7 x8 x9 x10 x11 x12 x13 x14 x15 x16 x17 x18 x19 x20 hX6 h5 hp5 hq5 hz hu
  go_wp2_with fail
  refine (HE.out _ _ xs xs X6 HX.out.1 HX.out.2.2.1).mono ?_
  rintro e w' ⟨he, q1, rfl⟩
  rw [decide_eq_true rfl] at he
  subst he
  go_wp2_with fail
  refine (HE.out _ _ ys ys (X6.drewN q1) (HX.out.2.1.keep (F := noF) ((Fr.refl noF X6).drewN q1) fun _ _ x => x) (HX.out.2.2.2.1.keep (F := noF) ((Fr.refl noF X6).drewN q1) fun _ _ x => x)).mono ?_
  rintro e w' ⟨he, q2, rfl⟩
  rw [decide_eq_true rfl] at he
  subst he
  go_wp2_with fail
  (with_reducible refine (HK.out _).mono ?_)
  rintro e V ⟨rfl, hv⟩
  have HV := Lib.hid ((HX.out.2.2.2.2.drewN (q1 + q2)).trans hv)
  clear hv
  go_wp2
  go_ret
  exact ⟨rfl, HV.out⟩
end Go.Proofs.YtoikkjefaakchaaGreatDoor
