/- impl.PutBoth: one value by two protocols at once. Printed by gen_both.py. -/
import Derived.OwnWalk
import Derived.Test.YtoikkjefaakchaaGreatDoorZDup
import Derived.Test.YtoikkjefaakchaaGreatDoorZPutP
set_option linter.all false
namespace Go.Proofs.YtoikkjefaakchaaGreatDoor
open Go Go.RowKit
set_option maxHeartbeats 4000000
set_option maxRecDepth 100000
set_option linter.all false

theorem Fr.above {F F' : Nat → Prop} {w0 w w' : World} (h0 : Fr noF noF w0 w) (h : Fr F F' w w') (hn : ∀ k, F k → w0.heap.size ≤ k) : Fr noF F' w0 w' :=
  ⟨h.os.trans h0.os, h.tape.trans h0.tape, h.output.trans h0.output, Nat.le_trans h0.size h.size, fun k hk _ => (h.keep k (Nat.lt_of_lt_of_le hk h0.size) fun x => by have := hn k x; omega).trans (h0.keep k hk fun x => x), fun k hk hx => by have := hn k (h.foot k (Nat.lt_of_lt_of_le hk h0.size) hx); omega⟩
theorem Fr.nof {F' : Nat → Prop} {w w' : World} (h : Fr noF F' w w') : Fr noF noF w w' := h.conv fun _ _ x => x.elim

section
variable {S S' : Type} (P : WProto S) (Q : WProto S') (d : Nat)
theorem goods_D : ∀ (l : List WOp) (s : S × S'), P.goods s.1 l → Q.goods s.2 l → (protoD P Q d).goods s l
  | [], _, _, _ => trivial
  | op :: l, s, h1, h2 => ⟨⟨h1.1, h2.1⟩, goods_D l _ h1.2 h2.2⟩
theorem steps_D : ∀ (l : List WOp) (s : S × S'), (protoD P Q d).steps s l = (P.steps s.1 l, Q.steps s.2 l)
  | [], s => rfl
  | op :: l, s => by
    show (protoD P Q d).steps ((protoD P Q d).step s op) l = _
    rw [steps_D l]
    rfl
end

def BothR (w : World) (xs ys : List UInt8) (e : Ending) (w' : World) : Prop := ∃ v u, e = .returned (.tuple #[v, u, .int .i64 0]) ∧ Rd w' v xs ∧ Rd w' u ys ∧ Fr noF noF w w'
def BothEnd (w w' : World) (m b m2 b2 : Nat) (xs ys : List UInt8) : Prop :=
  w'.cell? ⟨m, 0, none⟩ = some (.pointer (some ⟨b, 0, none⟩)) ∧ w'.cell? ⟨m2, 0, none⟩ = some (.pointer (some ⟨b2, 0, none⟩)) ∧ Buf w' b xs.length true xs ∧ Buf w' b2 ys.length true ys ∧ Fr noF noF w w'

theorem both_prep (a c : ConfV) (x : VT) (hx : x.small) (hr : x.rng) (v : Value) (w W0 : World) (hv : ValR w x v) (hl : mostAll x.wops ≤ LIM) (hf0 : Fr noF noF w W0)
    (m b : Nat) (w1 : World) (hm : Mem w1 m b) (hb : Buf w1 b 0 true []) (hf : Fr noF (BF w1 b) W0 w1) (hmn : W0.heap.size ≤ m)
    (m2 b2 : Nat) (w2 : World) (hm2 : Mem w2 m2 b2) (hb2 : Buf w2 b2 0 true []) (hf2 : Fr noF (BF w2 b2) w1 w2) (hmn2 : w1.heap.size ≤ m2) (W2 : World) (hW2 : Fr noF noF w2 W2) :
    Calls Tryz.prog 54 #[a.val, memI m] W2 (fun e w3 => ∃ PT r, e = .returned (.iface PT r) ∧ Fr noF noF W0 w3 ∧
      Calls Tryz.prog 54 #[c.val, memI m2] w3 (fun e w4 => ∃ QT q, e = .returned (.iface QT q) ∧ Fr noF noF W0 w4 ∧
        Calls Tryz.prog 65 #[.iface PDP (.pointer (some ⟨w4.heap.size, 0, none⟩)), v] (w4.alloc (.cells #[.iface PT r, .iface QT q] TDP (0, 0))) (fun e w5 => e = .returned .nilIface ∧ BothEnd w w5 m b m2 b2 (encAll a CSt.new x.wops) (encAll c CSt.new x.wops)))) := by
  have hq := hf2.nof.trans hW2
  obtain ⟨mx, hmx⟩ := hm
  obtain ⟨my, hmy⟩ := hm2
  have hsz1 := hf.size
  have hszq := hq.size
  have hsz2 := hf2.size
  have hsW := hW2.size
  have hbW : Buf W2 b 0 true [] := hb.keep hq fun _ _ x => x
  have hb2W : Buf W2 b2 0 true [] := hb2.keep hW2 fun _ _ x => x
  have hmW := hq.block hmx fun x => x
  have hm2W := hW2.block hmy fun x => x
  have hm_lt := lt_heap hmx
  have hm2_lt := lt_heap hmy
  have bW : ∀ k, BF W2 b k → W0.heap.size ≤ k ∧ k < w1.heap.size := fun k hk => by
    have h1 := (BF.of_same (hq.keep b (hb.foot_lt (Or.inl rfl)) fun x => x)).1 hk
    refine ⟨?_, hb.foot_lt h1⟩
    rcases Nat.lt_or_ge k W0.heap.size with h | h
    · exact (hf.foot k h h1).elim
    · exact h
  have b2W : ∀ k, BF W2 b2 k → w1.heap.size ≤ k ∧ k < W2.heap.size := fun k hk => by
    have h1 := (BF.of_same (hW2.keep b2 (hb2.foot_lt (Or.inl rfl)) fun x => x)).1 hk
    refine ⟨?_, hb2W.foot_lt hk⟩
    rcases Nat.lt_or_ge k w1.heap.size with h | h
    · exact (hf2.foot k h h1).elim
    · exact h
  have h02 : Fr noF noF W0 W2 := hf.nof.trans (hf2.nof.trans hW2)
  refine (Prot_any m b a W2 ⟨mx, hmW⟩ hbW).mono ?_
  rintro e w3 ⟨P, rfl, hM, hI, hF⟩
  have h03 : Fr noF (P.F w3) W0 w3 := Fr.above h02 hF fun k hk => by
    rcases hk with hk | rfl
    · exact (bW k hk).1
    · exact hmn
  have hs3 := hF.size
  have PF3 : ∀ k, P.F w3 k → k < W2.heap.size → k < w1.heap.size := fun k hk hlt => by
    rcases hF.foot k hlt hk with h | rfl
    · exact (bW k h).2
    · exact hm_lt
  have hm23 := hF.block hm2W fun hx => by
    rcases hx with hx | hx
    · have := bW _ hx; omega
    · omega
  have hb23 : Buf w3 b2 0 true [] := hb2W.keep hF fun k hk hx => by
    have h1 := b2W k hk
    rcases hx with hx | hx
    · have := bW _ hx; omega
    · omega
  have b23 : ∀ k, BF w3 b2 k → w1.heap.size ≤ k ∧ k < W2.heap.size := fun k hk => by
    refine b2W k ((BF.of_same (hF.keep b2 (b2W b2 (Or.inl rfl)).2 fun hx => ?_)).1 hk)
    have h1 := b2W b2 (Or.inl rfl)
    rcases hx with hx | hx
    · have := bW _ hx; omega
    · omega
  refine ⟨P.T, P.recv, rfl, h03.nof, (Prot_any m2 b2 c w3 ⟨my, hm23⟩ hb23).mono ?_⟩
  rintro e w4 ⟨Q, rfl, hM2, hI2, hF2⟩
  have hs4 := hF2.size
  obtain ⟨hP4, PF4⟩ := hM.ok.keep hI hF2 fun k hk hx => by
    have h1 : w1.heap.size ≤ k ∧ k < W2.heap.size := by
      rcases hx with hx | rfl
      · exact b23 k hx
      · exact ⟨hmn2, by omega⟩
    have := PF3 k hk h1.2
    omega
  have QF4 : ∀ k, Q.F w4 k → k < w3.heap.size → w1.heap.size ≤ k ∧ k < W2.heap.size := fun k hk hlt => by
    rcases hF2.foot k hlt hk with h | rfl
    · exact b23 k h
    · exact ⟨hmn2, by omega⟩
  have h04 : Fr noF (Q.F w4) W0 w4 := Fr.above h03.nof hF2 fun k hk => by
    rcases hk with hk | rfl
    · have := b23 k hk; omega
    · omega
  have ap4 : ∀ k, P.F w4 k → ¬ Q.F w4 k := fun k hk hq => by
    have h3 := PF4 k hk
    have hlt := hM.ok.lt hI h3
    have h5 := QF4 k hq hlt
    have := PF3 k h3 h5.2
    omega
  refine ⟨Q.T, Q.recv, rfl, h04.nof, ?_⟩
  have hal : Fr noF noF w4 (w4.alloc (.cells #[.iface P.T P.recv, .iface Q.T Q.recv] TDP (0, 0))) := (Fr.refl noF w4).alloc _
  obtain ⟨hP5, PF5⟩ := hM.ok.keep hP4 hal fun _ _ x => x
  obtain ⟨hQ5, QF5⟩ := hM2.ok.keep hI2 hal fun _ _ x => x
  have hD : DupI P Q w4.heap.size (w4.alloc (.cells #[.iface P.T P.recv, .iface Q.T Q.recv] TDP (0, 0))) ((0, [], CSt.new), (0, [], CSt.new)) :=
    ⟨alloc_new w4 _, hP5, hQ5, fun x => Nat.lt_irrefl _ (hM.ok.lt hP4 (PF5 _ x)), fun x => Nat.lt_irrefl _ (hM2.ok.lt hI2 (QF5 _ x)), fun k h1 h2 => ap4 k (PF5 k h1) (QF5 k h2)⟩
  have h05 : Fr noF ((protoD P Q w4.heap.size).F (w4.alloc (.cells #[.iface P.T P.recv, .iface Q.T Q.recv] TDP (0, 0)))) W0 (w4.alloc (.cells #[.iface P.T P.recv, .iface Q.T Q.recv] TDP (0, 0))) := by
    have h := h04.nof.trans hal
    refine ⟨h.os, h.tape, h.output, h.size, h.keep, fun k hk hx => ?_⟩
    rcases hx with rfl | hx | hx
    · have := h04.size; omega
    · exact h03.foot k hk (PF4 k (PF5 k hx))
    · exact h04.foot k hk (QF5 k hx)
  have hg1 := hM.goods x.wops (0, [], CSt.new) CSt.new_ok (by rw [Nat.zero_add]; exact hl) (rng_wops x hx hr) fun _ => by rw [dep_wops]; simp
  have hg2 := hM2.goods x.wops (0, [], CSt.new) CSt.new_ok (by rw [Nat.zero_add]; exact hl) (rng_wops x hx hr) fun _ => by rw [dep_wops]; simp
  refine (I_put_any (protoD P Q w4.heap.size) (protoD_ok hM.ok hM2.ok P Q hM.ok hM2.ok w4.heap.size) x hx w v _ ((0, [], CSt.new), (0, [], CSt.new)) hv (hf0.trans h05) hD (goods_D P Q _ _ _ hg1 hg2)).mono ?_
  rintro e w6 ⟨rfl, hI6, hfr6⟩
  rw [steps_D, hM.steps, hM2.steps] at hI6
  simp only [Nat.zero_add, List.nil_append] at hI6
  obtain ⟨c1, u1⟩ := hM.mem _ _ hI6.I1
  obtain ⟨c2, u2⟩ := hM2.mem _ _ hI6.I2
  exact ⟨rfl, c1, c2, u1.tight, u2.tight, (hf0.trans (h05.trans hfr6)).nof⟩

theorem I_PutBoth (a c : ConfV) (x : VT) (hx : x.small) (hr : x.rng) (v : Value) (w : World) (hv : ValR w x v) (hl : mostAll x.wops ≤ LIM) :
    Calls Tryz.prog 51 #[a.val, c.val, v] w (BothR w (encAll a CSt.new x.wops) (encAll c CSt.new x.wops)) := by
  obtain ⟨sa, sn, sc, ia, il, ic, la, ll, lc, rfl⟩ := hv.sl
  obtain ⟨T, N, Sb, K, E, ids, L⟩ := x
  obtain ⟨xs, hxs⟩ : ∃ l, l = encAll a CSt.new (VT.mk T N Sb K E ids L).wops := ⟨_, rfl⟩
  obtain ⟨ys, hys⟩ : ∃ l, l = encAll c CSt.new (VT.mk T N Sb K E ids L).wops := ⟨_, rfl⟩
  have hp := fun W0 => both_prep a c (VT.mk T N Sb K E ids L) hx hr (.agg (valA T N (.slice sa sn sc) K E (.slice ia il ic) (.slice la ll lc))) w W0
  rw [← hxs, ← hys] at hp
  rw [← hxs, ← hys]
  obtain ⟨a0, a1, a2, a3, a4, a5, a6⟩ := a
  obtain ⟨c0, c1, c2, c3, c4, c5, c6⟩ := c
  have q3 := new3 w (.cells #[.int .i64 a0, .bool a1, .bool a2, .bool a3, .int .i32 a4, .int .i32 a5, .int .i32 a6] 23 (0, 0)) (.cells #[.int .i64 c0, .bool c1, .bool c2, .bool c3, .int .i32 c4, .int .i32 c5, .int .i32 c6] 23 (0, 0)) (.cells #[.int .i64 T, .int .i64 N, .slice sa sn sc, .int .i64 K, .int .i64 E, .slice ia il ic, .slice la ll lc] 58 (0, 0))
  have hf3 : Fr noF noF w (((w.alloc (.cells #[.int .i64 a0, .bool a1, .bool a2, .bool a3, .int .i32 a4, .int .i32 a5, .int .i32 a6] 23 (0, 0))).alloc (.cells #[.int .i64 c0, .bool c1, .bool c2, .bool c3, .int .i32 c4, .int .i32 c5, .int .i32 c6] 23 (0, 0))).alloc (.cells #[.int .i64 T, .int .i64 N, .slice sa sn sc, .int .i64 K, .int .i64 E, .slice ia il ic, .slice la ll lc] 58 (0, 0))) := (((Fr.refl noF w).alloc _).alloc _).alloc _
  have hbx : ∀ X, Fr noF noF (((w.alloc (.cells #[.int .i64 a0, .bool a1, .bool a2, .bool a3, .int .i32 a4, .int .i32 a5, .int .i32 a6] 23 (0, 0))).alloc (.cells #[.int .i64 c0, .bool c1, .bool c2, .bool c3, .int .i32 c4, .int .i32 c5, .int .i32 c6] 23 (0, 0))).alloc (.cells #[.int .i64 T, .int .i64 N, .slice sa sn sc, .int .i64 K, .int .i64 E, .slice ia il ic, .slice la ll lc] 58 (0, 0))) X → X.cell? ⟨w.heap.size, 0, none⟩ = some (.int .i64 a0) ∧ X.cell? ⟨w.heap.size, 1, none⟩ = some (.bool a1) ∧ X.cell? ⟨w.heap.size, 2, none⟩ = some (.bool a2) ∧ X.cell? ⟨w.heap.size, 3, none⟩ = some (.bool a3) ∧ X.cell? ⟨w.heap.size, 4, none⟩ = some (.int .i32 a4) ∧ X.cell? ⟨w.heap.size, 5, none⟩ = some (.int .i32 a5) ∧ X.cell? ⟨w.heap.size, 6, none⟩ = some (.int .i32 a6) ∧ X.cell? ⟨w.heap.size + 1, 0, none⟩ = some (.int .i64 c0) ∧ X.cell? ⟨w.heap.size + 1, 1, none⟩ = some (.bool c1) ∧ X.cell? ⟨w.heap.size + 1, 2, none⟩ = some (.bool c2) ∧ X.cell? ⟨w.heap.size + 1, 3, none⟩ = some (.bool c3) ∧ X.cell? ⟨w.heap.size + 1, 4, none⟩ = some (.int .i32 c4) ∧ X.cell? ⟨w.heap.size + 1, 5, none⟩ = some (.int .i32 c5) ∧ X.cell? ⟨w.heap.size + 1, 6, none⟩ = some (.int .i32 c6) ∧ X.cell? ⟨w.heap.size + 1 + 1, 0, none⟩ = some (.int .i64 T) ∧ X.cell? ⟨w.heap.size + 1 + 1, 1, none⟩ = some (.int .i64 N) ∧ X.cell? ⟨w.heap.size + 1 + 1, 2, none⟩ = some (.slice sa sn sc) ∧ X.cell? ⟨w.heap.size + 1 + 1, 3, none⟩ = some (.int .i64 K) ∧ X.cell? ⟨w.heap.size + 1 + 1, 4, none⟩ = some (.int .i64 E) ∧ X.cell? ⟨w.heap.size + 1 + 1, 5, none⟩ = some (.slice ia il ic) ∧ X.cell? ⟨w.heap.size + 1 + 1, 6, none⟩ = some (.slice la ll lc) := fun X hX => by
    have e0 := hX.block q3.1 fun x => x
    have e1 := hX.block q3.2.1 fun x => x
    have e2 := hX.block q3.2.2 fun x => x
    exact ⟨cell_at e0 0, cell_at e0 1, cell_at e0 2, cell_at e0 3, cell_at e0 4, cell_at e0 5, cell_at e0 6, cell_at e1 0, cell_at e1 1, cell_at e1 2, cell_at e1 3, cell_at e1 4, cell_at e1 5, cell_at e1 6, cell_at e2 0, cell_at e2 1, cell_at e2 2, cell_at e2 3, cell_at e2 4, cell_at e2 5, cell_at e2 6⟩
  have hp2 := hp (((w.alloc (.cells #[.int .i64 a0, .bool a1, .bool a2, .bool a3, .int .i32 a4, .int .i32 a5, .int .i32 a6] 23 (0, 0))).alloc (.cells #[.int .i64 c0, .bool c1, .bool c2, .bool c3, .int .i32 c4, .int .i32 c5, .int .i32 c6] 23 (0, 0))).alloc (.cells #[.int .i64 T, .int .i64 N, .slice sa sn sc, .int .i64 K, .int .i64 E, .slice ia il ic, .slice la ll lc] 58 (0, 0))) hv hl hf3
  obtain ⟨W, hW⟩ : ∃ W, W = (((w.alloc (.cells #[.int .i64 a0, .bool a1, .bool a2, .bool a3, .int .i32 a4, .int .i32 a5, .int .i32 a6] 23 (0, 0))).alloc (.cells #[.int .i64 c0, .bool c1, .bool c2, .bool c3, .int .i32 c4, .int .i32 c5, .int .i32 c6] 23 (0, 0))).alloc (.cells #[.int .i64 T, .int .i64 N, .slice sa sn sc, .int .i64 K, .int .i64 E, .slice ia il ic, .slice la ll lc] 58 (0, 0))) := ⟨_, rfl⟩
  have HW := Lib.hid hW
  rw [← hW] at hbx hp2
  have HB := Lib.hid hbx
  have HP0 := Lib.hid hp2
  have H1 := Lib.hid NewTMemoryBuffer_raw
  clear hbx hp2 hp q3 hf3 hW hxs hys hv hx hl hr
  show Calls Tryz.prog 51 #[_, _, .agg (valA T N (.slice sa sn sc) K E (.slice ia il ic) (.slice la ll lc))] w _
  go_enter Tryz.func51, Tryz.ntmps51
  go_upto_region 1 with fail
  rw [← HW.out]
  go_wp2_with fail
  refine (H1.out _).mono ?_
  rintro e w1 ⟨m, b, rfl, hm, hb, hf, hmn⟩
  have HA := Lib.hid (And.intro hm (And.intro hb (And.intro hf hmn)))
  clear hm hb hf hmn
  go_wp2_with fail
  refine (H1.out _).mono ?_
  rintro e w2 ⟨m2, b2, rfl, hm2, hb2, hf2, hmn2⟩
  have HP := Lib.hid (HP0.out m b w1 HA.out.1 HA.out.2.1 HA.out.2.2.1 HA.out.2.2.2 m2 b2 w2 hm2 hb2 hf2 hmn2 w2.drew ((Fr.refl noF w2).drew))
  have hw2 : Fr noF noF W w2.drew := ((HA.out.2.2.1).nof.trans hf2.nof).drew
  obtain ⟨x0, x1, x2, x3, x4, x5, x6, x7, x8, x9, x10, x11, x12, x13, x14, x15, x16, x17, x18, x19, x20⟩ := HB.out _ hw2
  clear hm2 hb2 hf2 hmn2 hw2 HA HP0 H1
  go_wp2_with fail
  go_region_law (first | (go_simp; go_at_call 54; (with_reducible refine HP.out.mono ?_); rintro e w3 ⟨PT, r, rfl, hw3, hc⟩; obtain ⟨y0, y1, y2, y3, y4, y5, y6, y7, y8, y9, y10, y11, y12, y13, y14, y15, y16, y17, y18, y19, y20⟩ := HB.out _ hw3; have HQ := Lib.hid hc; clear hc hw3) | (go_simp; go_at_call 54; (with_reducible refine HQ.out.mono ?_); rintro e w4 ⟨QT, q, rfl, hw4, hc⟩; obtain ⟨z0, z1, z2, z3, z4, z5, z6, z7, z8, z9, z10, z11, z12, z13, z14, z15, z16, z17, z18, z19, z20⟩ := HB.out _ hw4; obtain ⟨u0, u1, u2, u3, u4, u5, u6, u7, u8, u9, u10, u11, u12, u13, u14, u15, u16, u17, u18, u19, u20⟩ := HB.out _ (hw4.alloc (.cells #[.iface PT r, .iface QT q] TDP (0, 0))); have HR := Lib.hid hc; clear hc hw4) | (go_simp; go_at_call 65; (with_reducible refine HR.out.mono ?_); rintro e w5 ⟨rfl, hend⟩; have HE := Lib.hid hend; clear hend) | fail)
  all_goals clear x0 x1 x2 x3 x4 x5 x6 x7 x8 x9 x10 x11 x12 x13 x14 x15 x16 x17 x18 x19 x20 y0 y1 y2 y3 y4 y5 y6 y7 y8 y9 y10 y11 y12 y13 y14 y15 y16 y17 y18 y19 y20 z0 z1 z2 z3 z4 z5 z6 z7 z8 z9 z10 z11 z12 z13 z14 z15 z16 z17 z18 z19 z20 u0 u1 u2 u3 u4 u5 u6 u7 u8 u9 u10 u11 u12 u13 u14 u15 u16 u17 u18 u19 u20
  all_goals have HK := Lib.hid (show ∀ X, Fr noF noF w5 X → (X.cell? ⟨m, 0, none⟩ = some (.pointer (some ⟨b, 0, none⟩)) ∧ X.cell? ⟨m2, 0, none⟩ = some (.pointer (some ⟨b2, 0, none⟩))) ∧ Buf X b xs.length true xs ∧ Buf X b2 ys.length true ys ∧ Fr noF noF w X from fun X hX => ⟨⟨hX.cell HE.out.1 fun x => x, hX.cell HE.out.2.1 fun x => x⟩, HE.out.2.2.1.keep hX fun _ _ x => x, HE.out.2.2.2.1.keep hX fun _ _ x => x, HE.out.2.2.2.2.trans hX⟩)
  all_goals have k0 := (HK.out _ (Fr.refl noF w5).drew).1
  all_goals go_wp2_with fail
  all_goals go_region_held3 (fun w' => w'.cell? ⟨m, 0, none⟩ = some (.pointer (some ⟨b, 0, none⟩)) ∧ w'.cell? ⟨m2, 0, none⟩ = some (.pointer (some ⟨b2, 0, none⟩))) (first | exact k0 | exact k1 | exact k2 | fail) (first | (go_at_call 55; (with_reducible refine (Buf_Bytes b _ true xs _ (HK.out _ ?_).2.1).mono ?_); (focus ((repeat (first | with_reducible exact Fr.refl _ _ | with_reducible assumption | with_reducible refine Fr.alloc ?_ _ | with_reducible refine Fr.drew ?_ | with_reducible refine Fr.drewN ?_ _ | with_reducible refine Fr.trans (F' := noF) ?_ (by with_reducible assumption) | fail)); done)); rintro e w6 ⟨v6, q6, rfl, hw6, hr6, -⟩; have hf6 : Fr noF noF w5 w6 := hw6 ▸ (((Fr.refl noF w5).drew).drewN q6); have k1 := (HK.out w6 hf6).1; clear hw6) | (go_at_call 55; (with_reducible refine (Buf_Bytes b2 _ true ys _ (HK.out _ ?_).2.2.1).mono ?_); (focus ((repeat (first | with_reducible exact Fr.refl _ _ | with_reducible assumption | with_reducible refine Fr.alloc ?_ _ | with_reducible refine Fr.drew ?_ | with_reducible refine Fr.drewN ?_ _ | with_reducible refine Fr.trans (F' := noF) ?_ (by with_reducible assumption) | fail)); done)); rintro e w7 ⟨v7, q7, rfl, hw7, hr7, -⟩; have hf67 : Fr noF noF w6 w7 := hw7 ▸ ((Fr.refl noF w6).drewN q7); have k2 := (HK.out w7 (hf6.trans hf67)).1; have HR6 := Lib.hid (And.intro (hr6.keep hf67 fun _ _ x => x) (And.intro hr7 (HK.out w7 (hf6.trans hf67)).2.2.2)); clear hw7 hr6 hr7) | (go_at_call 63; refine (kind_nil _).mono ?_; rintro e w' ⟨rfl, rfl⟩) | fail)
  all_goals go_wp2
  all_goals go_ret3
  all_goals exact ⟨_, _, rfl, HR6.out.1, HR6.out.2.1, HR6.out.2.2⟩
end Go.Proofs.YtoikkjefaakchaaGreatDoor
