/- laws.FnPutBinary: the walk. -/
import Derived.Test.YtoifjckhccbmlaaGreatDoorZWei
import Derived.Test.YtoifjckhccbmlaaGreatDoorZPutB
import Derived.Test.YtoifjckhccbmlaaGreatDoorZSs
import Derived.Test.YtoifjckhccbmlaaGreatDoorZPieceS
import Derived.Test.YtoifjckhccbmlaaGreatDoorZNumsA
import Derived.Test.YtoifjckhccbmlaaGreatDoorZ3
set_option linter.all false
namespace Go.Proofs.YtoifjckhccbmlaaGreatDoor
open Go Go.RowKit
set_option maxHeartbeats 4000000
set_option maxRecDepth 100000
set_option linter.all false

def BoolR (w : World) (e : Ending) (w' : World) : Prop := ∃ b, e = .returned (.bool b) ∧ Fr noF noF w w'
theorem L_zzFits1 (x : VT) (w : World) (v : Value) (hv : ValR w x v) : Calls Tryz.prog 19 #[v] w (BoolR w) := by
  obtain ⟨T, N, Sb, K, E, ids, L⟩ := x
  obtain ⟨vS, vI, vL, us, rfl, h1, h2, ⟨la, lc, rfl, hlc, hlm, hcell⟩, hE⟩ := hv.inv
  obtain ⟨sa, sn, sc, rfl, hsn⟩ := h1.len
  obtain ⟨ia, il, ic, rfl, hil, hic, him⟩ := h2.len
  have hf := (Fr.refl noF w).alloc (.cells (valA T N (.slice sa sn sc) K E (.slice ia il ic) (.slice la L.length lc)) 27 (0, 0))
  have HF := Lib.hid hf
  clear hf hcell hE h1 h2 hv
  rcases Decidable.em ((sn : Int) > 2147483647) with k1 | k1 <;> rcases Decidable.em ((il : Int) > 2147483647) with k2 | k2 <;> rcases Decidable.em ((L.length : Int) > 2147483647) with k3 | k3
  all_goals
    go_enter Tryz.func19, Tryz.ntmps19
    go_wp2
    go_ret
    exact ⟨_, rfl, HF.out⟩

def HeavyR (x : VT) (w : World) (e : Ending) (w' : World) : Prop := ∃ b, e = .returned (.bool b) ∧ (b = false → x.small ∧ x.weight ≤ 65536) ∧ Fr noF noF w w'
theorem L_isHeavy1 (g : Nat) (x : VT) (sa : Option Addr) (sn sc : Nat) (ia : Option Addr) (il ic : Nat) (la : Option Addr) (ll lc : Nat) (X : World) (hg : X.heap[g]? = some (.cells (valA x.T x.N (.slice sa sn sc) x.K x.E (.slice ia il ic) (.slice la ll lc)) 27 (0, 0)))
    (hv : ValR X x (.agg (valA x.T x.N (.slice sa sn sc) x.K x.E (.slice ia il ic) (.slice la ll lc)))) :
    Calls Tryz.prog 51 #[.slice (some ⟨g, 0, none⟩) 1 1] X (HeavyR x X) := by
  have HW := Lib.hid (show Calls Tryz.prog 80 #[.agg (valA x.T x.N (.slice sa sn sc) x.K x.E (.slice ia il ic) (.slice la ll lc)), .int .i64 0] X _ from L_weigh x X _ 0 (by decide) hv)
  have hcc := cell_at hg
  have c0 := hcc 0; have c1 := hcc 1; have c2 := hcc 2; have c3 := hcc 3; have c4 := hcc 4; have c5 := hcc 5; have c6 := hcc 6
  simp only [List.getElem?_toArray, List.getElem?_cons_zero, List.getElem?_cons_succ] at c0 c1 c2 c3 c4 c5 c6
  clear hcc hg hv
  go_enter Tryz.func51, Tryz.ntmps51
  go_wp2_with fail
  go_loopw [3, 4] (fun nn i wr => (i = .int .i64 0 ∧ nn = .int .i64 0 ∧ wr = X) ∨ (∃ r : Nat, i = .int .i64 1 ∧ nn = .int .i64 r ∧ r ≤ 196619 ∧ (r ≤ 65536 → x.small ∧ x.weight ≤ 65536) ∧ Fr noF noF X wr)) (fun _ i _ => 1 - (intOf i).toNat)
  case atStart => exact Or.inl ⟨rfl, rfl, rfl⟩
  case round =>
    rcases hrel with ⟨rfl, rfl, rfl⟩ | ⟨r, rfl, rfl, hr, hrw, hf⟩
    · go_wp2_with fail
      (with_reducible refine HW.out.mono ?_)
      rintro e Y ⟨r, rfl, h1, h2, h3⟩
      have HY := Lib.hid (And.intro h1 (And.intro (show r ≤ 65536 → x.small ∧ x.weight ≤ 65536 from fun h => ⟨(h2 h).2, by have := (h2 h).1; omega⟩) h3))
      clear h1 h2 h3 c0 c1 c2 c3 c4 c5 c6
      go_wp2_with fail
      go_roundw
      case rel => exact Or.inr ⟨r, rfl, rfl, HY.out.1, HY.out.2.1, HY.out.2.2⟩
      case measure => simp [intOf]
    · have hr0 : (r : Int) ≤ 196619 := by omega
      have hr00 : (0 : Int) ≤ (r : Int) := by omega
      have HD := Lib.hid (And.intro hrw hf)
      clear hrw hf
      rcases Decidable.em ((r : Int) ≤ 65536) with k1 | k1
      · have k2 : ¬ (r : Int) > 65536 := by omega
        go_wp2
        go_ret
        exact ⟨_, rfl, fun _ => HD.out.1 (by omega), HD.out.2⟩
      · have k2 : (r : Int) > 65536 := by omega
        go_wp2
        go_ret
        exact ⟨_, rfl, fun h => by simp at h, HD.out.2⟩

theorem L_puts (c : ConfV) (hc : c.proto ≠ 1) (x : VT) (v : Value) (w : World) (hv : ValR w x v) : Calls Tryz.prog 20 #[c.val, v] w (fun e w' => e = .returned (.bool true) ∧ Fr noF noF w w') := by
  obtain ⟨T, N, Sb, K, E, ids, L⟩ := x
  obtain ⟨vS, vI, vL, us, rfl, h1, h2, ⟨la, lc, rfl, -⟩, -⟩ := hv.inv
  obtain ⟨sa, sn, sc, rfl, -⟩ := h1.len
  obtain ⟨ia, il, ic, rfl, -⟩ := h2.len
  obtain ⟨ll, hll⟩ : ∃ ll, ll = L.length := ⟨_, rfl⟩
  rw [← hll] at hv ⊢
  clear h1 h2 hll
  have hvx : ∀ X, Fr noF noF w X → ValR X (.mk T N Sb K E ids L) (.agg (valA T N (.slice sa sn sc) K E (.slice ia il ic) (.slice la ll lc))) := fun X hX => hv.keep hX
  have hhv : ∀ X g, Fr noF noF w X → X.heap[g]? = some (.cells (valA T N (.slice sa sn sc) K E (.slice ia il ic) (.slice la ll lc)) 27 (0, 0)) → Calls Tryz.prog 51 #[.slice (some ⟨g, 0, none⟩) 1 1] X (fun e w' => ∃ b, e = .returned (.bool b) ∧ (b = false → (VT.mk T N Sb K E ids L).small ∧ (VT.mk T N Sb K E ids L).weight ≤ 65536) ∧ Fr noF noF X w') :=
    fun X g hX hg => L_isHeavy1 g (.mk T N Sb K E ids L) sa sn sc ia il ic la ll lc X hg (hvx X hX)
  have hput : ∀ X, (VT.mk T N Sb K E ids L).small ∧ (VT.mk T N Sb K E ids L).weight ≤ 65536 → Fr noF noF w X → Calls Tryz.prog 16 #[c.val, .agg (valA T N (.slice sa sn sc) K E (.slice ia il ic) (.slice la ll lc))] X (fun e w' => ∃ ba bn bc, e = .returned (.tuple #[.slice ba bn bc, .int .i64 0]) ∧ Rd w' (.slice ba bn bc) ((VT.mk T N Sb K E ids L).bytesB c.strictW) ∧ Fr noF noF X w') := fun X hs hX =>
    (I_Put_val c hc _ hs.1 _ X (hvx X hX) (by have := bytesB_le c.strictW (VT.mk T N Sb K E ids L); unfold LIM; omega)).mono fun e w' ⟨bv, he, h1, h2, h3⟩ => by
      obtain ⟨a, n, k, rfl, -⟩ := h1.len
      exact ⟨a, n, k, he, h1, h3⟩
  have htold : ∀ X, (VT.mk T N Sb K E ids L).small ∧ (VT.mk T N Sb K E ids L).weight ≤ 65536 → Fr noF noF w X → Calls Tryz.prog 53 #[.agg (valA T N (.slice sa sn sc) K E (.slice ia il ic) (.slice la ll lc))] X (fun e w' => ∃ sa sn sc ia il ic la ll lc, e = .returned (.agg (valA T N (.slice sa sn sc) K E (.slice ia il ic) (.slice la ll lc))) ∧
      Calls Tryz.prog 52 #[c.val, .agg (valA T N (.slice sa sn sc) K E (.slice ia il ic) (.slice la ll lc))] w' (fun e w2 => ∃ da dn dc, e = .returned (.tuple #[.slice da dn dc, .int .i64 0]) ∧ Rd w2 (.slice da dn dc) ((VT.mk T N Sb K E ids L).bytesB c.strictW) ∧ Fr noF noF w' w2) ∧ Fr noF noF X w') := fun X hs hX =>
    (L_told _ hs.1 X _ (hvx X hX)).mono fun e w' ⟨sa, sn, sc, ia, il, ic, la, ll, lc, he, h1, h2⟩ => ⟨sa, sn, sc, ia, il, ic, la, ll, lc, he,
      (S_Put c hc _ hs.1 (by have := bytesB_le c.strictW (VT.mk T N Sb K E ids L); omega) _ w' h1).mono fun e w2 ⟨r, he, h3, h4, h5⟩ => by
        obtain ⟨a, n, k, rfl, -⟩ := h3.len
        exact ⟨a, n, k, he, h3, h5⟩, h2⟩
  obtain ⟨B, hB⟩ : ∃ B, B = (VT.mk T N Sb K E ids L).bytesB c.strictW := ⟨_, rfl⟩
  rw [← hB] at hput htold
  obtain ⟨P, hP⟩ : ∃ P : Prop, P = ((VT.mk T N Sb K E ids L).small ∧ (VT.mk T N Sb K E ids L).weight ≤ 65536) := ⟨_, rfl⟩
  rw [← hP] at hhv hput htold
  obtain ⟨pr, pl, sr, sw, ms, co, fr⟩ := c
  have q3 := new3 w (.cells #[.int .i64 pr, .bool pl, .bool sr, .bool sw, .int .i32 ms, .int .i32 co, .int .i32 fr] 31 (0, 0)) (.cells (valA T N (.slice sa sn sc) K E (.slice ia il ic) (.slice la ll lc)) 27 (0, 0)) (.cells (valA T N (.slice sa sn sc) K E (.slice ia il ic) (.slice la ll lc)) 27 (0, 0))
  have hf3 : Fr noF noF w (((w.alloc (.cells #[.int .i64 pr, .bool pl, .bool sr, .bool sw, .int .i32 ms, .int .i32 co, .int .i32 fr] 31 (0, 0))).alloc (.cells (valA T N (.slice sa sn sc) K E (.slice ia il ic) (.slice la ll lc)) 27 (0, 0))).alloc (.cells (valA T N (.slice sa sn sc) K E (.slice ia il ic) (.slice la ll lc)) 27 (0, 0))) := (((Fr.refl noF w).alloc _).alloc _).alloc _
  have hq : ∀ Y, Fr noF noF (((w.alloc (.cells #[.int .i64 pr, .bool pl, .bool sr, .bool sw, .int .i32 ms, .int .i32 co, .int .i32 fr] 31 (0, 0))).alloc (.cells (valA T N (.slice sa sn sc) K E (.slice ia il ic) (.slice la ll lc)) 27 (0, 0))).alloc (.cells (valA T N (.slice sa sn sc) K E (.slice ia il ic) (.slice la ll lc)) 27 (0, 0))) Y → Boxes Y w.heap.size pr pl sr sw ms co fr (.int .i64 T) (.int .i64 N) (.slice sa sn sc) (.int .i64 K) (.int .i64 E) (.slice ia il ic) (.slice la ll lc) ∧ Fr noF noF w Y := fun Y hY => ⟨boxes (hY.block q3.1 fun x => x) (hY.block q3.2.1 fun x => x), hf3.trans hY⟩
  have H3 := Lib.hid (hhv _ _ hf3 q3.2.2)
  have HQ := Lib.hid hq
  have HP := Lib.hid hput
  have HT := Lib.hid htold
  have HK := Lib.hid L_known
  have HE := Lib.hid L_equal
  have HSK := Lib.hid (show ∀ X, Calls Tryz.prog 24 #[.int .i64 0, .int .i64 0] X fun e w' => e = .returned (.bool true) ∧ X = w' from fun X => (S_SameKind 0 0 X).mono fun e w' h => ⟨h.1, h.2.symm⟩)
  clear hvx hhv hput htold hB hP hv hf3 hq q3 hc
  go_enter Tryz.func20, Tryz.ntmps20
  go_wp2_with fail
  (with_reducible refine H3.out.mono ?_)
  rintro e Y ⟨b, rfl, hb, hY⟩
  have HY := Lib.hid (And.intro hY (HQ.out Y hY))
  have c0 := HY.out.2.1
  unfold Boxes at c0
  cases b
  · have HB := Lib.hid (hb rfl)
    clear hb hY
    obtain ⟨a0, a1, a2, a3, a4, a5, a6, b0, b1, b2, b3, b4, b5, b6⟩ := c0
    go_wp2_with fail
    (with_reducible refine (HP.out Y HB.out HY.out.2.2).mono ?_)
    rintro e Z ⟨ba, bn, bc, rfl, hr, hz⟩
    have hwz := HY.out.2.2.trans hz
    have HQZ := Lib.hid (show ∀ X, Fr noF noF Z X → Boxes X w.heap.size pr pl sr sw ms co fr (.int .i64 T) (.int .i64 N) (.slice sa sn sc) (.int .i64 K) (.int .i64 E) (.slice ia il ic) (.slice la ll lc) from fun X hX => (HQ.out X (HY.out.1.trans (hz.trans hX))).1)
    have HR := Lib.hid hr
    clear hz hr a0 a1 a2 a3 a4 a5 a6 b0 b1 b2 b3 b4 b5 b6
    have c0 := HQZ.out _ (Fr.refl noF Z).drew
    go_wp2_with fail
    go_region_held3 (fun w' => w'.cell? ⟨w.heap.size, 0, none⟩ = some (.int .i64 pr) ∧ w'.cell? ⟨w.heap.size, 1, none⟩ = some (.bool pl) ∧ w'.cell? ⟨w.heap.size, 2, none⟩ = some (.bool sr) ∧ w'.cell? ⟨w.heap.size, 3, none⟩ = some (.bool sw) ∧ w'.cell? ⟨w.heap.size, 4, none⟩ = some (.int .i32 ms) ∧ w'.cell? ⟨w.heap.size, 5, none⟩ = some (.int .i32 co) ∧ w'.cell? ⟨w.heap.size, 6, none⟩ = some (.int .i32 fr) ∧ w'.cell? ⟨w.heap.size + 1, 0, none⟩ = some (.int .i64 T) ∧ w'.cell? ⟨w.heap.size + 1, 1, none⟩ = some (.int .i64 N) ∧ w'.cell? ⟨w.heap.size + 1, 2, none⟩ = some (.slice sa sn sc) ∧ w'.cell? ⟨w.heap.size + 1, 3, none⟩ = some (.int .i64 K) ∧ w'.cell? ⟨w.heap.size + 1, 4, none⟩ = some (.int .i64 E) ∧ w'.cell? ⟨w.heap.size + 1, 5, none⟩ = some (.slice ia il ic) ∧ w'.cell? ⟨w.heap.size + 1, 6, none⟩ = some (.slice la ll lc)) (first | exact c2 | exact c1 | exact c0 | fail) (first | (go_at_call 53; (with_reducible refine (HT.out _ HB.out ?_).mono ?_); (focus ((repeat (first | with_reducible exact Fr.refl _ _ | with_reducible assumption | with_reducible refine Fr.alloc ?_ _ | with_reducible refine Fr.drew ?_ | with_reducible refine Fr.drewN ?_ _ | with_reducible refine Fr.trans (F' := noF) ?_ (by with_reducible assumption) | fail)); done)); rintro e X1 ⟨ua, un, uc, pa, pl', pc, oa, ol, oc, rfl, hsp, hx1⟩; have c1 := HQZ.out X1 (by (focus ((repeat (first | with_reducible exact Fr.refl _ _ | with_reducible assumption | with_reducible refine Fr.alloc ?_ _ | with_reducible refine Fr.drew ?_ | with_reducible refine Fr.drewN ?_ _ | with_reducible refine Fr.trans (F' := noF) ?_ (by with_reducible assumption) | fail)); done))); have HSP := Lib.hid hsp; clear hsp) | (go_at_call 52; (with_reducible refine HSP.out.mono ?_); rintro e X2 ⟨da, dn, dc, rfl, hrd, hx2⟩; have c2 := HQZ.out X2 (by (focus ((repeat (first | with_reducible exact Fr.refl _ _ | with_reducible assumption | with_reducible refine Fr.alloc ?_ _ | with_reducible refine Fr.drew ?_ | with_reducible refine Fr.drewN ?_ _ | with_reducible refine Fr.trans (F' := noF) ?_ (by with_reducible assumption) | fail)); done))); have HRD := Lib.hid hrd; clear hrd) | fail)
    all_goals have HF := Lib.hid (show Fr noF noF Z X2 by (focus ((repeat (first | with_reducible exact Fr.refl _ _ | with_reducible assumption | with_reducible refine Fr.alloc ?_ _ | with_reducible refine Fr.drew ?_ | with_reducible refine Fr.drewN ?_ _ | with_reducible refine Fr.trans (F' := noF) ?_ (by with_reducible assumption) | fail)); done)))
    all_goals have HWF := Lib.hid (hwz.trans HF.out)
    all_goals clear hwz hx1 hx2 c0 c1 c2
    all_goals go_wp2_with fail
    all_goals (with_reducible refine (HSK.out X2).mono ?_)
    all_goals rintro e w' ⟨rfl, rfl⟩
    all_goals go_wp2_with fail
    all_goals refine (HE.out _ _ B B X2 (HR.out.keep HF.out fun _ _ x => x) HRD.out).mono ?_
    all_goals rintro e w' ⟨he, q, rfl⟩
    all_goals rw [decide_eq_true rfl] at he
    all_goals subst he
    all_goals go_wp2_with fail
    all_goals (with_reducible refine (HK.out _).mono ?_)
    all_goals rintro e V ⟨rfl, hv⟩
    all_goals have HV := Lib.hid ((HWF.out.drewN q).trans hv)
    all_goals clear hv
    all_goals go_wp2
    all_goals go_ret
    all_goals exact ⟨rfl, HV.out⟩
  · clear hb hY
    go_wp2_with fail
    (with_reducible refine (HK.out _).mono ?_)
    rintro e Z ⟨rfl, hz⟩
    have HZ := Lib.hid (HY.out.2.2.trans hz)
    clear hz c0
    go_wp2
    go_ret
    exact ⟨rfl, HZ.out⟩

theorem L_FnPutBinary (c : ConfV) (x : VT) (v : Value) (w : World) (hv : ValR w x v) : Calls Tryz.prog 4 #[c.val, v] w (fun e w' => e = .returned (.bool true) ∧ Fr noF noF w w') := by
  obtain ⟨T, N, Sb, K, E, ids, L⟩ := x
  obtain ⟨vS, vI, vL, us, rfl, h1, h2, ⟨la, lc, rfl, -⟩, -⟩ := hv.inv
  obtain ⟨sa, sn, sc, rfl, -⟩ := h1.len
  obtain ⟨ia, il, ic, rfl, -⟩ := h2.len
  obtain ⟨ll, hll⟩ : ∃ ll, ll = L.length := ⟨_, rfl⟩
  rw [← hll] at hv ⊢
  clear h1 h2 hll
  have hz : ∀ X, Fr noF noF w X → Calls Tryz.prog 19 #[.agg (valA T N (.slice sa sn sc) K E (.slice ia il ic) (.slice la ll lc))] X (BoolR X) := fun X hX => L_zzFits1 _ X _ (hv.keep hX)
  have hp : ∀ X, Fr noF noF w X → Calls Tryz.prog 20 #[({ c with proto := 0 } : ConfV).val, .agg (valA T N (.slice sa sn sc) K E (.slice ia il ic) (.slice la ll lc))] X (fun e w' => e = .returned (.bool true) ∧ Fr noF noF X w') := fun X hX => L_puts { c with proto := 0 } (show (0 : Int) ≠ 1 by decide) _ _ X (hv.keep hX)
  have hby := L_by 0 c
  obtain ⟨pr, pl, sr, sw, ms, co, fr⟩ := c
  have n2 := new2 w (.cells #[.int .i64 pr, .bool pl, .bool sr, .bool sw, .int .i32 ms, .int .i32 co, .int .i32 fr] 31 (0, 0)) (.cells (valA T N (.slice sa sn sc) K E (.slice ia il ic) (.slice la ll lc)) 27 (0, 0))
  have hf2 : Fr noF noF w ((w.alloc (.cells #[.int .i64 pr, .bool pl, .bool sr, .bool sw, .int .i32 ms, .int .i32 co, .int .i32 fr] 31 (0, 0))).alloc (.cells (valA T N (.slice sa sn sc) K E (.slice ia il ic) (.slice la ll lc)) 27 (0, 0))) := ((Fr.refl noF w).alloc _).alloc _
  have hq : ∀ Y, Fr noF noF ((w.alloc (.cells #[.int .i64 pr, .bool pl, .bool sr, .bool sw, .int .i32 ms, .int .i32 co, .int .i32 fr] 31 (0, 0))).alloc (.cells (valA T N (.slice sa sn sc) K E (.slice ia il ic) (.slice la ll lc)) 27 (0, 0))) Y → Boxes Y w.heap.size pr pl sr sw ms co fr (.int .i64 T) (.int .i64 N) (.slice sa sn sc) (.int .i64 K) (.int .i64 E) (.slice ia il ic) (.slice la ll lc) ∧ Fr noF noF w Y := fun Y hY => ⟨boxes (hY.block n2.1 fun x => x) (hY.block n2.2 fun x => x), hf2.trans hY⟩
  have HZ := Lib.hid (hz _ hf2)
  have HQ := Lib.hid hq
  have HP := Lib.hid hp
  have HB := Lib.hid hby
  clear hz hp hby hf2 hq n2 hv
  go_enter Tryz.func4, Tryz.ntmps4
  go_wp2_with fail
  (with_reducible refine HZ.out.mono ?_)
  rintro e Y ⟨b, rfl, hY⟩
  have hwy := (HQ.out Y hY).2
  have HQY := Lib.hid (show ∀ X, Fr noF noF Y X → Boxes X w.heap.size pr pl sr sw ms co fr (.int .i64 T) (.int .i64 N) (.slice sa sn sc) (.int .i64 K) (.int .i64 E) (.slice ia il ic) (.slice la ll lc) from fun X hX => (HQ.out X (hY.trans hX)).1)
  clear hY
  cases b
  · have HW := Lib.hid hwy
    clear hwy
    go_wp2
    go_ret
    exact ⟨rfl, HW.out⟩
  · have c0 := HQY.out _ (Fr.refl noF Y).drew
    go_wp2_with fail
    go_region_held3 (fun w' => w'.cell? ⟨w.heap.size, 0, none⟩ = some (.int .i64 pr) ∧ w'.cell? ⟨w.heap.size, 1, none⟩ = some (.bool pl) ∧ w'.cell? ⟨w.heap.size, 2, none⟩ = some (.bool sr) ∧ w'.cell? ⟨w.heap.size, 3, none⟩ = some (.bool sw) ∧ w'.cell? ⟨w.heap.size, 4, none⟩ = some (.int .i32 ms) ∧ w'.cell? ⟨w.heap.size, 5, none⟩ = some (.int .i32 co) ∧ w'.cell? ⟨w.heap.size, 6, none⟩ = some (.int .i32 fr) ∧ w'.cell? ⟨w.heap.size + 1, 0, none⟩ = some (.int .i64 T) ∧ w'.cell? ⟨w.heap.size + 1, 1, none⟩ = some (.int .i64 N) ∧ w'.cell? ⟨w.heap.size + 1, 2, none⟩ = some (.slice sa sn sc) ∧ w'.cell? ⟨w.heap.size + 1, 3, none⟩ = some (.int .i64 K) ∧ w'.cell? ⟨w.heap.size + 1, 4, none⟩ = some (.int .i64 E) ∧ w'.cell? ⟨w.heap.size + 1, 5, none⟩ = some (.slice ia il ic) ∧ w'.cell? ⟨w.heap.size + 1, 6, none⟩ = some (.slice la ll lc)) (first | exact c2 | exact c1 | exact c0 | fail) (first | (go_at_call 17; (with_reducible refine (HB.out _).mono ?_); rintro e X1 ⟨rfl, hx1⟩; have c1 := HQY.out X1 (by (focus ((repeat (first | with_reducible exact Fr.refl _ _ | with_reducible assumption | with_reducible refine Fr.alloc ?_ _ | with_reducible refine Fr.drew ?_ | with_reducible refine Fr.drewN ?_ _ | with_reducible refine Fr.trans (F' := noF) ?_ (by with_reducible assumption) | fail)); done)))) | (go_at_call 20; (with_reducible refine (HP.out _ ?_).mono ?_); (focus ((repeat (first | with_reducible exact Fr.refl _ _ | with_reducible assumption | with_reducible refine Fr.alloc ?_ _ | with_reducible refine Fr.drew ?_ | with_reducible refine Fr.drewN ?_ _ | with_reducible refine Fr.trans (F' := noF) ?_ (by with_reducible assumption) | fail)); done)); rintro e X2 ⟨rfl, hx2⟩; have c2 := HQY.out X2 (by (focus ((repeat (first | with_reducible exact Fr.refl _ _ | with_reducible assumption | with_reducible refine Fr.alloc ?_ _ | with_reducible refine Fr.drew ?_ | with_reducible refine Fr.drewN ?_ _ | with_reducible refine Fr.trans (F' := noF) ?_ (by with_reducible assumption) | fail)); done)))) | fail)
    all_goals have HF := Lib.hid (show Fr noF noF w X2 by (focus ((repeat (first | with_reducible exact Fr.refl _ _ | with_reducible assumption | with_reducible refine Fr.alloc ?_ _ | with_reducible refine Fr.drew ?_ | with_reducible refine Fr.drewN ?_ _ | with_reducible refine Fr.trans (F' := noF) ?_ (by with_reducible assumption) | fail)); done)))
    all_goals clear hwy hx1 hx2 c0 c1 c2
    all_goals go_wp2
    all_goals go_ret
    all_goals exact ⟨rfl, HF.out⟩
end Go.Proofs.YtoifjckhccbmlaaGreatDoor
