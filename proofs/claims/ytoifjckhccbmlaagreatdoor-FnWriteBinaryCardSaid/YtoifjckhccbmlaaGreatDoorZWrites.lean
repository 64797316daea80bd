/- FnWriteBinary: the walk. -/
import Derived.Test.YtoifjckhccbmlaaGreatDoorZStepsK
import Derived.Test.YtoifjckhccbmlaaGreatDoorZNumsA
set_option linter.all false
namespace Go.Proofs.YtoifjckhccbmlaaGreatDoor
open Go Go.RowKit
set_option maxHeartbeats 4000000
set_option maxRecDepth 100000
set_option linter.all false

/-- A configuration's box. -/
def Box7 (X : World) (g : Nat) (pr : Int) (pl sr sw : Bool) (ms co fr : Int) : Prop := X.cell? ⟨g, 0, none⟩ = some (.int .i64 pr) ∧ X.cell? ⟨g, 1, none⟩ = some (.bool pl) ∧ X.cell? ⟨g, 2, none⟩ = some (.bool sr) ∧ X.cell? ⟨g, 3, none⟩ = some (.bool sw) ∧ X.cell? ⟨g, 4, none⟩ = some (.int .i32 ms) ∧ X.cell? ⟨g, 5, none⟩ = some (.int .i32 co) ∧ X.cell? ⟨g, 6, none⟩ = some (.int .i32 fr)
theorem box7 {X : World} {g : Nat} {pr : Int} {pl sr sw : Bool} {ms co fr : Int} {t : TypeId} (h : X.heap[g]? = some (.cells #[.int .i64 pr, .bool pl, .bool sr, .bool sw, .int .i32 ms, .int .i32 co, .int .i32 fr] t (0, 0))) : Box7 X g pr pl sr sw ms co fr :=
  ⟨cell_at h 0, cell_at h 1, cell_at h 2, cell_at h 3, cell_at h 4, cell_at h 5, cell_at h 6⟩

theorem L_writes (c : ConfV) (hc : c.proto ≠ 1) (v : Value) (xs : List Stp) (w : World) (hv : RdS w noF v xs) : Calls Tryz.prog 30 #[c.val, v] w (fun e w' => e = .returned (.bool true) ∧ Fr noF noF w w') := by
  obtain ⟨la, lc, rfl, hm, hel⟩ := hv.form
  have hvX : ∀ X, Fr noF noF w X → RdS X noF (.slice la xs.length lc) xs := fun X hX => hv.new hX
  have hhv : ∀ X, Fr noF noF w X → Calls Tryz.prog 62 #[.slice la xs.length lc] X (HeavySR xs X) := fun X hX => L_isHeavySteps _ xs X (hvX X hX)
  have hwr : ∀ X, xs.length + sumS xs ≤ 65536 → Fr noF noF w X → Calls Tryz.prog 31 #[c.val, .slice la xs.length lc] X (fun e w' => ∃ ba bn bc kv, e = .returned (.tuple #[.slice ba bn bc, kv]) ∧ Rd w' (.slice ba bn bc) (xs.flatMap (Stp.binB c.strictW)) ∧ RdI w' kv (List.replicate xs.length 0) ∧ Fr noF noF X w') := fun X hs hX =>
    (I_Write_B c hc _ xs X (hvX X hX) (by omega) (by have := binB_all c.strictW xs; unfold LIM; omega)).mono fun e w' ⟨bv, kv, he, h1, _, h3, h4⟩ => by
      obtain ⟨a, n, k, rfl, -⟩ := h1.len
      exact ⟨a, n, k, kv, he, h1, h3.rd, h4⟩
  have hst : ∀ X, xs.length + sumS xs ≤ 65536 → Fr noF noF w X → Calls Tryz.prog 64 #[.slice la xs.length lc] X (fun e w' => ∃ sa sc, e = .returned (.slice sa xs.length sc) ∧
      Calls Tryz.prog 63 #[c.val, .slice sa xs.length sc] w' (fun e w2 => ∃ da dn dc kg, e = .returned (.tuple #[.slice da dn dc, .slice (some ⟨kg, 0, none⟩) xs.length xs.length]) ∧ Rd w2 (.slice da dn dc) (xs.flatMap (Stp.binB c.strictW)) ∧ w2.heap[kg]? = some (.cells (Array.replicate xs.length (.int .i64 0)) TIn (0, 0)) ∧ Fr noF noF w' w2) ∧ Fr noF noF X w') := fun X hs hX =>
    (L_steps _ xs X (hvX X hX) (by omega)).mono fun e w' ⟨sa, sc, he, h1, h2⟩ => ⟨sa, sc, he,
      (S_Write c hc sa xs.length sc xs rfl (by omega) w' h1 (fun j x hj => by
        obtain ⟨g, o, y, _, _, _, _, hy, _, _, _, hr, _⟩ := hel j (List.getElem?_eq_some_iff.1 hj).1
        rw [hj] at hy
        injection hy with hy
        subst hy
        exact ⟨hr.keep (F := noF) (F' := noF) (hX.trans h2) fun _ _ x => x, by have := sumS_mem (List.mem_of_getElem? hj); omega⟩) (by have := binB_all c.strictW xs; omega)).mono fun e w2 ⟨oa, on, oc, kg, he, h3, h4, h5⟩ => ⟨oa, on, oc, kg, he, h3, h4, h5⟩, h2⟩
  have hik : ∀ X kv kg, xs.length + sumS xs ≤ 65536 → RdI X kv (List.replicate xs.length 0) → X.heap[kg]? = some (.cells (Array.replicate xs.length (.int .i64 0)) TIn (0, 0)) → Calls Tryz.prog 65 #[kv, .slice (some ⟨kg, 0, none⟩) xs.length xs.length] X (fun e w' => e = .returned (.tuple #[.bool true, .bool false]) ∧ Fr noF noF X w') := fun X kv kg hs h1 h2 => L_isKinds kv kg xs.length (by omega) X h1 h2
  obtain ⟨B, hB⟩ : ∃ B, B = xs.flatMap (Stp.binB c.strictW) := ⟨_, rfl⟩
  rw [← hB] at hwr hst
  obtain ⟨pr, pl, sr, sw, ms, co, fr⟩ := c
  have hbw := alloc_new w (.cells #[.int .i64 pr, .bool pl, .bool sr, .bool sw, .int .i32 ms, .int .i32 co, .int .i32 fr] 31 (0, 0))
  have hf1 : Fr noF noF w (w.alloc (.cells #[.int .i64 pr, .bool pl, .bool sr, .bool sw, .int .i32 ms, .int .i32 co, .int .i32 fr] 31 (0, 0))) := (Fr.refl noF w).alloc _
  have hq : ∀ Y, Fr noF noF (w.alloc (.cells #[.int .i64 pr, .bool pl, .bool sr, .bool sw, .int .i32 ms, .int .i32 co, .int .i32 fr] 31 (0, 0))) Y → Box7 Y w.heap.size pr pl sr sw ms co fr ∧ Fr noF noF w Y := fun Y hY => ⟨box7 (hY.block hbw fun x => x), hf1.trans hY⟩
  have HH := Lib.hid (hhv _ hf1)
  have HQ := Lib.hid hq
  have HW := Lib.hid hwr
  have HS := Lib.hid hst
  have HI := Lib.hid hik
  have HK := Lib.hid L_known
  have HE := Lib.hid L_equal
  clear hvX hhv hwr hst hik hB hv hf1 hq hbw hel hm hc
  go_enter Tryz.func30, Tryz.ntmps30
  go_wp2_with fail
  (with_reducible refine HH.out.mono ?_)
  rintro e Y ⟨b, rfl, hb, rfl⟩
  have hY := Fr.refl noF (w.alloc (.cells #[.int .i64 pr, .bool pl, .bool sr, .bool sw, .int .i32 ms, .int .i32 co, .int .i32 fr] 31 (0, 0)))
  have HY := Lib.hid (HQ.out _ hY)
  cases b
  · have HB := Lib.hid (hb rfl)
    obtain ⟨a0, a1, a2, a3, a4, a5, a6⟩ := HY.out.1
    clear hb
    go_wp2_with fail
    (with_reducible refine (HW.out _ HB.out HY.out.2).mono ?_)
    rintro e Z ⟨ba, bn, bc, kv, rfl, hr, hk, hz⟩
    have hwz := HY.out.2.trans hz
    have HQZ := Lib.hid (show ∀ X, Fr noF noF Z X → Box7 X w.heap.size pr pl sr sw ms co fr from fun X hX => (HQ.out X (hz.trans hX)).1)
    have HR := Lib.hid (And.intro hr hk)
    clear hr hk hz hY a0 a1 a2 a3 a4 a5 a6
    have c0 := HQZ.out _ (Fr.refl noF Z).drew
    go_wp2_with fail
    go_region_held3 (fun w' => w'.cell? ⟨w.heap.size, 0, none⟩ = some (.int .i64 pr) ∧ w'.cell? ⟨w.heap.size, 1, none⟩ = some (.bool pl) ∧ w'.cell? ⟨w.heap.size, 2, none⟩ = some (.bool sr) ∧ w'.cell? ⟨w.heap.size, 3, none⟩ = some (.bool sw) ∧ w'.cell? ⟨w.heap.size, 4, none⟩ = some (.int .i32 ms) ∧ w'.cell? ⟨w.heap.size, 5, none⟩ = some (.int .i32 co) ∧ w'.cell? ⟨w.heap.size, 6, none⟩ = some (.int .i32 fr)) (first | exact c2 | exact c1 | exact c0 | fail) (first | (go_at_call 64; (with_reducible refine (HS.out _ HB.out ?_).mono ?_); (focus ((repeat (first | with_reducible exact Fr.refl _ _ | with_reducible assumption | with_reducible refine Fr.alloc ?_ _ | with_reducible refine Fr.drew ?_ | with_reducible refine Fr.drewN ?_ _ | with_reducible refine Fr.trans (F' := noF) ?_ (by with_reducible assumption) | fail)); done)); rintro e X1 ⟨sa, sc, rfl, hsp, hx1⟩; have c1 := HQZ.out X1 (by (focus ((repeat (first | with_reducible exact Fr.refl _ _ | with_reducible assumption | with_reducible refine Fr.alloc ?_ _ | with_reducible refine Fr.drew ?_ | with_reducible refine Fr.drewN ?_ _ | with_reducible refine Fr.trans (F' := noF) ?_ (by with_reducible assumption) | fail)); done))); have HSP := Lib.hid hsp; clear hsp) | (go_at_call 63; (with_reducible refine HSP.out.mono ?_); rintro e X2 ⟨da, dn, dc, kg, rfl, hrd, hkg, hx2⟩; have c2 := HQZ.out X2 (by (focus ((repeat (first | with_reducible exact Fr.refl _ _ | with_reducible assumption | with_reducible refine Fr.alloc ?_ _ | with_reducible refine Fr.drew ?_ | with_reducible refine Fr.drewN ?_ _ | with_reducible refine Fr.trans (F' := noF) ?_ (by with_reducible assumption) | fail)); done))); have HRD := Lib.hid (And.intro hrd hkg); clear hrd hkg) | fail)
    all_goals have HF := Lib.hid (show Fr noF noF Z X2 by (focus ((repeat (first | with_reducible exact Fr.refl _ _ | with_reducible assumption | with_reducible refine Fr.alloc ?_ _ | with_reducible refine Fr.drew ?_ | with_reducible refine Fr.drewN ?_ _ | with_reducible refine Fr.trans (F' := noF) ?_ (by with_reducible assumption) | fail)); done)))
    all_goals have HWF := Lib.hid (hwz.trans HF.out)
    all_goals clear hwz hx1 hx2 c0 c1 c2
    all_goals go_wp2_with fail
    all_goals refine (HI.out X2 kv kg HB.out (RdI.keep HR.out.2 HF.out) HRD.out.2).mono ?_
    all_goals rintro e V0 ⟨rfl, hv0⟩
    all_goals have HV0 := Lib.hid hv0
    all_goals clear hv0
    all_goals go_wp2_with fail
    all_goals refine (HE.out _ _ B B V0 (HR.out.1.keep (F := noF) (F' := noF) (HF.out.trans HV0.out) fun _ _ x => x) (HRD.out.1.keep (F := noF) (F' := noF) HV0.out fun _ _ x => x)).mono ?_
    all_goals rintro e w' ⟨he, q, rfl⟩
    all_goals rw [decide_eq_true rfl] at he
    all_goals subst he
    all_goals go_wp2_with fail
    all_goals (with_reducible refine (HK.out _).mono ?_)
    all_goals rintro e V ⟨rfl, hv⟩
    all_goals have HV := Lib.hid (((HWF.out.trans HV0.out).drewN q).trans hv)
    all_goals clear hv
    all_goals go_wp2
    all_goals go_ret
    all_goals exact ⟨rfl, HV.out⟩
  · clear hb hY
    go_wp2_with fail
    (with_reducible refine (HK.out _).mono ?_)
    rintro e Z ⟨rfl, hz⟩
    have HZ := Lib.hid (HY.out.2.trans hz)
    clear hz
    go_wp2
    go_ret
    exact ⟨rfl, HZ.out⟩

theorem L_FnWriteBinary (c : ConfV) (v : Value) (xs : List Stp) (w : World) (hv : RdS w noF v xs) : Calls Tryz.prog 7 #[c.val, v] w (fun e w' => e = .returned (.bool true) ∧ Fr noF noF w w') := by
  obtain ⟨la, lc, rfl, hm, -⟩ := hv.form
  have hz : ∀ X, Fr noF noF w X → Calls Tryz.prog 29 #[.slice la xs.length lc] X (BoolR X) := fun X hX => L_zzFits3 _ xs X (hv.new hX)
  have hp : ∀ X, Fr noF noF w X → Calls Tryz.prog 30 #[({ c with proto := 0 } : ConfV).val, .slice la xs.length lc] X (fun e w' => e = .returned (.bool true) ∧ Fr noF noF X w') := fun X hX => L_writes { c with proto := 0 } (show (0 : Int) ≠ 1 by decide) _ xs X (hv.new hX)
  have hby := L_by 0 c
  obtain ⟨pr, pl, sr, sw, ms, co, fr⟩ := c
  have hbw := alloc_new w (.cells #[.int .i64 pr, .bool pl, .bool sr, .bool sw, .int .i32 ms, .int .i32 co, .int .i32 fr] 31 (0, 0))
  have hf1 : Fr noF noF w (w.alloc (.cells #[.int .i64 pr, .bool pl, .bool sr, .bool sw, .int .i32 ms, .int .i32 co, .int .i32 fr] 31 (0, 0))) := (Fr.refl noF w).alloc _
  have hq : ∀ Y, Fr noF noF (w.alloc (.cells #[.int .i64 pr, .bool pl, .bool sr, .bool sw, .int .i32 ms, .int .i32 co, .int .i32 fr] 31 (0, 0))) Y → Box7 Y w.heap.size pr pl sr sw ms co fr ∧ Fr noF noF w Y := fun Y hY => ⟨box7 (hY.block hbw fun x => x), hf1.trans hY⟩
  have HZ := Lib.hid (hz _ hf1)
  have HQ := Lib.hid hq
  have HP := Lib.hid hp
  have HB := Lib.hid hby
  clear hz hp hby hf1 hq hbw hv hm
  go_enter Tryz.func7, Tryz.ntmps7
  go_wp2_with fail
  (with_reducible refine HZ.out.mono ?_)
  rintro e Y ⟨b, rfl, hY⟩
  have hwy := (HQ.out Y hY).2
  have HQY := Lib.hid (show ∀ X, Fr noF noF Y X → Box7 X w.heap.size pr pl sr sw ms co fr from fun X hX => (HQ.out X (hY.trans hX)).1)
  clear hY
  cases b
  · have HW := Lib.hid hwy
    clear hwy
    go_wp2
    go_ret
    exact ⟨rfl, HW.out⟩
  · obtain ⟨a0, a1, a2, a3, a4, a5, a6⟩ := HQY.out _ (Fr.refl noF Y)
    go_wp2_with fail
    refine (HB.out _).mono ?_
    rintro e X1 ⟨rfl, hx1⟩
    have HX1 := Lib.hid (hwy.trans hx1)
    clear hx1 hwy a0 a1 a2 a3 a4 a5 a6
    go_wp2_with fail
    (with_reducible refine (HP.out _ HX1.out).mono ?_)
    rintro e X2 ⟨rfl, hx2⟩
    have HF := Lib.hid (HX1.out.trans hx2)
    clear hx2
    go_wp2
    go_ret
    exact ⟨rfl, HF.out⟩
end Go.Proofs.YtoifjckhccbmlaaGreatDoor
