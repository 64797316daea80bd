/- The specification puts whatever value by the binary protocol: spec.Put. -/
import Derived.Test.YtoikkjefaakchaaGreatDoorZSr
import Derived.Test.YtoikkjefaakchaaGreatDoorZPutV
set_option linter.all false
namespace Go.Proofs.YtoikkjefaakchaaGreatDoor
open Go Go.RowKit
set_option maxHeartbeats 4000000
set_option maxRecDepth 100000

theorem S_put12 (p : Nat) (c : ConfV) (hc : c.proto ≠ 1) (w0 w : World) (s : SSt) (T N K E : Int) (sa : Option Addr) (sn sc : Nat) (ia : Option Addr) (il ic : Nat) (la : Option Addr) (n lc : Nat) (us : Nat → Array Value) (ids : List Int) (L : List VT) (hT : T % 256 = 12) (hL : L.length = n) (hnm : n ≤ 1000000) (hil : ids.length = il) (him : il ≤ 1000000)
    (hcell : 0 < n → ∃ g o, la = some ⟨g, o, none⟩ ∧ ∀ j, j < n → ∀ i u, (us j)[i]? = some u → w0.cell? ⟨g, o + j * 7 + i, none⟩ = some u)
    (hids : RdN w0 (.slice ia il ic) ids)
    (hE : ∀ (j : Nat) x, L[j]? = some x → ValR w0 x (.agg (us j))) (hput : ∀ (j : Nat) x, L[j]? = some x → SPutOK p c x) (hF : Fr noF (SwF p w) w0 w) (h : SwI p c w s)
    (B : List UInt8) (hB : B = bytesAll c.strictW (restW L ids 0)) (hout : s.out.length + B.length ≤ 10000000000) :
    Calls Tryz.prog 73 #[.pointer (some ⟨p, 0, none⟩), .agg (valA T N (.slice sa sn sc) K E (.slice ia il ic) (.slice la n lc))] w (SR p c w 0 (s.add B)) := by
  have h0 := SAt.start h (valA 12 N (.slice sa sn sc) K E (.slice ia il ic) (.slice la n lc))
  have hs := (S_putStruct p c hc w0 _ s 12 N K E (.slice sa sn sc) ia il ic la n lc us ids L hL hnm hil him hcell hids hE hput (hF.trans h0.fr) h0.I B hB hout).mono fun e Y hw => And.intro hw.1 (h0.next hw).done
  have hc7 := cell_at h0.box
  have c0 := hc7 0; have c1 := hc7 1; have c2 := hc7 2; have c3 := hc7 3; have c4 := hc7 4; have c5 := hc7 5; have c6 := hc7 6
  simp only [List.getElem?_toArray, List.getElem?_cons_zero, List.getElem?_cons_succ] at c0 c1 c2 c3 c4 c5 c6
  have d0 : (w.alloc (.cells (valA T N (.slice sa sn sc) K E (.slice ia il ic) (.slice la n lc)) TSVal (0, 0))).cell? ⟨w.heap.size, 0, none⟩ = some (.int .i64 T) := by rw [cell_at (alloc_new w _)]; rfl
  have ff := free_at (alloc_new w (.cells (valA T N (.slice sa sn sc) K E (.slice ia il ic) (.slice la n lc)) TSVal (0, 0))) 0
  have ha : bits .and .i64 T 255 = 12 := (and255 T).trans hT
  have HO := Lib.hid (show ∀ X, Calls Tryz.prog 106 #[.int .i64 12] X fun e w' => e = .returned (.int .i64 (-1)) ∧ X = w' from fun X => S_op 12 X)
  have HS := Lib.hid hs
  clear hs h0 hc7 hF h hput hE hcell hids hL hB hout hc hnm hil him hT
  go_enter Tryz.func73, Tryz.ntmps73
  go_wp2_with fail
  (with_reducible refine (HO.out _).mono ?_)
  rintro e w' ⟨rfl, rfl⟩
  go_wp2_with fail
  (with_reducible refine HS.out.mono ?_)
  rintro e Y ⟨rfl, hY⟩
  have HY := Lib.hid hY
  clear hY c0 c1 c2 c3 c4 c5 c6 d0 ff
  go_wp2
  go_ret
  exact HY.out

theorem S_put_other (p : Nat) (c : ConfV) (w : World) (s : SSt) (T N K E : Int) (vS vI vL : Value) (hT : sop (T % 256) = -1 ∧ T % 256 ≠ 12 ∧ T % 256 ≠ 13 ∧ T % 256 ≠ 14 ∧ T % 256 ≠ 15) (h : SwI p c w s) :
    Calls Tryz.prog 73 #[.pointer (some ⟨p, 0, none⟩), .agg (valA T N vS K E vI vL)] w (SR p c w 0 s) := by
  obtain ⟨hs, t12, t13, t14, t15⟩ := hT
  have ha : bits .and .i64 T 255 = T % 256 := and255 T
  obtain ⟨t, ht⟩ : ∃ t, t = T % 256 := ⟨_, rfl⟩
  rw [← ht] at ha hs t12 t13 t14 t15
  have n12 : (t == 12) = false := beq_eq_false_iff_ne.2 t12
  have n13 : (t == 13) = false := beq_eq_false_iff_ne.2 t13
  have n14 : (t == 14) = false := beq_eq_false_iff_ne.2 t14
  have n15 : (t == 15) = false := beq_eq_false_iff_ne.2 t15
  have h0 := SAt.start h (valA t N vS K E vI vL)
  have c0 : (w.alloc (.cells (valA t N vS K E vI vL) TSVal (0, 0))).cell? ⟨w.heap.size, 0, none⟩ = some (.int .i64 t) := by rw [cell_at h0.box]; rfl
  have d0 : (w.alloc (.cells (valA T N vS K E vI vL) TSVal (0, 0))).cell? ⟨w.heap.size, 0, none⟩ = some (.int .i64 T) := by rw [cell_at (alloc_new w _)]; rfl
  have ff := free_at (alloc_new w (.cells (valA T N vS K E vI vL) TSVal (0, 0))) 0
  have HO := Lib.hid (show ∀ X, Calls Tryz.prog 106 #[.int .i64 t] X fun e w' => e = .returned (.int .i64 (-1)) ∧ X = w' from fun X => by
    have := S_op t X
    rw [hs] at this
    exact this)
  have HD := Lib.hid h0.done
  clear h0 h hs ht t12 t13 t14 t15
  go_enter Tryz.func73, Tryz.ntmps73
  go_wp2_with fail
  (with_reducible refine (HO.out _).mono ?_)
  rintro e w' ⟨rfl, rfl⟩
  go_wp2
  go_ret
  exact HD.out

theorem S_put_sized (p : Nat) (c : ConfV) (hc : c.proto ≠ 1) : ∀ (m : Nat) (x : VT), SizeOf.sizeOf x ≤ m → x.small → SPutOK p c x := by
  intro m
  induction m with
  | zero =>
    intro x hx
    obtain ⟨T, N, Sb, K, E, ids, L⟩ := x
    simp at hx
  | succ m ih =>
    intro x hx hsm w0 v w s hV hF h hout
    obtain ⟨T, N, Sb, K, E, ids, L⟩ := x
    cases hsm with
    | mk hS hI hL hEl =>
    obtain ⟨vS, vI, vL, us, rfl, h1, h2, ⟨la, lc, rfl, hlc, hlm, hcell⟩, hE⟩ := hV.inv
    have hput : ∀ (j : Nat) x, L[j]? = some x → SPutOK p c x := fun j x hj => by
      have hlt := List.sizeOf_lt_of_mem (List.mem_of_getElem? hj)
      refine ih x ?_ (hEl j x hj)
      simp at hx
      omega
    obtain ⟨sa, sn, sc, rfl, -⟩ := h1.len
    obtain ⟨ia, il, ic, rfl, hil, _, _⟩ := h2.len
    by_cases hsc : 0 ≤ sop (T % 256)
    · obtain ⟨op, hw, hop⟩ := wops_scalar (N := N) (S := Sb) (K := K) (E := E) (ids := ids) (L := L) hsc (.slice sa sn sc)
      refine S_put_scalar p c hc w0 w s T N K E _ _ _ Sb h1 hS hsc hF h (by omega) _ ?_
      unfold VT.bytesB Stp.binB
      rw [hw, hop]
      simp
    · have hm1 : sop (T % 256) = -1 := by unfold sop at hsc ⊢; repeat' split at hsc; all_goals first | omega | (simp_all; done) | rfl
      have hns : T % 256 ≠ 2 ∧ T % 256 ≠ 3 ∧ T % 256 ≠ 4 ∧ T % 256 ≠ 6 ∧ T % 256 ≠ 8 ∧ T % 256 ≠ 10 ∧ T % 256 ≠ 11 ∧ T % 256 ≠ 16 := by
        refine ⟨?_, ?_, ?_, ?_, ?_, ?_, ?_, ?_⟩ <;> (intro e; rw [e] at hm1; revert hm1; decide)
      obtain ⟨t2, t3, t4, t6, t8, t10, t11, t16⟩ := hns
      unfold VT.bytesB at hout ⊢
      rw [VT.wops, if_neg t2, if_neg t3, if_neg t4, if_neg t6, if_neg t8, if_neg t10, if_neg t11, if_neg t16] at hout ⊢
      by_cases t12 : T % 256 = 12
      · rw [if_pos t12] at hout ⊢
        exact S_put12 p c hc w0 w s T N K E sa sn sc ia il ic la L.length lc us ids L t12 rfl hL hil (by omega) hcell h2 hE hput hF h _ rfl hout
      rw [if_neg t12] at hout ⊢
      by_cases t13 : T % 256 = 13
      · rw [if_pos t13] at hout ⊢
        exact S_put13 p c hc w0 w s T N K E _ _ la L.length lc (L.length / 2 * 2) (L.length / 2) us L rfl t13 hL rfl rfl hcell hE hput hF h _ (by simp [bytesAll, WOp.binB]) hout
      rw [if_neg t13] at hout ⊢
      by_cases t14 : T % 256 = 14
      · rw [if_pos t14] at hout ⊢
        exact S_put14 p c hc w0 w s T N K E _ _ la L.length lc L.length (L.length / 2) us L rfl t14 hL rfl rfl hcell hE hput hF h _ (by simp [bytesAll, WOp.binB]) hout
      rw [if_neg t14] at hout ⊢
      by_cases t15 : T % 256 = 15
      · rw [if_pos t15] at hout ⊢
        exact S_put15 p c hc w0 w s T N K E _ _ la L.length lc L.length (L.length / 2) us L rfl t15 hL rfl rfl hcell hE hput hF h _ (by simp [bytesAll, WOp.binB]) hout
      rw [if_neg t15]
      rw [show s.add (([] : List WOp).flatMap (WOp.binB c.strictW)) = s from SSt.add_nil s]
      exact S_put_other p c w s T N K E _ _ _ ⟨hm1, t12, t13, t14, t15⟩ h
theorem S_put_any (p : Nat) (c : ConfV) (hc : c.proto ≠ 1) (x : VT) (hx : x.small) : SPutOK p c x := S_put_sized p c hc (SizeOf.sizeOf x) x (Nat.le_refl _) hx

/-- What spec.Put returns. -/
def SPutR (w : World) (l : List UInt8) (k : Int) (e : Ending) (w' : World) : Prop := ∃ r, e = .returned (.tuple #[r, .int .i64 k]) ∧ Rd w' r l ∧ (∀ j, vblk r j → w.heap.size ≤ j) ∧ Fr noF noF w w'

theorem S_Put (c : ConfV) (hc : c.proto ≠ 1) (x : VT) (hx : x.small) (hb : (x.bytesB c.strictW).length ≤ 10000000000) (v : Value) (w : World) (hv : ValR w x v) : Calls Tryz.prog 76 #[c.val, v] w (SPutR w (x.bytesB c.strictW) 0) := by
  obtain ⟨sa, sn, sc, ia, il, ic, la, ll, lc, rfl⟩ := hv.sl
  have q3 := new3 w (.cells #[.int .i64 c.proto, .bool c.plain, .bool c.sr, .bool c.sw, .int .i32 c.msg, .int .i32 c.con, .int .i32 c.fra] 71 (0, 0)) (.cells (valA x.T x.N (.slice sa sn sc) x.K x.E (.slice ia il ic) (.slice la ll lc)) TSVal (0, 0)) (.cells (SwC c ⟨[], 0, [], false, 0, false⟩ (.slice none 0 0) (.slice none 0 0)) TSW (0, 0))
  have hf2 : Fr noF noF w ((w.alloc (.cells #[.int .i64 c.proto, .bool c.plain, .bool c.sr, .bool c.sw, .int .i32 c.msg, .int .i32 c.con, .int .i32 c.fra] 71 (0, 0))).alloc (.cells (valA x.T x.N (.slice sa sn sc) x.K x.E (.slice ia il ic) (.slice la ll lc)) TSVal (0, 0))) := ((Fr.refl noF w).alloc _).alloc _
  have hs2 : (((w.alloc (.cells #[.int .i64 c.proto, .bool c.plain, .bool c.sr, .bool c.sw, .int .i32 c.msg, .int .i32 c.con, .int .i32 c.fra] 71 (0, 0))).alloc (.cells (valA x.T x.N (.slice sa sn sc) x.K x.E (.slice ia il ic) (.slice la ll lc)) TSVal (0, 0)))).heap.size = w.heap.size + 1 + 1 := by simp
  obtain ⟨X, hX⟩ : ∃ X, X = ((w.alloc (.cells #[.int .i64 c.proto, .bool c.plain, .bool c.sr, .bool c.sw, .int .i32 c.msg, .int .i32 c.con, .int .i32 c.fra] 71 (0, 0))).alloc (.cells (valA x.T x.N (.slice sa sn sc) x.K x.E (.slice ia il ic) (.slice la ll lc)) TSVal (0, 0))).alloc (.cells (SwC c ⟨[], 0, [], false, 0, false⟩ (.slice none 0 0) (.slice none 0 0)) TSW (0, 0)) := ⟨_, rfl⟩
  have hfX : Fr noF noF w X := by rw [hX]; exact hf2.alloc _
  rw [← hX] at q3
  have hA : SwA (w.heap.size + 1 + 1) c X ⟨[], 0, [], false, 0, false⟩ (.slice none 0 0) (.slice none 0 0) := ⟨q3.2.2, ⟨rfl, Or.inl ⟨rfl, rfl⟩⟩, ⟨rfl, Or.inl ⟨rfl, rfl⟩⟩⟩
  have hI : SwI (w.heap.size + 1 + 1) c X ⟨[], 0, [], false, 0, false⟩ := ⟨_, _, hA⟩
  have hlow : ∀ k, SwF (w.heap.size + 1 + 1) X k → k = w.heap.size + 1 + 1 := fun k hk => by
    rcases hA.foot.1 hk with h | h | h
    · exact h
    · cases h
    · cases h
  have hp := (S_put_any (w.heap.size + 1 + 1) c hc x hx w _ X ⟨[], 0, [], false, 0, false⟩ hv (hfX.conv fun k hk h => by have := hlow k h; omega) hI (by simpa using hb)).mono (R' := fun e Y => e = .returned (.int .i64 0) ∧ ∃ ov, Y.cell? ⟨w.heap.size + 1 + 1, 7, none⟩ = some ov ∧ SPutR w (x.bytesB c.strictW) 0 (.returned (.tuple #[ov, .int .i64 0])) Y) (by
    rintro e Y ⟨rfl, ⟨ov, uv, hSw⟩, hf⟩
    have hge : ∀ k, SwF (w.heap.size + 1 + 1) Y k → w.heap.size ≤ k := fun k hk => by
      rcases Nat.lt_or_ge k X.heap.size with h | h
      · have := hlow k (hf.foot k h hk); omega
      · have := hfX.size; omega
    obtain ⟨oa, on, oc, rfl, -⟩ := hSw.out.rd.len
    refine ⟨rfl, _, hSw.cells.1, _, rfl, ?_, fun j hj => hge j (hSw.foot.2 (Or.inr (Or.inl ?_))), ⟨hf.os.trans hfX.os, hf.tape.trans hfX.tape, hf.output.trans hfX.output, Nat.le_trans hfX.size hf.size, fun k hk _ => (hf.keep k (by have := hfX.size; omega) fun h => by have := hlow k h; omega).trans (hfX.keep k hk fun x => x), fun _ _ h => h⟩⟩
    · simpa [SSt.add] using hSw.out.rd
    · cases oa with
      | none => cases hj
      | some a => cases on with
        | zero => cases hj
        | succ m => exact congrArg some hj)
  rw [hX] at hp q3
  have HP := Lib.hid hp
  have a0 := cell_at q3.1; have b0 := cell_at q3.2.1
  clear q3 hA hI hlow hfX hf2 hb hv hx hc hX hp
  go_enter Tryz.func76, Tryz.ntmps76
  go_wp2_with fail
  (with_reducible refine HP.out.mono ?_)
  rintro e Y ⟨rfl, ov, hc, hY⟩
  have HY := Lib.hid hY
  clear hY a0 b0
  go_wp2
  go_ret2
  exact HY.out
end Go.Proofs.YtoikkjefaakchaaGreatDoor
