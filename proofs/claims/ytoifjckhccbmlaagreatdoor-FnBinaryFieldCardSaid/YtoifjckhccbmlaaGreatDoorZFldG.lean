/- FnBinaryField: walked. -/
import Derived.Test.YtoifjckhccbmlaaGreatDoorZFld
import Derived.Test.YtoifjckhccbmlaaGreatDoorZ9
import Derived.Test.YtoifjckhccbmlaaGreatDoorZMapsG
set_option linter.all false
namespace Go.Proofs.YtoifjckhccbmlaaGreatDoor
open Go Go.RowKit
set_option maxHeartbeats 40000000
set_option maxRecDepth 100000
set_option linter.all false

theorem FnBinaryField_big (c : ConfV) (t id : Int) (tv : Value) (tail : List UInt8) (w : World) (ht : Rd w tv tail) (hl : 65536 < tail.length) : Calls Tryz.prog 9 #[c.val, .int .i64 t, .int .i64 id, tv] w fun e w' => e = .returned (.bool true) ∧ Fr noF noF w w' := by
  obtain ⟨ta, tn, tc, rfl, htn⟩ := ht.len
  have HK := Lib.hid L_known
  obtain ⟨pr, pl, sr, sw, ms, co, fr⟩ := c
  have q0 : (65536 : Int) < (tn : Int) := by omega
  have hf0 := (Fr.refl noF w).alloc (.cells #[.int .i64 pr, .bool pl, .bool sr, .bool sw, .int .i32 ms, .int .i32 co, .int .i32 fr] 31 (0, 0))
  have HF := Lib.hid hf0
  clear ht hl htn hf0
  rcases Int.lt_or_le 2147483647 (tn : Int) with q1 | q1
  · go_enter Tryz.func9, Tryz.ntmps9
    go_wp2
    go_ret
    exact ⟨rfl, HF.out⟩
  · have q2 : ¬ (2147483647 : Int) < (tn : Int) := by omega
    go_enter Tryz.func9, Tryz.ntmps9
    go_wp2_with fail
    (with_reducible refine (HK.out _).mono ?_)
    rintro e w1 ⟨rfl, hf⟩
    have HX := Lib.hid hf
    clear hf
    go_wp2
    go_ret
    exact ⟨rfl, HF.out.trans HX.out⟩
theorem FnBinaryField_zero (c : ConfV) (t id : Int) (tv : Value) (tail : List UInt8) (w : World) (ht : Rd w tv tail) (hl : tail.length ≤ 65536) (ht0 : t % 256 = 0) : Calls Tryz.prog 9 #[c.val, .int .i64 t, .int .i64 id, tv] w fun e w' => e = .returned (.bool true) ∧ Fr noF noF w w' := by
  obtain ⟨ta, tn, tc, rfl, htn⟩ := ht.len
  have HK := Lib.hid L_known
  obtain ⟨pr, pl, sr, sw, ms, co, fr⟩ := c
  have q0 : ¬ (65536 : Int) < (tn : Int) := by omega
  have q1 : ¬ (2147483647 : Int) < (tn : Int) := by omega
  have hf0 := (Fr.refl noF w).alloc (.cells #[.int .i64 pr, .bool pl, .bool sr, .bool sw, .int .i32 ms, .int .i32 co, .int .i32 fr] 31 (0, 0))
  have HF := Lib.hid hf0
  clear ht hl htn hf0
  go_enter Tryz.func9, Tryz.ntmps9
  go_wp2_with fail
  (with_reducible refine (HK.out _).mono ?_)
  rintro e w1 ⟨rfl, hf⟩
  have HX := Lib.hid hf
  clear hf
  go_wp2
  go_ret
  exact ⟨rfl, HF.out.trans HX.out⟩

theorem FnBinaryField_main (c : ConfV) (t id : Int) (tv : Value) (tail : List UInt8) (w : World) (ht : Rd w tv tail) (hl : tail.length ≤ 65536) (ht0 : t % 256 ≠ 0) (hid64 : -9223372036854775808 ≤ id ∧ id ≤ 9223372036854775807) : Calls Tryz.prog 9 #[c.val, .int .i64 t, .int .i64 id, tv] w fun e w' => e = .returned (.bool true) ∧ Fr noF noF w w' := by
  obtain ⟨ta, tn, tc, rfl, htn⟩ := ht.len
  subst htn
  have HK := Lib.hid L_known
  have HY := Lib.hid (L_by 0 c)
  have HE := Lib.hid (show ∀ X v1 v2 l, Rd X v1 l → Rd X v2 l → Calls Tryz.prog 25 #[v1, v2] X (fun e Z => e = .returned (.bool true) ∧ Fr noF noF X Z) from fun X v1 v2 l h1 h2 => (L_equal v1 v2 l l X h1 h2).mono fun e w' ⟨he, q, hw⟩ => by
    subst hw
    rw [decide_eq_true rfl] at he
    exact ⟨he, (Fr.refl noF X).drewN q⟩)
  have HOK := Lib.hid L_isOK1
  have hwrite : ∀ X g, X.heap[g]? = some (.cells stopS.cells 54 (0, 0)) → Calls Tryz.prog 31 #[({ c with proto := 0 } : ConfV).val, .slice (some ⟨g, 0, none⟩) 1 1] X (fun e w' => ∃ ba bn bc kg kc, e = .returned (.tuple #[.slice ba bn bc, .slice (some ⟨kg, 0, none⟩) 1 kc]) ∧ Rd w' (.slice ba bn bc) [0] ∧ w'.cell? ⟨kg, 0, none⟩ = some (.int .i64 0) ∧ Fr noF noF X w') := fun X g hg =>
    (I_Write_B { c with proto := 0 } (show (0 : Int) ≠ 1 by decide) (.slice (some ⟨g, 0, none⟩) 1 1) [stopS] X (RdS_one hg rfl (Or.inl ⟨rfl, rfl⟩) (Nat.zero_le _)) (by simp) (by show 1 ≤ LIM; unfold LIM; omega)).mono fun e w' ⟨bv, kv, he, h1, _, h3, h4⟩ => by
      obtain ⟨ba, bn, bc, rfl, -⟩ := h1.len
      obtain ⟨kg, kc, rfl, h5⟩ := OwnI.one h3
      exact ⟨ba, bn, bc, kg, kc, he, h1, h5, h4⟩
  have hread : ∀ X v g, Rd X v ([0] ++ tail) → X.heap[g]? = some (.cells (fldS 0 0).cells 54 (0, 0)) → Calls Tryz.prog 32 #[({ c with proto := 0 } : ConfV).val, v, .slice (some ⟨g, 0, none⟩) 1 1] X (fun e w' => ∃ gg gc u, e = .returned (.tuple #[.slice (some ⟨gg, 0, none⟩) 1 gc, .int .i64 tail.length]) ∧ w'.cell? ⟨gg, 0, none⟩ = some (.int .i64 0) ∧ w'.cell? ⟨gg, 1, none⟩ = some (.int .i64 0) ∧ u = gg ∧ Fr noF noF X w') := fun X v g hv hg =>
    (I_Read_B { c with proto := 0 } (show (0 : Int) ≠ 1 by decide) v _ [fldS 0 0] ([0] ++ tail) [{}] tail X hv (RdS_one hg rfl (Or.inl ⟨rfl, rfl⟩) (Nat.zero_le _)) (by simp) (by rw [List.length_append]; unfold LIM; simp; omega) (fld_stop _ tail)).mono fun e w' ⟨gv, he, h1, h2⟩ => by
      obtain ⟨vs, hvl, hown, hea⟩ := h1
      match vs, hvl with
      | [u], _ =>
        rcases hown.2 with ⟨_, h0⟩ | ⟨gg, cap, cur, rfl, _, hgg, _⟩
        · cases h0
        · have hc := hown.cells (g := gg) rfl
          have d0 := hc 0 _ rfl
          have d1 := hc 1 _ rfl
          rw [Lib.addr_add] at d0 d1
          exact ⟨gg, cap, gg, he, d0, d1, rfl, h2⟩
  have hfb := fld_begin { c with proto := 0 } t id ht0 tail
  have hal : ∀ X wv, Fr noF noF w X → Rd X wv (b8 t :: be2 id) → Calls Tryz.prog 35 #[({ c with proto := 0 } : ConfV).val, (fldS t id).val, wv, .slice ta tail.length tc, .agg (({ t := IntKind.u8.wrap t, id := IntKind.i16.wrap id } : GotD).cells 0 (.slice none 0 0))] X fun e w' => e = .returned (.bool true) ∧ Fr noF noF X w' := fun X wv hX hr =>
    L_alone { c with proto := 0 } (show (0 : Int) ≠ 1 by decide) (fldS t id) wv (.slice ta tail.length tc) (.slice none 0 0) _ tail { t := IntKind.u8.wrap t, id := IntKind.i16.wrap id } X hr (ht.keep hX fun _ _ x => x) (Or.inl ⟨rfl, rfl⟩) (Nat.zero_le _) (Or.inl ⟨rfl, rfl⟩) hfb.1 hfb.2 (by simp only [List.length_cons, be2_length]; omega)
  have hg : ∀ X, Calls Tryz.prog 36 #[.int .i64 id, .int .i64 2] X (fun e w' => ∃ a n c, e = .returned (.slice a n c) ∧ Rd w' (.slice a n c) (be2 id) ∧ Fr noF noF X w') := fun X => by
    have := L_big id 2 (by decide) X
    rw [bigB_2] at this
    exact this.mono fun e w' ⟨v, he, ho, hf⟩ => by
      obtain ⟨a, n, c, rfl, -⟩ := ho.rd.len
      exact ⟨a, n, c, he, ho.rd, hf⟩
  have hj1 := fun (X : World) (g : Nat) (a1 : Option Addr) (n1 c1 : Nat) => joined2 [0] tail (by simp) (by omega) (X := X) (g := g) (a1 := a1) (n1 := n1) (c1 := c1) (a2 := ta) (n2 := tail.length) (c2 := tc)
  have hj2 : ∀ (X : World) (g : Nat) (a1 : Option Addr) (n1 c1 : Nat) (a2 : Option Addr) (n2 c2 : Nat), X.heap[g]? = some (.cells #[.slice a1 n1 c1, .slice a2 n2 c2] 23 (0, 0)) → Rd X (.slice a1 n1 c1) [b8 t] → Rd X (.slice a2 n2 c2) (be2 id) →
      Calls Tryz.prog 28 #[.slice (some ⟨g, 0, none⟩) 2 2] X (fun e w' => ∃ a n' c, e = .returned (.slice a n' c) ∧ Rd w' (.slice a n' c) (b8 t :: be2 id) ∧ Fr noF noF X w') := fun X g a1 n1 c1 a2 n2 c2 => joined2 [b8 t] (be2 id) (by simp) (by rw [be2_length]; decide)
  have HW := Lib.hid hwrite
  have HR := Lib.hid hread
  have HG := Lib.hid hg
  have HJ1 := Lib.hid hj1
  have HJ2 := Lib.hid hj2
  obtain ⟨pr, pl, sr, sw, ms, co, fr⟩ := c
  have HAl := Lib.hid (show ∀ X wv, Fr noF noF w X → Rd X wv (b8 t :: be2 id) → Calls Tryz.prog 35 #[.agg #[.int .i64 0, .bool pl, .bool sr, .bool sw, .int .i32 ms, .int .i32 co, .int .i32 fr], .agg #[.int .i64 4, .int .i64 t, .int .i64 0, .int .i64 0, .int .i64 id, .int .i64 0, .slice none 0 0], wv, .slice ta tail.length tc, .agg #[.int .i64 0, .int .i64 (IntKind.u8.wrap t), .int .i64 0, .int .i64 0, .int .i64 (IntKind.i16.wrap id), .int .i64 0, .slice none 0 0]] X (fun e w' => e = .returned (.bool true) ∧ Fr noF noF X w') from hal)
  have q0 : ¬ (65536 : Int) < (tail.length : Int) := by omega
  have q1 : ¬ (2147483647 : Int) < (tail.length : Int) := by omega
  have k0 : (t % 256 == 0) = false := beq_eq_false_iff_ne.2 ht0
  have u1 : IntKind.i64.wrap (IntKind.u8.wrap t) = IntKind.u8.wrap t := by rw [show IntKind.u8.wrap t = t % 256 from IntKind.wrap_u8 t, w64]; unfold wrap64; omega
  have u2 : IntKind.i64.wrap (IntKind.i16.wrap id) = IntKind.i16.wrap id := by rw [wrap_i16, w64]; unfold wrap64; omega
  have HTL := Lib.hid ht
  clear hwrite hread hfb hal hg hj1 hj2 hl hid64 ht
  go_enter Tryz.func9, Tryz.ntmps9
  have n1 := alloc_new w (.cells #[.int .i64 pr, .bool pl, .bool sr, .bool sw, .int .i32 ms, .int .i32 co, .int .i32 fr] 31 (0, 0))
  have hf0 := (Fr.refl noF w).alloc (.cells #[.int .i64 pr, .bool pl, .bool sr, .bool sw, .int .i32 ms, .int .i32 co, .int .i32 fr] 31 (0, 0))
  have H1 := Lib.hid (And.intro hf0 n1)
  clear n1 hf0
  go_wp2_with fail
  refine (HY.out _).mono ?_
  rintro e w2 ⟨rfl, hf⟩
  have hbx := hf.block H1.out.2 fun x => x
  have hby7 := store7_at hbx (.int .i64 0) (.bool pl) (.bool sr) (.bool sw) (.int .i32 ms) (.int .i32 co) (.int .i32 fr)
  have hfW : Fr noF noF w (store7 w2 w.heap.size (.int .i64 0) (.bool pl) (.bool sr) (.bool sw) (.int .i32 ms) (.int .i32 co) (.int .i32 fr)) := store7_fr (H1.out.1.trans hf) (Or.inr (Nat.le_refl _)) (.int .i64 0) (.bool pl) (.bool sr) (.bool sw) (.int .i32 ms) (.int .i32 co) (.int .i32 fr)
  have c0 := cell_at hbx 0; have c1 := cell_at hbx 1; have c2 := cell_at hbx 2; have c3 := cell_at hbx 3; have c4 := cell_at hbx 4; have c5 := cell_at hbx 5; have c6 := cell_at hbx 6; have ff := free_at hbx
  simp only [List.getElem?_toArray, List.getElem?_cons_zero, List.getElem?_cons_succ] at c0 c1 c2 c3 c4 c5 c6
  have hs7 : ∀ X : World, X.heap[w.heap.size]? = some (.cells #[.int .i64 0, .bool pl, .bool sr, .bool sw, .int .i32 ms, .int .i32 co, .int .i32 fr] 31 (0, 0)) → (X.cell? ⟨w.heap.size, 0, none⟩ = some (.int .i64 0) ∧ X.cell? ⟨w.heap.size, 1, none⟩ = some (.bool pl) ∧ X.cell? ⟨w.heap.size, 2, none⟩ = some (.bool sr) ∧ X.cell? ⟨w.heap.size, 3, none⟩ = some (.bool sw) ∧ X.cell? ⟨w.heap.size, 4, none⟩ = some (.int .i32 ms) ∧ X.cell? ⟨w.heap.size, 5, none⟩ = some (.int .i32 co) ∧ X.cell? ⟨w.heap.size, 6, none⟩ = some (.int .i32 fr)) := fun X hX => ⟨by rw [cell_at hX]; rfl, by rw [cell_at hX]; rfl, by rw [cell_at hX]; rfl, by rw [cell_at hX]; rfl, by rw [cell_at hX]; rfl, by rw [cell_at hX]; rfl, by rw [cell_at hX]; rfl⟩
  obtain ⟨V, hV⟩ : ∃ V, V = (store7 w2 w.heap.size (.int .i64 0) (.bool pl) (.bool sr) (.bool sw) (.int .i32 ms) (.int .i32 co) (.int .i32 fr)) := ⟨_, rfl⟩
  rw [← hV] at hfW hby7
  unfold store7 at hV
  have HS7 := Lib.hid hs7
  have HV := Lib.hid hV
  clear hs7 hf hbx hV
  go_upto_region 6 with fail
  rw [← HV.out]
  clear c0 c1 c2 c3 c4 c5 c6 ff
  have s0 := HS7.out _ hby7
  go_wp2_with fail
  (with_reducible refine (HW.out _ _ (alloc_new _ _)).mono ?_)
  rintro e Y ⟨ba, bn, bc, kg, kc, rfl, hb, hk, hfy⟩
  have hVY : Fr noF noF V Y := ((Fr.refl noF V).alloc _).trans hfy
  have hwY := hfW.trans hVY
  have hYb := hVY.block hby7 fun x => x
  have htY : Rd Y (.slice ta tail.length tc) tail := HTL.out.keep hwY fun _ _ x => x
  have HB := Lib.hid hb
  have HKK := Lib.hid hk
  clear s0 hb hk hfy hVY hby7 hfW
  have hbY := HB.out
  have s0 := HS7.out _ (drew_at hYb)
  go_wp2_with fail
  go_region_held3 (fun w' => w'.cell? ⟨w.heap.size, 0, none⟩ = some (.int .i64 0) ∧ w'.cell? ⟨w.heap.size, 1, none⟩ = some (.bool pl) ∧ w'.cell? ⟨w.heap.size, 2, none⟩ = some (.bool sr) ∧ w'.cell? ⟨w.heap.size, 3, none⟩ = some (.bool sw) ∧ w'.cell? ⟨w.heap.size, 4, none⟩ = some (.int .i32 ms) ∧ w'.cell? ⟨w.heap.size, 5, none⟩ = some (.int .i32 co) ∧ w'.cell? ⟨w.heap.size, 6, none⟩ = some (.int .i32 fr)) (first | with_reducible assumption | ((with_reducible refine HS7.out _ ?_); (focus ((repeat (first | with_reducible assumption | with_reducible exact alloc_new _ _ | ((with_reducible refine alloc_newE ?_); (first | with_reducible rfl | (simp; done))) | with_reducible refine alloc_at ?_ | with_reducible refine drew_at ?_ | with_reducible refine Fr.block (F := noF) (F' := noF) (by with_reducible assumption) ?_ (fun x => x) | fail)); done))) | fail) (first | ((with_reducible refine (HJ1.out _ _ ?_ ?_ ?_ ?_ ?_ ?_).mono ?_); (rotate_left 3); (focus ((repeat (first | with_reducible assumption | with_reducible exact alloc_new _ _ | ((with_reducible refine alloc_newE ?_); (first | with_reducible rfl | (simp; done))) | with_reducible refine alloc_at ?_ | with_reducible refine drew_at ?_ | with_reducible refine Fr.block (F := noF) (F' := noF) (by with_reducible assumption) ?_ (fun x => x) | fail)); done)); (focus ((repeat (first | with_reducible assumption | with_reducible refine Rd.keep (F := noF) (F' := noF) ?_ (Fr.alloc (Fr.refl noF _) _) (fun _ _ x => x) | with_reducible refine Rd.keep (F := noF) (F' := noF) ?_ (Fr.drew (Fr.refl noF _)) (fun _ _ x => x) | with_reducible refine Rd.keep (F := noF) (F' := noF) ?_ (by with_reducible assumption) (fun _ _ x => x) | fail)); done)); (focus ((repeat (first | with_reducible assumption | with_reducible refine Rd.keep (F := noF) (F' := noF) ?_ (Fr.alloc (Fr.refl noF _) _) (fun _ _ x => x) | with_reducible refine Rd.keep (F := noF) (F' := noF) ?_ (Fr.drew (Fr.refl noF _)) (fun _ _ x => x) | with_reducible refine Rd.keep (F := noF) (F' := noF) ?_ (by with_reducible assumption) (fun _ _ x => x) | fail)); done)); rintro e J ⟨ja, jn, jc, rfl, hrj, hfj⟩; have sj := HS7.out J (by (focus ((repeat (first | with_reducible assumption | with_reducible exact alloc_new _ _ | ((with_reducible refine alloc_newE ?_); (first | with_reducible rfl | (simp; done))) | with_reducible refine alloc_at ?_ | with_reducible refine drew_at ?_ | with_reducible refine Fr.block (F := noF) (F' := noF) (by with_reducible assumption) ?_ (fun x => x) | fail)); done)))) | ((with_reducible refine (HR.out _ _ _ ?_ ?_).mono ?_); (focus ((repeat (first | with_reducible assumption | with_reducible refine Rd.keep (F := noF) (F' := noF) ?_ (Fr.alloc (Fr.refl noF _) _) (fun _ _ x => x) | with_reducible refine Rd.keep (F := noF) (F' := noF) ?_ (Fr.drew (Fr.refl noF _)) (fun _ _ x => x) | with_reducible refine Rd.keep (F := noF) (F' := noF) ?_ (by with_reducible assumption) (fun _ _ x => x) | fail)); done)); (focus ((repeat (first | with_reducible assumption | with_reducible exact alloc_new _ _ | ((with_reducible refine alloc_newE ?_); (first | with_reducible rfl | (simp; done))) | with_reducible refine alloc_at ?_ | with_reducible refine drew_at ?_ | with_reducible refine Fr.block (F := noF) (F' := noF) (by with_reducible assumption) ?_ (fun x => x) | fail)); done)); rintro e Q ⟨gg, gc, u, rfl, hg0, hg1, -, hfq⟩; have sq := HS7.out Q (by (focus ((repeat (first | with_reducible assumption | with_reducible exact alloc_new _ _ | ((with_reducible refine alloc_newE ?_); (first | with_reducible rfl | (simp; done))) | with_reducible refine alloc_at ?_ | with_reducible refine drew_at ?_ | with_reducible refine Fr.block (F := noF) (F' := noF) (by with_reducible assumption) ?_ (fun x => x) | fail)); done)))) | fail)
  all_goals
    have hYQ : Fr noF noF Y Q := by (focus ((repeat (first | with_reducible exact Fr.refl _ _ | with_reducible assumption | with_reducible refine Fr.alloc ?_ _ | with_reducible refine Fr.drew ?_ | with_reducible refine Fr.drewN ?_ _ | with_reducible refine Fr.trans (F' := noF) ?_ (by with_reducible assumption) | fail)); done))
    have hQb := hYQ.block hYb fun x => x
    have hwQ := hwY.trans hYQ
    have hbQ : Rd (Q.alloc (.cells #[.int .u8 0] U8 (0, 0))) (.slice ba bn bc) [0] := HB.out.keep (F := noF) (F' := noF) (hYQ.alloc _) fun _ _ x => x
    have hzQ : Rd (Q.alloc (.cells #[.int .u8 0] U8 (0, 0))) (.slice (some ⟨Q.heap.size, 0, none⟩) 1 1) [0] := own_byte (u := 0) rfl (alloc_new Q _)
    have HEQ := Lib.hid (HE.out _ _ _ _ hbQ hzQ)
    have hkQ : ∀ Z, Fr noF noF Q Z → Z.cell? ⟨kg, 0, none⟩ = some (.int .i64 0) ∧ Z.cell? ⟨gg, 0, none⟩ = some (.int .i64 0) ∧ Z.cell? ⟨gg, 1, none⟩ = some (.int .i64 0) ∧ Z.heap[w.heap.size]? = some (.cells #[.int .i64 0, .bool pl, .bool sr, .bool sw, .int .i32 ms, .int .i32 co, .int .i32 fr] 31 (0, 0)) ∧ Fr noF noF w Z := fun Z hZ => ⟨(hYQ.trans hZ).cell HKK.out fun x => x, hZ.cell hg0 fun x => x, hZ.cell hg1 fun x => x, hZ.block hQb fun x => x, hwQ.trans hZ⟩
    have HKQ := Lib.hid hkQ
    clear hYQ hQb hwQ hbQ hzQ hkQ hg0 hg1 hfj hfq hrj sj sq s0 htY hbY hYb hwY
    go_wp2_with fail
    (with_reducible refine HEQ.out.mono ?_)
    rintro e Z ⟨rfl, hfz⟩
    obtain ⟨z0, z1, z2, hZb, hwZ⟩ := HKQ.out Z (((Fr.refl noF Q).alloc _).trans hfz)
    clear hfz
    go_wp2_with fail
    (with_reducible refine (HOK.out kg kc Z z0).mono ?_)
    rintro e Z' ⟨rfl, rfl⟩
    have s0 := HS7.out _ (drew_at hZb)
    go_wp2_with fail
    go_region_held3 (fun w' => w'.cell? ⟨w.heap.size, 0, none⟩ = some (.int .i64 0) ∧ w'.cell? ⟨w.heap.size, 1, none⟩ = some (.bool pl) ∧ w'.cell? ⟨w.heap.size, 2, none⟩ = some (.bool sr) ∧ w'.cell? ⟨w.heap.size, 3, none⟩ = some (.bool sw) ∧ w'.cell? ⟨w.heap.size, 4, none⟩ = some (.int .i32 ms) ∧ w'.cell? ⟨w.heap.size, 5, none⟩ = some (.int .i32 co) ∧ w'.cell? ⟨w.heap.size, 6, none⟩ = some (.int .i32 fr)) (first | with_reducible assumption | ((with_reducible refine HS7.out _ ?_); (focus ((repeat (first | with_reducible assumption | with_reducible exact alloc_new _ _ | ((with_reducible refine alloc_newE ?_); (first | with_reducible rfl | (simp; done))) | with_reducible refine alloc_at ?_ | with_reducible refine drew_at ?_ | with_reducible refine Fr.block (F := noF) (F' := noF) (by with_reducible assumption) ?_ (fun x => x) | fail)); done))) | fail) (first | ((with_reducible refine (HG.out _).mono ?_); rintro e G ⟨ga, gn, gc', rfl, hrg, hfg⟩; have sg := HS7.out G (by (focus ((repeat (first | with_reducible assumption | with_reducible exact alloc_new _ _ | ((with_reducible refine alloc_newE ?_); (first | with_reducible rfl | (simp; done))) | with_reducible refine alloc_at ?_ | with_reducible refine drew_at ?_ | with_reducible refine Fr.block (F := noF) (F' := noF) (by with_reducible assumption) ?_ (fun x => x) | fail)); done)))) | ((with_reducible refine (HJ2.out _ _ ?_ ?_ ?_ ?_ ?_ ?_ ?_ ?_ ?_).mono ?_); (rotate_left 6); (focus ((repeat (first | with_reducible assumption | with_reducible exact alloc_new _ _ | ((with_reducible refine alloc_newE ?_); (first | with_reducible rfl | (simp; done))) | with_reducible refine alloc_at ?_ | with_reducible refine drew_at ?_ | with_reducible refine Fr.block (F := noF) (F' := noF) (by with_reducible assumption) ?_ (fun x => x) | fail)); done)); ((with_reducible refine own_byte (u8_wrap_b8 t) ?_); (focus ((repeat (first | with_reducible assumption | with_reducible exact alloc_new _ _ | ((with_reducible refine alloc_newE ?_); (first | with_reducible rfl | (simp; done))) | with_reducible refine alloc_at ?_ | with_reducible refine drew_at ?_ | with_reducible refine Fr.block (F := noF) (F' := noF) (by with_reducible assumption) ?_ (fun x => x) | fail)); done))); (focus ((repeat (first | with_reducible assumption | with_reducible refine Rd.keep (F := noF) (F' := noF) ?_ (Fr.alloc (Fr.refl noF _) _) (fun _ _ x => x) | with_reducible refine Rd.keep (F := noF) (F' := noF) ?_ (Fr.drew (Fr.refl noF _)) (fun _ _ x => x) | with_reducible refine Rd.keep (F := noF) (F' := noF) ?_ (by with_reducible assumption) (fun _ _ x => x) | fail)); done)); rintro e J ⟨ja, jn, jc, rfl, hrj, hfj⟩; have sj := HS7.out J (by (focus ((repeat (first | with_reducible assumption | with_reducible exact alloc_new _ _ | ((with_reducible refine alloc_newE ?_); (first | with_reducible rfl | (simp; done))) | with_reducible refine alloc_at ?_ | with_reducible refine drew_at ?_ | with_reducible refine Fr.block (F := noF) (F' := noF) (by with_reducible assumption) ?_ (fun x => x) | fail)); done)))) | ((with_reducible refine (HAl.out _ _ ?_ ?_).mono ?_); (focus ((repeat (first | with_reducible exact Fr.refl _ _ | with_reducible assumption | with_reducible refine Fr.alloc ?_ _ | with_reducible refine Fr.drew ?_ | with_reducible refine Fr.drewN ?_ _ | with_reducible refine Fr.trans (F' := noF) ?_ (by with_reducible assumption) | fail)); done)); (focus ((repeat (first | with_reducible assumption | with_reducible refine Rd.keep (F := noF) (F' := noF) ?_ (Fr.alloc (Fr.refl noF _) _) (fun _ _ x => x) | with_reducible refine Rd.keep (F := noF) (F' := noF) ?_ (Fr.drew (Fr.refl noF _)) (fun _ _ x => x) | with_reducible refine Rd.keep (F := noF) (F' := noF) ?_ (by with_reducible assumption) (fun _ _ x => x) | fail)); done)); rintro e A ⟨rfl, hfa⟩; have sa := HS7.out A (by (focus ((repeat (first | with_reducible assumption | with_reducible exact alloc_new _ _ | ((with_reducible refine alloc_newE ?_); (first | with_reducible rfl | (simp; done))) | with_reducible refine alloc_at ?_ | with_reducible refine drew_at ?_ | with_reducible refine Fr.block (F := noF) (F' := noF) (by with_reducible assumption) ?_ (fun x => x) | fail)); done)))) | ((with_reducible refine (HK.out _).mono ?_); rintro e B ⟨rfl, hfb⟩; have sb := HS7.out B (by (focus ((repeat (first | with_reducible assumption | with_reducible exact alloc_new _ _ | ((with_reducible refine alloc_newE ?_); (first | with_reducible rfl | (simp; done))) | with_reducible refine alloc_at ?_ | with_reducible refine drew_at ?_ | with_reducible refine Fr.block (F := noF) (F' := noF) (by with_reducible assumption) ?_ (fun x => x) | fail)); done)))) | fail)
    all_goals have HF := Lib.hid (show Fr noF noF w B by (focus ((repeat (first | with_reducible exact Fr.refl _ _ | with_reducible assumption | with_reducible refine Fr.alloc ?_ _ | with_reducible refine Fr.drew ?_ | with_reducible refine Fr.drewN ?_ _ | with_reducible refine Fr.trans (F' := noF) ?_ (by with_reducible assumption) | fail)); done)))
    all_goals clear hfb hfa hfj hfg hwZ s0 sg sj sa sb z0 z1 z2
    all_goals go_wp2
    all_goals go_ret
    all_goals exact ⟨rfl, HF.out⟩

theorem L_FnBinaryField (c : ConfV) (t id : Int) (tv : Value) (tail : List UInt8) (w : World) (hid64 : -9223372036854775808 ≤ id ∧ id ≤ 9223372036854775807) (ht : Rd w tv tail) : Calls Tryz.prog 9 #[c.val, .int .i64 t, .int .i64 id, tv] w fun e w' => e = .returned (.bool true) ∧ Fr noF noF w w' := by
  rcases Nat.lt_or_ge 65536 tail.length with h | h
  · exact FnBinaryField_big c t id tv tail w ht h
  · by_cases h0 : t % 256 = 0
    · exact FnBinaryField_zero c t id tv tail w ht h h0
    · exact FnBinaryField_main c t id tv tail w ht h h0 hid64
end Go.Proofs.YtoifjckhccbmlaaGreatDoor
