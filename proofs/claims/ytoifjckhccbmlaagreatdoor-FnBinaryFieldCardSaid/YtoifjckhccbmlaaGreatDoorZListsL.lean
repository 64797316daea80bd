/- laws.lists: the begins of a list and of a set are these bytes, and are read back. -/
import Derived.Laws.OwnMore
import Derived.Test.YtoifjckhccbmlaaGreatDoorZLists
set_option linter.all false
namespace Go.Proofs.YtoifjckhccbmlaaGreatDoor
open Go Go.RowKit
set_option maxHeartbeats 4000000
set_option maxRecDepth 100000

theorem lst_alone (op : Int) (c : ConfV) (hc : c.proto ≠ 1) (t : Int) (n : Nat) (want rest : List UInt8) (h : (lstS op t n).binB c.strictW = want ∧ brun c (want ++ rest) [lstS op t n] = some ([({ t := t, sz := n } : GotD)], rest)) (hl : want.length + rest.length ≤ 1000000)
    (X : World) (wv rv : Value) (hw : Rd X wv want) (hr : Rd X rv rest) : Calls Tryz.prog 35 #[c.val, (lstS op t n).val, wv, rv, .agg (({ t := t, sz := n } : GotD).cells 0 (.slice none 0 0))] X fun e w' => e = .returned (.bool true) ∧ Fr noF noF X w' :=
  L_alone c hc (lstS op t n) wv rv (.slice none 0 0) want rest { t := t, sz := n } X hw hr (Or.inl ⟨rfl, rfl⟩) (Nat.zero_le _) (Or.inl ⟨rfl, rfl⟩) h.1 h.2 (by omega)

theorem zeros_rd {w : World} {base g m : Nat} (h : w.ownsRow base U8 1 (.slice (some ⟨g, 0, none⟩) m m) m (madeCells #[Value.int .u8 0] m).toList) : Rd w (.slice (some ⟨g, 0, none⟩) m m) (List.replicate m 0) := by
  rw [toList_madeCells_one] at h
  have h2 : OwnB w base (.slice (some ⟨g, 0, none⟩) m m) (List.replicate m 0) := by
    unfold OwnB
    rw [List.length_replicate]
    have : Lib.byteCells (List.replicate m 0) = List.replicate m (Value.int .u8 0) := by simp [Lib.byteCells]
    rw [this]
    exact h
  exact h2.rd

theorem L_lists (c : ConfV) (hc : c.proto ≠ 1) (hwide : Wide c) (hcon : c.con ≤ 2147483647) (t : Int) (ht : isTy t) (n : Nat) (hn : n ≤ 4096) (wv tv : Value) (tail : List UInt8) (w : World) (hwv : Rd w wv (b8 t :: be4 n)) (htv : Rd w tv tail) (hl : tail.length ≤ 65536) :
    Calls Tryz.prog 39 #[c.val, .int .i64 t, .int .i64 n, wv, tv] w fun e w' => e = .returned (.bool true) ∧ Fr noF noF w w' := by
  obtain ⟨i0, hi, hz0, hz1, hz2⟩ := info_parts info_u8
  obtain ⟨wa, wn, wc, rfl, -⟩ := hwv.len
  obtain ⟨ta, tn, tc, rfl, -⟩ := htv.len
  have hrl : (tail ++ List.replicate (16 * n) (0 : UInt8)).length ≤ 200000 := by rw [List.length_append, List.length_replicate]; omega
  have hwl : (b8 t :: be4 (n : Int)).length = 5 := by simp [be4_length]
  have h9 := lst9 hwide hcon t ht n hn (tail ++ List.replicate (16 * n) 0) (by rw [List.length_append, List.length_replicate]; omega) (by omega)
  have h11 := lst11 hwide hcon t ht n hn (tail ++ List.replicate (16 * n) 0) (by rw [List.length_append, List.length_replicate]; omega) (by omega)
  have ha9 := fun X rv hX hr => lst_alone 9 c hc t n _ _ h9 (by omega) X (.slice wa wn wc) rv (hwv.keep (F := noF) (F' := noF) hX fun _ _ x => x) hr
  have ha11 := fun X rv hX hr => lst_alone 11 c hc t n _ _ h11 (by omega) X (.slice wa wn wc) rv (hwv.keep (F := noF) (F' := noF) hX fun _ _ x => x) hr
  have hj : ∀ X g v, Fr noF noF w X → Rd X v (List.replicate (16 * n) (0 : UInt8)) → X.heap[g]? = some (.cells #[.slice ta tn tc, v] 23 (0, 0)) → Calls Tryz.prog 28 #[.slice (some ⟨g, 0, none⟩) 2 2] X (fun e w' => ∃ v, e = .returned v ∧ Rd w' v (tail ++ List.replicate (16 * n) 0) ∧ Fr noF noF X w') := fun X g v hX hv hg => by
    have r1 := htv.keep (F := noF) (F' := noF) hX fun _ _ x => x
    refine (L_joined g 2 [.slice ta tn tc, v] [tail, List.replicate (16 * n) 0] X (fun i v hv => by rw [cell_at hg]; simpa using hv) (fun i v l hv' hl' => by
      match i, hv', hl' with
      | 0, hv', hl' => simp at hv' hl'; subst hv' hl'; exact r1
      | 1, hv', hl' => simp at hv' hl'; subst hv' hl'; exact hv) rfl rfl (by decide) (fun l hl' => by simp at hl'; rcases hl' with rfl | rfl; omega; simp; omega) (fun k => by
        match k with
        | 0 => simp
        | 1 => simp; omega
        | k + 2 => simp; omega)).mono ?_
    rintro e w' ⟨v, rfl, ho, hf⟩
    exact ⟨v, rfl, by simpa using ho.rd, hf⟩
  have e16 : (16 : Int) * (n : Int) = ((16 * n : Nat) : Int) := by omega
  have HI := Lib.hid (And.intro hi (And.intro hz0 (And.intro hz1 (And.intro hz2 e16))))
  have q1 : (n : Int) ≤ 4096 := by omega
  obtain ⟨pr, pl, sr, sw, ms, co, fr⟩ := c
  have H9 := Lib.hid (show ∀ X rv, Fr noF noF w X → Rd X rv (tail ++ List.replicate (16 * n) 0) → Calls Tryz.prog 35 #[.agg #[.int .i64 pr, .bool pl, .bool sr, .bool sw, .int .i32 ms, .int .i32 co, .int .i32 fr], .agg #[.int .i64 9, .int .i64 t, .int .i64 0, .int .i64 n, .int .i64 0, .int .i64 0, .slice none 0 0], .slice wa wn wc, rv, .agg #[.int .i64 0, .int .i64 t, .int .i64 0, .int .i64 n, .int .i64 0, .int .i64 0, .slice none 0 0]] X (fun e w' => e = .returned (.bool true) ∧ Fr noF noF X w') from ha9)
  have H11 := Lib.hid (show ∀ X rv, Fr noF noF w X → Rd X rv (tail ++ List.replicate (16 * n) 0) → Calls Tryz.prog 35 #[.agg #[.int .i64 pr, .bool pl, .bool sr, .bool sw, .int .i32 ms, .int .i32 co, .int .i32 fr], .agg #[.int .i64 11, .int .i64 t, .int .i64 0, .int .i64 n, .int .i64 0, .int .i64 0, .slice none 0 0], .slice wa wn wc, rv, .agg #[.int .i64 0, .int .i64 t, .int .i64 0, .int .i64 n, .int .i64 0, .int .i64 0, .slice none 0 0]] X (fun e w' => e = .returned (.bool true) ∧ Fr noF noF X w') from ha11)
  have HJ := Lib.hid hj
  clear hi hz0 hz1 hz2 hwv htv hrl hwl h9 h11 ha9 ha11 hj e16 hc hwide hcon ht hn hl
  go_enter Tryz.func39, Tryz.ntmps39
  go_wp2_with (refine wpList_make_full _ rfl _ _ 23 rfl w.heap.size U8 i0 (.int .u8 0) 1 Tryz.underlying23 HI.out.1 HI.out.2.1 HI.out.2.2.1 .i64 .i64 _ _ (16 * n) rfl rfl HI.out.2.2.2.2 HI.out.2.2.2.2 (by rw [HI.out.2.2.2.1]; omega) (by unfold maxLen; omega) (by simp) ?_)
  intro W1 hown hgr
  have hf1 : Fr noF noF w W1 := ((Fr.refl noF w).alloc _).grown hgr (fun k hk => by cases hk)
  have hb1 : W1.heap[w.heap.size]? = some (.cells #[.int .i64 pr, .bool pl, .bool sr, .bool sw, .int .i32 ms, .int .i32 co, .int .i32 fr] 31 (0, 0)) := (hgr.block _ (by simp) (by simp)).trans (alloc_new w _)
  have hrd := zeros_rd hown
  have H1 := Lib.hid (And.intro hf1 (And.intro hb1 hrd))
  clear hf1 hb1 hrd hown hgr
  go_wp2_with fail
  (with_reducible refine (HJ.out _ W1.heap.size _ (H1.out.1.alloc _) (H1.out.2.2.keep (F := noF) (F' := noF) ((Fr.refl noF W1).alloc _) fun _ _ x => x) (alloc_new W1 _)).mono ?_)
  rintro e W2 ⟨jv, rfl, hjr, hf2⟩
  obtain ⟨ja, jn, jc, rfl, -⟩ := hjr.len
  have hbx := hf2.block (alloc_at H1.out.2.1) fun x => x
  have H2 := Lib.hid (And.intro ((H1.out.1.alloc _).trans hf2) (And.intro hbx hjr))
  have c0 := cell_at hbx 0; have c1 := cell_at hbx 1; have c2 := cell_at hbx 2; have c3 := cell_at hbx 3; have c4 := cell_at hbx 4; have c5 := cell_at hbx 5; have c6 := cell_at hbx 6
  simp only [List.getElem?_toArray, List.getElem?_cons_zero, List.getElem?_cons_succ] at c0 c1 c2 c3 c4 c5 c6
  have hlt : w.heap.size < W2.heap.size := lt_heap hbx
  clear hf2 hjr hbx
  go_wp2_with fail
  (with_reducible refine (H9.out _ _ (H2.out.1.alloc _) (H2.out.2.2.keep (F := noF) (F' := noF) ((Fr.refl noF W2).alloc _) fun _ _ x => x)).mono ?_)
  rintro e X ⟨rfl, hfx⟩
  have hbx := hfx.block (alloc_at H2.out.2.1) fun x => x
  have hgx := hfx.block (alloc_new W2 _) fun x => x
  have H3 := Lib.hid (And.intro ((H2.out.1.alloc _).trans hfx) (H2.out.2.2.keep (F := noF) (F' := noF) (((Fr.refl noF W2).alloc _).trans hfx) fun _ _ x => x))
  clear c0 c1 c2 c3 c4 c5 c6 hfx
  have c0 := cell_at hbx 0; have c1 := cell_at hbx 1; have c2 := cell_at hbx 2; have c3 := cell_at hbx 3; have c4 := cell_at hbx 4; have c5 := cell_at hbx 5; have c6 := cell_at hbx 6
  have g0 := cell_at hgx 0; have g1 := cell_at hgx 1; have g2 := cell_at hgx 2; have g3 := cell_at hgx 3; have g4 := cell_at hgx 4; have g5 := cell_at hgx 5; have g6 := cell_at hgx 6
  simp only [List.getElem?_toArray, List.getElem?_cons_zero, List.getElem?_cons_succ] at c0 c1 c2 c3 c4 c5 c6 g0 g1 g2 g3 g4 g5 g6
  clear hbx hgx
  go_wp2_with fail
  (with_reducible refine (H11.out _ _ H3.out.1 H3.out.2).mono ?_)
  rintro e X2 ⟨rfl, hfx⟩
  have H4 := Lib.hid (H3.out.1.trans hfx)
  clear c0 c1 c2 c3 c4 c5 c6 g0 g1 g2 g3 g4 g5 g6 hfx
  go_wp2
  go_ret
  exact ⟨rfl, H4.out⟩
end Go.Proofs.YtoifjckhccbmlaaGreatDoor
