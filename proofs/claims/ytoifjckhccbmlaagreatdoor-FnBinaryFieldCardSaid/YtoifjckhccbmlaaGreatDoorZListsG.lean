/- FnBinaryLists: walked, where the begins are written and read. -/
import Derived.Test.YtoifjckhccbmlaaGreatDoorZListsF
set_option linter.all false
namespace Go.Proofs.YtoifjckhccbmlaaGreatDoor
open Go Go.RowKit
set_option maxHeartbeats 40000000
set_option maxRecDepth 100000

theorem Rd_byte0 (W : World) (N : Nat) (hN : W.heap.size = N) (u : UInt8) (y : Int) (hy : y = u.toNat) : Rd (W.alloc (.cells #[.int .u8 y] U8 (0, 0))) (.slice (some ⟨N, 0, none⟩) 1 1) [u] := Rd_byte W N hN u y hy

theorem FnBinaryLists_main (c : ConfV) (hcon : c.con ≤ 2147483647) (t : Int) (hty : isTy t) (n : Nat) (hn : n ≤ 4096) (tv : Value) (tail : List UInt8) (w : World) (ht : Rd w tv tail) (hl : tail.length ≤ 65536) : Calls Tryz.prog 10 #[c.val, .int .i64 t, .int .u16 n, tv] w fun e w' => e = .returned (.bool true) ∧ Fr noF noF w w' := by
  obtain ⟨ta, tn, tc, rfl, htn⟩ := ht.len
  have HK := Lib.hid L_known
  have HT := Lib.hid (L_isType_yes t hty)
  have HY := Lib.hid (L_by 0 c)
  have HW := Lib.hid (L_isWide c)
  have hls : Wide c → ∀ X wv, Fr noF noF w X → Rd X wv (b8 t :: be4 n) → Calls Tryz.prog 39 #[({ c with proto := 0 } : ConfV).val, .int .i64 t, .int .i64 n, wv, .slice ta tn tc] X (fun e w' => e = .returned (.bool true) ∧ Fr noF noF X w') := fun hw X wv hX hr =>
    L_lists { c with proto := 0 } (show (0 : Int) ≠ 1 by decide) hw hcon t hty n hn wv _ tail X hr (ht.keep hX fun _ _ x => x) hl
  have hg : ∀ X, Calls Tryz.prog 36 #[.int .i64 n, .int .i64 4] X (NewR (be4 n) X) := fun X => by
    have := L_big n 4 (by decide) X
    rw [bigB_4] at this
    exact this
  obtain ⟨pr, pl, sr, sw, ms, co, fr⟩ := c
  have q0 : ¬ (65536 : Int) < (tn : Int) := by omega
  have q1 : ¬ (2147483647 : Int) < (tn : Int) := by omega
  have q2 : ¬ (4096 : Int) < (n : Int) := by omega
  have q3 : (0 : Int) ≤ (n : Int) := by omega
  have q4 : (n : Int) ≤ 4096 := by omega
  have hwn : IntKind.i64.wrap (n : Int) = (n : Int) := by rw [w64]; unfold wrap64; omega
  have HL := Lib.hid hls
  have HG := Lib.hid hg
  clear ht hl htn hty hls hg hcon hn
  go_enter Tryz.func10, Tryz.ntmps10
  go_wp2_with (go_at_call 37; (with_reducible refine (HT.out _).mono ?_); rintro e w' ⟨rfl, rfl⟩)
  (with_reducible refine (HW.out _).mono ?_)
  rintro e w1 ⟨b, rfl, hb, hf⟩
  have hbx := hf.block (alloc_new w _) fun x => x
  have H1 := Lib.hid (And.intro (((Fr.refl noF w).alloc _).trans hf) hbx)
  have c0 := cell_at hbx 0; have c1 := cell_at hbx 1; have c2 := cell_at hbx 2; have c3 := cell_at hbx 3; have c4 := cell_at hbx 4; have c5 := cell_at hbx 5; have c6 := cell_at hbx 6; have ff := free_at hbx
  simp only [List.getElem?_toArray, List.getElem?_cons_zero, List.getElem?_cons_succ] at c0 c1 c2 c3 c4 c5 c6
  clear hf hbx
  cases b
  · clear hb
    go_wp2_with fail
    (with_reducible refine (HK.out _).mono ?_)
    rintro e w2 ⟨rfl, hf⟩
    have HX := Lib.hid (H1.out.1.trans hf)
    clear hf c0 c1 c2 c3 c4 c5 c6 ff
    go_wp2
    go_ret
    exact ⟨rfl, HX.out⟩
  · have HLs := Lib.hid (HL.out (hb.1 rfl))
    clear hb HL
    go_wp2_with fail
    refine (HY.out _).mono ?_
    rintro e w2 ⟨rfl, hf⟩
    have hbx := hf.block H1.out.2 fun x => x
    have hby7 := store7_at hbx (.int .i64 0) (.bool pl) (.bool sr) (.bool sw) (.int .i32 ms) (.int .i32 co) (.int .i32 fr)
    have hfW : Fr noF noF w (store7 w2 w.heap.size (.int .i64 0) (.bool pl) (.bool sr) (.bool sw) (.int .i32 ms) (.int .i32 co) (.int .i32 fr)) := store7_fr (H1.out.1.trans hf) (Or.inr (Nat.le_refl _)) (.int .i64 0) (.bool pl) (.bool sr) (.bool sw) (.int .i32 ms) (.int .i32 co) (.int .i32 fr)
    have hsz : (store7 w2 w.heap.size (.int .i64 0) (.bool pl) (.bool sr) (.bool sw) (.int .i32 ms) (.int .i32 co) (.int .i32 fr)).heap.size = w2.heap.size := by simp only [setCell_size]
    clear c0 c1 c2 c3 c4 c5 c6 ff
    have c0 := cell_at hbx 0; have c1 := cell_at hbx 1; have c2 := cell_at hbx 2; have c3 := cell_at hbx 3; have c4 := cell_at hbx 4; have c5 := cell_at hbx 5; have c6 := cell_at hbx 6; have ff := free_at hbx
    simp only [List.getElem?_toArray, List.getElem?_cons_zero, List.getElem?_cons_succ] at c0 c1 c2 c3 c4 c5 c6
    have hs7 : ∀ X : World, X.heap[w.heap.size]? = some (.cells #[.int .i64 0, .bool pl, .bool sr, .bool sw, .int .i32 ms, .int .i32 co, .int .i32 fr] 31 (0, 0)) → (X.cell? ⟨w.heap.size, 0, none⟩ = some (.int .i64 0) ∧ X.cell? ⟨w.heap.size, 1, none⟩ = some (.bool pl) ∧ X.cell? ⟨w.heap.size, 2, none⟩ = some (.bool sr) ∧ X.cell? ⟨w.heap.size, 3, none⟩ = some (.bool sw) ∧ X.cell? ⟨w.heap.size, 4, none⟩ = some (.int .i32 ms) ∧ X.cell? ⟨w.heap.size, 5, none⟩ = some (.int .i32 co) ∧ X.cell? ⟨w.heap.size, 6, none⟩ = some (.int .i32 fr)) := fun X hX => ⟨by rw [cell_at hX]; rfl, by rw [cell_at hX]; rfl, by rw [cell_at hX]; rfl, by rw [cell_at hX]; rfl, by rw [cell_at hX]; rfl, by rw [cell_at hX]; rfl, by rw [cell_at hX]; rfl⟩
    have s00 := hs7 _ (drew_at hby7)
    have s01 := hs7 _ (drew_at (alloc_at (o := (.cells #[.int .u8 (IntKind.u8.wrap t)] U8 (0, 0))) hby7))
    have hrA : Rd ((store7 w2 w.heap.size (.int .i64 0) (.bool pl) (.bool sr) (.bool sw) (.int .i32 ms) (.int .i32 co) (.int .i32 fr)).alloc (.cells #[.int .u8 (IntKind.u8.wrap t)] U8 (0, 0))).drew (.slice (some ⟨w2.heap.size, 0, none⟩) 1 1) [b8 t] := Rd_byte (store7 w2 w.heap.size (.int .i64 0) (.bool pl) (.bool sr) (.bool sw) (.int .i32 ms) (.int .i32 co) (.int .i32 fr)) w2.heap.size hsz (b8 t) (IntKind.u8.wrap t) (u8_wrap_b8 t)
    have hj : ∀ X g a1 n1 c1 a2 n2 c2, Rd X (.slice a1 n1 c1) [b8 t] → Rd X (.slice a2 n2 c2) (be4 n) → X.heap[g]? = some (.cells #[.slice a1 n1 c1, .slice a2 n2 c2] 23 (0, 0)) → Calls Tryz.prog 28 #[.slice (some ⟨g, 0, none⟩) 2 2] X (fun e w' => ∃ v, e = .returned v ∧ Rd w' v (b8 t :: be4 n) ∧ Fr noF noF X w') := fun X g a1 n1 c1 a2 n2 c2 r1 r2 hg => by
      refine (L_joined g 2 [.slice a1 n1 c1, .slice a2 n2 c2] [[b8 t], be4 n] X (fun i v hv => by rw [cell_at hg]; simpa using hv) (fun i v l hv' hl' => by
        match i, hv', hl' with
        | 0, hv', hl' => simp at hv' hl'; subst hv' hl'; exact r1
        | 1, hv', hl' => simp at hv' hl'; subst hv' hl'; exact r2) rfl rfl (by decide) (fun l hl' => by simp at hl'; rcases hl' with rfl | rfl; simp; rw [be4_length]; decide) (fun k => by
          match k with
          | 0 => simp
          | 1 => simp
          | k + 2 => simp [be4_length])).mono ?_
      rintro e w' ⟨v, rfl, ho, hf⟩
      exact ⟨v, rfl, by simpa using ho.rd, hf⟩
    have HS7 := Lib.hid hs7
    have HA := Lib.hid (And.intro hrA (And.intro hfW hby7))
    have HJ := Lib.hid hj
    clear hs7 hrA hfW hby7 hsz hf hbx hj
    go_wp2_with fail
    clear c0 c1 c2 c3 c4 c5 c6 ff
    go_region_held3 (fun w' => w'.cell? ⟨w.heap.size, 0, none⟩ = some (.int .i64 0) ∧ w'.cell? ⟨w.heap.size, 1, none⟩ = some (.bool pl) ∧ w'.cell? ⟨w.heap.size, 2, none⟩ = some (.bool sr) ∧ w'.cell? ⟨w.heap.size, 3, none⟩ = some (.bool sw) ∧ w'.cell? ⟨w.heap.size, 4, none⟩ = some (.int .i32 ms) ∧ w'.cell? ⟨w.heap.size, 5, none⟩ = some (.int .i32 co) ∧ w'.cell? ⟨w.heap.size, 6, none⟩ = some (.int .i32 fr)) (with_reducible assumption) (first | ((with_reducible refine (HG.out ((store7 w2 w.heap.size (.int .i64 0) (.bool pl) (.bool sr) (.bool sw) (.int .i32 ms) (.int .i32 co) (.int .i32 fr)).alloc (.cells #[.int .u8 (IntKind.u8.wrap t)] U8 (0, 0))).drew).mono ?_); rintro e Y ⟨v, rfl, hown, hfy⟩; obtain ⟨va, vn, vc, rfl, -⟩ := hown.rd.len; have HYb := Lib.hid (hfy.block (drew_at (alloc_at (o := (.cells #[.int .u8 (IntKind.u8.wrap t)] U8 (0, 0))) HA.out.2.2)) fun x => x); have sy := HS7.out Y HYb.out; have sy2 := HS7.out (Y.alloc (.cells #[.slice (some ⟨w2.heap.size, 0, none⟩) 1 1, .slice va vn vc] 23 (0, 0))) (alloc_at HYb.out); have HFY := Lib.hid (((HA.out.2.1.alloc _).drew).trans hfy); have HJJ := Lib.hid (HJ.out (Y.alloc (.cells #[.slice (some ⟨w2.heap.size, 0, none⟩) 1 1, .slice va vn vc] 23 (0, 0))) Y.heap.size _ _ _ _ _ _ ((HA.out.1.keep (F := noF) (F' := noF) hfy fun _ _ x => x).keep (F := noF) (F' := noF) ((Fr.refl noF Y).alloc _) fun _ _ x => x) (hown.rd.keep (F := noF) (F' := noF) ((Fr.refl noF Y).alloc _) fun _ _ x => x) (alloc_new Y _)); have HFJ := Lib.hid (HFY.out.alloc (.cells #[.slice (some ⟨w2.heap.size, 0, none⟩) 1 1, .slice va vn vc] 23 (0, 0))); have HBJ := Lib.hid (alloc_at (o := (.cells #[.slice (some ⟨w2.heap.size, 0, none⟩) 1 1, .slice va vn vc] 23 (0, 0))) HYb.out); clear hown hfy) | ((with_reducible refine (HG.out (store7 w2 w.heap.size (.int .i64 0) (.bool pl) (.bool sr) (.bool sw) (.int .i32 ms) (.int .i32 co) (.int .i32 fr)).drew).mono ?_); rintro e Y ⟨v, rfl, hown, hfy⟩; obtain ⟨va, vn, vc, rfl, -⟩ := hown.rd.len; have HYb := Lib.hid (hfy.block (drew_at HA.out.2.2) fun x => x); have sy := HS7.out Y HYb.out; have sy1 := HS7.out (Y.alloc (.cells #[.int .u8 (IntKind.u8.wrap t)] U8 (0, 0))) (alloc_at HYb.out); have sy2 := HS7.out ((Y.alloc (.cells #[.int .u8 (IntKind.u8.wrap t)] U8 (0, 0))).alloc (.cells #[.slice (some ⟨Y.heap.size, 0, none⟩) 1 1, .slice va vn vc] 23 (0, 0))) (alloc_at (alloc_at HYb.out)); have HFY := Lib.hid (HA.out.2.1.drew.trans hfy); have HJJ := Lib.hid (HJ.out ((Y.alloc (.cells #[.int .u8 (IntKind.u8.wrap t)] U8 (0, 0))).alloc (.cells #[.slice (some ⟨Y.heap.size, 0, none⟩) 1 1, .slice va vn vc] 23 (0, 0))) (Y.heap.size + 1) _ _ _ _ _ _ ((Rd_byte0 Y Y.heap.size rfl (b8 t) (IntKind.u8.wrap t) (u8_wrap_b8 t)).keep (F := noF) (F' := noF) ((Fr.refl noF _).alloc _) fun _ _ x => x) (hown.rd.keep (F := noF) (F' := noF) (((Fr.refl noF Y).alloc _).alloc _) fun _ _ x => x) (new2 Y _ _).2); have HFJ := Lib.hid ((HFY.out.alloc (.cells #[.int .u8 (IntKind.u8.wrap t)] U8 (0, 0))).alloc (.cells #[.slice (some ⟨Y.heap.size, 0, none⟩) 1 1, .slice va vn vc] 23 (0, 0))); have HBJ := Lib.hid (alloc_at (o := (.cells #[.slice (some ⟨Y.heap.size, 0, none⟩) 1 1, .slice va vn vc] 23 (0, 0))) (alloc_at (o := (.cells #[.int .u8 (IntKind.u8.wrap t)] U8 (0, 0))) HYb.out)); clear hown hfy) | ((with_reducible refine HJJ.out.mono ?_); rintro e J ⟨jv, rfl, hjr, hfj⟩; have HJb := Lib.hid (hfj.block HBJ.out fun x => x); have sj := HS7.out J HJb.out; have HFJ2 := Lib.hid (HFJ.out.trans hfj); have HLL := Lib.hid (HLs.out J jv HFJ2.out hjr); clear hjr hfj) | ((with_reducible refine HLL.out.mono ?_); rintro e Q ⟨rfl, hfq⟩; have HQb := Lib.hid (hfq.block HJb.out fun x => x); have sq := HS7.out Q HQb.out; have HFQ := Lib.hid (HFJ2.out.trans hfq); clear hfq) | ((with_reducible refine (HK.out Q).mono ?_); rintro e Z ⟨rfl, hf⟩; have sz := HS7.out Z (hf.block HQb.out fun x => x); have HZ := Lib.hid (HFQ.out.trans hf); clear hf) | fail)
    all_goals go_wp2
    all_goals go_ret
    all_goals exact ⟨rfl, HZ.out⟩
end Go.Proofs.YtoifjckhccbmlaaGreatDoor
