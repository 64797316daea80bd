/- The text of a uuid: impl.uuid, Tuuid.String, impl.UuidText. -/
import Derived.Test.YtdedkoahfailcaaGreatDoorHex
import Derived.Test.YtdedkoahfailcaaGreatDoorWrite
import Derived.Test.YtdedkoahfailcaaGreatDoorJoin
import Derived.Test.YtdedkoahfailcaaGreatDoorUuid
namespace Go.Proofs.YtdedkoahfailcaaGreatDoor
open Go Go.RowKit Go.Lib
set_option maxHeartbeats 2000000
set_option maxRecDepth 100000

theorem res_cell1 {fn : Func} {p : Tmp} {ty : TypeId} (h : fn.results = #[.cell p ty]) (tmps : Array Value) (w : World) (b : Nat) (cs : Array Value) (hp : tmps.getD p undef = .pointer (some ⟨b, 0, none⟩))
    (hv : (loadVar ty ⟨b, 0, none⟩).run Tryz.prog w = .ok (.agg cs) w) : (results fn tmps).run Tryz.prog w = .ok (.agg cs) w := by
  rw [Array.getD_eq_getD_getElem?] at hp
  unfold results
  simp [h, hp, asAddr, hv, Result.andThen]

/-- impl.uuid: sixteen bytes of some. -/
theorem I_uuid (v : Value) (l : List UInt8) (w : World) (h : Rd w v l) : Calls Tryz.prog 48 #[v] w fun e w' => e = .returned (.agg (Lib.byteCells (pad16 l)).toArray) ∧ Fr noF noF w w' := by
  -- the array that is copied into: block w.heap.size + 1; the result's: block w.heap.size
  have hb0 := new2 w (.cells zL.toArray TU (0, 0)) (.cells zL.toArray TU (0, 0))
  obtain ⟨W, hW⟩ : ∃ W, W = (w.alloc (.cells zL.toArray TU (0, 0))).alloc (.cells zL.toArray TU (0, 0)) := ⟨_, rfl⟩
  have hfr : Fr noF noF w W := by rw [hW]; exact ((Fr.refl noF w).alloc _).alloc _
  have hcopy : ∃ Z W', (Builtin.copy_ #[35, 35] 3 #[.slice (some ⟨w.heap.size + 1, 0, none⟩) 16 16, v]).run Tryz.prog W = .ok Z W' ∧
      W'.heap[w.heap.size + 1]? = some (.cells (Lib.byteCells (pad16 l)).toArray TU (0, 0)) ∧ W'.heap[w.heap.size]? = some (.cells zL.toArray TU (0, 0)) ∧ Fr noF noF w W' := by
    rw [← hW] at hb0
    rcases h.keep (F := noF) hfr fun _ _ x => x with ⟨rfl, rfl⟩ | ⟨a, n, c, rfl, hn, hc, hm, hs⟩
    · exact ⟨_, W, run_copy_none W 35 35 3 5 _ none 16 16 0 0 Tryz.underlying35 hinfo rfl, hb0.2, hb0.1, hfr⟩
    · have hl : (Lib.byteCells (l.take 16)).length = Nat.min n 16 := by
        rw [bcells_length, List.length_take, hn]
        exact Nat.min_comm _ _
      have hcp := run_copy_row (P := Tryz.prog) W 35 35 3 5 (w.heap.size + 1) 0 16 16 a n c zL.toArray TU (Lib.byteCells (l.take 16)) Tryz.underlying35 hinfo hb0.2 hl
        (fun j u hj => by
          obtain ⟨x, h1, rfl⟩ := bcells_get hj
          exact hs j x (by rw [List.getElem?_take] at h1; split at h1; exact h1; cases h1))
        (by rw [hl]; show 0 + min n 16 ≤ 16; omega) (Lib.byteCells_one _)
      refine ⟨_, _, hcp, ?_, setRow_ne hb0.1 (by omega) _, hfr.setRow (Or.inr (by omega)) _⟩
      have hr := setRow_heap W (w.heap.size + 1) _ (zL.toArray.toList.take 0 ++ Lib.byteCells (l.take 16) ++ zL.toArray.toList.drop (0 + (Lib.byteCells (l.take 16)).length)).toArray _ _ hb0.2
      rw [hr]
      congr 2
      apply Array.ext'
      simp only [List.toList_toArray, List.take_zero, List.nil_append, pad16, bcells_append, bcells_length, Nat.zero_add]
      congr 1
      rw [List.length_take]
      have hz : zL = List.replicate 16 (Value.int .u8 0) := rfl
      rw [hz, List.drop_replicate, show 16 - min 16 l.length = 16 - l.length by omega]
      simp [Lib.byteCells]
  obtain ⟨Z, W', hcp, e1, e2, e3⟩ := hcopy
  obtain ⟨a, n, c, rfl, hn⟩ := h.len
  have hl16 : (Lib.byteCells (pad16 l)).length = 16 := by rw [bcells_length, pad16_len]
  have ho : (Lib.byteCells (pad16 l)).toArray.all (·.oneCell') = true := all_oneCell_toArray fun v hv => by simp only [Lib.byteCells, List.mem_map] at hv; obtain ⟨x, _, rfl⟩ := hv; rfl
  have hld : (loadVar TU ⟨w.heap.size, 0, none⟩).run Tryz.prog (W'.setCells w.heap.size 0 (Lib.byteCells (pad16 l))) = .ok (.agg (Lib.byteCells (pad16 l)).toArray) (W'.setCells w.heap.size 0 (Lib.byteCells (pad16 l))) := load_cells e2 rfl hl16
  have HR := Lib.hid (And.intro (range_of e1) (And.intro (show (Tryz.prog.info? TU).map (·.size) = some (Lib.byteCells (pad16 l)).length by rw [info_TU, hl16]) (And.intro (there_of (n := (Lib.byteCells (pad16 l)).toArray.size) e2 (by simp [hl16])) (And.intro (show (Tryz.prog.info? TU).map (·.size) = some (Lib.byteCells (pad16 l)).toArray.size by rw [info_TU]; simp [hl16]) ho))))
  have HX := Lib.hid (And.intro hld (fr_cells e3 (Nat.le_refl _) e2 (Lib.byteCells (pad16 l)) 0))
  have u1 := Tryz.underlying65
  rw [hW] at hcp
  clear e1 e2 e3 ho hld h hn hl16 hb0 hfr hW
  go_enter Tryz.func48, Tryz.ntmps48
  go_wp2_with (first | (refine wpList_load_mid rfl TU _ rfl (w.heap.size + 1) 0 rfl (Lib.byteCells (pad16 l)) _ HR.out.1 u1 rfl HR.out.2.1 ?_) | (refine wpList_store_mid rfl TU _ _ rfl w.heap.size 0 (Lib.byteCells (pad16 l)).toArray rfl rfl HR.out.2.2.1 HR.out.2.2.2.1 HR.out.2.2.2.2 ?_))
  exact bodyPost_ret (res_cell1 rfl _ _ w.heap.size (Lib.byteCells (pad16 l)).toArray rfl HX.out.1) rfl ⟨rfl, HX.out.2⟩

/-- The state of the text while it is written: the bytes in block b, the text's places in block b + 1. -/
structure TS (w W : World) (U : List UInt8) (f : Nat → Value) : Prop where
  src : W.heap[w.heap.size]? = some (.cells (Lib.byteCells U).toArray TU (0, 0))
  row : W.rowIs (w.heap.size + 1) 111 36 f
  fr : Fr noF noF w W
theorem TS.dash {w W : World} {U : List UInt8} {f : Nat → Value} (h : TS w W U f) (i : Nat) : TS w (W.setCell ⟨w.heap.size + 1, i, none⟩ dashV) U (fun j => if j = i then dashV else f j) :=
  ⟨setCell_ne h.src (by omega) _, h.row.set i _, h.fr.setCell (Or.inr (by show w.heap.size ≤ w.heap.size + 1; omega)) _⟩
theorem TS.drew {w W : World} {U : List UInt8} {f : Nat → Value} (h : TS w W U f) : TS w W.drew U f := ⟨h.src, h.row, h.fr.drew⟩
theorem TS.cell {w W : World} {U : List UInt8} {f : Nat → Value} (h : TS w W U f) (i : Nat) (hi : i < 36) : (∃ v, W.cell? ⟨w.heap.size + 1, i, none⟩ = some v) ∧ W.frozen? ⟨w.heap.size + 1, i, none⟩ = false := ⟨⟨_, h.row.cell hi⟩, h.row.frozen _⟩
theorem TS.enc {w W : World} {U : List UInt8} {f : Nat → Value} (h : TS w W U f) (od nd cd o n cs : Nat) (l : List UInt8) (hl : l.length = n) (hs : ∀ i u, l[i]? = some u → U[o + i]? = some u) (hfit : od + nd ≤ 36) (hlen : 2 * n ≤ nd) (hn : n ≤ 16) :
    Calls Tryz.prog 67 #[.slice (some ⟨w.heap.size + 1, od, none⟩) nd cd, .slice (some ⟨w.heap.size, o, none⟩) n cs] W fun e w' => e = .returned (.int .i64 ((n : Int) * 2)) ∧ TS w w' U (Hx.row f od l n) :=
  (X_Encode 111 (w.heap.size + 1) od nd cd 36 f w.heap.size o n cs l W hl (fun i u hu => by rw [cell_at h.src]; simp [Lib.byteCells, hs i u hu]) h.row hfit hlen (by omega) (by omega)).mono fun e w' ⟨h1, h2, h3⟩ =>
    ⟨h1, (h3.block _ (lt_heap h.src) (by simp)).trans h.src, h2, h.fr.grown h3 fun k hk => by injection hk with hk; omega⟩

abbrev z36 : List Value := [Value.int .u8 0, Value.int .u8 0, Value.int .u8 0, Value.int .u8 0, Value.int .u8 0, Value.int .u8 0, Value.int .u8 0, Value.int .u8 0, Value.int .u8 0, Value.int .u8 0, Value.int .u8 0, Value.int .u8 0, Value.int .u8 0, Value.int .u8 0, Value.int .u8 0, Value.int .u8 0, Value.int .u8 0, Value.int .u8 0, Value.int .u8 0, Value.int .u8 0, Value.int .u8 0, Value.int .u8 0, Value.int .u8 0, Value.int .u8 0, Value.int .u8 0, Value.int .u8 0, Value.int .u8 0, Value.int .u8 0, Value.int .u8 0, Value.int .u8 0, Value.int .u8 0, Value.int .u8 0, Value.int .u8 0, Value.int .u8 0, Value.int .u8 0, Value.int .u8 0]
theorem text_rd {w W : World} {U : List UInt8} (hU : U.length = 16) (h : TS w W U (ufn U)) : Rd W (.slice (some ⟨w.heap.size + 1, 0, none⟩) 36 36) (utext U) :=
  Or.inr ⟨_, 36, 36, rfl, utext_len hU, Nat.le_refl _, by decide, fun j u hj => by
    have hj36 : j < 36 := by rw [← utext_len hU]; exact (List.getElem?_eq_some_iff.1 hj).1
    rw [Lib.addr_add, Nat.zero_add, h.row.cell hj36, ufn_at hU hj36]
    simp [List.getD, hj]⟩

theorem T_UuidString (U : List UInt8) (hU : U.length = 16) (w : World) : Calls Tryz.prog 49 #[.agg (Lib.byteCells U).toArray] w fun e w' => e = .returned (.string ⟨(utext U).toArray⟩) ∧ Fr noF noF w w' := by
  have h0 : TS w ((w.alloc (.cells (Lib.byteCells U).toArray TU (0, 0))).alloc (.cells z36.toArray 111 (0, 0))) U (fun _ => .int .u8 0) := by
    refine ⟨(new2 w _ _).1, ⟨_, (new2 w _ _).2, rfl, fun i hi => ?_⟩, ((Fr.refl noF w).alloc _).alloc _⟩
    have hw : z36 = List.replicate 36 (Value.int .u8 0) := rfl
    rw [List.getElem?_toArray, hw, List.getElem?_replicate, if_pos hi]
  have H0 := Lib.hid h0
  clear h0
  go_enter Tryz.func49, Tryz.ntmps49
  go_wp2_with fail
  go_region_held3 (fun _ => True) (exact True.intro)
    (first | (go_at_call 67; refine (H0.out.drew.enc 0 36 36 0 4 16 (U.take 4) (by simp; omega) (fun i u hu => by rw [List.getElem?_take] at hu; split at hu; simpa using hu; cases hu) (by omega) (by omega) (by omega)).mono ?_; rintro e w1 ⟨rfl, hts⟩; obtain ⟨⟨z1, c1⟩, f1⟩ := hts.cell 8 (by omega); have H1 := Lib.hid hts; clear hts))
  all_goals go_wp2_with fail
  all_goals clear c1 f1
  all_goals go_region_held3 (fun _ => True) (exact True.intro)
    (first | (go_at_call 67; refine ((H1.out.dash 8).drew.enc 9 27 27 4 2 12 ((U.drop 4).take 2) (by simp; omega) (fun i u hu => by rw [List.getElem?_take] at hu; split at hu; simpa [Nat.add_comm] using hu; cases hu) (by omega) (by omega) (by omega)).mono ?_; rintro e w2 ⟨rfl, hts⟩; obtain ⟨⟨z2, c2⟩, f2⟩ := hts.cell 13 (by omega); have H2 := Lib.hid hts; clear hts))
  all_goals go_wp2_with fail
  all_goals clear c2 f2
  all_goals go_region_held3 (fun _ => True) (exact True.intro)
    (first | (go_at_call 67; refine ((H2.out.dash 13).drew.enc 14 22 22 6 2 10 ((U.drop 6).take 2) (by simp; omega) (fun i u hu => by rw [List.getElem?_take] at hu; split at hu; simpa [Nat.add_comm] using hu; cases hu) (by omega) (by omega) (by omega)).mono ?_; rintro e w3 ⟨rfl, hts⟩; obtain ⟨⟨z3, c3⟩, f3⟩ := hts.cell 18 (by omega); have H3 := Lib.hid hts; clear hts))
  all_goals go_wp2_with fail
  all_goals clear c3 f3
  all_goals go_region_held3 (fun _ => True) (exact True.intro)
    (first | (go_at_call 67; refine ((H3.out.dash 18).drew.enc 19 17 17 8 2 8 ((U.drop 8).take 2) (by simp; omega) (fun i u hu => by rw [List.getElem?_take] at hu; split at hu; simpa [Nat.add_comm] using hu; cases hu) (by omega) (by omega) (by omega)).mono ?_; rintro e w4 ⟨rfl, hts⟩; obtain ⟨⟨z4, c4⟩, f4⟩ := hts.cell 23 (by omega); have H4 := Lib.hid hts; clear hts))
  all_goals go_wp2_with fail
  all_goals clear c4 f4
  all_goals go_region_held3 (fun _ => True) (exact True.intro)
    (first | (go_at_call 67; refine ((H4.out.dash 23).drew.enc 24 12 12 10 6 6 (U.drop 10) (by simp; omega) (fun i u hu => by simpa [Nat.add_comm] using hu) (by omega) (by omega) (by omega)).mono ?_; rintro e w5 ⟨rfl, hts⟩; have hcv := conv_back (text_rd hU hts); have H5 := Lib.hid hts.fr; clear hts))
  all_goals go_wp2
  all_goals go_ret
  all_goals exact ⟨rfl, H5.out⟩

theorem I_UuidText (v : Value) (l : List UInt8) (w : World) (h : Rd w v l) : Calls Tryz.prog 21 #[v] w fun e w' => ∃ r, e = .returned r ∧ Rd w' r (utext (pad16 l)) ∧ (∀ k, vblk r k → w.heap.size ≤ k) ∧ Fr noF noF w w' := by
  have H1 := Lib.hid (I_uuid v l w h)
  have H2 := Lib.hid (T_UuidString (pad16 l) (pad16_len l))
  have hcv := run_conv ⟨(utext (pad16 l)).toArray⟩
  obtain ⟨a, n, c, rfl, hn⟩ := h.len
  clear h hn
  go_enter Tryz.func21, Tryz.ntmps21
  go_wp2_with (first | (go_at_call 48; refine H1.out.mono ?_; rintro e w1 ⟨rfl, hf⟩; have HF := Lib.hid hf; clear hf) | (go_at_call 49; refine (H2.out _).mono ?_; rintro e w2 ⟨rfl, hf⟩; have HG := Lib.hid (HF.out.trans hf); clear hf))
  go_ret
  have hl := utext_len (pad16_len l)
  exact ⟨_, rfl, conv_rd _ ⟨(utext (pad16 l)).toArray⟩ (by show (utext (pad16 l)).toArray.size ≤ maxLen; simp [hl]; decide), fun k hk => by rw [conv_blk hk]; exact HG.out.size, conv_fr HG.out _⟩
end Go.Proofs.YtdedkoahfailcaaGreatDoor
