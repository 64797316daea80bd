/- bytes.Buffer.grow, path by path. -/
import Derived.Test.YtdedkoahfailcaaGreatDoorBuf2
import Derived.Deep.RegionHeld3
import Derived.Deep.RegionWith
import Derived.StillTailTactics
import Derived.Laws.MakeOwn
namespace Go.Proofs.YtdedkoahfailcaaGreatDoor
open Go Go.RowKit

theorem drewN_heap (w : World) (q : Nat) : (w.drewN q).heap = w.heap := rfl

/-- What a grow into a new array leaves. -/
theorem grown_new {w W : World} {b T r0 m k cap2 : Nat} {l : List UInt8} {lr : Int} {v0 x : Value} {cells : Array Value} (hW : Fr (BF w b) (BF w b) w W) (hbB : w.heap[b]? = some (.cells #[v0, x, .int .i8 lr] TB (0, 0)))
    {x' : Value} (hb : W.heap[b]? = some (.cells #[v0, x', .int .i8 lr] TB (0, 0))) (hr : W.heap[r0]? = some (.cells cells U8 (0, 0))) (hnew : w.heap.size ≤ r0) (hcs : cells.size = cap2) (_hm : l.length = m) (htk : cells.toList.take m = Lib.byteCells l)
    (hk : m + k ≤ cap2) (hc : cap2 ≤ maxLen) (hT : m ≤ T) (v1 : Value) :
    Room (((W.setCell ⟨b, 0, none⟩ v1).setCell ⟨b, 1, none⟩ (.int .i64 0)).setCell ⟨b, 0, none⟩ (.slice (some ⟨r0, 0, none⟩) (m + k) cap2)) b (T + k) true l m k ∧
      Fr (BF w b) (BF (((W.setCell ⟨b, 0, none⟩ v1).setCell ⟨b, 1, none⟩ (.int .i64 0)).setCell ⟨b, 0, none⟩ (.slice (some ⟨r0, 0, none⟩) (m + k) cap2)) b) w (((W.setCell ⟨b, 0, none⟩ v1).setCell ⟨b, 1, none⟩ (.int .i64 0)).setCell ⟨b, 0, none⟩ (.slice (some ⟨r0, 0, none⟩) (m + k) cap2)) := by
  have hrb : r0 ≠ b := tag_ne hr hb (by decide)
  have hb' : (((W.setCell ⟨b, 0, none⟩ v1).setCell ⟨b, 1, none⟩ (.int .i64 0)).setCell ⟨b, 0, none⟩ (.slice (some ⟨r0, 0, none⟩) (m + k) cap2)).heap[b]? = some (.cells #[.slice (some ⟨r0, 0, none⟩) (m + k) cap2, .int .i64 ((0 : Nat) : Int), .int .i8 lr] TB (0, 0)) :=
    setCell_at (i := 0) (setCell_at (i := 1) (setCell_at (i := 0) hb _) _) _
  have hr' := setCell_ne (i := 0) (setCell_ne (i := 1) (setCell_ne (i := 0) hr hrb v1) hrb (.int .i64 0)) hrb (.slice (some ⟨r0, 0, none⟩) (m + k) cap2)
  refine ⟨⟨lr, r0, cap2, 0, cells, hb', hr', hcs, hc, Nat.zero_le _, hk, by omega, by simpa using htk, fun _ => rfl⟩, ?_⟩
  refine (((hW.setCell (p := ⟨b, 0, none⟩) (Or.inl (Or.inl rfl)) _).setCell (p := ⟨b, 1, none⟩) (Or.inl (Or.inl rfl)) _).setCell (p := ⟨b, 0, none⟩) (Or.inl (Or.inl rfl)) _).conv fun k' hk' hf => ?_
  rcases BF_of hb' hf with rfl | rfl
  · exact Or.inl rfl
  · omega

set_option maxHeartbeats 1000000 in
set_option maxRecDepth 100000 in
/-- grow of a nil buffer, at most 64. -/
theorem grow_nil_small (b T k : Nat) (lr : Int) (w : World) (hb : w.heap[b]? = some (.cells #[.slice none 0 0, .int .i64 0, .int .i8 lr] TB (0, 0))) (hk : 1 ≤ k) (h64 : k ≤ 64) :
    Calls Tryz.prog 87 #[.pointer (some ⟨b, 0, none⟩), .int .i64 k] w (Grown1 w b T [] k) := by
  obtain ⟨i0, hi, hz0, hz1, hz2⟩ := info_parts info_u8
  obtain ⟨M, hM⟩ : ∃ M, M = madeCells (Value.int .u8 0).cells ((64 : Int).toNat * i0.size) := ⟨_, rfl⟩
  have hMs : M.size = 64 := by rw [hM, size_madeCells, hz1]; rfl
  have hmk : ∀ W : World, (Instr.makeSlice 35 (.int .i64 (k : Int)) (.int .i64 64)).run Tryz.prog W = .ok (.slice (some ⟨W.heap.size, 0, none⟩) k 64) (W.alloc (.cells M 5)) := fun W => by
    have h := run_makeSlice (P := Tryz.prog) W 35 5 i0 (.int .u8 0) Tryz.underlying35 hi hz0 .i64 .i64 (k : Int) 64 (by omega) (by omega) (by rw [hz1]; decide) (by rw [hz2]; decide) (by decide)
    rw [← hM] at h
    simpa using h
  clear hM hi hz0 hz1 hz2
  have hnil : ∀ W, (binOp .eql 35 (.slice none 0 0) (.slice none 0 0)).run Tryz.prog W = .ok (.bool true) W := fun W => Lib.run_eql_slice_nil_nil W _ _ Tryz.underlying35
  have hlt := lt_heap hb
  go_enter Tryz.func87, Tryz.ntmps87
  go_wp2_with (go_at_call 63; refine (Buf_Len b 0 true [] _ (Or.inl ⟨rfl, lr, hb⟩)).mono ?_)
  rintro e W0 ⟨rfl, q, hW0⟩
  have hb0 : W0.heap[b]? = some (.cells #[.slice none 0 0, .int .i64 0, .int .i8 lr] TB (0, 0)) := by rw [← hW0]; exact hb
  have c0 : W0.cell? ⟨b, 0, none⟩ = some (.slice none 0 0) := by rw [cell_at hb0]; rfl
  have c1 : W0.cell? ⟨b, 1, none⟩ = some (.int .i64 0) := by rw [cell_at hb0]; rfl
  have f0 : W0.frozen? ⟨b, 0, none⟩ = false := free_at hb0 0
  have f1 : W0.frozen? ⟨b, 1, none⟩ = false := free_at hb0 1
  have c0a : ∀ o, (W0.alloc o).cell? ⟨b, 0, none⟩ = some (.slice none 0 0) := fun o => (World.cell?_of_block (a := ⟨b, 0, none⟩) (Below.heap_alloc W0 o b (lt_heap hb0))).trans c0
  have f0a : ∀ o, (W0.alloc o).frozen? ⟨b, 0, none⟩ = false := fun o => (World.frozen?_of_block (a := ⟨b, 0, none⟩) (Below.heap_alloc W0 o b (lt_heap hb0))).trans f0
  have HW := Lib.hid hW0
  clear hW0
  go_wp2_with (go_at_call 86; refine (tryGrow_no b none 0 0 k _ c0 (Nat.le_refl _) (Nat.zero_le _) (by omega)).mono ?_; rintro e w' ⟨rfl, rfl⟩)
  go_ret
  have hsz : W0.heap.size = w.heap.size := by rw [← HW.out]; rfl
  have hNb : W0.heap.size ≠ b := by omega
  have hb1 := setCell_at (i := 0) (alloc_at (o := .cells M U8) hb0) (.slice (some ⟨W0.heap.size, 0, none⟩) k 64)
  have hr1 := setCell_ne (b := b) (i := 0) (alloc_new W0 (.cells M U8)) hNb (.slice (some ⟨W0.heap.size, 0, none⟩) k 64)
  have hfr : Fr (BF w b) (BF w b) w W0 := by rw [← HW.out]; exact (Fr.refl _ _).drewN q
  refine ⟨0, rfl, ⟨lr, W0.heap.size, 64, 0, M, by rw [Nat.zero_add]; exact hb1, hr1, hMs, by unfold maxLen; omega, Nat.le_refl _, by omega, by omega, by simp [Lib.byteCells], fun _ => rfl⟩, ((hfr.alloc _).setCell (p := ⟨b, 0, none⟩) (Or.inl (Or.inl rfl)) _).conv fun k' hk' hf => ?_⟩
  rcases BF_of hb1 hf with rfl | rfl
  · exact Or.inl rfl
  · omega

set_option maxHeartbeats 2000000 in
set_option maxRecDepth 100000 in
/-- grow of a nil buffer, above 64. -/
theorem grow_nil_big (b T k : Nat) (lr : Int) (w : World) (hb : w.heap[b]? = some (.cells #[.slice none 0 0, .int .i64 0, .int .i8 lr] TB (0, 0))) (h64 : 64 < k) (hlim : k ≤ 140737488355328) :
    Calls Tryz.prog 87 #[.pointer (some ⟨b, 0, none⟩), .int .i64 k] w (Grown1 w b T [] k) := by
  have hnil : ∀ W, (binOp .eql 35 (.slice none 0 0) (.slice none 0 0)).run Tryz.prog W = .ok (.bool true) W := fun W => Lib.run_eql_slice_nil_nil W _ _ Tryz.underlying35
  have hlt := lt_heap hb
  have hn : 1 ≤ k := by omega
  go_enter Tryz.func87, Tryz.ntmps87
  go_wp2_with (go_at_call 63; refine (Buf_Len b 0 true [] _ (Or.inl ⟨rfl, lr, hb⟩)).mono ?_)
  rintro e W0 ⟨rfl, q, hW0⟩
  have hb0 : W0.heap[b]? = some (.cells #[.slice none 0 0, .int .i64 0, .int .i8 lr] TB (0, 0)) := by rw [← hW0]; exact hb
  have c0 : W0.cell? ⟨b, 0, none⟩ = some (.slice none 0 0) := by rw [cell_at hb0]; rfl
  have c1 : W0.cell? ⟨b, 1, none⟩ = some (.int .i64 0) := by rw [cell_at hb0]; rfl
  have f0 : W0.frozen? ⟨b, 0, none⟩ = false := free_at hb0 0
  have f1 : W0.frozen? ⟨b, 1, none⟩ = false := free_at hb0 1
  have HW := Lib.hid hW0
  clear hW0
  go_wp2_with (go_at_call 86; refine (tryGrow_no b none 0 0 k _ c0 (Nat.le_refl _) (Nat.zero_le _) (by omega)).mono ?_; rintro e w' ⟨rfl, rfl⟩)
  have hbW := lt_heap hb0
  have hwn : IntKind.i64.wrap (k : Int) = k := by rw [IntKind.wrap_i64]; omega
  go_region_with (
      go_at_call 92
      refine (growSlice_none none 0 k _ hn hlim (Nat.zero_le _) (fun _ => rfl)).mono ?_
      rintro e w2 ⟨cap2, cells, rfl, hN, hcsz, htk, hcap2, hcm2, hbel⟩
      have hbk2 : w2.heap[b]? = some (.cells #[.slice none 0 0, .int .i64 0, .int .i8 lr] TB (0, 0)) := (hbel.block b hbW).trans hb0
      have d0 : w2.cell? ⟨b, 0, none⟩ = some (.slice none 0 0) := by rw [Lib.cell_of_heap hbk2]; rfl
      have d1 : w2.cell? ⟨b, 1, none⟩ = some (.int .i64 0) := by rw [Lib.cell_of_heap hbk2]; rfl
      have e0 : w2.frozen? ⟨b, 0, none⟩ = false := Lib.frozen_of_heap hbk2 0
      have e1 : w2.frozen? ⟨b, 1, none⟩ = false := Lib.frozen_of_heap hbk2 1)
  all_goals
    go_wp2
    go_ret
    have hsz : W0.heap.size = w.heap.size := by rw [← HW.out]; rfl
    have hfr : Fr (BF w b) (BF w b) w w2 := by
      have h0 : Fr (BF w b) (BF w b) w W0 := by rw [← HW.out]; exact (Fr.refl _ _).drewN q
      exact h0.drew.trans (Fr.of_below hbel)
    have hfin := grown_new (l := []) (m := 0) (k := k) (T := T) hfr hb hbk2 hN (by show w.heap.size ≤ W0.heap.size; omega) hcsz rfl (by simp [Lib.byteCells]) (by omega) hcm2 (Nat.zero_le _) (.slice (some ⟨W0.heap.size, 0, none⟩) 0 cap2)
    rw [Nat.zero_add] at hfin
    exact ⟨0, rfl, hfin.1, hfin.2⟩
end Go.Proofs.YtdedkoahfailcaaGreatDoor
