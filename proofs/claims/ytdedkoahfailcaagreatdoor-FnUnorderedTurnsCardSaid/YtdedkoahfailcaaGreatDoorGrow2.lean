/- bytes.Buffer.grow of a buffer that has a row: it slides, or it grows. -/
import Derived.Test.YtdedkoahfailcaaGreatDoorGrow
namespace Go.Proofs.YtdedkoahfailcaaGreatDoor
open Go Go.RowKit

/-- A slice of a row from place o on. -/
theorem slice_from (r n c o : Nat) (W : World) (hon : o ≤ n) (_hnc : n ≤ c) (hco : ¬ c = o ∨ o = 0) (_hcm : c ≤ maxLen) :
    (Instr.slice 35 (.slice (some ⟨r, 0, none⟩) n c) (some (.int .i64 (o : Int))) none none).run Tryz.prog W = .ok (.slice (some ⟨r, o, none⟩) (n - o) (c - o)) W := by
  have h := run_slice_l (P := Tryz.prog) W 35 (some ⟨r, 0, none⟩) n c (by kernel_rfl) .i64 (o : Int) (by omega) (by omega)
  have hz : (sizeOf (Tryz.prog.elem 35)).run Tryz.prog W = .ok 1 W := by kernel_rfl
  rw [hz] at h
  rw [h]
  rcases hco with hco | rfl
  · simp [Result.andThen, sliced, hco]
    by_cases h0 : o = 0
    · subst h0; simp [Addr.add]
    · simp [Addr.add, h0]
  · simp [Result.andThen, sliced, Addr.add]

theorem bcells_one {l : List UInt8} : ∀ v ∈ Lib.byteCells l, v.oneCell' = true := Lib.byteCells_one l

/-- The unread cells, where they lie. -/
theorem unread_cells {w : World} {r n o : Nat} {cur : Array Value} {l : List UInt8} (hr : w.heap[r]? = some (.cells cur U8 (0, 0))) (hl : (cur.toList.take n).drop o = Lib.byteCells l) :
    ∀ j v, (Lib.byteCells l)[j]? = some v → w.cell? ((⟨r, o, none⟩ : Addr).add j) = some v := by
  intro j v hj
  rw [← hl, List.getElem?_drop, List.getElem?_take] at hj
  rw [Lib.addr_add, cell_at hr]
  split at hj
  · simpa using hj
  · cases hj

set_option maxHeartbeats 2000000 in
set_option maxRecDepth 100000 in
/-- grow: a new array, of a buffer of which nothing has been read. -/
theorem grow_row_some (b T k r n c : Nat) (l : List UInt8) (lr : Int) (cur : Array Value) (w : World) (hb : w.heap[b]? = some (.cells #[.slice (some ⟨r, 0, none⟩) n c, .int .i64 0, .int .i8 lr] TB (0, 0))) (hr : w.heap[r]? = some (.cells cur U8 (0, 0)))
    (hcs : cur.size = c) (hnc : n ≤ c) (hT : n ≤ T) (hl : (cur.toList.take n).drop 0 = Lib.byteCells l) (hno : c - n < k) (hlim : n + k ≤ 70368744177664)(hz : ((n : Int) == 0) = false) :
    Calls Tryz.prog 87 #[.pointer (some ⟨b, 0, none⟩), .int .i64 k] w (Grown1 w b T l k) := by
  have hnil : ∀ W, (binOp .eql 35 (.slice (some ⟨r, 0, none⟩) n c) (.slice none 0 0)).run Tryz.prog W = .ok (.bool false) W := fun W => Lib.run_eql_slice_some_nil W _ _ _ Tryz.underlying35
  have hm : l.length = n := by
    have := congrArg List.length hl
    rw [bcells_length, List.length_drop, List.length_take, Array.length_toList] at this
    omega
  have hwn : IntKind.i64.wrap (k : Int) = (k : Int) := by rw [IntKind.wrap_i64]; omega
  have hbig : (c : Int) / 2 - ((n : Nat) : Int) < (k : Int) := by omega
  have hcm : c ≤ maxLen := by unfold maxLen; omega
  have hfin : ∀ (W0 w2 : World) (cap2 : Nat) (cells : Array Value), (∃ q, w.drewN q = W0) → W0.drew.heap.size ≤ w2.heap.size → w2.heap[W0.heap.size]? = some (.cells cells U8 (0, 0)) → cells.size = cap2 → cells.toList.take n = Lib.byteCells l → n + k ≤ cap2 → cap2 ≤ maxLen → Below W0.drew.heap.size W0.drew w2 →
      Grown1 w b T l k (.returned (.int .i64 ((n : Nat) : Int))) (((w2.setCell ⟨b, 0, none⟩ (.slice (some ⟨W0.heap.size, 0, none⟩) n cap2)).setCell ⟨b, 1, none⟩ (.int .i64 0)).setCell ⟨b, 0, none⟩ (.slice (some ⟨W0.heap.size, 0, none⟩) (n + k) cap2)) := by
    rintro W0 w2 cap2 cells ⟨q, rfl⟩ hsz hN hcsz htk hcap2 hcm2 hbel
    have hfr : Fr (BF w b) (BF w b) w w2 := ((Fr.refl (BF w b) w).drewN q).drew.trans (Fr.of_below hbel)
    have hb2 : w2.heap[b]? = some (.cells #[.slice (some ⟨r, 0, none⟩) n c, .int .i64 0, .int .i8 lr] TB (0, 0)) := (hbel.block b (lt_heap hb)).trans hb
    have h := grown_new (l := l) (m := n) (k := k) (T := T) hfr hb hb2 hN (Nat.le_refl _) hcsz hm htk (by omega) hcm2 (by omega) (.slice (some ⟨w.heap.size, 0, none⟩) n cap2)
    exact ⟨n, rfl, h.1, h.2⟩
  try simp only [Int.natCast_zero, Nat.zero_add] at hfin hbig
  have HFin := Lib.hid hfin
  have HL := Lib.hid hl
  have HS := Lib.hid hcs
  have HM := Lib.hid hm
  clear hfin hl hcs hm
  have hsl := fun W => slice_from r n c 0 W (Nat.zero_le _) hnc (Or.inr rfl) hcm
  simp only [Nat.sub_zero, Int.natCast_zero] at hsl
  go_enter Tryz.func87, Tryz.ntmps87
  go_wp2_with (go_at_call 63; refine (buf_len_raw b _ n c 0 _ (by rw [cell_at hb]; rfl) (by rw [cell_at hb]; rfl) (Nat.zero_le _) (Nat.le_trans hnc hcm)).mono ?_)
  rintro e W0 ⟨rfl, q, hW0⟩
  simp only [Nat.sub_zero]
  have hb0 : W0.heap[b]? = some (.cells #[.slice (some ⟨r, 0, none⟩) n c, .int .i64 0, .int .i8 lr] TB (0, 0)) := by rw [← hW0]; exact hb
  have hr0 : W0.heap[r]? = some (.cells cur U8 (0, 0)) := by rw [← hW0]; exact hr
  have c0 : W0.cell? ⟨b, 0, none⟩ = some (.slice (some ⟨r, 0, none⟩) n c) := by rw [cell_at hb0]; rfl
  have c1 : W0.cell? ⟨b, 1, none⟩ = some (.int .i64 0) := by rw [cell_at hb0]; rfl
  have f0 : W0.frozen? ⟨b, 0, none⟩ = false := free_at hb0 0
  have f1 : W0.frozen? ⟨b, 1, none⟩ = false := free_at hb0 1
  have HW := Lib.hid (⟨q, hW0⟩ : ∃ q, w.drewN q = W0)
  clear hW0
  go_wp2_with (go_at_call 86; refine (tryGrow_no b _ n c k _ c0 hnc hcm hno).mono ?_; rintro e w' ⟨rfl, rfl⟩)
  have hr1 : ∀ j v, (Lib.byteCells l)[j]? = some v → W0.drew.cell? ((⟨r, 0, none⟩ : Addr).add j) = some v := unread_cells (w := W0.drew) hr0 HL.out
  have HX := Lib.hid (show (Lib.byteCells l).length = n by rw [bcells_length]; exact HM.out)
  have HR := Lib.hid hr1
  have HW2 := Lib.hid hb0
  clear hr1 hr0
  go_region_with (
    go_at_call 92
    refine (growSlice_row ⟨r, 0, none⟩ n c k (Lib.byteCells l) _ HX.out ?_ (by omega) (Lib.byteCells_one l) (by omega) (by omega) (by omega)).mono ?_
    exact HR.out
    rintro e w2 ⟨cap2, cells, rfl, hN, hcsz, htk, hcap2, hcm2, hbel⟩
    have hbk2 : w2.heap[b]? = some (.cells #[.slice (some ⟨r, 0, none⟩) n c, .int .i64 0, .int .i8 lr] TB (0, 0)) := (hbel.block b (lt_heap HW2.out)).trans HW2.out
    have d0 : w2.cell? ⟨b, 0, none⟩ = some (.slice (some ⟨r, 0, none⟩) n c) := by rw [Lib.cell_of_heap hbk2]; rfl
    have d1 : w2.cell? ⟨b, 1, none⟩ = some (.int .i64 0) := by rw [Lib.cell_of_heap hbk2]; rfl
    have e0 : w2.frozen? ⟨b, 0, none⟩ = false := Lib.frozen_of_heap hbk2 0
    have e1 : w2.frozen? ⟨b, 1, none⟩ = false := Lib.frozen_of_heap hbk2 1)
  all_goals
    go_wp2
    go_ret
    exact HFin.out W0 w2 cap2 cells HW.out hbel.size hN hcsz htk (by omega) hcm2 hbel
set_option maxHeartbeats 2000000 in
set_option maxRecDepth 100000 in
/-- grow: a new array, of a buffer of which nothing has been read. -/
theorem grow_row_none (b T k r  c : Nat) (l : List UInt8) (lr : Int) (cur : Array Value) (w : World) (hb : w.heap[b]? = some (.cells #[.slice (some ⟨r, 0, none⟩) 0 c, .int .i64 0, .int .i8 lr] TB (0, 0))) (hr : w.heap[r]? = some (.cells cur U8 (0, 0)))
    (hcs : cur.size = c) (hnc : 0 ≤ c) (hT : 0 ≤ T) (hl : (cur.toList.take 0).drop 0 = Lib.byteCells l) (hno : c - 0 < k) (hlim : 0 + k ≤ 70368744177664) :
    Calls Tryz.prog 87 #[.pointer (some ⟨b, 0, none⟩), .int .i64 k] w (Grown1 w b T l k) := by
  have hnil : ∀ W, (binOp .eql 35 (.slice (some ⟨r, 0, none⟩) 0 c) (.slice none 0 0)).run Tryz.prog W = .ok (.bool false) W := fun W => Lib.run_eql_slice_some_nil W _ _ _ Tryz.underlying35
  have hm : l.length = 0 := by
    have := congrArg List.length hl
    rw [bcells_length, List.length_drop, List.length_take, Array.length_toList] at this
    omega
  have hwn : IntKind.i64.wrap (k : Int) = (k : Int) := by rw [IntKind.wrap_i64]; omega
  have hbig : (c : Int) / 2 - ((0 : Nat) : Int) < (k : Int) := by omega
  have hcm : c ≤ maxLen := by unfold maxLen; omega
  have hfin : ∀ (W0 w2 : World) (cap2 : Nat) (cells : Array Value), (∃ q, w.drewN q = W0) → W0.drew.heap.size ≤ w2.heap.size → w2.heap[W0.heap.size]? = some (.cells cells U8 (0, 0)) → cells.size = cap2 → cells.toList.take 0 = Lib.byteCells l → 0 + k ≤ cap2 → cap2 ≤ maxLen → Below W0.drew.heap.size W0.drew w2 →
      Grown1 w b T l k (.returned (.int .i64 ((0 : Nat) : Int))) (((w2.setCell ⟨b, 0, none⟩ (.slice (some ⟨W0.heap.size, 0, none⟩) 0 cap2)).setCell ⟨b, 1, none⟩ (.int .i64 0)).setCell ⟨b, 0, none⟩ (.slice (some ⟨W0.heap.size, 0, none⟩) (0 + k) cap2)) := by
    rintro W0 w2 cap2 cells ⟨q, rfl⟩ hsz hN hcsz htk hcap2 hcm2 hbel
    have hfr : Fr (BF w b) (BF w b) w w2 := ((Fr.refl (BF w b) w).drewN q).drew.trans (Fr.of_below hbel)
    have hb2 : w2.heap[b]? = some (.cells #[.slice (some ⟨r, 0, none⟩) 0 c, .int .i64 0, .int .i8 lr] TB (0, 0)) := (hbel.block b (lt_heap hb)).trans hb
    have h := grown_new (l := l) (m := 0) (k := k) (T := T) hfr hb hb2 hN (Nat.le_refl _) hcsz hm htk (by omega) hcm2 (by omega) (.slice (some ⟨w.heap.size, 0, none⟩) 0 cap2)
    exact ⟨0, rfl, h.1, h.2⟩
  try simp only [Int.natCast_zero, Nat.zero_add] at hfin hbig
  have HFin := Lib.hid hfin
  have HL := Lib.hid hl
  have HS := Lib.hid hcs
  have HM := Lib.hid hm
  clear hfin hl hcs hm
  have hsl := fun W => slice_from r 0 c 0 W (Nat.zero_le _) hnc (Or.inr rfl) hcm
  simp only [Nat.sub_zero, Int.natCast_zero] at hsl
  go_enter Tryz.func87, Tryz.ntmps87
  go_wp2_with (go_at_call 63; refine (buf_len_raw b _ 0 c 0 _ (by rw [cell_at hb]; rfl) (by rw [cell_at hb]; rfl) (Nat.zero_le _) (Nat.le_trans hnc hcm)).mono ?_)
  rintro e W0 ⟨rfl, q, hW0⟩
  simp only [Nat.sub_zero, Int.natCast_zero]
  have hb0 : W0.heap[b]? = some (.cells #[.slice (some ⟨r, 0, none⟩) 0 c, .int .i64 0, .int .i8 lr] TB (0, 0)) := by rw [← hW0]; exact hb
  have hr0 : W0.heap[r]? = some (.cells cur U8 (0, 0)) := by rw [← hW0]; exact hr
  have c0 : W0.cell? ⟨b, 0, none⟩ = some (.slice (some ⟨r, 0, none⟩) 0 c) := by rw [cell_at hb0]; rfl
  have c1 : W0.cell? ⟨b, 1, none⟩ = some (.int .i64 0) := by rw [cell_at hb0]; rfl
  have f0 : W0.frozen? ⟨b, 0, none⟩ = false := free_at hb0 0
  have f1 : W0.frozen? ⟨b, 1, none⟩ = false := free_at hb0 1
  have HW := Lib.hid (⟨q, hW0⟩ : ∃ q, w.drewN q = W0)
  clear hW0
  go_wp2_with (go_at_call 86; refine (tryGrow_no b _ 0 c k _ c0 hnc hcm hno).mono ?_; rintro e w' ⟨rfl, rfl⟩)
  have hr1 : ∀ j v, (Lib.byteCells l)[j]? = some v → W0.drew.cell? ((⟨r, 0, none⟩ : Addr).add j) = some v := unread_cells (w := W0.drew) hr0 HL.out
  have HX := Lib.hid (show (Lib.byteCells l).length = 0 by rw [bcells_length]; exact HM.out)
  have HR := Lib.hid hr1
  have HW2 := Lib.hid hb0
  clear hr1 hr0
  go_region_with (
    go_at_call 92
    refine (growSlice_row ⟨r, 0, none⟩ 0 c k (Lib.byteCells l) _ HX.out ?_ (by omega) (Lib.byteCells_one l) (by omega) (by omega) (by omega)).mono ?_
    exact HR.out
    rintro e w2 ⟨cap2, cells, rfl, hN, hcsz, htk, hcap2, hcm2, hbel⟩
    have hbk2 : w2.heap[b]? = some (.cells #[.slice (some ⟨r, 0, none⟩) 0 c, .int .i64 0, .int .i8 lr] TB (0, 0)) := (hbel.block b (lt_heap HW2.out)).trans HW2.out
    have d0 : w2.cell? ⟨b, 0, none⟩ = some (.slice (some ⟨r, 0, none⟩) 0 c) := by rw [Lib.cell_of_heap hbk2]; rfl
    have d1 : w2.cell? ⟨b, 1, none⟩ = some (.int .i64 0) := by rw [Lib.cell_of_heap hbk2]; rfl
    have e0 : w2.frozen? ⟨b, 0, none⟩ = false := Lib.frozen_of_heap hbk2 0
    have e1 : w2.frozen? ⟨b, 1, none⟩ = false := Lib.frozen_of_heap hbk2 1)
  all_goals
    go_wp2
    go_ret
    exact HFin.out W0 w2 cap2 cells HW.out hbel.size hN hcsz htk (by omega) hcm2 hbel
end Go.Proofs.YtdedkoahfailcaaGreatDoor
