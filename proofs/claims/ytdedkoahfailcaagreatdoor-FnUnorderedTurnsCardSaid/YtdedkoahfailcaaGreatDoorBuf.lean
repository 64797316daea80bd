/- bytes.Buffer: growSlice, tryGrowByReslice, grow, Write, WriteByte, WriteString, Read, ReadByte, Bytes, Len, Reset at any state of the buffer. -/
import Derived.Test.YtdedkoahfailcaaGreatDoorProg
import Derived.Test.YtdedkoahfailcaaGreatDoorMem
import Derived.WalkKit
import Derived.WalkSpells
import Derived.WalkLawsBesides
import Derived.Lib.AppendZeros
import Derived.Lib.ByteType
import Derived.Shelf.Abstract
import Derived.Lib.Hide
import Derived.Laws.IdiomCopy
import Derived.Deep.QuietTactic
import Derived.BigQuiet
namespace Go.Proofs.YtdedkoahfailcaaGreatDoor
open Go Go.RowKit

theorem info_u8 : (Tryz.prog.info? 5).map (fun i => (i.zero, i.size, i.bytes)) = some (some (.int .u8 0), 1, 1) := by kernel_rfl
theorem size_u8 : (Tryz.prog.info? 5).map (·.size) = some 1 := by kernel_rfl

theorem growCatch (w : World) : CallsD Tryz.prog 93 #[] .returning w fun e u' w' => e = .returned (.tuple #[]) ∧ u' = .returning ∧ w' = w := by
  have hnn : ∀ w, (binOp .neq 20 .nilIface .nilIface).run Tryz.prog w = .ok (.bool false) w := fun w => Lib.run_neq_nil_nil w Tryz.underlying20
  refine callsD_of_wpS Tryz.func93 rfl fun c₀ cs hu => ?_
  apply wpS_seq
  apply wpS_region
  simp [wpOpsS, go_sem, recoverD, hu, hnn, Tryz.ntmps93, Exit.thenS]
  refine wpS_cond (t := false) (by simp [Act.eval, Array.replicate]) ?_
  simp only [Bool.false_eq_true, if_false]
  refine wpS_of_wp (wp_skip ?_)
  cases c₀
  simp_all [bodyPostS, results, Tryz.results93]

/-- The new array's length and what the append of zeros leaves. -/
theorem zerosRun (w : World) (C : Nat) (h0 : 0 < C) (hC : C ≤ 281474976710656) :
    ∃ cap2 Z, (Builtin.append_ #[35, 3] 35 #[.slice none 0 0, .int .i64 (C : Int)]).run Tryz.prog w = .ok (.slice (some ⟨w.heap.size, 0, none⟩) C cap2) ((w.alloc (.cells Z U8)).drew) ∧ Z.size = cap2 ∧ C ≤ cap2 ∧ cap2 ≤ maxLen := by
  obtain ⟨i0, hi, hz0, hz1, hz2⟩ := info_parts info_u8
  have happ := Lib.run_append_nil_zeros (P := Tryz.prog) w 35 3 35 5 i0 (.int .u8 0) .i64 .i64 Tryz.underlying35 Tryz.underlying3 hi hz0 C h0 (by omega) (by omega) (by rw [hz2]; omega)
  have hge := grownCap_ge w C 0 5
  have hle : grownCap w C 0 5 ≤ maxLen := grownCap_le_maxLen w _ 0 _ (by unfold maxLen; omega)
  exact ⟨_, _, happ, by simp [size_zeroCells, Value.cells]; omega, hge, hle⟩

/-- What growSlice leaves. -/
def GSpost (w : World) (l n : Nat) (xs : List Value) (e : Ending) (w' : World) : Prop := ∃ cap2 cells, e = .returned (.slice (some ⟨w.heap.size, 0, none⟩) l cap2) ∧ w'.heap[w.heap.size]? = some (.cells cells U8 (0, 0)) ∧
      cells.size = cap2 ∧ cells.toList.take l = xs ∧ l + n ≤ cap2 ∧ cap2 ≤ maxLen ∧ Below w.heap.size w w'

set_option maxHeartbeats 1000000 in
set_option maxRecDepth 100000 in
/-- bytes.growSlice of a slice whose cells are xs, in a row. -/
theorem growSlice_row (a : Addr) (l c n : Nat) (xs : List Value) (w : World) (hxl : xs.length = l) (hsrc : ∀ j v, xs[j]? = some v → w.cell? (a.add j) = some v) (hn : 1 ≤ n) (h1 : ∀ v ∈ xs, v.oneCell' = true)
    (hlim : l + n ≤ 140737488355328) (hc2 : c ≤ 140737488355328) (_hlc : l ≤ c) :
    Calls Tryz.prog 92 #[.slice (some a) l c, .int .i64 n] w (GSpost w l n xs) := by
  have core : ∀ C : Nat, l + n ≤ C → C ≤ 281474976710656 → (C = 2 * c ∧ l + n < 2 * c ∨ C = l + n ∧ ¬ l + n < 2 * c) →
    Calls Tryz.prog 92 #[.slice (some a) l c, .int .i64 n] w (GSpost w l n xs) := by
    intro C hC1 hC2 hcase
    obtain ⟨cap2, Z, happ, hZs, hge, hle⟩ := zerosRun w C (by omega) hC2
    have hsrc1 : ∀ j v, xs[j]? = some v → (w.alloc (.cells Z U8)).drew.cell? (a.add j) = some v := fun j v hj => by
      have h0 := hsrc j v hj
      show (w.alloc (.cells Z U8)).cell? (a.add j) = some v
      rw [World.cell?_of_block (Below.heap_alloc w _ _ (World.block_lt_of_cell? w _ h0))]; exact h0
    have hcopy := run_copy_row (P := Tryz.prog) (w.alloc (.cells Z U8)).drew 35 35 3 5 w.heap.size 0 C cap2 a l c Z U8 xs Tryz.underlying35 size_u8 (heap_alloc_new w _) (by rw [hxl]; exact (Nat.min_eq_left (by omega)).symm) hsrc1 (by rw [hxl]; omega) h1
    rw [hxl] at hcopy
    generalize hY : (Z.toList.take 0 ++ xs ++ Z.toList.drop (0 + l)).toArray = Y at hcopy
    have HY := Lib.hid hY
    have HZ := Lib.hid hZs
    have HX := Lib.hid hxl
    clear hY hZs hsrc hsrc1 hxl
    have fin : GSpost w l n xs (.returned (.slice (some ⟨w.heap.size, 0, none⟩) l cap2)) ((w.alloc (.cells Z U8)).drew.setRow w.heap.size Y) := by
      have hxl : xs.length = l := HX.out
      have hZt : Z.toList.length = cap2 := by rw [Array.length_toList]; exact HZ.out
      have hYl : Y.toList = xs ++ Z.toList.drop l := by rw [← HY.out]; simp
      refine ⟨cap2, Y, rfl, setRow_heap _ _ Z Y U8 (0, 0) (heap_alloc_new w _), ?_, ?_, by omega, hle, ?_⟩
      · have : Y.toList.length = cap2 := by rw [hYl, List.length_append, List.length_drop, hZt]; omega
        simpa using this
      · rw [hYl, List.take_append_of_le_length (by omega), List.take_of_length_le (by omega)]
      · exact ⟨rfl, rfl, rfl, by simp, fun k hk => by rw [setRow_other _ _ _ _ (by omega)]; exact Below.heap_alloc w _ k hk⟩
    have Hf := Lib.hid fin
    clear fin HY HZ HX
    rcases hcase with ⟨rfl, hC⟩ | ⟨rfl, hC⟩
    all_goals
      first | rw [show (((2 * c : Nat)) : Int) = 2 * (c : Int) by omega] at happ | rw [show (((l + n : Nat)) : Int) = (l : Int) + (n : Int) by omega] at happ
      go_enter_defers Tryz.func92, Tryz.ntmps92
      go_wp2_with (at_builtin; refine Lib.wpList_append_run _ rfl _ _ _ _ rfl _ _ rfl rfl _ _ happ ?_)
      refine leaves_cons (f := 93) (args := #[]) (by simp) (enters_of Tryz.func93 (by kernel_rfl) rfl _ _) ?_
      refine (growCatch _).mono ?_
      rintro e u' w'' ⟨rfl, rfl, rfl⟩
      refine ⟨_, results_tmp rfl _ _ _, ?_⟩
      exact Hf.out
  by_cases hC : l + n < 2 * c
  · exact core (2 * c) (by omega) (by omega) (Or.inl ⟨rfl, hC⟩)
  · exact core (l + n) (by omega) (by omega) (Or.inr ⟨rfl, hC⟩)

set_option maxHeartbeats 1000000 in
set_option maxRecDepth 100000 in
/-- bytes.growSlice of a slice without cells: nil, or empty. -/
theorem growSlice_none (a : Option Addr) (c n : Nat) (w : World) (hn : 1 ≤ n) (hlim : n ≤ 140737488355328) (hc : c ≤ 140737488355328) (ha : a = none → c = 0) :
    Calls Tryz.prog 92 #[.slice a 0 c, .int .i64 n] w (GSpost w 0 n []) := by
  cases a with
  | some a =>
    exact growSlice_row a 0 c n [] w rfl (fun j v h => by simp at h) hn (by simp) (by omega) hc (Nat.zero_le _)
  | none =>
    obtain rfl := ha rfl
    obtain ⟨cap2, Z, happ, hZs, hge, hle⟩ := zerosRun w n (by omega) (by omega)
    have hcopy := run_copy_nil (P := Tryz.prog) (w.alloc (.cells Z U8)).drew 35 35 3 5 ⟨w.heap.size, 0, none⟩ n cap2 Tryz.underlying35 (by rw [size_u8]; rfl)
    have HZ := Lib.hid hZs
    clear hZs
    go_enter_defers Tryz.func92, Tryz.ntmps92
    go_wp2_with (at_builtin; refine Lib.wpList_append_run _ rfl _ _ _ _ rfl _ _ rfl rfl _ _ happ ?_)
    refine leaves_cons (f := 93) (args := #[]) (by simp) (enters_of Tryz.func93 (by kernel_rfl) rfl _ _) ?_
    refine (growCatch _).mono ?_
    rintro e u' w'' ⟨rfl, rfl, rfl⟩
    refine ⟨_, results_tmp rfl _ _ _, ?_⟩
    exact ⟨cap2, Z, rfl, heap_alloc_new w _, HZ.out, by simp, by omega, hle, ⟨rfl, rfl, rfl, by simp, fun k hk => Below.heap_alloc w _ k hk⟩⟩

/-- tryGrowByReslice: there is room. -/
theorem tryGrow_yes (b : Nat) (a : Option Addr) (l c n : Nat) (w : World) (c0 : w.cell? ⟨b, 0, none⟩ = some (.slice a l c)) (f0 : w.frozen? ⟨b, 0, none⟩ = false) (hlc : l ≤ c) (hc : c ≤ maxLen) (hn : n ≤ c - l) :
    Calls Tryz.prog 86 #[.pointer (some ⟨b, 0, none⟩), .int .i64 n] w fun e w' => e = .returned (.tuple #[.int .i64 l, .bool true]) ∧ w' = w.setCell ⟨b, 0, none⟩ (.slice a (l + n) c) := by
  unfold maxLen at hc
  have h1 : (n : Int) ≤ (c : Int) - l := by omega
  go_enter Tryz.func86, Tryz.ntmps86
  go_wp2
  all_goals
    go_ret2
    exact ⟨rfl, rfl⟩

/-- .. and there is none. -/
theorem tryGrow_no (b : Nat) (a : Option Addr) (l c n : Nat) (w : World) (c0 : w.cell? ⟨b, 0, none⟩ = some (.slice a l c)) (hlc : l ≤ c) (hc : c ≤ maxLen) (hn : c - l < n) :
    Calls Tryz.prog 86 #[.pointer (some ⟨b, 0, none⟩), .int .i64 n] w fun e w' => e = .returned (.tuple #[.int .i64 0, .bool false]) ∧ w = w' := by
  unfold maxLen at hc
  have h1 : ¬ (n : Int) ≤ (c : Int) - l := by omega
  go_enter Tryz.func86, Tryz.ntmps86
  go_wp2
  go_ret2
  exact ⟨rfl, rfl⟩

/-- Len. -/
theorem buf_len_raw (b : Nat) (a : Option Addr) (n c o : Nat) (w : World) (c0 : w.cell? ⟨b, 0, none⟩ = some (.slice a n c)) (c1 : w.cell? ⟨b, 1, none⟩ = some (.int .i64 (o : Int))) (hon : o ≤ n) (hn : n ≤ maxLen) :
    Calls Tryz.prog 63 #[.pointer (some ⟨b, 0, none⟩)] w fun e w' => e = .returned (.int .i64 ((n - o : Nat) : Int)) ∧ ∃ q, w.drewN q = w' := by
  unfold maxLen at hn
  have e1 : ((n - o : Nat) : Int) = (n : Int) - o := by omega
  rw [e1]
  go_enter Tryz.func63, Tryz.ntmps63
  go_wp2_with fail
  go_quiet (fail)
  go_wp2
  go_ret
  exact ⟨rfl, _, rfl⟩
end Go.Proofs.YtdedkoahfailcaaGreatDoor
