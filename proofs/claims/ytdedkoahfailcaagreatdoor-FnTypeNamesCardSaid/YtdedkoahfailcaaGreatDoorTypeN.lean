/- The names of types. -/
import Derived.Test.YtdedkoahfailcaaGreatDoorMap
import Derived.Test.YtdedkoahfailcaaGreatDoorKnown
import Derived.Test.YtdedkoahfailcaaGreatDoorConv
namespace Go.Proofs.YtdedkoahfailcaaGreatDoor
open Go Go.RowKit
set_option maxHeartbeats 1000000
set_option maxRecDepth 100000

theorem zero_str (w : World) : (zeroValue 9).run Tryz.prog w = .ok (.string .empty) w := by kernel_rfl

def tnEntries : Array MapEntry := #[⟨.int .i64 0, .string ⟨#[83, 84, 79, 80]⟩, 0⟩, ⟨.int .i64 1, .string ⟨#[86, 79, 73, 68]⟩, 1⟩, ⟨.int .i64 2, .string ⟨#[66, 79, 79, 76]⟩, 2⟩, ⟨.int .i64 3, .string ⟨#[66, 89, 84, 69]⟩, 3⟩, ⟨.int .i64 4, .string ⟨#[68, 79, 85, 66, 76, 69]⟩, 4⟩, ⟨.int .i64 6, .string ⟨#[73, 49, 54]⟩, 5⟩, ⟨.int .i64 8, .string ⟨#[73, 51, 50]⟩, 6⟩, ⟨.int .i64 10, .string ⟨#[73, 54, 52]⟩, 7⟩, ⟨.int .i64 11, .string ⟨#[83, 84, 82, 73, 78, 71]⟩, 8⟩, ⟨.int .i64 12, .string ⟨#[83, 84, 82, 85, 67, 84]⟩, 9⟩, ⟨.int .i64 13, .string ⟨#[77, 65, 80]⟩, 10⟩, ⟨.int .i64 14, .string ⟨#[83, 69, 84]⟩, 11⟩, ⟨.int .i64 15, .string ⟨#[76, 73, 83, 84]⟩, 12⟩, ⟨.int .i64 16, .string ⟨#[85, 85, 73, 68]⟩, 13⟩]

/-- What is found. -/
def tidx (t : Int) : Option (Nat × ByteArray) :=
  if t = 0 then some (0, ⟨#[83, 84, 79, 80]⟩) else
  if t = 1 then some (1, ⟨#[86, 79, 73, 68]⟩) else
  if t = 2 then some (2, ⟨#[66, 79, 79, 76]⟩) else
  if t = 3 then some (3, ⟨#[66, 89, 84, 69]⟩) else
  if t = 4 then some (4, ⟨#[68, 79, 85, 66, 76, 69]⟩) else
  if t = 6 then some (5, ⟨#[73, 49, 54]⟩) else
  if t = 8 then some (6, ⟨#[73, 51, 50]⟩) else
  if t = 10 then some (7, ⟨#[73, 54, 52]⟩) else
  if t = 11 then some (8, ⟨#[83, 84, 82, 73, 78, 71]⟩) else
  if t = 12 then some (9, ⟨#[83, 84, 82, 85, 67, 84]⟩) else
  if t = 13 then some (10, ⟨#[77, 65, 80]⟩) else
  if t = 14 then some (11, ⟨#[83, 69, 84]⟩) else
  if t = 15 then some (12, ⟨#[76, 73, 83, 84]⟩) else
  if t = 16 then some (13, ⟨#[85, 85, 73, 68]⟩) else
  none

def tfound (t : Int) : Option (Nat × Value) := (tidx t).map fun x => (x.1, .string x.2)
/-- The name of a type. -/
def tname (t : Int) : ByteArray := match tidx t with
  | some x => x.2
  | none => ⟨#[85, 110, 107, 110, 111, 119, 110]⟩

theorem tidx_some {t : Int} {x : Nat × ByteArray} (h : tidx t = some x) : x.2.size ≤ 7 ∧ 0 ≤ t ∧ t ≤ 16 := by
  unfold tidx at h
  by_cases h0 : t = 0
  · rw [if_pos h0] at h; injection h with h; subst h; exact ⟨by decide, by omega, by omega⟩
  rw [if_neg h0] at h
  by_cases h1 : t = 1
  · rw [if_pos h1] at h; injection h with h; subst h; exact ⟨by decide, by omega, by omega⟩
  rw [if_neg h1] at h
  by_cases h2 : t = 2
  · rw [if_pos h2] at h; injection h with h; subst h; exact ⟨by decide, by omega, by omega⟩
  rw [if_neg h2] at h
  by_cases h3 : t = 3
  · rw [if_pos h3] at h; injection h with h; subst h; exact ⟨by decide, by omega, by omega⟩
  rw [if_neg h3] at h
  by_cases h4 : t = 4
  · rw [if_pos h4] at h; injection h with h; subst h; exact ⟨by decide, by omega, by omega⟩
  rw [if_neg h4] at h
  by_cases h6 : t = 6
  · rw [if_pos h6] at h; injection h with h; subst h; exact ⟨by decide, by omega, by omega⟩
  rw [if_neg h6] at h
  by_cases h8 : t = 8
  · rw [if_pos h8] at h; injection h with h; subst h; exact ⟨by decide, by omega, by omega⟩
  rw [if_neg h8] at h
  by_cases h10 : t = 10
  · rw [if_pos h10] at h; injection h with h; subst h; exact ⟨by decide, by omega, by omega⟩
  rw [if_neg h10] at h
  by_cases h11 : t = 11
  · rw [if_pos h11] at h; injection h with h; subst h; exact ⟨by decide, by omega, by omega⟩
  rw [if_neg h11] at h
  by_cases h12 : t = 12
  · rw [if_pos h12] at h; injection h with h; subst h; exact ⟨by decide, by omega, by omega⟩
  rw [if_neg h12] at h
  by_cases h13 : t = 13
  · rw [if_pos h13] at h; injection h with h; subst h; exact ⟨by decide, by omega, by omega⟩
  rw [if_neg h13] at h
  by_cases h14 : t = 14
  · rw [if_pos h14] at h; injection h with h; subst h; exact ⟨by decide, by omega, by omega⟩
  rw [if_neg h14] at h
  by_cases h15 : t = 15
  · rw [if_pos h15] at h; injection h with h; subst h; exact ⟨by decide, by omega, by omega⟩
  rw [if_neg h15] at h
  by_cases h16 : t = 16
  · rw [if_pos h16] at h; injection h with h; subst h; exact ⟨by decide, by omega, by omega⟩
  rw [if_neg h16] at h
  cases h

theorem typeNames (w : World) : Calls Tryz.prog 64 #[] w fun e w' => e = .returned (.map (some w.heap.size)) ∧ w.alloc (.map tnEntries 14) = w' := by
  have hmm := @run_makeMap Tryz.prog
  have h0 := run_insert_new (P := Tryz.prog) 106 3 9 .i64 Tryz.underlying106 Tryz.underlying3 w #[] 0 0 (.string ⟨#[83, 84, 79, 80]⟩) rfl
  have h1 := run_insert_new (P := Tryz.prog) 106 3 9 .i64 Tryz.underlying106 Tryz.underlying3 w #[⟨.int .i64 0, .string ⟨#[83, 84, 79, 80]⟩, 0⟩] 1 1 (.string ⟨#[86, 79, 73, 68]⟩) rfl
  have h2 := run_insert_new (P := Tryz.prog) 106 3 9 .i64 Tryz.underlying106 Tryz.underlying3 w #[⟨.int .i64 0, .string ⟨#[83, 84, 79, 80]⟩, 0⟩, ⟨.int .i64 1, .string ⟨#[86, 79, 73, 68]⟩, 1⟩] 2 2 (.string ⟨#[66, 79, 79, 76]⟩) rfl
  have h3 := run_insert_new (P := Tryz.prog) 106 3 9 .i64 Tryz.underlying106 Tryz.underlying3 w #[⟨.int .i64 0, .string ⟨#[83, 84, 79, 80]⟩, 0⟩, ⟨.int .i64 1, .string ⟨#[86, 79, 73, 68]⟩, 1⟩, ⟨.int .i64 2, .string ⟨#[66, 79, 79, 76]⟩, 2⟩] 3 3 (.string ⟨#[66, 89, 84, 69]⟩) rfl
  have h4 := run_insert_new (P := Tryz.prog) 106 3 9 .i64 Tryz.underlying106 Tryz.underlying3 w #[⟨.int .i64 0, .string ⟨#[83, 84, 79, 80]⟩, 0⟩, ⟨.int .i64 1, .string ⟨#[86, 79, 73, 68]⟩, 1⟩, ⟨.int .i64 2, .string ⟨#[66, 79, 79, 76]⟩, 2⟩, ⟨.int .i64 3, .string ⟨#[66, 89, 84, 69]⟩, 3⟩] 4 4 (.string ⟨#[68, 79, 85, 66, 76, 69]⟩) rfl
  have h5 := run_insert_new (P := Tryz.prog) 106 3 9 .i64 Tryz.underlying106 Tryz.underlying3 w #[⟨.int .i64 0, .string ⟨#[83, 84, 79, 80]⟩, 0⟩, ⟨.int .i64 1, .string ⟨#[86, 79, 73, 68]⟩, 1⟩, ⟨.int .i64 2, .string ⟨#[66, 79, 79, 76]⟩, 2⟩, ⟨.int .i64 3, .string ⟨#[66, 89, 84, 69]⟩, 3⟩, ⟨.int .i64 4, .string ⟨#[68, 79, 85, 66, 76, 69]⟩, 4⟩] 5 6 (.string ⟨#[73, 49, 54]⟩) rfl
  have h6 := run_insert_new (P := Tryz.prog) 106 3 9 .i64 Tryz.underlying106 Tryz.underlying3 w #[⟨.int .i64 0, .string ⟨#[83, 84, 79, 80]⟩, 0⟩, ⟨.int .i64 1, .string ⟨#[86, 79, 73, 68]⟩, 1⟩, ⟨.int .i64 2, .string ⟨#[66, 79, 79, 76]⟩, 2⟩, ⟨.int .i64 3, .string ⟨#[66, 89, 84, 69]⟩, 3⟩, ⟨.int .i64 4, .string ⟨#[68, 79, 85, 66, 76, 69]⟩, 4⟩, ⟨.int .i64 6, .string ⟨#[73, 49, 54]⟩, 5⟩] 6 8 (.string ⟨#[73, 51, 50]⟩) rfl
  have h7 := run_insert_new (P := Tryz.prog) 106 3 9 .i64 Tryz.underlying106 Tryz.underlying3 w #[⟨.int .i64 0, .string ⟨#[83, 84, 79, 80]⟩, 0⟩, ⟨.int .i64 1, .string ⟨#[86, 79, 73, 68]⟩, 1⟩, ⟨.int .i64 2, .string ⟨#[66, 79, 79, 76]⟩, 2⟩, ⟨.int .i64 3, .string ⟨#[66, 89, 84, 69]⟩, 3⟩, ⟨.int .i64 4, .string ⟨#[68, 79, 85, 66, 76, 69]⟩, 4⟩, ⟨.int .i64 6, .string ⟨#[73, 49, 54]⟩, 5⟩, ⟨.int .i64 8, .string ⟨#[73, 51, 50]⟩, 6⟩] 7 10 (.string ⟨#[73, 54, 52]⟩) rfl
  have h8 := run_insert_new (P := Tryz.prog) 106 3 9 .i64 Tryz.underlying106 Tryz.underlying3 w #[⟨.int .i64 0, .string ⟨#[83, 84, 79, 80]⟩, 0⟩, ⟨.int .i64 1, .string ⟨#[86, 79, 73, 68]⟩, 1⟩, ⟨.int .i64 2, .string ⟨#[66, 79, 79, 76]⟩, 2⟩, ⟨.int .i64 3, .string ⟨#[66, 89, 84, 69]⟩, 3⟩, ⟨.int .i64 4, .string ⟨#[68, 79, 85, 66, 76, 69]⟩, 4⟩, ⟨.int .i64 6, .string ⟨#[73, 49, 54]⟩, 5⟩, ⟨.int .i64 8, .string ⟨#[73, 51, 50]⟩, 6⟩, ⟨.int .i64 10, .string ⟨#[73, 54, 52]⟩, 7⟩] 8 11 (.string ⟨#[83, 84, 82, 73, 78, 71]⟩) rfl
  have h9 := run_insert_new (P := Tryz.prog) 106 3 9 .i64 Tryz.underlying106 Tryz.underlying3 w #[⟨.int .i64 0, .string ⟨#[83, 84, 79, 80]⟩, 0⟩, ⟨.int .i64 1, .string ⟨#[86, 79, 73, 68]⟩, 1⟩, ⟨.int .i64 2, .string ⟨#[66, 79, 79, 76]⟩, 2⟩, ⟨.int .i64 3, .string ⟨#[66, 89, 84, 69]⟩, 3⟩, ⟨.int .i64 4, .string ⟨#[68, 79, 85, 66, 76, 69]⟩, 4⟩, ⟨.int .i64 6, .string ⟨#[73, 49, 54]⟩, 5⟩, ⟨.int .i64 8, .string ⟨#[73, 51, 50]⟩, 6⟩, ⟨.int .i64 10, .string ⟨#[73, 54, 52]⟩, 7⟩, ⟨.int .i64 11, .string ⟨#[83, 84, 82, 73, 78, 71]⟩, 8⟩] 9 12 (.string ⟨#[83, 84, 82, 85, 67, 84]⟩) rfl
  have h10 := run_insert_new (P := Tryz.prog) 106 3 9 .i64 Tryz.underlying106 Tryz.underlying3 w #[⟨.int .i64 0, .string ⟨#[83, 84, 79, 80]⟩, 0⟩, ⟨.int .i64 1, .string ⟨#[86, 79, 73, 68]⟩, 1⟩, ⟨.int .i64 2, .string ⟨#[66, 79, 79, 76]⟩, 2⟩, ⟨.int .i64 3, .string ⟨#[66, 89, 84, 69]⟩, 3⟩, ⟨.int .i64 4, .string ⟨#[68, 79, 85, 66, 76, 69]⟩, 4⟩, ⟨.int .i64 6, .string ⟨#[73, 49, 54]⟩, 5⟩, ⟨.int .i64 8, .string ⟨#[73, 51, 50]⟩, 6⟩, ⟨.int .i64 10, .string ⟨#[73, 54, 52]⟩, 7⟩, ⟨.int .i64 11, .string ⟨#[83, 84, 82, 73, 78, 71]⟩, 8⟩, ⟨.int .i64 12, .string ⟨#[83, 84, 82, 85, 67, 84]⟩, 9⟩] 10 13 (.string ⟨#[77, 65, 80]⟩) rfl
  have h11 := run_insert_new (P := Tryz.prog) 106 3 9 .i64 Tryz.underlying106 Tryz.underlying3 w #[⟨.int .i64 0, .string ⟨#[83, 84, 79, 80]⟩, 0⟩, ⟨.int .i64 1, .string ⟨#[86, 79, 73, 68]⟩, 1⟩, ⟨.int .i64 2, .string ⟨#[66, 79, 79, 76]⟩, 2⟩, ⟨.int .i64 3, .string ⟨#[66, 89, 84, 69]⟩, 3⟩, ⟨.int .i64 4, .string ⟨#[68, 79, 85, 66, 76, 69]⟩, 4⟩, ⟨.int .i64 6, .string ⟨#[73, 49, 54]⟩, 5⟩, ⟨.int .i64 8, .string ⟨#[73, 51, 50]⟩, 6⟩, ⟨.int .i64 10, .string ⟨#[73, 54, 52]⟩, 7⟩, ⟨.int .i64 11, .string ⟨#[83, 84, 82, 73, 78, 71]⟩, 8⟩, ⟨.int .i64 12, .string ⟨#[83, 84, 82, 85, 67, 84]⟩, 9⟩, ⟨.int .i64 13, .string ⟨#[77, 65, 80]⟩, 10⟩] 11 14 (.string ⟨#[83, 69, 84]⟩) rfl
  have h12 := run_insert_new (P := Tryz.prog) 106 3 9 .i64 Tryz.underlying106 Tryz.underlying3 w #[⟨.int .i64 0, .string ⟨#[83, 84, 79, 80]⟩, 0⟩, ⟨.int .i64 1, .string ⟨#[86, 79, 73, 68]⟩, 1⟩, ⟨.int .i64 2, .string ⟨#[66, 79, 79, 76]⟩, 2⟩, ⟨.int .i64 3, .string ⟨#[66, 89, 84, 69]⟩, 3⟩, ⟨.int .i64 4, .string ⟨#[68, 79, 85, 66, 76, 69]⟩, 4⟩, ⟨.int .i64 6, .string ⟨#[73, 49, 54]⟩, 5⟩, ⟨.int .i64 8, .string ⟨#[73, 51, 50]⟩, 6⟩, ⟨.int .i64 10, .string ⟨#[73, 54, 52]⟩, 7⟩, ⟨.int .i64 11, .string ⟨#[83, 84, 82, 73, 78, 71]⟩, 8⟩, ⟨.int .i64 12, .string ⟨#[83, 84, 82, 85, 67, 84]⟩, 9⟩, ⟨.int .i64 13, .string ⟨#[77, 65, 80]⟩, 10⟩, ⟨.int .i64 14, .string ⟨#[83, 69, 84]⟩, 11⟩] 12 15 (.string ⟨#[76, 73, 83, 84]⟩) rfl
  have h13 := run_insert_new (P := Tryz.prog) 106 3 9 .i64 Tryz.underlying106 Tryz.underlying3 w #[⟨.int .i64 0, .string ⟨#[83, 84, 79, 80]⟩, 0⟩, ⟨.int .i64 1, .string ⟨#[86, 79, 73, 68]⟩, 1⟩, ⟨.int .i64 2, .string ⟨#[66, 79, 79, 76]⟩, 2⟩, ⟨.int .i64 3, .string ⟨#[66, 89, 84, 69]⟩, 3⟩, ⟨.int .i64 4, .string ⟨#[68, 79, 85, 66, 76, 69]⟩, 4⟩, ⟨.int .i64 6, .string ⟨#[73, 49, 54]⟩, 5⟩, ⟨.int .i64 8, .string ⟨#[73, 51, 50]⟩, 6⟩, ⟨.int .i64 10, .string ⟨#[73, 54, 52]⟩, 7⟩, ⟨.int .i64 11, .string ⟨#[83, 84, 82, 73, 78, 71]⟩, 8⟩, ⟨.int .i64 12, .string ⟨#[83, 84, 82, 85, 67, 84]⟩, 9⟩, ⟨.int .i64 13, .string ⟨#[77, 65, 80]⟩, 10⟩, ⟨.int .i64 14, .string ⟨#[83, 69, 84]⟩, 11⟩, ⟨.int .i64 15, .string ⟨#[76, 73, 83, 84]⟩, 12⟩] 13 16 (.string ⟨#[85, 85, 73, 68]⟩) rfl
  simp only [List.push_toArray, List.nil_append, List.cons_append, Nat.reduceAdd] at h0 h1 h2 h3 h4 h5 h6 h7 h8 h9 h10 h11 h12 h13
  go_enter Tryz.func64, Tryz.ntmps64
  go_wp2
  go_ret
  exact ⟨rfl, rfl⟩

theorem tn_find (t : Int) : Instr.findNow (.int .i64) (.int .i64 t) tnEntries.toList 0 = some (tfound t) := by
  unfold tfound tidx tnEntries
  by_cases h0 : t = 0
  · subst h0; rfl
  rw [if_neg h0]
  by_cases h1 : t = 1
  · subst h1; rfl
  rw [if_neg h1]
  by_cases h2 : t = 2
  · subst h2; rfl
  rw [if_neg h2]
  by_cases h3 : t = 3
  · subst h3; rfl
  rw [if_neg h3]
  by_cases h4 : t = 4
  · subst h4; rfl
  rw [if_neg h4]
  by_cases h6 : t = 6
  · subst h6; rfl
  rw [if_neg h6]
  by_cases h8 : t = 8
  · subst h8; rfl
  rw [if_neg h8]
  by_cases h10 : t = 10
  · subst h10; rfl
  rw [if_neg h10]
  by_cases h11 : t = 11
  · subst h11; rfl
  rw [if_neg h11]
  by_cases h12 : t = 12
  · subst h12; rfl
  rw [if_neg h12]
  by_cases h13 : t = 13
  · subst h13; rfl
  rw [if_neg h13]
  by_cases h14 : t = 14
  · subst h14; rfl
  rw [if_neg h14]
  by_cases h15 : t = 15
  · subst h15; rfl
  rw [if_neg h15]
  by_cases h16 : t = 16
  · subst h16; rfl
  rw [if_neg h16]
  simp [Option.map, Instr.findNow, Instr.sameNow, beq_eq_false_iff_ne.2 h0, beq_eq_false_iff_ne.2 h1, beq_eq_false_iff_ne.2 h2, beq_eq_false_iff_ne.2 h3, beq_eq_false_iff_ne.2 h4, beq_eq_false_iff_ne.2 h6, beq_eq_false_iff_ne.2 h8, beq_eq_false_iff_ne.2 h10, beq_eq_false_iff_ne.2 h11, beq_eq_false_iff_ne.2 h12, beq_eq_false_iff_ne.2 h13, beq_eq_false_iff_ne.2 h14, beq_eq_false_iff_ne.2 h15, beq_eq_false_iff_ne.2 h16]


/-- A key asked of a map, with 'ok'. -/
theorem run_lookup_ok {P : Program} (T K E : TypeId) (k : IntKind) (z : Value) (hT : P.underlying T = some (.map K E)) (hK : P.underlying K = some (.int k)) (hz : ∀ w, (zeroValue E).run P w = .ok z w) (w : World) (r : Nat) (es : Array MapEntry) (c : Nat) (n : Int)
    (hr : w.heap[r]? = some (.map es c)) (o : Option (Nat × Value)) (hf : Instr.findNow (.int k) (.int k n) es.toList 0 = some o) :
    (Instr.lookup T (.map (some r)) (.int k n) true).run P w = .ok (.tuple #[found z o, .bool o.isSome]) w := by
  cases o with
  | none => simp [Instr.lookup, run_underlying hT, MapKept.run_getObj_map hr, MapKept.run_checkKey hK (k := .int k n) rfl, MapKept.run_findKey hK hf, Result.andThen, hz, found]
  | some x => simp [Instr.lookup, run_underlying hT, MapKept.run_getObj_map hr, MapKept.run_checkKey hK (k := .int k n) rfl, MapKept.run_findKey hK hf, Result.andThen, found]

theorem tname_found (t : Int) : (tfound t = none ∧ tname t = ⟨#[85, 110, 107, 110, 111, 119, 110]⟩) ∨ ∃ i, tfound t = some (i, .string (tname t)) := by
  unfold tfound tname
  cases tidx t with
  | none => exact Or.inl ⟨rfl, rfl⟩
  | some x => exact Or.inr ⟨x.1, rfl⟩

theorem T_String (t : Int) (h0 : 0 ≤ t) (h1 : t < 256) (w : World) : Calls Tryz.prog 43 #[.int .u8 t] w fun e w' => e = .returned (.string (tname t)) ∧ Fr noF noF w w' := by
  have hl := run_lookup_ok (P := Tryz.prog) 106 3 9 .i64 (.string .empty) Tryz.underlying106 Tryz.underlying3 zero_str (w.alloc (.map tnEntries 14)) w.heap.size tnEntries 14 t (alloc_new w _) _ (tn_find t)
  have HT := Lib.hid typeNames
  rcases tname_found t with ⟨g1, g2⟩ | ⟨i, g1⟩
  · rw [g1] at hl
    rw [g2]
    clear g1 g2
    simp only [found, Option.isSome] at hl
    go_enter Tryz.func43, Tryz.ntmps43
    go_wp2_with (go_at_call 64; refine (HT.out _).mono ?_; rintro e w' ⟨rfl, rfl⟩)
    go_ret
    exact ⟨rfl, (Fr.refl noF w).alloc _⟩
  · rw [g1] at hl
    clear g1
    simp only [found, Option.isSome] at hl
    go_enter Tryz.func43, Tryz.ntmps43
    go_wp2_with (go_at_call 64; refine (HT.out _).mono ?_; rintro e w' ⟨rfl, rfl⟩)
    go_ret
    exact ⟨rfl, (Fr.refl noF w).alloc _⟩

/-- A text's bytes, new. -/
def TextR (s : ByteArray) (w : World) (e : Ending) (w' : World) : Prop := ∃ v, e = .returned v ∧ Rd w' v s.data.toList ∧ (∀ k, vblk v k → w.heap.size ≤ k) ∧ Fr noF noF w w'

theorem tname_size (t : Int) : (tname t).size ≤ 7 := by
  unfold tname
  cases h : tidx t with
  | none => decide
  | some x => exact (tidx_some h).1
theorem text_conv {w w1 : World} (h : Fr noF noF w w1) (s : ByteArray) (hs : s.size ≤ 100) : TextR s w (.returned (convV w1 s)) (convW w1 s) :=
  ⟨_, rfl, conv_rd _ _ (Nat.le_trans hs (by unfold maxLen; omega)), fun k hk => by rw [conv_blk hk]; exact h.size, conv_fr h s⟩

theorem I_TypeName (t : Int) (w : World) : Calls Tryz.prog 16 #[.int .i64 t] w (TextR (tname (t % 256)) w) := by
  have HT := Lib.hid T_String
  have hcv := run_conv
  have hs : (tname (t % 256)).size ≤ 100 := by have := tname_size (t % 256); omega
  have HS := Lib.hid hs
  clear hs
  go_enter Tryz.func16, Tryz.ntmps16
  go_wp2_with (first | (go_at_call 42; refine (I_typ _ _).mono ?_; rintro e w' ⟨rfl, rfl⟩) | (go_at_call 43; refine (HT.out _ (by omega) (by omega) _).mono ?_; rintro e w1 ⟨rfl, hf⟩; have HF := Lib.hid hf; clear hf))
  go_ret
  exact text_conv HF.out _ HS.out

def specNames : Array Value := #[.string ⟨#[83, 84, 79, 80]⟩, .string ⟨#[86, 79, 73, 68]⟩, .string ⟨#[66, 79, 79, 76]⟩, .string ⟨#[66, 89, 84, 69]⟩, .string ⟨#[68, 79, 85, 66, 76, 69]⟩, .string ⟨#[]⟩, .string ⟨#[73, 49, 54]⟩, .string ⟨#[]⟩, .string ⟨#[73, 51, 50]⟩, .string ⟨#[]⟩, .string ⟨#[73, 54, 52]⟩, .string ⟨#[83, 84, 82, 73, 78, 71]⟩, .string ⟨#[83, 84, 82, 85, 67, 84]⟩, .string ⟨#[77, 65, 80]⟩, .string ⟨#[83, 69, 84]⟩, .string ⟨#[76, 73, 83, 84]⟩, .string ⟨#[85, 85, 73, 68]⟩]
def specN (n : Nat) : ByteArray := ([⟨#[83, 84, 79, 80]⟩, ⟨#[86, 79, 73, 68]⟩, ⟨#[66, 79, 79, 76]⟩, ⟨#[66, 89, 84, 69]⟩, ⟨#[68, 79, 85, 66, 76, 69]⟩, ⟨#[]⟩, ⟨#[73, 49, 54]⟩, ⟨#[]⟩, ⟨#[73, 51, 50]⟩, ⟨#[]⟩, ⟨#[73, 54, 52]⟩, ⟨#[83, 84, 82, 73, 78, 71]⟩, ⟨#[83, 84, 82, 85, 67, 84]⟩, ⟨#[77, 65, 80]⟩, ⟨#[83, 69, 84]⟩, ⟨#[76, 73, 83, 84]⟩, ⟨#[85, 85, 73, 68]⟩] : List ByteArray).getD n .empty
theorem specN_at (n : Nat) (h : n < 17) : specNames[n]? = some (.string (specN n)) := by
  have : n = 0 ∨ n = 1 ∨ n = 2 ∨ n = 3 ∨ n = 4 ∨ n = 5 ∨ n = 6 ∨ n = 7 ∨ n = 8 ∨ n = 9 ∨ n = 10 ∨ n = 11 ∨ n = 12 ∨ n = 13 ∨ n = 14 ∨ n = 15 ∨ n = 16 := by omega
  rcases this with rfl | rfl | rfl | rfl | rfl | rfl | rfl | rfl | rfl | rfl | rfl | rfl | rfl | rfl | rfl | rfl | rfl <;> rfl
theorem specN_tname (n : Nat) (h : n < 17) : (specN n = .empty ∧ tname n = ⟨#[85, 110, 107, 110, 111, 119, 110]⟩) ∨ (specN n ≠ .empty ∧ tname n = specN n) := by
  have : n = 0 ∨ n = 1 ∨ n = 2 ∨ n = 3 ∨ n = 4 ∨ n = 5 ∨ n = 6 ∨ n = 7 ∨ n = 8 ∨ n = 9 ∨ n = 10 ∨ n = 11 ∨ n = 12 ∨ n = 13 ∨ n = 14 ∨ n = 15 ∨ n = 16 := by omega
  rcases this with rfl | rfl | rfl | rfl | rfl | rfl | rfl | rfl | rfl | rfl | rfl | rfl | rfl | rfl | rfl | rfl | rfl <;> first | exact Or.inl ⟨rfl, rfl⟩ | exact Or.inr ⟨by decide, rfl⟩
theorem tname_high (t : Int) (h : 17 ≤ t) : tname t = ⟨#[85, 110, 107, 110, 111, 119, 110]⟩ := by
  unfold tname
  cases h' : tidx t with
  | none => rfl
  | some x => have := (tidx_some h').2; omega
end Go.Proofs.YtdedkoahfailcaaGreatDoor
