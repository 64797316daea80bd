/- A literal map of whole numbers, made and asked: the compact type of a type. -/
import Derived.Test.YtdedkoahfailcaaGreatDoorMem
import Derived.Test.YtdedkoahfailcaaGreatDoorProg
import Derived.WalkSpells
import Derived.ChangeMaps4
namespace Go.Proofs.YtdedkoahfailcaaGreatDoor
open Go Go.RowKit

theorem map_push (w : World) (es : Array MapEntry) (c : Nat) (o : Obj) : ChangeMaps.setBlock (w.alloc (.map es c)) w.heap.size o = w.alloc o := by
  show { w with heap := (w.heap.push (.map es c)).setIfInBounds w.heap.size o } = { w with heap := w.heap.push o }
  congr 1
  apply Array.ext'
  simp

/-- A new key laid into a new map with keys of a kind of whole numbers. -/
theorem run_insert_new {P : Program} (T K E : TypeId) (k : IntKind) (hT : P.underlying T = some (.map K E)) (hK : P.underlying K = some (.int k)) (w : World) (es : Array MapEntry) (c : Nat) (n : Int) (v : Value) (hf : Instr.findNow (.int k) (.int k n) es.toList 0 = some none) :
    (Instr.mapUpdate T (.map (some w.heap.size)) (.int k n) v).run P (w.alloc (.map es c)) = .ok () (w.alloc (.map (es.push ⟨.int k n, v, c⟩) (c + 1))) := by
  have hg : (w.alloc (.map es c)).heap[w.heap.size]? = some (.map es c) := alloc_new w _
  simp [Instr.mapUpdate, run_underlying hT, MapKept.run_getObj_map hg, MapKept.run_checkKey hK (k := .int k n) rfl, MapKept.run_findKey hK hf, MapKept.run_setObj_map _ hg, Result.andThen]
  exact map_push w es c _

/-- What a lookup gives. -/
def found (z : Value) : Option (Nat × Value) → Value
  | some (_, v) => v
  | none => z

/-- A key asked of a map. -/
theorem run_lookup_now {P : Program} (T K E : TypeId) (k : IntKind) (z : Value) (hT : P.underlying T = some (.map K E)) (hK : P.underlying K = some (.int k)) (hz : ∀ w, (zeroValue E).run P w = .ok z w) (w : World) (r : Nat) (es : Array MapEntry) (c : Nat) (n : Int)
    (hr : w.heap[r]? = some (.map es c)) (o : Option (Nat × Value)) (hf : Instr.findNow (.int k) (.int k n) es.toList 0 = some o) :
    (Instr.lookup T (.map (some r)) (.int k n) false).run P w = .ok (found z o) w := by
  cases o with
  | none => simp [Instr.lookup, run_underlying hT, MapKept.run_getObj_map hr, MapKept.run_checkKey hK (k := .int k n) rfl, MapKept.run_findKey hK hf, Result.andThen, hz, found]
  | some x => simp [Instr.lookup, run_underlying hT, MapKept.run_getObj_map hr, MapKept.run_checkKey hK (k := .int k n) rfl, MapKept.run_findKey hK hf, Result.andThen, found]

theorem zero_ct (w : World) : (zeroValue 257).run Tryz.prog w = .ok (.int .u8 0) w := by kernel_rfl

def ctEntries : Array MapEntry := #[⟨.int .u8 0, .int .u8 0, 0⟩, ⟨.int .u8 2, .int .u8 1, 1⟩, ⟨.int .u8 3, .int .u8 3, 2⟩, ⟨.int .u8 6, .int .u8 4, 3⟩, ⟨.int .u8 8, .int .u8 5, 4⟩, ⟨.int .u8 10, .int .u8 6, 5⟩, ⟨.int .u8 4, .int .u8 7, 6⟩, ⟨.int .u8 11, .int .u8 8, 7⟩, ⟨.int .u8 15, .int .u8 9, 8⟩, ⟨.int .u8 14, .int .u8 10, 9⟩, ⟨.int .u8 13, .int .u8 11, 10⟩, ⟨.int .u8 12, .int .u8 12, 11⟩, ⟨.int .u8 16, .int .u8 13, 12⟩]

/-- The compact type of a type. -/
def ctype (t : Int) : Int :=
  if t = 0 then 0 else
  if t = 2 then 1 else
  if t = 3 then 3 else
  if t = 6 then 4 else
  if t = 8 then 5 else
  if t = 10 then 6 else
  if t = 4 then 7 else
  if t = 11 then 8 else
  if t = 15 then 9 else
  if t = 14 then 10 else
  if t = 13 then 11 else
  if t = 12 then 12 else
  if t = 16 then 13 else
  0

set_option maxHeartbeats 1000000 in
theorem typeMap (w : World) : Calls Tryz.prog 186 #[] w fun e w' => e = .returned (.map (some w.heap.size)) ∧ w.alloc (.map ctEntries 13) = w' := by
  have hmm := @run_makeMap Tryz.prog
  have h0 := run_insert_new (P := Tryz.prog) 284 60 257 .u8 Tryz.underlying284 Tryz.underlying60 w #[] 0 0 (.int .u8 0) rfl
  have h1 := run_insert_new (P := Tryz.prog) 284 60 257 .u8 Tryz.underlying284 Tryz.underlying60 w #[⟨.int .u8 0, .int .u8 0, 0⟩] 1 2 (.int .u8 1) rfl
  have h2 := run_insert_new (P := Tryz.prog) 284 60 257 .u8 Tryz.underlying284 Tryz.underlying60 w #[⟨.int .u8 0, .int .u8 0, 0⟩, ⟨.int .u8 2, .int .u8 1, 1⟩] 2 3 (.int .u8 3) rfl
  have h3 := run_insert_new (P := Tryz.prog) 284 60 257 .u8 Tryz.underlying284 Tryz.underlying60 w #[⟨.int .u8 0, .int .u8 0, 0⟩, ⟨.int .u8 2, .int .u8 1, 1⟩, ⟨.int .u8 3, .int .u8 3, 2⟩] 3 6 (.int .u8 4) rfl
  have h4 := run_insert_new (P := Tryz.prog) 284 60 257 .u8 Tryz.underlying284 Tryz.underlying60 w #[⟨.int .u8 0, .int .u8 0, 0⟩, ⟨.int .u8 2, .int .u8 1, 1⟩, ⟨.int .u8 3, .int .u8 3, 2⟩, ⟨.int .u8 6, .int .u8 4, 3⟩] 4 8 (.int .u8 5) rfl
  have h5 := run_insert_new (P := Tryz.prog) 284 60 257 .u8 Tryz.underlying284 Tryz.underlying60 w #[⟨.int .u8 0, .int .u8 0, 0⟩, ⟨.int .u8 2, .int .u8 1, 1⟩, ⟨.int .u8 3, .int .u8 3, 2⟩, ⟨.int .u8 6, .int .u8 4, 3⟩, ⟨.int .u8 8, .int .u8 5, 4⟩] 5 10 (.int .u8 6) rfl
  have h6 := run_insert_new (P := Tryz.prog) 284 60 257 .u8 Tryz.underlying284 Tryz.underlying60 w #[⟨.int .u8 0, .int .u8 0, 0⟩, ⟨.int .u8 2, .int .u8 1, 1⟩, ⟨.int .u8 3, .int .u8 3, 2⟩, ⟨.int .u8 6, .int .u8 4, 3⟩, ⟨.int .u8 8, .int .u8 5, 4⟩, ⟨.int .u8 10, .int .u8 6, 5⟩] 6 4 (.int .u8 7) rfl
  have h7 := run_insert_new (P := Tryz.prog) 284 60 257 .u8 Tryz.underlying284 Tryz.underlying60 w #[⟨.int .u8 0, .int .u8 0, 0⟩, ⟨.int .u8 2, .int .u8 1, 1⟩, ⟨.int .u8 3, .int .u8 3, 2⟩, ⟨.int .u8 6, .int .u8 4, 3⟩, ⟨.int .u8 8, .int .u8 5, 4⟩, ⟨.int .u8 10, .int .u8 6, 5⟩, ⟨.int .u8 4, .int .u8 7, 6⟩] 7 11 (.int .u8 8) rfl
  have h8 := run_insert_new (P := Tryz.prog) 284 60 257 .u8 Tryz.underlying284 Tryz.underlying60 w #[⟨.int .u8 0, .int .u8 0, 0⟩, ⟨.int .u8 2, .int .u8 1, 1⟩, ⟨.int .u8 3, .int .u8 3, 2⟩, ⟨.int .u8 6, .int .u8 4, 3⟩, ⟨.int .u8 8, .int .u8 5, 4⟩, ⟨.int .u8 10, .int .u8 6, 5⟩, ⟨.int .u8 4, .int .u8 7, 6⟩, ⟨.int .u8 11, .int .u8 8, 7⟩] 8 15 (.int .u8 9) rfl
  have h9 := run_insert_new (P := Tryz.prog) 284 60 257 .u8 Tryz.underlying284 Tryz.underlying60 w #[⟨.int .u8 0, .int .u8 0, 0⟩, ⟨.int .u8 2, .int .u8 1, 1⟩, ⟨.int .u8 3, .int .u8 3, 2⟩, ⟨.int .u8 6, .int .u8 4, 3⟩, ⟨.int .u8 8, .int .u8 5, 4⟩, ⟨.int .u8 10, .int .u8 6, 5⟩, ⟨.int .u8 4, .int .u8 7, 6⟩, ⟨.int .u8 11, .int .u8 8, 7⟩, ⟨.int .u8 15, .int .u8 9, 8⟩] 9 14 (.int .u8 10) rfl
  have h10 := run_insert_new (P := Tryz.prog) 284 60 257 .u8 Tryz.underlying284 Tryz.underlying60 w #[⟨.int .u8 0, .int .u8 0, 0⟩, ⟨.int .u8 2, .int .u8 1, 1⟩, ⟨.int .u8 3, .int .u8 3, 2⟩, ⟨.int .u8 6, .int .u8 4, 3⟩, ⟨.int .u8 8, .int .u8 5, 4⟩, ⟨.int .u8 10, .int .u8 6, 5⟩, ⟨.int .u8 4, .int .u8 7, 6⟩, ⟨.int .u8 11, .int .u8 8, 7⟩, ⟨.int .u8 15, .int .u8 9, 8⟩, ⟨.int .u8 14, .int .u8 10, 9⟩] 10 13 (.int .u8 11) rfl
  have h11 := run_insert_new (P := Tryz.prog) 284 60 257 .u8 Tryz.underlying284 Tryz.underlying60 w #[⟨.int .u8 0, .int .u8 0, 0⟩, ⟨.int .u8 2, .int .u8 1, 1⟩, ⟨.int .u8 3, .int .u8 3, 2⟩, ⟨.int .u8 6, .int .u8 4, 3⟩, ⟨.int .u8 8, .int .u8 5, 4⟩, ⟨.int .u8 10, .int .u8 6, 5⟩, ⟨.int .u8 4, .int .u8 7, 6⟩, ⟨.int .u8 11, .int .u8 8, 7⟩, ⟨.int .u8 15, .int .u8 9, 8⟩, ⟨.int .u8 14, .int .u8 10, 9⟩, ⟨.int .u8 13, .int .u8 11, 10⟩] 11 12 (.int .u8 12) rfl
  have h12 := run_insert_new (P := Tryz.prog) 284 60 257 .u8 Tryz.underlying284 Tryz.underlying60 w #[⟨.int .u8 0, .int .u8 0, 0⟩, ⟨.int .u8 2, .int .u8 1, 1⟩, ⟨.int .u8 3, .int .u8 3, 2⟩, ⟨.int .u8 6, .int .u8 4, 3⟩, ⟨.int .u8 8, .int .u8 5, 4⟩, ⟨.int .u8 10, .int .u8 6, 5⟩, ⟨.int .u8 4, .int .u8 7, 6⟩, ⟨.int .u8 11, .int .u8 8, 7⟩, ⟨.int .u8 15, .int .u8 9, 8⟩, ⟨.int .u8 14, .int .u8 10, 9⟩, ⟨.int .u8 13, .int .u8 11, 10⟩, ⟨.int .u8 12, .int .u8 12, 11⟩] 12 16 (.int .u8 13) rfl
  simp only [List.push_toArray, List.nil_append, List.cons_append, Nat.reduceAdd] at h0 h1 h2 h3 h4 h5 h6 h7 h8 h9 h10 h11 h12
  go_enter Tryz.func186, Tryz.ntmps186
  go_wp2
  go_ret
  exact ⟨rfl, rfl⟩

theorem ct_find (t : Int) : ∃ o, Instr.findNow (.int .u8) (.int .u8 t) ctEntries.toList 0 = some o ∧ found (.int .u8 0) o = .int .u8 (ctype t) := by
  unfold ctype ctEntries
  by_cases h0 : t = 0
  · subst h0; exact ⟨_, rfl, rfl⟩
  rw [if_neg h0]
  by_cases h2 : t = 2
  · subst h2; exact ⟨_, rfl, rfl⟩
  rw [if_neg h2]
  by_cases h3 : t = 3
  · subst h3; exact ⟨_, rfl, rfl⟩
  rw [if_neg h3]
  by_cases h6 : t = 6
  · subst h6; exact ⟨_, rfl, rfl⟩
  rw [if_neg h6]
  by_cases h8 : t = 8
  · subst h8; exact ⟨_, rfl, rfl⟩
  rw [if_neg h8]
  by_cases h10 : t = 10
  · subst h10; exact ⟨_, rfl, rfl⟩
  rw [if_neg h10]
  by_cases h4 : t = 4
  · subst h4; exact ⟨_, rfl, rfl⟩
  rw [if_neg h4]
  by_cases h11 : t = 11
  · subst h11; exact ⟨_, rfl, rfl⟩
  rw [if_neg h11]
  by_cases h15 : t = 15
  · subst h15; exact ⟨_, rfl, rfl⟩
  rw [if_neg h15]
  by_cases h14 : t = 14
  · subst h14; exact ⟨_, rfl, rfl⟩
  rw [if_neg h14]
  by_cases h13 : t = 13
  · subst h13; exact ⟨_, rfl, rfl⟩
  rw [if_neg h13]
  by_cases h12 : t = 12
  · subst h12; exact ⟨_, rfl, rfl⟩
  rw [if_neg h12]
  by_cases h16 : t = 16
  · subst h16; exact ⟨_, rfl, rfl⟩
  rw [if_neg h16]
  refine ⟨none, ?_, rfl⟩
  simp [Instr.findNow, Instr.sameNow, beq_eq_false_iff_ne.2 h0, beq_eq_false_iff_ne.2 h2, beq_eq_false_iff_ne.2 h3, beq_eq_false_iff_ne.2 h6, beq_eq_false_iff_ne.2 h8, beq_eq_false_iff_ne.2 h10, beq_eq_false_iff_ne.2 h4, beq_eq_false_iff_ne.2 h11, beq_eq_false_iff_ne.2 h15, beq_eq_false_iff_ne.2 h14, beq_eq_false_iff_ne.2 h13, beq_eq_false_iff_ne.2 h12, beq_eq_false_iff_ne.2 h16]

set_option maxHeartbeats 1000000 in
theorem C_getCompactType (p : Value) (t : Int) (w : World) : Calls Tryz.prog 182 #[p, .int .u8 t] w fun e w' => e = .returned (.int .u8 (ctype t)) ∧ w.alloc (.map ctEntries 13) = w' := by
  obtain ⟨o, h1, h2⟩ := ct_find t
  have hl := run_lookup_now (P := Tryz.prog) 284 60 257 .u8 (.int .u8 0) Tryz.underlying284 Tryz.underlying60 zero_ct (w.alloc (.map ctEntries 13)) w.heap.size ctEntries 13 t (alloc_new w _) o h1
  rw [h2] at hl
  clear h1 h2
  go_enter Tryz.func182, Tryz.ntmps182
  go_wp2_with (go_at_call 186; refine (typeMap _).mono ?_; rintro e w' ⟨rfl, rfl⟩)
  go_ret
  exact ⟨rfl, rfl⟩
end Go.Proofs.YtdedkoahfailcaaGreatDoor
