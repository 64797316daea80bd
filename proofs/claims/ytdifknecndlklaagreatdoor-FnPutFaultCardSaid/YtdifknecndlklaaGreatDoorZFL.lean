/- The texts of application exceptions: the package's map, tApplicationException.Error; spec.Fault, spec.faultText. Printed by gen_flt.py. Begins of structs and fields with names, by whatever protocol over a memory buffer. (*tApplicationException).Write by whatever protocol. Printed by gen_aew.py. impl.PutFault: an application exception over a new buffer, by whatever protocol. -/
import Derived.Deep.RegionHeld3
import Derived.Deep.RegionLaw
import Derived.Test.YtdifknecndlklaaGreatDoorZ2
import Derived.Test.YtdifknecndlklaaGreatDoorZ5
import Derived.Test.YtdifknecndlklaaGreatDoorZ1
import Derived.Test.YtdifknecndlklaaGreatDoorZE
import Derived.Test.YtdifknecndlklaaGreatDoorZEV
import Derived.Test.YtdifknecndlklaaGreatDoorZ3
import Derived.Test.YtdifknecndlklaaGreatDoorZFrg
set_option linter.all false
namespace Go.Proofs.YtdifknecndlklaaGreatDoor
open Go Go.RowKit
set_option maxHeartbeats 4000000
set_option maxRecDepth 100000
set_option linter.all false

/-- The text of a kind that has none of its own. -/
def faultS (k : Int) : List UInt8 :=
  if k = 0 then [117, 110, 107, 110, 111, 119, 110, 32, 97, 112, 112, 108, 105, 99, 97, 116, 105, 111, 110, 32, 101, 120, 99, 101, 112, 116, 105, 111, 110] else
  if k = 1 then [117, 110, 107, 110, 111, 119, 110, 32, 109, 101, 116, 104, 111, 100] else
  if k = 2 then [105, 110, 118, 97, 108, 105, 100, 32, 109, 101, 115, 115, 97, 103, 101, 32, 116, 121, 112, 101] else
  if k = 3 then [119, 114, 111, 110, 103, 32, 109, 101, 116, 104, 111, 100, 32, 110, 97, 109, 101] else
  if k = 4 then [98, 97, 100, 32, 115, 101, 113, 117, 101, 110, 99, 101, 32, 73, 68] else
  if k = 5 then [109, 105, 115, 115, 105, 110, 103, 32, 114, 101, 115, 117, 108, 116] else
  if k = 6 then [117, 110, 107, 110, 111, 119, 110, 32, 105, 110, 116, 101, 114, 110, 97, 108, 32, 101, 114, 114, 111, 114] else
  if k = 7 then [117, 110, 107, 110, 111, 119, 110, 32, 112, 114, 111, 116, 111, 99, 111, 108, 32, 101, 114, 114, 111, 114] else
  if k = 8 then [73, 110, 118, 97, 108, 105, 100, 32, 116, 114, 97, 110, 115, 102, 111, 114, 109] else
  if k = 9 then [73, 110, 118, 97, 108, 105, 100, 32, 112, 114, 111, 116, 111, 99, 111, 108] else
  if k = 10 then [85, 110, 115, 117, 112, 112, 111, 114, 116, 101, 100, 32, 99, 108, 105, 101, 110, 116, 32, 116, 121, 112, 101] else
  if k = 11 then [118, 97, 108, 105, 100, 97, 116, 105, 111, 110, 32, 102, 97, 105, 108, 101, 100] else
  []
def fltEntries : Array MapEntry := #[⟨.int .i32 0, .string ⟨#[117, 110, 107, 110, 111, 119, 110, 32, 97, 112, 112, 108, 105, 99, 97, 116, 105, 111, 110, 32, 101, 120, 99, 101, 112, 116, 105, 111, 110]⟩, 0⟩, ⟨.int .i32 1, .string ⟨#[117, 110, 107, 110, 111, 119, 110, 32, 109, 101, 116, 104, 111, 100]⟩, 1⟩, ⟨.int .i32 2, .string ⟨#[105, 110, 118, 97, 108, 105, 100, 32, 109, 101, 115, 115, 97, 103, 101, 32, 116, 121, 112, 101]⟩, 2⟩, ⟨.int .i32 3, .string ⟨#[119, 114, 111, 110, 103, 32, 109, 101, 116, 104, 111, 100, 32, 110, 97, 109, 101]⟩, 3⟩, ⟨.int .i32 4, .string ⟨#[98, 97, 100, 32, 115, 101, 113, 117, 101, 110, 99, 101, 32, 73, 68]⟩, 4⟩, ⟨.int .i32 5, .string ⟨#[109, 105, 115, 115, 105, 110, 103, 32, 114, 101, 115, 117, 108, 116]⟩, 5⟩, ⟨.int .i32 6, .string ⟨#[117, 110, 107, 110, 111, 119, 110, 32, 105, 110, 116, 101, 114, 110, 97, 108, 32, 101, 114, 114, 111, 114]⟩, 6⟩, ⟨.int .i32 7, .string ⟨#[117, 110, 107, 110, 111, 119, 110, 32, 112, 114, 111, 116, 111, 99, 111, 108, 32, 101, 114, 114, 111, 114]⟩, 7⟩, ⟨.int .i32 8, .string ⟨#[73, 110, 118, 97, 108, 105, 100, 32, 116, 114, 97, 110, 115, 102, 111, 114, 109]⟩, 8⟩, ⟨.int .i32 9, .string ⟨#[73, 110, 118, 97, 108, 105, 100, 32, 112, 114, 111, 116, 111, 99, 111, 108]⟩, 9⟩, ⟨.int .i32 10, .string ⟨#[85, 110, 115, 117, 112, 112, 111, 114, 116, 101, 100, 32, 99, 108, 105, 101, 110, 116, 32, 116, 121, 112, 101]⟩, 10⟩, ⟨.int .i32 11, .string ⟨#[118, 97, 108, 105, 100, 97, 116, 105, 111, 110, 32, 102, 97, 105, 108, 101, 100]⟩, 11⟩]

theorem faultMap (w : World) : Calls Tryz.prog 143 #[] w fun e w' => e = .returned (.map (some w.heap.size)) ∧ w.alloc (.map fltEntries 12) = w' := by
  have hmm := @run_makeMap Tryz.prog
  have h0 := run_insert_new (P := Tryz.prog) 305 21 9 .i32 Tryz.underlying305 Tryz.underlying21 w #[] 0 0 (.string ⟨#[117, 110, 107, 110, 111, 119, 110, 32, 97, 112, 112, 108, 105, 99, 97, 116, 105, 111, 110, 32, 101, 120, 99, 101, 112, 116, 105, 111, 110]⟩) rfl
  have h1 := run_insert_new (P := Tryz.prog) 305 21 9 .i32 Tryz.underlying305 Tryz.underlying21 w #[⟨.int .i32 0, .string ⟨#[117, 110, 107, 110, 111, 119, 110, 32, 97, 112, 112, 108, 105, 99, 97, 116, 105, 111, 110, 32, 101, 120, 99, 101, 112, 116, 105, 111, 110]⟩, 0⟩] 1 1 (.string ⟨#[117, 110, 107, 110, 111, 119, 110, 32, 109, 101, 116, 104, 111, 100]⟩) rfl
  have h2 := run_insert_new (P := Tryz.prog) 305 21 9 .i32 Tryz.underlying305 Tryz.underlying21 w #[⟨.int .i32 0, .string ⟨#[117, 110, 107, 110, 111, 119, 110, 32, 97, 112, 112, 108, 105, 99, 97, 116, 105, 111, 110, 32, 101, 120, 99, 101, 112, 116, 105, 111, 110]⟩, 0⟩, ⟨.int .i32 1, .string ⟨#[117, 110, 107, 110, 111, 119, 110, 32, 109, 101, 116, 104, 111, 100]⟩, 1⟩] 2 2 (.string ⟨#[105, 110, 118, 97, 108, 105, 100, 32, 109, 101, 115, 115, 97, 103, 101, 32, 116, 121, 112, 101]⟩) rfl
  have h3 := run_insert_new (P := Tryz.prog) 305 21 9 .i32 Tryz.underlying305 Tryz.underlying21 w #[⟨.int .i32 0, .string ⟨#[117, 110, 107, 110, 111, 119, 110, 32, 97, 112, 112, 108, 105, 99, 97, 116, 105, 111, 110, 32, 101, 120, 99, 101, 112, 116, 105, 111, 110]⟩, 0⟩, ⟨.int .i32 1, .string ⟨#[117, 110, 107, 110, 111, 119, 110, 32, 109, 101, 116, 104, 111, 100]⟩, 1⟩, ⟨.int .i32 2, .string ⟨#[105, 110, 118, 97, 108, 105, 100, 32, 109, 101, 115, 115, 97, 103, 101, 32, 116, 121, 112, 101]⟩, 2⟩] 3 3 (.string ⟨#[119, 114, 111, 110, 103, 32, 109, 101, 116, 104, 111, 100, 32, 110, 97, 109, 101]⟩) rfl
  have h4 := run_insert_new (P := Tryz.prog) 305 21 9 .i32 Tryz.underlying305 Tryz.underlying21 w #[⟨.int .i32 0, .string ⟨#[117, 110, 107, 110, 111, 119, 110, 32, 97, 112, 112, 108, 105, 99, 97, 116, 105, 111, 110, 32, 101, 120, 99, 101, 112, 116, 105, 111, 110]⟩, 0⟩, ⟨.int .i32 1, .string ⟨#[117, 110, 107, 110, 111, 119, 110, 32, 109, 101, 116, 104, 111, 100]⟩, 1⟩, ⟨.int .i32 2, .string ⟨#[105, 110, 118, 97, 108, 105, 100, 32, 109, 101, 115, 115, 97, 103, 101, 32, 116, 121, 112, 101]⟩, 2⟩, ⟨.int .i32 3, .string ⟨#[119, 114, 111, 110, 103, 32, 109, 101, 116, 104, 111, 100, 32, 110, 97, 109, 101]⟩, 3⟩] 4 4 (.string ⟨#[98, 97, 100, 32, 115, 101, 113, 117, 101, 110, 99, 101, 32, 73, 68]⟩) rfl
  have h5 := run_insert_new (P := Tryz.prog) 305 21 9 .i32 Tryz.underlying305 Tryz.underlying21 w #[⟨.int .i32 0, .string ⟨#[117, 110, 107, 110, 111, 119, 110, 32, 97, 112, 112, 108, 105, 99, 97, 116, 105, 111, 110, 32, 101, 120, 99, 101, 112, 116, 105, 111, 110]⟩, 0⟩, ⟨.int .i32 1, .string ⟨#[117, 110, 107, 110, 111, 119, 110, 32, 109, 101, 116, 104, 111, 100]⟩, 1⟩, ⟨.int .i32 2, .string ⟨#[105, 110, 118, 97, 108, 105, 100, 32, 109, 101, 115, 115, 97, 103, 101, 32, 116, 121, 112, 101]⟩, 2⟩, ⟨.int .i32 3, .string ⟨#[119, 114, 111, 110, 103, 32, 109, 101, 116, 104, 111, 100, 32, 110, 97, 109, 101]⟩, 3⟩, ⟨.int .i32 4, .string ⟨#[98, 97, 100, 32, 115, 101, 113, 117, 101, 110, 99, 101, 32, 73, 68]⟩, 4⟩] 5 5 (.string ⟨#[109, 105, 115, 115, 105, 110, 103, 32, 114, 101, 115, 117, 108, 116]⟩) rfl
  have h6 := run_insert_new (P := Tryz.prog) 305 21 9 .i32 Tryz.underlying305 Tryz.underlying21 w #[⟨.int .i32 0, .string ⟨#[117, 110, 107, 110, 111, 119, 110, 32, 97, 112, 112, 108, 105, 99, 97, 116, 105, 111, 110, 32, 101, 120, 99, 101, 112, 116, 105, 111, 110]⟩, 0⟩, ⟨.int .i32 1, .string ⟨#[117, 110, 107, 110, 111, 119, 110, 32, 109, 101, 116, 104, 111, 100]⟩, 1⟩, ⟨.int .i32 2, .string ⟨#[105, 110, 118, 97, 108, 105, 100, 32, 109, 101, 115, 115, 97, 103, 101, 32, 116, 121, 112, 101]⟩, 2⟩, ⟨.int .i32 3, .string ⟨#[119, 114, 111, 110, 103, 32, 109, 101, 116, 104, 111, 100, 32, 110, 97, 109, 101]⟩, 3⟩, ⟨.int .i32 4, .string ⟨#[98, 97, 100, 32, 115, 101, 113, 117, 101, 110, 99, 101, 32, 73, 68]⟩, 4⟩, ⟨.int .i32 5, .string ⟨#[109, 105, 115, 115, 105, 110, 103, 32, 114, 101, 115, 117, 108, 116]⟩, 5⟩] 6 6 (.string ⟨#[117, 110, 107, 110, 111, 119, 110, 32, 105, 110, 116, 101, 114, 110, 97, 108, 32, 101, 114, 114, 111, 114]⟩) rfl
  have h7 := run_insert_new (P := Tryz.prog) 305 21 9 .i32 Tryz.underlying305 Tryz.underlying21 w #[⟨.int .i32 0, .string ⟨#[117, 110, 107, 110, 111, 119, 110, 32, 97, 112, 112, 108, 105, 99, 97, 116, 105, 111, 110, 32, 101, 120, 99, 101, 112, 116, 105, 111, 110]⟩, 0⟩, ⟨.int .i32 1, .string ⟨#[117, 110, 107, 110, 111, 119, 110, 32, 109, 101, 116, 104, 111, 100]⟩, 1⟩, ⟨.int .i32 2, .string ⟨#[105, 110, 118, 97, 108, 105, 100, 32, 109, 101, 115, 115, 97, 103, 101, 32, 116, 121, 112, 101]⟩, 2⟩, ⟨.int .i32 3, .string ⟨#[119, 114, 111, 110, 103, 32, 109, 101, 116, 104, 111, 100, 32, 110, 97, 109, 101]⟩, 3⟩, ⟨.int .i32 4, .string ⟨#[98, 97, 100, 32, 115, 101, 113, 117, 101, 110, 99, 101, 32, 73, 68]⟩, 4⟩, ⟨.int .i32 5, .string ⟨#[109, 105, 115, 115, 105, 110, 103, 32, 114, 101, 115, 117, 108, 116]⟩, 5⟩, ⟨.int .i32 6, .string ⟨#[117, 110, 107, 110, 111, 119, 110, 32, 105, 110, 116, 101, 114, 110, 97, 108, 32, 101, 114, 114, 111, 114]⟩, 6⟩] 7 7 (.string ⟨#[117, 110, 107, 110, 111, 119, 110, 32, 112, 114, 111, 116, 111, 99, 111, 108, 32, 101, 114, 114, 111, 114]⟩) rfl
  have h8 := run_insert_new (P := Tryz.prog) 305 21 9 .i32 Tryz.underlying305 Tryz.underlying21 w #[⟨.int .i32 0, .string ⟨#[117, 110, 107, 110, 111, 119, 110, 32, 97, 112, 112, 108, 105, 99, 97, 116, 105, 111, 110, 32, 101, 120, 99, 101, 112, 116, 105, 111, 110]⟩, 0⟩, ⟨.int .i32 1, .string ⟨#[117, 110, 107, 110, 111, 119, 110, 32, 109, 101, 116, 104, 111, 100]⟩, 1⟩, ⟨.int .i32 2, .string ⟨#[105, 110, 118, 97, 108, 105, 100, 32, 109, 101, 115, 115, 97, 103, 101, 32, 116, 121, 112, 101]⟩, 2⟩, ⟨.int .i32 3, .string ⟨#[119, 114, 111, 110, 103, 32, 109, 101, 116, 104, 111, 100, 32, 110, 97, 109, 101]⟩, 3⟩, ⟨.int .i32 4, .string ⟨#[98, 97, 100, 32, 115, 101, 113, 117, 101, 110, 99, 101, 32, 73, 68]⟩, 4⟩, ⟨.int .i32 5, .string ⟨#[109, 105, 115, 115, 105, 110, 103, 32, 114, 101, 115, 117, 108, 116]⟩, 5⟩, ⟨.int .i32 6, .string ⟨#[117, 110, 107, 110, 111, 119, 110, 32, 105, 110, 116, 101, 114, 110, 97, 108, 32, 101, 114, 114, 111, 114]⟩, 6⟩, ⟨.int .i32 7, .string ⟨#[117, 110, 107, 110, 111, 119, 110, 32, 112, 114, 111, 116, 111, 99, 111, 108, 32, 101, 114, 114, 111, 114]⟩, 7⟩] 8 8 (.string ⟨#[73, 110, 118, 97, 108, 105, 100, 32, 116, 114, 97, 110, 115, 102, 111, 114, 109]⟩) rfl
  have h9 := run_insert_new (P := Tryz.prog) 305 21 9 .i32 Tryz.underlying305 Tryz.underlying21 w #[⟨.int .i32 0, .string ⟨#[117, 110, 107, 110, 111, 119, 110, 32, 97, 112, 112, 108, 105, 99, 97, 116, 105, 111, 110, 32, 101, 120, 99, 101, 112, 116, 105, 111, 110]⟩, 0⟩, ⟨.int .i32 1, .string ⟨#[117, 110, 107, 110, 111, 119, 110, 32, 109, 101, 116, 104, 111, 100]⟩, 1⟩, ⟨.int .i32 2, .string ⟨#[105, 110, 118, 97, 108, 105, 100, 32, 109, 101, 115, 115, 97, 103, 101, 32, 116, 121, 112, 101]⟩, 2⟩, ⟨.int .i32 3, .string ⟨#[119, 114, 111, 110, 103, 32, 109, 101, 116, 104, 111, 100, 32, 110, 97, 109, 101]⟩, 3⟩, ⟨.int .i32 4, .string ⟨#[98, 97, 100, 32, 115, 101, 113, 117, 101, 110, 99, 101, 32, 73, 68]⟩, 4⟩, ⟨.int .i32 5, .string ⟨#[109, 105, 115, 115, 105, 110, 103, 32, 114, 101, 115, 117, 108, 116]⟩, 5⟩, ⟨.int .i32 6, .string ⟨#[117, 110, 107, 110, 111, 119, 110, 32, 105, 110, 116, 101, 114, 110, 97, 108, 32, 101, 114, 114, 111, 114]⟩, 6⟩, ⟨.int .i32 7, .string ⟨#[117, 110, 107, 110, 111, 119, 110, 32, 112, 114, 111, 116, 111, 99, 111, 108, 32, 101, 114, 114, 111, 114]⟩, 7⟩, ⟨.int .i32 8, .string ⟨#[73, 110, 118, 97, 108, 105, 100, 32, 116, 114, 97, 110, 115, 102, 111, 114, 109]⟩, 8⟩] 9 9 (.string ⟨#[73, 110, 118, 97, 108, 105, 100, 32, 112, 114, 111, 116, 111, 99, 111, 108]⟩) rfl
  have h10 := run_insert_new (P := Tryz.prog) 305 21 9 .i32 Tryz.underlying305 Tryz.underlying21 w #[⟨.int .i32 0, .string ⟨#[117, 110, 107, 110, 111, 119, 110, 32, 97, 112, 112, 108, 105, 99, 97, 116, 105, 111, 110, 32, 101, 120, 99, 101, 112, 116, 105, 111, 110]⟩, 0⟩, ⟨.int .i32 1, .string ⟨#[117, 110, 107, 110, 111, 119, 110, 32, 109, 101, 116, 104, 111, 100]⟩, 1⟩, ⟨.int .i32 2, .string ⟨#[105, 110, 118, 97, 108, 105, 100, 32, 109, 101, 115, 115, 97, 103, 101, 32, 116, 121, 112, 101]⟩, 2⟩, ⟨.int .i32 3, .string ⟨#[119, 114, 111, 110, 103, 32, 109, 101, 116, 104, 111, 100, 32, 110, 97, 109, 101]⟩, 3⟩, ⟨.int .i32 4, .string ⟨#[98, 97, 100, 32, 115, 101, 113, 117, 101, 110, 99, 101, 32, 73, 68]⟩, 4⟩, ⟨.int .i32 5, .string ⟨#[109, 105, 115, 115, 105, 110, 103, 32, 114, 101, 115, 117, 108, 116]⟩, 5⟩, ⟨.int .i32 6, .string ⟨#[117, 110, 107, 110, 111, 119, 110, 32, 105, 110, 116, 101, 114, 110, 97, 108, 32, 101, 114, 114, 111, 114]⟩, 6⟩, ⟨.int .i32 7, .string ⟨#[117, 110, 107, 110, 111, 119, 110, 32, 112, 114, 111, 116, 111, 99, 111, 108, 32, 101, 114, 114, 111, 114]⟩, 7⟩, ⟨.int .i32 8, .string ⟨#[73, 110, 118, 97, 108, 105, 100, 32, 116, 114, 97, 110, 115, 102, 111, 114, 109]⟩, 8⟩, ⟨.int .i32 9, .string ⟨#[73, 110, 118, 97, 108, 105, 100, 32, 112, 114, 111, 116, 111, 99, 111, 108]⟩, 9⟩] 10 10 (.string ⟨#[85, 110, 115, 117, 112, 112, 111, 114, 116, 101, 100, 32, 99, 108, 105, 101, 110, 116, 32, 116, 121, 112, 101]⟩) rfl
  have h11 := run_insert_new (P := Tryz.prog) 305 21 9 .i32 Tryz.underlying305 Tryz.underlying21 w #[⟨.int .i32 0, .string ⟨#[117, 110, 107, 110, 111, 119, 110, 32, 97, 112, 112, 108, 105, 99, 97, 116, 105, 111, 110, 32, 101, 120, 99, 101, 112, 116, 105, 111, 110]⟩, 0⟩, ⟨.int .i32 1, .string ⟨#[117, 110, 107, 110, 111, 119, 110, 32, 109, 101, 116, 104, 111, 100]⟩, 1⟩, ⟨.int .i32 2, .string ⟨#[105, 110, 118, 97, 108, 105, 100, 32, 109, 101, 115, 115, 97, 103, 101, 32, 116, 121, 112, 101]⟩, 2⟩, ⟨.int .i32 3, .string ⟨#[119, 114, 111, 110, 103, 32, 109, 101, 116, 104, 111, 100, 32, 110, 97, 109, 101]⟩, 3⟩, ⟨.int .i32 4, .string ⟨#[98, 97, 100, 32, 115, 101, 113, 117, 101, 110, 99, 101, 32, 73, 68]⟩, 4⟩, ⟨.int .i32 5, .string ⟨#[109, 105, 115, 115, 105, 110, 103, 32, 114, 101, 115, 117, 108, 116]⟩, 5⟩, ⟨.int .i32 6, .string ⟨#[117, 110, 107, 110, 111, 119, 110, 32, 105, 110, 116, 101, 114, 110, 97, 108, 32, 101, 114, 114, 111, 114]⟩, 6⟩, ⟨.int .i32 7, .string ⟨#[117, 110, 107, 110, 111, 119, 110, 32, 112, 114, 111, 116, 111, 99, 111, 108, 32, 101, 114, 114, 111, 114]⟩, 7⟩, ⟨.int .i32 8, .string ⟨#[73, 110, 118, 97, 108, 105, 100, 32, 116, 114, 97, 110, 115, 102, 111, 114, 109]⟩, 8⟩, ⟨.int .i32 9, .string ⟨#[73, 110, 118, 97, 108, 105, 100, 32, 112, 114, 111, 116, 111, 99, 111, 108]⟩, 9⟩, ⟨.int .i32 10, .string ⟨#[85, 110, 115, 117, 112, 112, 111, 114, 116, 101, 100, 32, 99, 108, 105, 101, 110, 116, 32, 116, 121, 112, 101]⟩, 10⟩] 11 11 (.string ⟨#[118, 97, 108, 105, 100, 97, 116, 105, 111, 110, 32, 102, 97, 105, 108, 101, 100]⟩) rfl
  simp only [List.push_toArray, List.nil_append, List.cons_append, Nat.reduceAdd] at h0 h1 h2 h3 h4 h5 h6 h7 h8 h9 h10 h11
  go_enter Tryz.func143, Tryz.ntmps143
  go_wp2
  go_ret
  exact ⟨rfl, rfl⟩
theorem zero_str (w : World) : (zeroValue 9).run Tryz.prog w = .ok (.string ⟨#[]⟩) w := by kernel_rfl
theorem flt_find (t : Int) : ∃ o, Instr.findNow (.int .i32) (.int .i32 t) fltEntries.toList 0 = some o ∧ found (.string ⟨#[]⟩) o = .string (strOf (faultS t)) := by
  unfold faultS fltEntries
  by_cases h0 : t = 0
  · subst h0; exact ⟨_, rfl, rfl⟩
  rw [if_neg h0]
  by_cases h1 : t = 1
  · subst h1; exact ⟨_, rfl, rfl⟩
  rw [if_neg h1]
  by_cases h2 : t = 2
  · subst h2; exact ⟨_, rfl, rfl⟩
  rw [if_neg h2]
  by_cases h3 : t = 3
  · subst h3; exact ⟨_, rfl, rfl⟩
  rw [if_neg h3]
  by_cases h4 : t = 4
  · subst h4; exact ⟨_, rfl, rfl⟩
  rw [if_neg h4]
  by_cases h5 : t = 5
  · subst h5; exact ⟨_, rfl, rfl⟩
  rw [if_neg h5]
  by_cases h6 : t = 6
  · subst h6; exact ⟨_, rfl, rfl⟩
  rw [if_neg h6]
  by_cases h7 : t = 7
  · subst h7; exact ⟨_, rfl, rfl⟩
  rw [if_neg h7]
  by_cases h8 : t = 8
  · subst h8; exact ⟨_, rfl, rfl⟩
  rw [if_neg h8]
  by_cases h9 : t = 9
  · subst h9; exact ⟨_, rfl, rfl⟩
  rw [if_neg h9]
  by_cases h10 : t = 10
  · subst h10; exact ⟨_, rfl, rfl⟩
  rw [if_neg h10]
  by_cases h11 : t = 11
  · subst h11; exact ⟨_, rfl, rfl⟩
  rw [if_neg h11]
  refine ⟨none, ?_, rfl⟩
  simp [Instr.findNow, Instr.sameNow, beq_eq_false_iff_ne.2 h0, beq_eq_false_iff_ne.2 h1, beq_eq_false_iff_ne.2 h2, beq_eq_false_iff_ne.2 h3, beq_eq_false_iff_ne.2 h4, beq_eq_false_iff_ne.2 h5, beq_eq_false_iff_ne.2 h6, beq_eq_false_iff_ne.2 h7, beq_eq_false_iff_ne.2 h8, beq_eq_false_iff_ne.2 h9, beq_eq_false_iff_ne.2 h10, beq_eq_false_iff_ne.2 h11]

/-- What an exception tells. -/
def faultT (k : Int) (l : List UInt8) : List UInt8 := if l = [] then faultS k else l
theorem AE_Error (l : List UInt8) (k : Int) (w : World) : Calls Tryz.prog 138 #[.agg #[.string (strOf l), .int .i32 k, .nilIface]] w fun e w' => e = .returned (.string (strOf (faultT k l))) ∧ Fr noF noF w w' := by
  obtain ⟨o, h1, h2⟩ := flt_find k
  have hl : ∀ (X : World) r, X.heap[r]? = some (.map fltEntries 12) → (Instr.lookup 305 (.map (some r)) (.int .i32 k) false).run Tryz.prog X = .ok (.string (strOf (faultS k))) X := fun X r hr => by
    have := run_lookup_now (P := Tryz.prog) 305 21 9 .i32 (.string ⟨#[]⟩) Tryz.underlying305 Tryz.underlying21 zero_str X r fltEntries 12 k hr o h1
    rw [h2] at this
    exact this
  have hb := alloc_new w (.cells #[.string (strOf l), .int .i32 k, .nilIface] 133 (0, 0))
  have hf : Fr noF noF w (w.alloc (.cells #[.string (strOf l), .int .i32 k, .nilIface] 133 (0, 0))) := (Fr.refl noF w).alloc _
  have c0 := cell_at hb 0
  have c1 := cell_at hb 1
  simp only [List.getElem?_toArray, List.getElem?_cons_zero, List.getElem?_cons_succ] at c0 c1
  unfold faultT
  by_cases h0 : l = []
  · subst h0
    rw [if_pos rfl]
    have HF := Lib.hid hf
    have HL := Lib.hid hl
    have HM := Lib.hid faultMap
    have he : (strOf [] : ByteArray) = ⟨#[]⟩ := rfl
    rw [he] at c0 ⊢
    obtain ⟨fs, hfs⟩ : ∃ fs, fs = strOf (faultS k) := ⟨_, rfl⟩
    rw [← hfs] at HL ⊢
    clear hf hl hb h1 h2 hfs he
    go_enter Tryz.func138, Tryz.ntmps138
    go_wp2_with fail
    have d1 : ∀ o : Obj, ((w.alloc (.cells #[.string ⟨#[]⟩, .int .i32 k, .nilIface] 133 (0, 0))).drew.alloc o).cell? ⟨w.heap.size, 1, none⟩ = some (.int .i32 k) := fun o => by rw [cell_at (alloc_at (w := (w.alloc (.cells #[.string ⟨#[]⟩, .int .i32 k, .nilIface] 133 (0, 0))).drew) (alloc_new w _))]; rfl
    go_region_held3 (fun w' => w'.cell? ⟨w.heap.size, 1, none⟩ = some (.int .i32 k)) (first | exact c1 | exact d1 _ | fail) (first | (go_at_call 143; (with_reducible refine (HM.out _).mono ?_); rintro e X1 ⟨rfl, rfl⟩; have hl1 := HL.out ((w.alloc (.cells #[.string ⟨#[]⟩, .int .i32 k, .nilIface] 133 (0, 0))).alloc (.map fltEntries 12)).drew (w.heap.size + 1) (new2 w (.cells #[.string ⟨#[]⟩, .int .i32 k, .nilIface] 133 (0, 0)) (.map fltEntries 12)).2) | fail)
    all_goals go_wp2
    all_goals go_ret
    all_goals exact ⟨rfl, HF.out.drew.alloc _⟩
  · have hne : (strOf l).toList.isEmpty = false := by
      rw [ByteArray.toList_eq]
      cases l with
      | nil => exact absurd rfl h0
      | cons a t => rfl
    rw [if_neg h0]
    obtain ⟨fs, hfs⟩ : ∃ fs, fs = strOf l := ⟨_, rfl⟩
    rw [← hfs] at hne c0 c1 hf ⊢
    have HF := Lib.hid hf
    clear hf hl hb h1 h2 hfs
    go_enter Tryz.func138, Tryz.ntmps138
    go_wp2
    go_ret
    exact ⟨rfl, HF.out⟩

/-- A new application exception. -/
theorem NewAE (l : List UInt8) (k : Int) (w : World) : Calls Tryz.prog 37 #[.int .i32 k, .string (strOf l)] w fun e w' => e = .returned (.iface 131 (.pointer (some ⟨w.heap.size, 0, none⟩))) ∧ w.alloc (.cells #[.string (strOf l), .int .i32 k, .nilIface] 133 (0, 0)) = w' := by
  go_enter Tryz.func37, Tryz.ntmps37
  go_wp2
  go_ret
  exact ⟨rfl, rfl⟩

/-- Bytes in new memory. -/
def RdNew (w : World) (l : List UInt8) (e : Ending) (w' : World) : Prop := ∃ a n c, e = .returned (.slice a n c) ∧ Rd w' (.slice a n c) l ∧ Fr noF noF w w'
theorem conv_new {w X : World} (hf : Fr noF noF w X) (l : List UInt8) (hl : l.length ≤ 1000) : RdNew w l (.returned (convV X (strOf l))) (convW X (strOf l)) := by
  have h := conv_rd X (strOf l) (by unfold maxLen; simp [strOf, ByteArray.size]; omega)
  have h' : Rd (convW X (strOf l)) (convV X (strOf l)) l := by simpa [strOf] using h
  obtain ⟨a, n, c, he, -⟩ := h'.len
  exact ⟨a, n, c, by rw [he], by rw [← he]; exact h', conv_fr hf _⟩
theorem S_Fault (k : Int) (w : World) : Calls Tryz.prog 63 #[.int .i32 k] w (RdNew w (faultS k)) := by
  have hcv := run_conv
  have HF := Lib.hid ((Fr.refl noF w).alloc (.cells #[.string ⟨#[117, 110, 107, 110, 111, 119, 110, 32, 97, 112, 112, 108, 105, 99, 97, 116, 105, 111, 110, 32, 101, 120, 99, 101, 112, 116, 105, 111, 110]⟩, .string ⟨#[117, 110, 107, 110, 111, 119, 110, 32, 109, 101, 116, 104, 111, 100]⟩, .string ⟨#[105, 110, 118, 97, 108, 105, 100, 32, 109, 101, 115, 115, 97, 103, 101, 32, 116, 121, 112, 101]⟩, .string ⟨#[119, 114, 111, 110, 103, 32, 109, 101, 116, 104, 111, 100, 32, 110, 97, 109, 101]⟩, .string ⟨#[98, 97, 100, 32, 115, 101, 113, 117, 101, 110, 99, 101, 32, 73, 68]⟩, .string ⟨#[109, 105, 115, 115, 105, 110, 103, 32, 114, 101, 115, 117, 108, 116]⟩, .string ⟨#[117, 110, 107, 110, 111, 119, 110, 32, 105, 110, 116, 101, 114, 110, 97, 108, 32, 101, 114, 114, 111, 114]⟩, .string ⟨#[117, 110, 107, 110, 111, 119, 110, 32, 112, 114, 111, 116, 111, 99, 111, 108, 32, 101, 114, 114, 111, 114]⟩, .string ⟨#[73, 110, 118, 97, 108, 105, 100, 32, 116, 114, 97, 110, 115, 102, 111, 114, 109]⟩, .string ⟨#[73, 110, 118, 97, 108, 105, 100, 32, 112, 114, 111, 116, 111, 99, 111, 108]⟩, .string ⟨#[85, 110, 115, 117, 112, 112, 111, 114, 116, 101, 100, 32, 99, 108, 105, 101, 110, 116, 32, 116, 121, 112, 101]⟩, .string ⟨#[118, 97, 108, 105, 100, 97, 116, 105, 111, 110, 32, 102, 97, 105, 108, 101, 100]⟩] 9 (0, 0)))
  rcases (show k < 0 ∨ k > 11 ∨ k = 0 ∨ k = 1 ∨ k = 2 ∨ k = 3 ∨ k = 4 ∨ k = 5 ∨ k = 6 ∨ k = 7 ∨ k = 8 ∨ k = 9 ∨ k = 10 ∨ k = 11 by omega) with h | h | rfl | rfl | rfl | rfl | rfl | rfl | rfl | rfl | rfl | rfl | rfl | rfl
  case inl =>
    have h0 : faultS k = [] := by unfold faultS; (repeat rw [if_neg (by omega)])
    rw [h0]
    clear h0
    go_enter Tryz.func63, Tryz.ntmps63
    go_wp2
    go_ret
    exact ⟨none, 0, 0, rfl, Or.inl ⟨rfl, rfl⟩, HF.out⟩
  case inr.inl =>
    have h0 : faultS k = [] := by unfold faultS; (repeat rw [if_neg (by omega)])
    rw [h0]
    clear h0
    go_enter Tryz.func63, Tryz.ntmps63
    go_wp2
    go_ret
    exact ⟨none, 0, 0, rfl, Or.inl ⟨rfl, rfl⟩, HF.out⟩
  all_goals
    go_enter Tryz.func63, Tryz.ntmps63
    go_wp2
    go_ret
    exact conv_new HF.out _ (by decide)

theorem S_faultText (k : Int) (v : Value) (l : List UInt8) (w : World) (hv : Rd w v l) (hl : l.length ≤ 1000000) : Calls Tryz.prog 42 #[.int .i32 k, v] w (RdNew w (faultT k l)) := by
  obtain ⟨a, n, c, rfl, hn⟩ := hv.len
  unfold faultT
  by_cases h0 : l = []
  · rw [if_pos h0]
    have hn0 : n = 0 := by rw [← hn, h0]; rfl
    subst hn0
    have HS := Lib.hid (S_Fault k)
    clear hv h0 hn
    go_enter Tryz.func42, Tryz.ntmps42
    go_wp2_with fail
    (with_reducible refine (HS.out _).mono ?_)
    rintro e w' ⟨a, n, c, rfl, hr, hf⟩
    have HR := Lib.hid (And.intro hr hf)
    clear hr hf
    go_wp2
    go_ret
    exact ⟨a, n, c, rfl, HR.out.1, HR.out.2⟩
  · rw [if_neg h0]
    have hn0 : ((n : Int) == 0) = false := by
      have : 0 < l.length := List.length_pos_iff.2 h0
      simp
      omega
    have HR := Lib.hid hv
    clear hv h0 hn
    go_enter Tryz.func42, Tryz.ntmps42
    go_wp2
    go_ret
    exact ⟨a, n, c, rfl, HR.out, Fr.refl _ _⟩
end Go.Proofs.YtdifknecndlklaaGreatDoor
namespace Go.Proofs.YtdifknecndlklaaGreatDoor
open Go Go.RowKit
set_option maxHeartbeats 1000000
set_option linter.all false

/-- The names that a struct's begin and a field's begin hand over say nothing. -/
structure Nam (P : WProto WSt) : Prop where
  sb : ∀ (nm : ByteArray) w s, P.I w s → P.good s .structBegin → Calls Tryz.prog (P.fn "WriteStructBegin") #[P.recv, WOp.args.ctxW, .string nm] w (WR P w (P.step s .structBegin))
  fb : ∀ (nm : ByteArray) (t i : Int) w s, t ≠ 2 → P.I w s → P.good s (.fieldBegin t i) → Calls Tryz.prog (P.fn "WriteFieldBegin") #[P.recv, WOp.args.ctxW, .string nm, .int .u8 t, .int .i16 i] w (WR P w (P.step s (.fieldBegin t i)))
theorem namB (p m b : Nat) (cf : Value) (c : ConfV) : Nam (protoB' p m b cf c) where
  sb nm w s h hg := by
    obtain ⟨hB, hC⟩ := h
    refine (B_WriteStructBegin _ _ _ w).mono fun e w' hw => ?_
    obtain ⟨rfl, rfl⟩ := hw
    refine ⟨rfl, ⟨(show BP w p m b cf (s.1 + 32) true (s.2.1 ++ []) from by simpa using hB.mono (Nat.le_add_right ..)), hC⟩, Fr.refl _ _⟩
  fb nm t i w s ht h hg := by
    obtain ⟨hB, hC⟩ := h
    have hg : s.1 + 32 ≤ LIM := hg
    refine (B_WriteFieldBegin p m b s.1 cf _ _ s.2.1 t i w hB (by omega)).mono fun e w' hw => ?_
    obtain ⟨h1, h2⟩ := hB.all hC hw.2.2
    exact ⟨hw.1, ⟨hw.2.1.mono (show s.1 + (b8 t :: be2 i).length ≤ s.1 + 32 by rw [List.length_cons, be2_length]; omega), h1⟩, h2⟩
theorem namC (p m b : Nat) (cf : Value) (c : ConfV) : Nam (protoC p m b cf c) where
  sb nm w s h hg := by
    obtain ⟨T, l, st⟩ := s
    obtain ⟨hB, hC, hok, hst⟩ := h
    obtain ⟨hl, hr, _⟩ := hg
    have hok' := hok.next .structBegin hr
    dsimp only at hB hC hok hl hok' hst
    refine (C_WriteStructBegin p m b T cf _ (.string nm) st l w hB (by simp [WOp.most] at hl; omega)).mono fun e w' hw => ?_
    obtain ⟨h1, h2⟩ := hB.all hC hw.2.2
    have hst' := nextC_len st .structBegin
    exact ⟨hw.1, ⟨hw.2.1.mono (show T + 0 ≤ T + 32 by omega), h1, hok', by show (WOp.structBegin.nextC st).stack.length ≤ T + 32; omega⟩, h2⟩
  fb nm t i w s ht h hg := by
    obtain ⟨T, l, st⟩ := s
    obtain ⟨hB, hC, hok, hst⟩ := h
    obtain ⟨hl, hr, _⟩ := hg
    have hok' := hok.next (.fieldBegin t i) hr
    dsimp only at hB hC hok hl hok' hst
    have hst' := nextC_len st (.fieldBegin t i)
    have hcm := comB_most st hok (.fieldBegin t i) hr
    refine (C_WriteFieldBegin p m b T cf _ nm st l t i w hB hok.1 hr (by simp [WOp.most] at hl; omega)).mono fun e w' hw => ?_
    obtain ⟨h1, h2⟩ := hB.all hC hw.2.2
    have e1 : (WOp.fieldBegin t i).nextC st = { st with last := i } := by simp [WOp.nextC, ht]
    have e2 : (WOp.fieldBegin t i).comB st = fieldC st.last (ctype t) i := by simp [WOp.comB, ht]
    have hw2 := hw.2.1
    simp only [if_neg ht] at hw2
    refine ⟨hw.1, ⟨?_, h1, hok', by show ((WOp.fieldBegin t i).nextC st).stack.length ≤ T + 32; omega⟩, h2⟩
    show CP w' p m b cf ((WOp.fieldBegin t i).nextC st) (T + 32) true (l ++ (WOp.fieldBegin t i).comB st)
    rw [e1, e2]
    rw [e2] at hcm
    exact hw2.mono (by simp [WOp.most] at hcm; omega)

def ProtN (w : World) (m b : Nat) (c : ConfV) (e : Ending) (w' : World) : Prop :=
  ∃ P : WProto WSt, e = .returned (protI P) ∧ Made c P m b ∧ Nam P ∧ P.I w' (0, [], CSt.new) ∧ Fr (fun k => BF w b k ∨ k = m) (P.F w') w w'
theorem Prot_nam (m b : Nat) (c : ConfV) (w : World) (hm : Mem w m b) (hb : Buf w b 0 true []) : Calls Tryz.prog 39 #[c.val, memI m] w (ProtN w m b c) := by
  by_cases hc : c.proto = 1
  · refine (ProtC_raw m b 0 true [] c w hc hm hb).mono ?_
    rintro e w' ⟨p, cf, rfl, hcf, hP, hF, hp, hcn⟩
    refine ⟨protoC p m b cf c, rfl, madeC p m b cf c hc, namC p m b cf c, ⟨hP, hcf, CSt.new_ok, Nat.le_refl _⟩, hF.os, hF.tape, hF.output, hF.size, fun k hk hn => hF.keep k hk fun x => hn (Or.inl x), fun k hk hx => ?_⟩
    rcases hx with hx | rfl | hx
    · exact Or.inl (hF.foot k hk hx)
    · exact Or.inr rfl
    · have := hcn k hx; omega
  · refine (ProtB_raw m b 0 true [] c w hc hm hb).mono ?_
    rintro e w' ⟨p, cf, rfl, hcf, hP, hF, hp, hcn⟩
    refine ⟨protoB' p m b cf c, rfl, madeB p m b cf c hc, namB p m b cf c, ⟨hP, hcf⟩, hF.os, hF.tape, hF.output, hF.size, fun k hk hn => hF.keep k hk fun x => hn (Or.inl x), fun k hk hx => ?_⟩
    rcases hx with hx | rfl | hx
    · exact Or.inl (hF.foot k hk hx)
    · exact Or.inr rfl
    · have := hcn k hx; omega
end Go.Proofs.YtdifknecndlklaaGreatDoor
namespace Go.Proofs.YtdifknecndlklaaGreatDoor
open Go Go.RowKit
set_option maxHeartbeats 4000000
set_option maxRecDepth 100000
set_option linter.all false

abbrev TAE : TypeId := 133
/-- The calls by which an application exception is written. -/
def aeMid (l : List UInt8) : List WOp := if l = [] then [] else [.fieldBegin 11 1, .string (strOf l), .fieldEnd]
def aeOps (k : Int) (l : List UInt8) : List WOp := .structBegin :: (aeMid (faultT k l) ++ [.fieldBegin 8 2, .i32 k, .fieldEnd, .fieldStop, .structEnd])

/-- What stands at each step. -/
def AeAt (P : WProto WSt) (w : World) (s : WSt) (X : World) : Prop := P.I X s ∧ Fr (P.F w) (P.F X) w X
theorem AeAt.quiet {P : WProto WSt} (hP : P.Ok) {w X Y : World} {s : WSt} (h : AeAt P w s X) (hf : Fr noF noF X Y) : AeAt P w s Y := by
  obtain ⟨h1, _, h3⟩ := hP.quiet h.1 hf
  exact ⟨h1, h.2.trans h3⟩
theorem AeAt.op {P : WProto WSt} (hP : P.Ok) {w X : World} {s : WSt} (op : WOp) (h : AeAt P w s X) (hg : P.good s op) (hf : op.fits X (P.F X)) : Calls Tryz.prog (P.fn op.name) (op.args P.recv) X (fun e Y => e = .returned .nilIface ∧ AeAt P w (P.step s op) Y) :=
  (hP.call op X s h.1 hg hf).mono fun e Y ⟨he, h1, h2⟩ => ⟨he, h1, h.2.trans h2⟩

theorem faultS_le (k : Int) : (faultS k).length ≤ 100 := by
  unfold faultS
  by_cases h0 : k = 0
  · rw [if_pos h0]; decide
  rw [if_neg h0]
  by_cases h1 : k = 1
  · rw [if_pos h1]; decide
  rw [if_neg h1]
  by_cases h2 : k = 2
  · rw [if_pos h2]; decide
  rw [if_neg h2]
  by_cases h3 : k = 3
  · rw [if_pos h3]; decide
  rw [if_neg h3]
  by_cases h4 : k = 4
  · rw [if_pos h4]; decide
  rw [if_neg h4]
  by_cases h5 : k = 5
  · rw [if_pos h5]; decide
  rw [if_neg h5]
  by_cases h6 : k = 6
  · rw [if_pos h6]; decide
  rw [if_neg h6]
  by_cases h7 : k = 7
  · rw [if_pos h7]; decide
  rw [if_neg h7]
  by_cases h8 : k = 8
  · rw [if_pos h8]; decide
  rw [if_neg h8]
  by_cases h9 : k = 9
  · rw [if_pos h9]; decide
  rw [if_neg h9]
  by_cases h10 : k = 10
  · rw [if_pos h10]; decide
  rw [if_neg h10]
  by_cases h11 : k = 11
  · rw [if_pos h11]; decide
  rw [if_neg h11]
  decide
theorem AE_Write (P : WProto WSt) (hP : P.Ok) (hN : Nam P) (q : Nat) (l : List UInt8) (hl : l.length ≤ 1000000) (k : Int) (w : World) (s : WSt) (hI : P.I w s) (hq : w.heap[q]? = some (.cells #[.string (strOf l), .int .i32 k, .nilIface] TAE (0, 0))) (hqF : ¬ P.F w q) (hg : P.goods s (aeOps k l)) :
    Calls Tryz.prog 142 #[.pointer (some ⟨q, 0, none⟩), WOp.args.ctxW, .iface P.T P.recv] w (fun e w' => e = .returned .nilIface ∧ AeAt P w (P.steps s (aeOps k l)) w') := by
  obtain ⟨tx, htx⟩ : ∃ tx, tx = faultT k l := ⟨_, rfl⟩
  have htl : tx.length ≤ 1000000 := by
    rw [htx]
    unfold faultT
    have := faultS_le k
    split <;> omega
  have hcell : ∀ X s', AeAt P w s' X → X.cell? ⟨q, 0, none⟩ = some (.string (strOf l)) ∧ X.cell? ⟨q, 1, none⟩ = some (.int .i32 k) ∧ X.cell? ⟨q, 2, none⟩ = some .nilIface := fun X s' hX => by
    have e := hX.2.block hq hqF
    exact ⟨cell_at e 0, cell_at e 1, cell_at e 2⟩
  have herr : ∀ X s', AeAt P w s' X → Calls Tryz.prog 138 #[.agg #[.string (strOf l), .int .i32 k, .nilIface]] X (fun e Y => e = .returned (.string (strOf tx)) ∧ AeAt P w s' Y) := fun X s' hX => by
    rw [htx]
    exact (AE_Error l k X).mono fun e Y ⟨he, hf⟩ => ⟨he, hX.quiet hP hf⟩
  have hstart : AeAt P w s w := ⟨hI, Fr.refl _ _⟩
  have hsb : ∀ nm X s', AeAt P w s' X → P.good s' .structBegin → Calls Tryz.prog (P.fn "WriteStructBegin") #[P.recv, WOp.args.ctxW, .string nm] X (fun e Y => e = .returned .nilIface ∧ AeAt P w (P.step s' .structBegin) Y) := fun nm X s' hX hg =>
    (hN.sb nm X s' hX.1 hg).mono fun e Y ⟨he, h1, h2⟩ => ⟨he, h1, hX.2.trans h2⟩
  have hfb : ∀ nm t i X s', t ≠ 2 → AeAt P w s' X → P.good s' (.fieldBegin t i) → Calls Tryz.prog (P.fn "WriteFieldBegin") #[P.recv, WOp.args.ctxW, .string nm, .int .u8 t, .int .i16 i] X (fun e Y => e = .returned .nilIface ∧ AeAt P w (P.step s' (.fieldBegin t i)) Y) := fun nm t i X s' ht hX hg =>
    (hN.fb nm t i X s' ht hX.1 hg).mono fun e Y ⟨he, h1, h2⟩ => ⟨he, h1, hX.2.trans h2⟩
  have hop : ∀ (op : WOp) X s', AeAt P w s' X → P.good s' op → op.fits X (P.F X) → Calls Tryz.prog (P.fn op.name) (op.args P.recv) X (fun e Y => e = .returned .nilIface ∧ AeAt P w (P.step s' op) Y) := fun op X s' hX hg hf => hX.op hP op hg hf
  have hdr : ∀ X s', AeAt P w s' X → AeAt P w s' X.drew := fun X s' hX => hX.quiet hP ((Fr.refl noF X).drew)
  have hfit : (WOp.string (strOf tx)).fits w (P.F w) := by show (strOf tx).size ≤ maxLen; simp [strOf, ByteArray.size]; unfold maxLen; omega
  have hm0 : ∀ w, (method 498 P.T P.recv "WriteStructBegin").run Tryz.prog w = .ok (P.fn "WriteStructBegin", P.recv) w := hP.meth .structBegin
  have ha0 : ∀ w, (nilAhead 498 P.T P.recv "WriteStructBegin").run Tryz.prog w = .ok (some false) w := hP.ahead .structBegin
  have he0 : ∀ xs w, (callFunc (P.fn "WriteStructBegin") xs).run Tryz.prog w = .ok (.enter (P.fn "WriteStructBegin") xs) w := hP.enter .structBegin
  have hm1 : ∀ w, (method 498 P.T P.recv "WriteFieldBegin").run Tryz.prog w = .ok (P.fn "WriteFieldBegin", P.recv) w := hP.meth (.fieldBegin 0 0)
  have ha1 : ∀ w, (nilAhead 498 P.T P.recv "WriteFieldBegin").run Tryz.prog w = .ok (some false) w := hP.ahead (.fieldBegin 0 0)
  have he1 : ∀ xs w, (callFunc (P.fn "WriteFieldBegin") xs).run Tryz.prog w = .ok (.enter (P.fn "WriteFieldBegin") xs) w := hP.enter (.fieldBegin 0 0)
  have hm2 : ∀ w, (method 498 P.T P.recv "WriteString").run Tryz.prog w = .ok (P.fn "WriteString", P.recv) w := hP.meth (.string default)
  have ha2 : ∀ w, (nilAhead 498 P.T P.recv "WriteString").run Tryz.prog w = .ok (some false) w := hP.ahead (.string default)
  have he2 : ∀ xs w, (callFunc (P.fn "WriteString") xs).run Tryz.prog w = .ok (.enter (P.fn "WriteString") xs) w := hP.enter (.string default)
  have hm3 : ∀ w, (method 498 P.T P.recv "WriteFieldEnd").run Tryz.prog w = .ok (P.fn "WriteFieldEnd", P.recv) w := hP.meth .fieldEnd
  have ha3 : ∀ w, (nilAhead 498 P.T P.recv "WriteFieldEnd").run Tryz.prog w = .ok (some false) w := hP.ahead .fieldEnd
  have he3 : ∀ xs w, (callFunc (P.fn "WriteFieldEnd") xs).run Tryz.prog w = .ok (.enter (P.fn "WriteFieldEnd") xs) w := hP.enter .fieldEnd
  have hm4 : ∀ w, (method 498 P.T P.recv "WriteI32").run Tryz.prog w = .ok (P.fn "WriteI32", P.recv) w := hP.meth (.i32 0)
  have ha4 : ∀ w, (nilAhead 498 P.T P.recv "WriteI32").run Tryz.prog w = .ok (some false) w := hP.ahead (.i32 0)
  have he4 : ∀ xs w, (callFunc (P.fn "WriteI32") xs).run Tryz.prog w = .ok (.enter (P.fn "WriteI32") xs) w := hP.enter (.i32 0)
  have hm5 : ∀ w, (method 498 P.T P.recv "WriteFieldStop").run Tryz.prog w = .ok (P.fn "WriteFieldStop", P.recv) w := hP.meth .fieldStop
  have ha5 : ∀ w, (nilAhead 498 P.T P.recv "WriteFieldStop").run Tryz.prog w = .ok (some false) w := hP.ahead .fieldStop
  have he5 : ∀ xs w, (callFunc (P.fn "WriteFieldStop") xs).run Tryz.prog w = .ok (.enter (P.fn "WriteFieldStop") xs) w := hP.enter .fieldStop
  have hm6 : ∀ w, (method 498 P.T P.recv "WriteStructEnd").run Tryz.prog w = .ok (P.fn "WriteStructEnd", P.recv) w := hP.meth .structEnd
  have ha6 : ∀ w, (nilAhead 498 P.T P.recv "WriteStructEnd").run Tryz.prog w = .ok (some false) w := hP.ahead .structEnd
  have he6 : ∀ xs w, (callFunc (P.fn "WriteStructEnd") xs).run Tryz.prog w = .ok (.enter (P.fn "WriteStructEnd") xs) w := hP.enter .structEnd
  unfold aeOps at hg ⊢
  rw [← htx] at hg ⊢
  have hsteps : ∀ op a, P.steps s (op :: a) = P.steps (P.step s op) a := fun _ _ => rfl
  obtain ⟨hg0, hg1⟩ := hg
  rw [hsteps]
  rw [WProto.goods_append] at hg1
  obtain ⟨hg1, hg2, hg3, hg4, hg5, hg6, -⟩ := hg1
  obtain ⟨R, hR⟩ : ∃ R, R = P.steps (P.step s .structBegin) (aeMid tx ++ [.fieldBegin 8 2, .i32 k, .fieldEnd, .fieldStop, .structEnd]) := ⟨_, rfl⟩
  rw [← hR]
  rw [WProto.steps_append] at hR
  obtain ⟨s1, hs1⟩ : ∃ s1, s1 = P.step s .structBegin := ⟨_, rfl⟩
  rw [← hs1] at hg1 hg2 hg3 hg4 hg5 hg6 hR
  obtain ⟨s2, hs2⟩ : ∃ s2, s2 = P.steps s1 (aeMid tx) := ⟨_, rfl⟩
  rw [← hs2] at hg2 hg3 hg4 hg5 hg6 hR
  have hC1 := hsb ⟨#[84, 65, 112, 112, 108, 105, 99, 97, 116, 105, 111, 110, 69, 120, 99, 101, 112, 116, 105, 111, 110]⟩ w s hstart hg0
  rw [← hs1] at hC1
  have hC2 := fun X hX => hfb ⟨#[116, 121, 112, 101]⟩ 8 2 X s2 (by decide) hX hg2
  obtain ⟨s3, hs3⟩ : ∃ s3, s3 = P.step s2 (.fieldBegin 8 2) := ⟨_, rfl⟩
  rw [← hs3] at hC2 hg3 hg4 hg5 hg6
  have hC3 : ∀ X, AeAt P w s3 X → Calls Tryz.prog (P.fn "WriteI32") #[P.recv, WOp.args.ctxW, .int .i32 k] X _ := fun X hX => hop (.i32 k) X s3 hX hg3 trivial
  obtain ⟨s4, hs4⟩ : ∃ s4, s4 = P.step s3 (.i32 k) := ⟨_, rfl⟩
  rw [← hs4] at hC3 hg4 hg5 hg6
  have hC4 : ∀ X, AeAt P w s4 X → Calls Tryz.prog (P.fn "WriteFieldEnd") #[P.recv, WOp.args.ctxW] X _ := fun X hX => hop .fieldEnd X s4 hX hg4 trivial
  obtain ⟨s5, hs5⟩ : ∃ s5, s5 = P.step s4 .fieldEnd := ⟨_, rfl⟩
  rw [← hs5] at hC4 hg5 hg6
  have hC5 : ∀ X, AeAt P w s5 X → Calls Tryz.prog (P.fn "WriteFieldStop") #[P.recv, WOp.args.ctxW] X _ := fun X hX => hop .fieldStop X s5 hX hg5 trivial
  obtain ⟨s6, hs6⟩ : ∃ s6, s6 = P.step s5 .fieldStop := ⟨_, rfl⟩
  rw [← hs6] at hC5 hg6
  have hC6 : ∀ X, AeAt P w s6 X → Calls Tryz.prog (P.fn "WriteStructEnd") #[P.recv, WOp.args.ctxW] X _ := fun X hX => hop .structEnd X s6 hX hg6 trivial
  have hR6 : P.step s6 .structEnd = R := by rw [hR, hs6, hs5, hs4, hs3]; rfl
  rw [hR6] at hC6
  have hmid : tx ≠ [] → (∀ X, AeAt P w s1 X → Calls Tryz.prog (P.fn "WriteFieldBegin") #[P.recv, WOp.args.ctxW, .string ⟨#[109, 101, 115, 115, 97, 103, 101]⟩, .int .u8 11, .int .i16 1] X (fun e Y => e = .returned .nilIface ∧ ∃ t1, AeAt P w t1 Y ∧
      (∀ X, AeAt P w t1 X → Calls Tryz.prog (P.fn "WriteString") #[P.recv, WOp.args.ctxW, .string (strOf tx)] X (fun e Y => e = .returned .nilIface ∧ ∃ t2, AeAt P w t2 Y ∧
        (∀ X, AeAt P w t2 X → Calls Tryz.prog (P.fn "WriteFieldEnd") #[P.recv, WOp.args.ctxW] X (fun e Y => e = .returned .nilIface ∧ AeAt P w s2 Y)))))) := fun h0 X hX => by
    have hm : aeMid tx = [.fieldBegin 11 1, .string (strOf tx), .fieldEnd] := by unfold aeMid; rw [if_neg h0]
    rw [hm] at hg1 hs2
    obtain ⟨k1, k2, k3, -⟩ := hg1
    refine (hfb _ 11 1 X s1 (by decide) hX k1).mono fun e Y ⟨he, hY⟩ => ⟨he, _, hY, fun X hX => ?_⟩
    refine (hop (.string (strOf tx)) X _ hX k2 hfit).mono fun e Y ⟨he, hY⟩ => ⟨he, _, hY, fun X hX => ?_⟩
    refine (hop .fieldEnd X _ hX k3 trivial).mono fun e Y ⟨he, hY⟩ => ⟨he, ?_⟩
    rw [hs2]
    exact hY
  have hempty : tx = [] → s2 = s1 := fun h0 => by rw [hs2]; unfold aeMid; rw [if_pos h0]; rfl
  have HC1 := Lib.hid hC1
  have HC2 := Lib.hid hC2
  have HC3 := Lib.hid hC3
  have HC4 := Lib.hid hC4
  have HC5 := Lib.hid hC5
  have HC6 := Lib.hid hC6
  have HM := Lib.hid hmid
  have HCE := Lib.hid hcell
  have HER := Lib.hid herr
  have HDR := Lib.hid hdr
  have c0 := (hcell w s hstart).1
  obtain ⟨T, hT⟩ : ∃ f, f = P.T := ⟨_, rfl⟩
  obtain ⟨r, hr⟩ : ∃ f, f = P.recv := ⟨_, rfl⟩
  obtain ⟨f0, hf0⟩ : ∃ f, f = P.fn "WriteStructBegin" := ⟨_, rfl⟩
  obtain ⟨f1, hf1⟩ : ∃ f, f = P.fn "WriteFieldBegin" := ⟨_, rfl⟩
  obtain ⟨f2, hf2⟩ : ∃ f, f = P.fn "WriteString" := ⟨_, rfl⟩
  obtain ⟨f3, hf3⟩ : ∃ f, f = P.fn "WriteFieldEnd" := ⟨_, rfl⟩
  obtain ⟨f4, hf4⟩ : ∃ f, f = P.fn "WriteI32" := ⟨_, rfl⟩
  obtain ⟨f5, hf5⟩ : ∃ f, f = P.fn "WriteFieldStop" := ⟨_, rfl⟩
  obtain ⟨f6, hf6⟩ : ∃ f, f = P.fn "WriteStructEnd" := ⟨_, rfl⟩
  rw [← hT, ← hr]
  rw [← hT, ← hr, ← hf0] at hm0
  rw [← hT, ← hr] at ha0
  rw [← hf0] at he0
  rw [← hT, ← hr, ← hf1] at hm1
  rw [← hT, ← hr] at ha1
  rw [← hf1] at he1
  rw [← hT, ← hr, ← hf2] at hm2
  rw [← hT, ← hr] at ha2
  rw [← hf2] at he2
  rw [← hT, ← hr, ← hf3] at hm3
  rw [← hT, ← hr] at ha3
  rw [← hf3] at he3
  rw [← hT, ← hr, ← hf4] at hm4
  rw [← hT, ← hr] at ha4
  rw [← hf4] at he4
  rw [← hT, ← hr, ← hf5] at hm5
  rw [← hT, ← hr] at ha5
  rw [← hf5] at he5
  rw [← hT, ← hr, ← hf6] at hm6
  rw [← hT, ← hr] at ha6
  rw [← hf6] at he6
  rw [← hr, ← hf0] at HC1
  rw [← hr, ← hf1] at HC2
  rw [← hr, ← hf4] at HC3
  rw [← hr, ← hf3] at HC4
  rw [← hr, ← hf5] at HC5
  rw [← hr, ← hf6] at HC6
  rw [← hr, ← hf1, ← hf2, ← hf3] at HM
  clear hC1 hC2 hC3 hC4 hC5 hC6 hmid hcell herr hdr hstart hsb hfb hop hsteps hg0 hg1 hg2 hg3 hg4 hg5 hg6 hR hR6 hs1 hs2 hs3 hs4 hs5 hs6 hT hr hf0 hf1 hf2 hf3 hf4 hf5 hf6 hI hq hqF hfit c0 hP hN
  unfold WOp.args.ctxW at *
  rcases Decidable.em (tx = []) with h0 | h0
  · have h01 := hempty h0
    subst h01
    have hz : (strOf tx).size = 0 := by rw [h0]; rfl
    clear HM hempty htx h0 htl
    go_enter Tryz.func142, Tryz.ntmps142
    go_wp2_with fail
    (with_reducible refine HC1.out.mono ?_)
    rintro e X1 ⟨rfl, hX1⟩
    obtain ⟨d0, d1, d2⟩ := HCE.out X1 _ hX1
    go_wp2_with fail
    (with_reducible refine (HER.out X1 _ hX1).mono ?_)
    rintro e X2 ⟨rfl, hX2⟩
    clear d0 d1 d2 hX1
    go_wp2_with fail
    (with_reducible refine (HC2.out X2 hX2).mono ?_)
    rintro e X5 ⟨rfl, hX5⟩
    have hD := HDR.out X5 _ hX5
    obtain ⟨-, d1, -⟩ := HCE.out X5.drew _ hD
    have HI := Lib.hid (HC3.out X5.drew hD)
    clear hD hX5 hX2
    go_wp2_with fail
    go_region_held3 (fun w' => w'.cell? ⟨q, 1, none⟩ = some (.int .i32 k)) (first | exact d1 | exact e1 | fail) (first | ((with_reducible refine HI.out.mono ?_); rintro e X6 ⟨rfl, hX6⟩; have e1 := (HCE.out X6 _ hX6).2.1; have H6 := Lib.hid hX6; clear hX6) | fail)
    all_goals clear d1 e1
    all_goals go_wp2_with fail
    all_goals (with_reducible refine (HC4.out X6 H6.out).mono ?_)
    all_goals rintro e X7 ⟨rfl, hX7⟩
    all_goals go_wp2_with fail
    all_goals (with_reducible refine (HC5.out X7 hX7).mono ?_)
    all_goals rintro e X8 ⟨rfl, hX8⟩
    all_goals go_wp2_with fail
    all_goals (with_reducible refine (HC6.out X8 hX8).mono ?_)
    all_goals rintro e X9 ⟨rfl, hX9⟩
    all_goals have H9 := Lib.hid hX9
    all_goals clear hX9 hX8 hX7
    all_goals go_wp2
    all_goals go_ret
    all_goals exact ⟨rfl, H9.out⟩
  · have hz4 : 0 < (strOf tx).size := by
      have : 0 < tx.length := List.length_pos_iff.2 h0
      simp [strOf, ByteArray.size]
      omega
    have hz : ((strOf tx).size : Int) > 0 := by omega
    obtain ⟨sx, hsx⟩ : ∃ sx, sx = strOf tx := ⟨_, rfl⟩
    rw [← hsx] at hz hz4 HM HER
    clear hsx
    have HMM := Lib.hid (HM.out h0)
    clear HM hempty htx h0 htl
    go_enter Tryz.func142, Tryz.ntmps142
    go_wp2_with fail
    (with_reducible refine HC1.out.mono ?_)
    rintro e X1 ⟨rfl, hX1⟩
    obtain ⟨d0, d1, d2⟩ := HCE.out X1 _ hX1
    go_wp2_with fail
    (with_reducible refine (HER.out X1 _ hX1).mono ?_)
    rintro e X2 ⟨rfl, hX2⟩
    clear d0 d1 d2 hX1
    go_wp2_with fail
    (with_reducible refine (HMM.out X2 hX2).mono ?_)
    rintro e X3 ⟨rfl, t1, hX3, hstr⟩
    have hD := HDR.out X3 _ hX3
    have hq3 := HCE.out X3.drew _ hD
    have HE3 := Lib.hid (HER.out X3.drew _ hD)
    have HST := Lib.hid hstr
    clear hX2 hstr hD hX3
    go_wp2_with fail
    go_region_held3 (fun w' => w'.cell? ⟨q, 0, none⟩ = some (.string (strOf l)) ∧ w'.cell? ⟨q, 1, none⟩ = some (.int .i32 k) ∧ w'.cell? ⟨q, 2, none⟩ = some .nilIface) (first | exact hq3 | exact hq4 | exact hq5 | fail) (first | (go_at_call 138; (with_reducible refine HE3.out.mono ?_); rintro e Y1 ⟨rfl, hY1⟩; have hq4 := HCE.out Y1 _ hY1; have HST2 := Lib.hid (HST.out Y1 hY1); clear hY1) | ((with_reducible refine HST2.out.mono ?_); rintro e X4 ⟨rfl, t2, hX4, hfe⟩; have hq5 := HCE.out X4 _ hX4; have HFE := Lib.hid (And.intro hX4 hfe); clear hX4 hfe) | fail)
    all_goals clear hq3 hq4 hq5
    all_goals go_wp2_with fail
    all_goals (with_reducible refine (HFE.out.2 X4 HFE.out.1).mono ?_)
    all_goals rintro e XB ⟨rfl, hXB⟩
    all_goals go_wp2_with fail
    all_goals (with_reducible refine (HC2.out XB hXB).mono ?_)
    all_goals rintro e X5 ⟨rfl, hX5⟩
    all_goals have hD := HDR.out X5 _ hX5
    all_goals obtain ⟨-, d1, -⟩ := HCE.out X5.drew _ hD
    all_goals have HI := Lib.hid (HC3.out X5.drew hD)
    all_goals clear hD hX5 hXB
    all_goals go_wp2_with fail
    all_goals go_region_held3 (fun w' => w'.cell? ⟨q, 1, none⟩ = some (.int .i32 k)) (first | exact d1 | exact e1 | fail) (first | ((with_reducible refine HI.out.mono ?_); rintro e X6 ⟨rfl, hX6⟩; have e1 := (HCE.out X6 _ hX6).2.1; have H6 := Lib.hid hX6; clear hX6) | fail)
    all_goals clear d1 e1
    all_goals go_wp2_with fail
    all_goals (with_reducible refine (HC4.out X6 H6.out).mono ?_)
    all_goals rintro e X7 ⟨rfl, hX7⟩
    all_goals go_wp2_with fail
    all_goals (with_reducible refine (HC5.out X7 hX7).mono ?_)
    all_goals rintro e X8 ⟨rfl, hX8⟩
    all_goals go_wp2_with fail
    all_goals (with_reducible refine (HC6.out X8 hX8).mono ?_)
    all_goals rintro e X9 ⟨rfl, hX9⟩
    all_goals have H9 := Lib.hid hX9
    all_goals clear hX9 hX8 hX7
    all_goals go_wp2
    all_goals go_ret
    all_goals exact ⟨rfl, H9.out⟩
end Go.Proofs.YtdifknecndlklaaGreatDoor
namespace Go.Proofs.YtdifknecndlklaaGreatDoor
open Go Go.RowKit
set_option maxHeartbeats 4000000
set_option maxRecDepth 100000
set_option linter.all false

abbrev PAE : TypeId := 131
abbrev aeC (l : List UInt8) (k : Int) : Obj := .cells #[.string (strOf l), .int .i32 k, .nilIface] TAE (0, 0)
theorem meth_ae (a : Addr) (w : World) : (method 498 PAE (.pointer (some a)) "Write").run Tryz.prog w = .ok (142, .pointer (some a)) w := by kernel_rfl
theorem ahead_ae (a : Addr) (w : World) : (nilAhead 498 PAE (.pointer (some a)) "Write").run Tryz.prog w = .ok (some false) w := by kernel_rfl

theorem ae_most (k : Int) (l : List UInt8) (hl : l.length ≤ 1000000) : mostAll (aeOps k l) ≤ 2000000 := by
  have h1 : (faultT k l).length ≤ 1000000 := by
    unfold faultT
    have := faultS_le k
    split <;> omega
  have hs : (strOf (faultT k l)).size = (faultT k l).length := by simp [strOf, ByteArray.size]
  have e0 : mostAll [] = 0 := rfl
  unfold aeOps aeMid
  split <;> simp only [mostAll_cons, mostAll_append, e0, WOp.most, hs] <;> omega
theorem ae_rng (k : Int) (l : List UInt8) (hk : -2147483648 ≤ k ∧ k ≤ 2147483647) : rngAll (aeOps k l) := by
  unfold aeOps aeMid
  split <;> simp only [rngAll_cons, rngAll_append, List.nil_append] <;> simp [rngAll_nil, WOp.rng] <;> omega
theorem ae_dep (k : Int) (l : List UInt8) (d : Nat) : dep d (aeOps k l) ≠ none := by
  unfold aeOps aeMid
  split
  · simp [dep]
  · simp [dep]

theorem flt_prep (c : ConfV) (k : Int) (hk : -2147483648 ≤ k ∧ k ≤ 2147483647) (l : List UInt8) (hl : l.length ≤ 1000000) (w W0 : World) (hf0 : Fr noF noF w W0) (m b : Nat) (w1 : World) (hm : Mem w1 m b) (hb : Buf w1 b 0 true []) (hf : Fr noF (BF w1 b) W0 w1) (hmn : W0.heap.size ≤ m) (X : World) (hX : Fr noF noF w1 X) :
    Calls Tryz.prog 39 #[c.val, memI m] X (fun e X2 => ∃ PT r, e = .returned (.iface PT r) ∧ Fr noF noF W0 X2 ∧
      (∀ q Y, X2.heap.size ≤ q → Fr noF noF X2 Y → Y.heap[q]? = some (aeC l k) → Calls Tryz.prog 142 #[.pointer (some ⟨q, 0, none⟩), WOp.args.ctxW, .iface PT r] Y (fun e Z => e = .returned .nilIface ∧ PutEnd w Z m b (encAll c CSt.new (aeOps k l)) ∧ Fr noF noF W0 Z)) ∧
      (∀ q Y, X.heap[q]? = some (aeC l k) → Fr noF noF X2 Y → Calls Tryz.prog 142 #[.pointer (some ⟨q, 0, none⟩), WOp.args.ctxW, .iface PT r] Y (fun e Z => e = .returned .nilIface ∧ PutEnd w Z m b (encAll c CSt.new (aeOps k l)) ∧ Fr noF noF W0 Z))) := by
  have nof : ∀ {F' : Nat → Prop} {a b : World}, Fr noF F' a b → Fr noF noF a b := fun h => h.conv fun _ _ x => x.elim
  obtain ⟨sz, hmc⟩ := hm
  have hmX : Mem X m b := ⟨sz, hX.block hmc fun x => x⟩
  have hbX : Buf X b 0 true [] := hb.keep hX fun _ _ x => x
  have hsame : X.heap[b]? = w1.heap[b]? := hX.keep b hb.lt fun x => x
  have hfX : Fr noF (BF X b) W0 X := ⟨hX.os.trans hf.os, hX.tape.trans hf.tape, hX.output.trans hf.output, Nat.le_trans hf.size hX.size, fun k hk hn => (hX.keep k (Nat.lt_of_lt_of_le hk hf.size) fun x => x).trans (hf.keep k hk hn), fun k hk hx => hf.foot k hk ((BF.of_same hsame).1 hx)⟩
  refine (Prot_nam m b c X hmX hbX).mono ?_
  rintro e X2 ⟨P, rfl, hM, hN, hI, hF⟩
  have hfA : Fr noF (P.F X2) W0 X2 := (hfX.conv (F'' := fun k => BF X b k ∨ k = m) fun k hk hx => by
    rcases hx with hx | rfl
    · exact hx
    · omega).trans hF
  have hg := hM.goods (aeOps k l) (0, [], CSt.new) CSt.new_ok (by have := ae_most k l hl; rw [Nat.zero_add]; unfold LIM; omega) (ae_rng k l hk) (fun _ => ae_dep k l _)
  have core : ∀ q Y, Fr noF noF X2 Y → Y.heap[q]? = some (aeC l k) → ¬ P.F X2 q → Calls Tryz.prog 142 #[.pointer (some ⟨q, 0, none⟩), WOp.args.ctxW, .iface P.T P.recv] Y (fun e Z => e = .returned .nilIface ∧ PutEnd w Z m b (encAll c CSt.new (aeOps k l)) ∧ Fr noF noF W0 Z) := fun q Y hY hq hn => by
    obtain ⟨hI2, hs2, q2⟩ := hM.ok.quiet hI hY
    refine (AE_Write P hM.ok hN q l hl k Y _ hI2 hq (fun hx => hn (hs2 q hx)) hg).mono ?_
    rintro e Z ⟨rfl, hIZ, hFZ⟩
    have hfin := (hfA.trans q2).trans hFZ
    rw [hM.steps] at hIZ
    simp only [Nat.zero_add, List.nil_append] at hIZ
    obtain ⟨h1, h2⟩ := hM.mem _ _ hIZ
    exact ⟨rfl, ⟨h1, h2.tight, (hf0.trans hfin).conv fun k _ hk => hM.foot _ _ hk⟩, nof hfin⟩
  refine ⟨P.T, P.recv, rfl, nof hfA, fun q Y hq hY hb => core q Y hY hb fun hx => by have := hM.ok.lt hI hx; omega, fun q Y hq hY => ?_⟩
  have hqb : ¬ BF X b q := hbX.other hq (by decide) (by decide)
  have hqm : q ≠ m := by
    obtain ⟨s', h'⟩ := hmX
    exact tag_ne hq h' (by decide)
  have h2 : X2.heap[q]? = some (aeC l k) := hF.block hq fun hx => hx.elim hqb hqm
  exact core q Y hY (hY.block h2 fun x => x) fun hx => (hF.foot q (lt_heap hq) hx).elim hqb hqm

theorem I_PutFault (c : ConfV) (k : Int) (hk : -2147483648 ≤ k ∧ k ≤ 2147483647) (l : List UInt8) (hl : l.length ≤ 1000000) (v : Value) (w : World) (hv : Rd w v l) :
    Calls Tryz.prog 11 #[c.val, .int .i32 k, v] w (PutR w (encAll c CSt.new (aeOps k l))) := by
  obtain ⟨na, nn, nc, rfl, -⟩ := hv.len
  have hprep := fun W0 hf0 m b w1 hm hb hf hmn X hX => flt_prep c k hk l hl w W0 hf0 m b w1 hm hb hf hmn X hX
  obtain ⟨news, hnews⟩ : ∃ news, news = encAll c CSt.new (aeOps k l) := ⟨_, rfl⟩
  rw [← hnews] at hprep ⊢
  obtain ⟨pr, pl, sr, sw, ms, co, fr⟩ := c
  obtain ⟨W0, hW0⟩ : ∃ W0, W0 = w.alloc (.cells #[.int .i64 pr, .bool pl, .bool sr, .bool sw, .int .i32 ms, .int .i32 co, .int .i32 fr] 23 (0, 0)) := ⟨_, rfl⟩
  have hf0 : Fr noF noF w W0 := by rw [hW0]; exact (Fr.refl noF w).alloc _
  have hheld : ∀ X, Fr noF noF W0 X → ((convert 24 9 (.slice na nn nc)).run Tryz.prog X = .ok (.string (strOf l)) X ∧ X.cell? ⟨w.heap.size, 0, none⟩ = some (.int .i64 pr) ∧ X.cell? ⟨w.heap.size, 1, none⟩ = some (.bool pl) ∧ X.cell? ⟨w.heap.size, 2, none⟩ = some (.bool sr) ∧ X.cell? ⟨w.heap.size, 3, none⟩ = some (.bool sw) ∧ X.cell? ⟨w.heap.size, 4, none⟩ = some (.int .i32 ms) ∧ X.cell? ⟨w.heap.size, 5, none⟩ = some (.int .i32 co) ∧ X.cell? ⟨w.heap.size, 6, none⟩ = some (.int .i32 fr)) := fun X hX => by
    have e : X.heap[w.heap.size]? = some (.cells #[.int .i64 pr, .bool pl, .bool sr, .bool sw, .int .i32 ms, .int .i32 co, .int .i32 fr] 23 (0, 0)) := hX.block (by rw [hW0]; exact alloc_new w _) fun x => x
    exact ⟨conv_back (hv.keep (F := noF) (hf0.trans hX) fun _ _ x => x), cell_at e 0, cell_at e 1, cell_at e 2, cell_at e 3, cell_at e 4, cell_at e 5, cell_at e 6⟩
  have H1 := Lib.hid (NewTMemoryBuffer_raw W0)
  have H2 := Lib.hid (hprep W0 hf0)
  have HH := Lib.hid hheld
  have HCX := Lib.hid I_ctx
  have HNA := Lib.hid NewAE
  have HW0 := Lib.hid hW0
  have hma := meth_ae
  have haa := ahead_ae
  rw [hW0] at H1
  clear hprep hheld hnews hv hl hk hf0
  go_enter Tryz.func11, Tryz.ntmps11
  go_wp2_with fail
  refine H1.out.mono ?_
  rw [← hW0]
  rintro e w1 ⟨m, b, rfl, hm, hb, hf, hmn⟩
  have HP := Lib.hid (H2.out m b w1 hm hb hf hmn)
  have hW1 : Fr noF noF W0 w1 := hf.conv fun _ _ x => x.elim
  clear hm hb hf hmn hW0
  unfold WOp.args.ctxW at HP
  go_wp2_with fail
  go_region_held3 (fun w' => (convert 24 9 (.slice na nn nc)).run Tryz.prog w' = .ok (.string (strOf l)) w' ∧ w'.cell? ⟨w.heap.size, 0, none⟩ = some (.int .i64 pr) ∧ w'.cell? ⟨w.heap.size, 1, none⟩ = some (.bool pl) ∧ w'.cell? ⟨w.heap.size, 2, none⟩ = some (.bool sr) ∧ w'.cell? ⟨w.heap.size, 3, none⟩ = some (.bool sw) ∧ w'.cell? ⟨w.heap.size, 4, none⟩ = some (.int .i32 ms) ∧ w'.cell? ⟨w.heap.size, 5, none⟩ = some (.int .i32 co) ∧ w'.cell? ⟨w.heap.size, 6, none⟩ = some (.int .i32 fr)) (first | exact HH.out _ HF.out.2 | exact HH.out _ (by (focus ((repeat (first | with_reducible exact Fr.refl _ _ | with_reducible assumption | with_reducible refine Fr.alloc ?_ _ | with_reducible refine Fr.drew ?_ | with_reducible refine Fr.drewN ?_ _ | with_reducible refine Fr.trans (F' := noF) ?_ (by with_reducible assumption) | fail)); done))) | fail) (first | (go_at_call 38; refine (HCX.out _).mono ?_; rintro e w9 ⟨rfl, rfl⟩) | (go_at_call 37; (with_reducible refine (HNA.out _ _ _).mono ?_); rintro e X1 ⟨rfl, rfl⟩) | (go_at_call 39; (with_reducible refine (HP.out _ ?_).mono ?_); (focus ((repeat (first | with_reducible exact Fr.refl _ _ | with_reducible assumption | with_reducible refine Fr.alloc ?_ _ | with_reducible refine Fr.drew ?_ | with_reducible refine Fr.drewN ?_ _ | with_reducible refine Fr.trans (F' := noF) ?_ (by with_reducible assumption) | fail)); done)); rintro e X2 ⟨PT, r, rfl, hx2, hwa, hwb⟩; have HWA := Lib.hid hwa; have HWB := Lib.hid hwb; clear hwa hwb) | (go_at_call 142; (first | ((with_reducible refine (HWB.out _ _ ?_ ?_).mono ?_); (focus ((repeat (first | with_reducible assumption | with_reducible exact alloc_new _ _ | ((with_reducible refine alloc_newE ?_); (first | with_reducible rfl | (simp; done))) | with_reducible refine alloc_at ?_ | with_reducible refine drew_at ?_ | with_reducible refine Fr.block (F := noF) (F' := noF) (by with_reducible assumption) ?_ (fun x => x) | fail)); done)); (focus ((repeat (first | with_reducible exact Fr.refl _ _ | with_reducible assumption | with_reducible refine Fr.alloc ?_ _ | with_reducible refine Fr.drew ?_ | with_reducible refine Fr.drewN ?_ _ | with_reducible refine Fr.trans (F' := noF) ?_ (by with_reducible assumption) | fail)); done))) | ((with_reducible refine (HWA.out _ _ ?_ ?_ ?_).mono ?_); (first | exact Nat.le_refl _ | exact Fr.size (F := noF) (F' := noF) (by (focus ((repeat (first | with_reducible exact Fr.refl _ _ | with_reducible assumption | with_reducible refine Fr.alloc ?_ _ | with_reducible refine Fr.drew ?_ | with_reducible refine Fr.drewN ?_ _ | with_reducible refine Fr.trans (F' := noF) ?_ (by with_reducible assumption) | fail)); done)))); (focus ((repeat (first | with_reducible exact Fr.refl _ _ | with_reducible assumption | with_reducible refine Fr.alloc ?_ _ | with_reducible refine Fr.drew ?_ | with_reducible refine Fr.drewN ?_ _ | with_reducible refine Fr.trans (F' := noF) ?_ (by with_reducible assumption) | fail)); done)); (focus ((repeat (first | with_reducible assumption | with_reducible exact alloc_new _ _ | ((with_reducible refine alloc_newE ?_); (first | with_reducible rfl | (simp; done))) | with_reducible refine alloc_at ?_ | with_reducible refine drew_at ?_ | with_reducible refine Fr.block (F := noF) (F' := noF) (by with_reducible assumption) ?_ (fun x => x) | fail)); done)))); rintro e w5 ⟨rfl, hend⟩; have HF := Lib.hid hend; clear hend) | fail)
  all_goals have m0 := HF.out.1.1
  all_goals go_wp2_with fail
  all_goals (refine (Buf_Bytes b _ true news w5 HF.out.1.2.1).mono ?_; rintro e w6 ⟨v6, q6, rfl, rfl, hR, hblk⟩; have HR := Lib.hid (put_end HF.out.1 q6 hR hblk); clear hR hblk)
  all_goals go_wp2_with (go_at_call 41; refine (kind_nil _).mono ?_; rintro e w9 ⟨rfl, rfl⟩)
  all_goals go_ret2
  all_goals exact HR.out
end Go.Proofs.YtdifknecndlklaaGreatDoor
