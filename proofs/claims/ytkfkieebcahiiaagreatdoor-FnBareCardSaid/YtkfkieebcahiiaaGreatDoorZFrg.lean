/- Blocks looked up by their numbers (for drawn regions with many orders; the tactics are in fill.py). -/
import Derived.Test.YtkfkieebcahiiaaGreatDoorZNumsA
set_option linter.all false
namespace Go.Proofs.YtkfkieebcahiiaaGreatDoor
open Go Go.RowKit
set_option maxRecDepth 100000

theorem alloc_newE {w : World} {o : Obj} {n : Nat} (h : n = w.heap.size) : (w.alloc o).heap[n]? = some o := by subst h; exact alloc_new w o

example (w X : World) (a b : Obj) (h : Fr noF noF (w.alloc a).drew X) : Fr noF noF w (X.alloc b).drew := by (focus ((repeat (first | with_reducible exact Fr.refl _ _ | with_reducible assumption | with_reducible refine Fr.alloc ?_ _ | with_reducible refine Fr.drew ?_ | with_reducible refine Fr.drewN ?_ _ | with_reducible refine Fr.trans (F' := noF) ?_ (by with_reducible assumption) | fail)); done))
example (w X : World) (a b : Obj) (h : Fr noF noF (w.alloc a).drew X) : (X.alloc b).drew.heap[w.heap.size]? = some a := by (focus ((repeat (first | with_reducible assumption | with_reducible exact alloc_new _ _ | ((with_reducible refine alloc_newE ?_); (first | with_reducible rfl | (simp; done))) | with_reducible refine alloc_at ?_ | with_reducible refine drew_at ?_ | with_reducible refine Fr.block (F := noF) (F' := noF) (by with_reducible assumption) ?_ (fun x => x) | fail)); done))
example (w X : World) (a b d : Obj) (h : Fr noF noF (w.alloc a).drew X) : ((X.alloc d).alloc b).drew.heap[X.heap.size + 1]? = some b := by (focus ((repeat (first | with_reducible assumption | with_reducible exact alloc_new _ _ | ((with_reducible refine alloc_newE ?_); (first | with_reducible rfl | (simp; done))) | with_reducible refine alloc_at ?_ | with_reducible refine drew_at ?_ | with_reducible refine Fr.block (F := noF) (F' := noF) (by with_reducible assumption) ?_ (fun x => x) | fail)); done))
example (w X : World) (a b d : Obj) (h : Fr noF noF (w.alloc a).drew X) : ((X.alloc d).drew.alloc b).drew.heap[X.heap.size]? = some d := by (focus ((repeat (first | with_reducible assumption | with_reducible exact alloc_new _ _ | ((with_reducible refine alloc_newE ?_); (first | with_reducible rfl | (simp; done))) | with_reducible refine alloc_at ?_ | with_reducible refine drew_at ?_ | with_reducible refine Fr.block (F := noF) (F' := noF) (by with_reducible assumption) ?_ (fun x => x) | fail)); done))
example (w X : World) (v : Value) (l : List UInt8) (a b : Obj) (hr : Rd w v l) (h : Fr noF noF (w.alloc a).drew X) : Rd (X.alloc b).drew v l := by (focus ((repeat (first | with_reducible assumption | with_reducible refine Rd.keep (F := noF) (F' := noF) ?_ (Fr.alloc (Fr.refl noF _) _) (fun _ _ x => x) | with_reducible refine Rd.keep (F := noF) (F' := noF) ?_ (Fr.drew (Fr.refl noF _)) (fun _ _ x => x) | with_reducible refine Rd.keep (F := noF) (F' := noF) ?_ (by with_reducible assumption) (fun _ _ x => x) | fail)); done))
end Go.Proofs.YtkfkieebcahiiaaGreatDoor
