/- Blocks looked up by their numbers (for drawn regions with many orders; the tactics are in fill.py). -/
import Derived.Deep.RegionHeld3
import Derived.Test.YtdifknecndlklaaGreatDoorZ3
import Derived.Test.YtdifknecndlklaaGreatDoorZ6
import Derived.Test.YtdifknecndlklaaGreatDoorZ4
set_option linter.all false
namespace Go.Proofs.YtdifknecndlklaaGreatDoor
open Go Go.RowKit
set_option maxRecDepth 100000

theorem drew_at {W : World} {k : Nat} {o : Obj} (h : W.heap[k]? = some o) : W.drew.heap[k]? = some o := h
theorem Rd.blt {w : World} {v : Value} {l : List UInt8} (h : Rd w v l) : ∀ k, vblk v k → k < w.heap.size := by
  intro k hk
  rcases h with ⟨rfl, _⟩ | ⟨q, n, cc, rfl, hn', _, _, hs⟩
  · exact hk.elim
  · match n, hk, hn' with
    | n + 1, hk, hn' =>
      obtain ⟨u, hu⟩ : ∃ u, l[0]? = some u := ⟨_, List.getElem?_eq_getElem (by omega)⟩
      have := World.block_lt_of_cell? w _ (hs 0 u hu)
      rw [block_add'] at this
      exact hk ▸ this
theorem alloc_newE {w : World} {o : Obj} {n : Nat} (h : n = w.heap.size) : (w.alloc o).heap[n]? = some o := by subst h; exact alloc_new w o

example (w X : World) (a b : Obj) (h : Fr noF noF (w.alloc a).drew X) : Fr noF noF w (X.alloc b).drew := by (focus ((repeat (first | with_reducible exact Fr.refl _ _ | with_reducible assumption | with_reducible refine Fr.alloc ?_ _ | with_reducible refine Fr.drew ?_ | with_reducible refine Fr.drewN ?_ _ | with_reducible refine Fr.trans (F' := noF) ?_ (by with_reducible assumption) | fail)); done))
example (w X : World) (a b : Obj) (h : Fr noF noF (w.alloc a).drew X) : (X.alloc b).drew.heap[w.heap.size]? = some a := by (focus ((repeat (first | with_reducible assumption | with_reducible exact alloc_new _ _ | ((with_reducible refine alloc_newE ?_); (first | with_reducible rfl | (simp; done))) | with_reducible refine alloc_at ?_ | with_reducible refine drew_at ?_ | with_reducible refine Fr.block (F := noF) (F' := noF) (by with_reducible assumption) ?_ (fun x => x) | fail)); done))
example (w X : World) (a b d : Obj) (h : Fr noF noF (w.alloc a).drew X) : ((X.alloc d).alloc b).drew.heap[X.heap.size + 1]? = some b := by (focus ((repeat (first | with_reducible assumption | with_reducible exact alloc_new _ _ | ((with_reducible refine alloc_newE ?_); (first | with_reducible rfl | (simp; done))) | with_reducible refine alloc_at ?_ | with_reducible refine drew_at ?_ | with_reducible refine Fr.block (F := noF) (F' := noF) (by with_reducible assumption) ?_ (fun x => x) | fail)); done))
example (w X : World) (a b d : Obj) (h : Fr noF noF (w.alloc a).drew X) : ((X.alloc d).drew.alloc b).drew.heap[X.heap.size]? = some d := by (focus ((repeat (first | with_reducible assumption | with_reducible exact alloc_new _ _ | ((with_reducible refine alloc_newE ?_); (first | with_reducible rfl | (simp; done))) | with_reducible refine alloc_at ?_ | with_reducible refine drew_at ?_ | with_reducible refine Fr.block (F := noF) (F' := noF) (by with_reducible assumption) ?_ (fun x => x) | fail)); done))
example (w X : World) (v : Value) (l : List UInt8) (a b : Obj) (hr : Rd w v l) (h : Fr noF noF (w.alloc a).drew X) : Rd (X.alloc b).drew v l := by (focus ((repeat (first | with_reducible assumption | with_reducible refine Rd.keep (F := noF) (F' := noF) ?_ (Fr.alloc (Fr.refl noF _) _) (fun _ _ x => x) | with_reducible refine Rd.keep (F := noF) (F' := noF) ?_ (Fr.drew (Fr.refl noF _)) (fun _ _ x => x) | with_reducible refine Rd.keep (F := noF) (F' := noF) ?_ (by with_reducible assumption) (fun _ _ x => x) | fail)); done))
end Go.Proofs.YtdifknecndlklaaGreatDoor
