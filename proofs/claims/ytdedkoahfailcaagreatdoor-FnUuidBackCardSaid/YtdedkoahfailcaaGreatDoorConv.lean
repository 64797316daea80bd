/- A text turned to bytes. -/
import Derived.Test.YtdedkoahfailcaaGreatDoorOwn
import Derived.Test.YtdedkoahfailcaaGreatDoorProg
import Derived.Laws.IdiomStrings
namespace Go.Proofs.YtdedkoahfailcaaGreatDoor
open Go Go.RowKit

/-- What '[]byte(s)' gives, and what stands behind it. -/
def convV (w : World) (s : ByteArray) : Value := .slice (some ⟨w.heap.size, 0, none⟩) s.size (grownCap w s.size 0 U8)
def convW (w : World) (s : ByteArray) : World :=
  w.drew.alloc (.cells (bytesRow s (grownCap w s.size 0 U8)) U8 ((bytesRow s (grownCap w s.size 0 U8)).size, (bytesRow s (grownCap w s.size 0 U8)).size + 1))
theorem run_conv (s : ByteArray) (w : World) : (convert 9 35 (.string s)).run Tryz.prog w = .ok (convV w s) (convW w s) :=
  run_bytes_of_string w 9 35 U8 s Tryz.underlying9 Tryz.underlying35 Tryz.underlying5
theorem conv_fr {F F' : Nat → Prop} {W w : World} (h : Fr F F' W w) (s : ByteArray) : Fr F F' W (convW w s) := h.drew.alloc _
theorem conv_rd (w : World) (s : ByteArray) (hs : s.size ≤ maxLen) : Rd (convW w s) (convV w s) s.data.toList := by
  have hn : (convW w s).heap[w.heap.size]? = some (.cells (bytesRow s (grownCap w s.size 0 U8)) U8 ((bytesRow s (grownCap w s.size 0 U8)).size, (bytesRow s (grownCap w s.size 0 U8)).size + 1)) := alloc_new w.drew _
  refine Or.inr ⟨_, _, _, rfl, by simp, grownCap_ge _ _ _ _, grownCap_le_maxLen _ _ _ _ hs, fun j u hj => ?_⟩
  have hjl : j < s.data.size := by simpa using (List.getElem?_eq_some_iff.1 hj).1
  rw [Lib.addr_add, cell_at hn]
  unfold bytesRow
  rw [Nat.zero_add, Array.getElem?_append_left (by simpa using hjl), Array.getElem?_map]
  simp only [Array.getElem?_toList] at hj
  rw [hj]
  rfl
theorem conv_blk {w : World} {s : ByteArray} {k : Nat} (h : vblk (convV w s) k) : k = w.heap.size := by
  unfold convV at h
  generalize s.size = n at h
  cases n with
  | zero => exact h.elim
  | succ n => exact (show w.heap.size = k from h).symm
attribute [irreducible] convV convW
end Go.Proofs.YtdedkoahfailcaaGreatDoor
