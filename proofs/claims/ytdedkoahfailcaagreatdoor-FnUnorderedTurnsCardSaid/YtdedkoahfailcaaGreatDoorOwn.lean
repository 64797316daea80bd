/- Bytes that a call gathers itself: what it owns, as bytes. -/
import Derived.Test.YtdedkoahfailcaaGreatDoorMem
import Derived.Laws.AppendOwn
import Derived.OwnWalk
namespace Go.Proofs.YtdedkoahfailcaaGreatDoor
open Go Go.RowKit

/-- The value v holds the bytes l, in a block from base on. -/
abbrev OwnB (w : World) (base : Nat) (v : Value) (l : List UInt8) : Prop := w.ownsRow base U8 1 v l.length (Lib.byteCells l)

theorem OwnB.nil (w : World) (base : Nat) : OwnB w base (.slice none 0 0) [] := ⟨rfl, Or.inl ⟨rfl, rfl⟩⟩
theorem OwnB.rd {w : World} {base : Nat} {v : Value} {l : List UInt8} (h : OwnB w base v l) : Rd w v l := by
  rcases h.2 with ⟨rfl, h0⟩ | ⟨g, cap, cur, rfl, hb, hg, hn, hm, hs, ht⟩
  · exact Or.inl ⟨rfl, List.length_eq_zero_iff.1 h0⟩
  · refine Or.inr ⟨_, _, _, rfl, rfl, hn, hm, fun j u hj => ?_⟩
    rw [Lib.addr_add, cell_at hg]
    have hjl : j < l.length := (List.getElem?_eq_some_iff.1 hj).1
    have h1 : (cur.toList.take (l.length * 1))[j]? = (Lib.byteCells l)[j]? := by rw [ht]
    rw [List.getElem?_take_of_lt (by omega)] at h1
    simp only [Array.getElem?_toList] at h1
    rw [Nat.zero_add, h1]
    simp [Lib.byteCells, hj]
theorem OwnB.blk {w : World} {base : Nat} {v : Value} {l : List UInt8} (h : OwnB w base v l) : ∀ k, vblk v k → base ≤ k := by
  intro k hk
  rcases h.2 with ⟨rfl, _⟩ | ⟨g, cap, cur, rfl, hb, _⟩
  · exact hk.elim
  · generalize l.length = n at hk
    cases n with
    | zero => exact hk.elim
    | succ n => obtain rfl : g = k := hk; exact hb
theorem OwnB.own {w : World} {base : Nat} {v : Value} {l : List UInt8} (h : OwnB w base v l) : ∀ k, v.ownBlock = some k → base ≤ k := by
  intro k hk
  rcases h.2 with ⟨rfl, _⟩ | ⟨g, cap, cur, rfl, hb, _⟩
  · cases hk
  · injection hk with hk; subst hk; exact hb

/-- What grows keeps the frame. -/
theorem Fr.grown {F F' : Nat → Prop} {W w w' : World} {r : Option Nat} (h : Fr F F' W w) (g : w.grownBy w' r) (hr : ∀ k, r = some k → W.heap.size ≤ k) : Fr F F' W w' :=
  ⟨g.os.trans h.os, g.tape.trans h.tape, g.output.trans h.output, Nat.le_trans h.size g.size, fun k hk hn => (g.block k (Nat.lt_of_lt_of_le hk h.size) (fun e => by have := hr k e.symm; omega)).trans (h.keep k hk hn), h.foot⟩
theorem OwnB.snoc {w : World} {base : Nat} {v : Value} {l : List UInt8} {u : UInt8} {n : Nat} {y : Int} (h : w.ownsRow base U8 1 v n (Lib.byteCells l ++ [.int .u8 y])) (hn : n = l.length + 1) (hy : y = u.toNat) : OwnB w base v (l ++ [u]) := by
  subst hn hy
  have e : Lib.byteCells (l ++ [u]) = Lib.byteCells l ++ [.int .u8 u.toNat] := by rw [bcells_append]; rfl
  unfold OwnB
  rw [e, List.length_append]
  exact h
theorem OwnB.more {w : World} {base : Nat} {v : Value} {l m : List UInt8} {n : Nat} (h : w.ownsRow base U8 1 v n (Lib.byteCells l ++ Lib.byteCells m)) (hn : n = l.length + m.length) : OwnB w base v (l ++ m) := by
  subst hn
  unfold OwnB
  rw [bcells_append, List.length_append]
  exact h
end Go.Proofs.YtdedkoahfailcaaGreatDoor
