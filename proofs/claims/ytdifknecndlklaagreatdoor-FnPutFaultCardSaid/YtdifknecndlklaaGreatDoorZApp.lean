/- Bytes appended, whatever they are held by. -/
import Derived.Test.YtdifknecndlklaaGreatDoorZ1
set_option linter.all false
namespace Go.Proofs.YtdifknecndlklaaGreatDoor
open Go Go.RowKit
set_option maxHeartbeats 1000000

/-- Bytes appended, whatever they are held by. -/
theorem append_bytes {w : World} {ops : Array Oper} {rest : List Oper} {o : Oper} {a : Act} {Q : Exit → Act → World → Prop} (hgd : o.guard = none) (s x : Operand)
    (ho : o.op = .call { callee := .builtin .append, args := #[s, x], argTypes := #[24, 24] })
    (base : Nat) (v vx : Value) (L l : List UInt8) (hs : a.eval s = v) (hown : OwnB w base v L) (hx : a.eval x = vx) (hr : Rd w vx l) (hb : L.length + l.length ≤ 100000000000) (hbase : base ≤ w.heap.size)
    (h : ∀ v' w', OwnB w' base v' (L ++ l) → w.grownBy w' v.ownBlock → wpList Tryz.prog ops Q rest (a.put o.dst v') w') : wpList Tryz.prog ops Q (o :: rest) a w := by
  obtain ⟨i0, hi, hz0, hz1, hz2⟩ := info_parts info_u8
  rcases hr with ⟨rfl, rfl⟩ | ⟨ad, n, c, rfl, hn, hc, hm, hc2⟩
  · refine wpList_append_own_none hgd s x 24 ho base U8 i0 1 Tryz.underlying24 hi v L.length (Lib.byteCells L) hs hown hx (h v w (by rw [List.append_nil]; exact hown) ⟨rfl, rfl, rfl, Nat.le_refl _, fun _ _ _ => rfl⟩)
  · refine wpList_append_own w hgd s x 24 ho base U8 i0 (.int .u8 0) 1 1 Tryz.underlying24 hi hz0 hz1 hz2 rfl (by decide) v L.length (Lib.byteCells L) hs hown ad n c (Lib.byteCells l) hx (by rw [bcells_length]; omega) (fun j u hj => by obtain ⟨x, h1, rfl⟩ := bcells_get hj; exact hc2 j x h1) (fun u hu => by simp only [Lib.byteCells, List.mem_map] at hu; obtain ⟨x, _, rfl⟩ := hu; rfl) (by unfold maxLen; omega) (by omega) hbase ?_
    intro v' w' h1 h2 _
    exact h v' w' (OwnB.more h1 (by omega)) h2
end Go.Proofs.YtdifknecndlklaaGreatDoor
