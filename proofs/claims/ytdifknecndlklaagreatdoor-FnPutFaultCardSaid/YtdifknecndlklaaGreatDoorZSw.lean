/- The specification's writer: how it lies in memory, and what is written to it. -/
import Derived.Maps.AppendAt
import Derived.Test.YtdifknecndlklaaGreatDoorZSb
import Derived.Test.YtdifknecndlklaaGreatDoorZ6
import Derived.Test.YtdifknecndlklaaGreatDoorZ2
set_option linter.all false
namespace Go.Proofs.YtdifknecndlklaaGreatDoor
open Go Go.RowKit
set_option maxHeartbeats 1000000
set_option maxRecDepth 100000

/-- The writer's state: what it has written; the compact protocol's: the last id, those of the structs around, a bool's field that waits, nothing more is told. -/
structure SSt where
  out : List UInt8
  last : Int
  outer : List Int
  pb : Bool
  id : Int
  lost : Bool

abbrev TSW : TypeId := 162
abbrev TIn : TypeId := 3
abbrev SwC (c : ConfV) (s : SSt) (ov uv : Value) : Array Value :=
  #[.int .i64 c.proto, .bool c.plain, .bool c.sr, .bool c.sw, .int .i32 c.msg, .int .i32 c.con, .int .i32 c.fra, ov, .int .i64 s.last, uv, .bool s.pb, .int .i64 s.id, .bool s.lost]

theorem owns_block {w : World} {base : Nat} {e : TypeId} {size n : Nat} {v : Value} {xs : List Value} (h : w.ownsRow base e size v n xs) {k : Nat} (hk : v.ownBlock = some k) : ∃ cur, w.heap[k]? = some (.cells cur e (0, 0)) := by
  rcases h.2 with ⟨rfl, _⟩ | ⟨g, cap, cur, rfl, _, hg, _⟩
  · cases hk
  · injection hk with hk
    exact ⟨cur, hk ▸ hg⟩
theorem owns_keep {w w' : World} {base : Nat} {e : TypeId} {size n : Nat} {v : Value} {xs : List Value} (h : w.ownsRow base e size v n xs) (hs : ∀ k, v.ownBlock = some k → w'.heap[k]? = w.heap[k]?) : w'.ownsRow base e size v n xs := by
  refine ⟨h.1, ?_⟩
  rcases h.2 with h0 | ⟨g, cap, cur, rfl, hb, hg, rest⟩
  · exact Or.inl h0
  · exact Or.inr ⟨g, cap, cur, rfl, hb, (hs g rfl).trans hg, rest⟩
/-- The row of the ids around: a row of its own, or one that is cut to its length (what is taken back leaves no room behind). -/
def OwnU (w : World) (v : Value) (l : List Int) : Prop := w.ownsRow 0 TIn 1 v l.length (l.map (.int .i64)) ∨ ∃ g cur, v = .slice (some ⟨g, 0, none⟩) l.length l.length ∧ w.heap[g]? = some (.cells cur TIn (0, 0)) ∧ l.length ≤ cur.size ∧ cur.size ≤ maxLen ∧ cur.toList.take l.length = l.map (.int .i64)
theorem ownu_block {w : World} {v : Value} {l : List Int} (h : OwnU w v l) {k : Nat} (hk : v.ownBlock = some k) : ∃ cur, w.heap[k]? = some (.cells cur TIn (0, 0)) := by
  rcases h with h | ⟨g, cur, rfl, hg, _⟩
  · exact owns_block h hk
  · injection hk with hk
    subst hk
    exact ⟨cur, hg⟩
theorem ownu_keep {w w' : World} {v : Value} {l : List Int} (h : OwnU w v l) (hs : ∀ k, v.ownBlock = some k → w'.heap[k]? = w.heap[k]?) : OwnU w' v l := by
  rcases h with h | ⟨g, cur, rfl, hg, rest⟩
  · exact Or.inl (owns_keep h hs)
  · exact Or.inr ⟨g, cur, rfl, (hs g rfl).trans hg, rest⟩

/-- How it lies, with its rows. -/
structure SwA (p : Nat) (c : ConfV) (w : World) (s : SSt) (ov uv : Value) : Prop where
  box : w.heap[p]? = some (.cells (SwC c s ov uv) TSW (0, 0))
  out : OwnB w 0 ov s.out
  outer : OwnU w uv s.outer
def SwI (p : Nat) (c : ConfV) (w : World) (s : SSt) : Prop := ∃ ov uv, SwA p c w s ov uv
/-- Its blocks. -/
def SwF (p : Nat) (w : World) (k : Nat) : Prop := k = p ∨ (∃ v, w.cell? ⟨p, 7, none⟩ = some v ∧ v.ownBlock = some k) ∨ (∃ v, w.cell? ⟨p, 9, none⟩ = some v ∧ v.ownBlock = some k)

theorem SwA.cells {p : Nat} {c : ConfV} {w : World} {s : SSt} {ov uv : Value} (h : SwA p c w s ov uv) : w.cell? ⟨p, 7, none⟩ = some ov ∧ w.cell? ⟨p, 9, none⟩ = some uv := ⟨by rw [cell_at h.box]; rfl, by rw [cell_at h.box]; rfl⟩
theorem SwA.foot {p : Nat} {c : ConfV} {w : World} {s : SSt} {ov uv : Value} (h : SwA p c w s ov uv) {k : Nat} : SwF p w k ↔ (k = p ∨ ov.ownBlock = some k ∨ uv.ownBlock = some k) := by
  obtain ⟨h7, h9⟩ := h.cells
  unfold SwF
  rw [h7, h9]
  constructor
  · rintro (h | ⟨v, h, hv⟩ | ⟨v, h, hv⟩)
    · exact Or.inl h
    · injection h with h; subst h; exact Or.inr (Or.inl hv)
    · injection h with h; subst h; exact Or.inr (Or.inr hv)
  · rintro (h | h | h)
    · exact Or.inl h
    · exact Or.inr (Or.inl ⟨_, rfl, h⟩)
    · exact Or.inr (Or.inr ⟨_, rfl, h⟩)
theorem SwA.tag {p : Nat} {c : ConfV} {w : World} {s : SSt} {ov uv : Value} (h : SwA p c w s ov uv) {k : Nat} (hk : SwF p w k) : ∃ cs t, w.heap[k]? = some (.cells cs t (0, 0)) ∧ (t = TSW ∨ t = U8 ∨ t = TIn) := by
  rcases h.foot.1 hk with rfl | hk | hk
  · exact ⟨_, _, h.box, Or.inl rfl⟩
  · obtain ⟨cur, hc⟩ := owns_block h.out hk
    exact ⟨_, _, hc, Or.inr (Or.inl rfl)⟩
  · obtain ⟨cur, hc⟩ := ownu_block h.outer hk
    exact ⟨_, _, hc, Or.inr (Or.inr rfl)⟩
theorem SwI.lt {p : Nat} {c : ConfV} {w : World} {s : SSt} (h : SwI p c w s) {k : Nat} (hk : SwF p w k) : k < w.heap.size := by
  obtain ⟨ov, uv, h⟩ := h
  obtain ⟨cs, t, hb, _⟩ := h.tag hk
  exact lt_heap hb
theorem SwA.keep {p : Nat} {c : ConfV} {w w' : World} {s : SSt} {ov uv : Value} {G G' : Nat → Prop} (h : SwA p c w s ov uv) (hf : Fr G G' w w') (hn : ∀ k, SwF p w k → ¬ G k) : SwA p c w' s ov uv := by
  have hs : ∀ k, SwF p w k → w'.heap[k]? = w.heap[k]? := fun k hk => by
    obtain ⟨cs, t, hb, _⟩ := h.tag hk
    exact hf.keep k (lt_heap hb) (hn k hk)
  exact ⟨(hs p (Or.inl rfl)).trans h.box, owns_keep h.out fun k hk => hs k (h.foot.2 (Or.inr (Or.inl hk))), ownu_keep h.outer fun k hk => hs k (h.foot.2 (Or.inr (Or.inr hk)))⟩
theorem SwI.keep {p : Nat} {c : ConfV} {w w' : World} {s : SSt} {G G' : Nat → Prop} (h : SwI p c w s) (hf : Fr G G' w w') (hn : ∀ k, SwF p w k → ¬ G k) : SwI p c w' s ∧ (∀ k, SwF p w' k → SwF p w k) := by
  obtain ⟨ov, uv, h⟩ := h
  have h' := h.keep hf hn
  exact ⟨⟨ov, uv, h'⟩, fun k hk => h.foot.2 (h'.foot.1 hk)⟩
theorem SwI.quiet {p : Nat} {c : ConfV} {w w' : World} {s : SSt} (h : SwI p c w s) (hf : Fr noF noF w w') : SwI p c w' s ∧ (∀ k, SwF p w' k → SwF p w k) ∧ Fr (SwF p w) (SwF p w') w w' := by
  obtain ⟨h1, h2⟩ := h.keep hf fun _ _ x => x
  exact ⟨h1, h2, hf.os, hf.tape, hf.output, hf.size, fun k hk _ => hf.keep k hk (fun x => x), fun k _ hk => h2 k hk⟩

/-- What a step leaves: its kind, the state. -/
def SR (p : Nat) (c : ConfV) (w : World) (k : Int) (s' : SSt) (e : Ending) (w' : World) : Prop := e = .returned (.int .i64 k) ∧ SwI p c w' s' ∧ Fr (SwF p w) (SwF p w') w w'

/-- Bytes have been appended to the row, and the row stored. -/
theorem SwA.wrote {p : Nat} {c : ConfV} {w X w4 : World} {s : SSt} {ov uv v' : Value} {l : List UInt8} (h : SwA p c w s ov uv) (hX : Fr noF noF w X) (hown : OwnB w4 0 v' l) (hg : X.grownBy w4 ov.ownBlock)
    (hat : v'.ownBlock = ov.ownBlock ∨ v'.ownBlock = some X.heap.size) :
    (w4.cell? ⟨p, 7, none⟩ = some ov ∧ w4.frozen? ⟨p, 7, none⟩ = false) ∧ SwA p c (w4.setCell ⟨p, 7, none⟩ v') { s with out := l } v' uv ∧ Fr (SwF p w) (SwF p (w4.setCell ⟨p, 7, none⟩ v')) w (w4.setCell ⟨p, 7, none⟩ v') := by
  have hp : p ≠ p → False := fun h => h rfl
  have hap : ∀ k, ov.ownBlock = some k → k ≠ p := fun k hk e => by
    obtain ⟨cur, hc⟩ := owns_block h.out hk
    subst e
    exact tag_ne hc h.box (by decide) rfl
  have hau : ∀ k, uv.ownBlock = some k → k ≠ p ∧ ov.ownBlock ≠ some k := fun k hk => by
    obtain ⟨cur, hc⟩ := ownu_block h.outer hk
    refine ⟨fun e => ?_, fun e => ?_⟩
    · subst e
      exact tag_ne hc h.box (by decide) rfl
    · obtain ⟨cur', hc'⟩ := owns_block h.out e
      exact tag_ne hc hc' (by decide) rfl
  have hst : ∀ k, k < w.heap.size → ov.ownBlock ≠ some k → w4.heap[k]? = w.heap[k]? := fun k hk hn => (hg.block k (Nat.lt_of_lt_of_le hk hX.size) fun e => hn e.symm).trans (hX.keep k hk fun x => x)
  have hpl := lt_heap h.box
  have hb4 : w4.heap[p]? = some (.cells (SwC c s ov uv) TSW (0, 0)) := (hst p hpl fun e => hap p e rfl).trans h.box
  have hbz := setCell_at (i := 7) hb4 v'
  have hvp : ∀ k, v'.ownBlock = some k → k ≠ p := fun k hk e => by
    obtain ⟨cur, hc⟩ := owns_block hown hk
    subst e
    exact tag_ne hc hb4 (by decide) rfl
  have hA : SwA p c (w4.setCell ⟨p, 7, none⟩ v') { s with out := l } v' uv := by
    refine ⟨hbz, owns_keep hown fun k hk => ?_, ownu_keep h.outer fun k hk => ?_⟩
    · exact Below.heap_setCell _ _ _ _ (hvp k hk)
    · obtain ⟨cur, hc⟩ := ownu_block h.outer hk
      exact (Below.heap_setCell _ _ _ _ (hau k hk).1).trans (hst k (lt_heap hc) (hau k hk).2)
  refine ⟨⟨by rw [cell_at hb4]; rfl, free_at hb4 7⟩, hA, ?_, ?_, ?_, ?_, fun k hk hn => ?_, fun k hk hx => ?_⟩
  · exact hg.os.trans hX.os
  · exact hg.tape.trans hX.tape
  · exact hg.output.trans hX.output
  · rw [setCell_size]
    exact Nat.le_trans hX.size hg.size
  · have h1 : k ≠ p := fun e => hn (Or.inl e)
    have h2 : ov.ownBlock ≠ some k := fun e => hn (h.foot.2 (Or.inr (Or.inl e)))
    exact (Below.heap_setCell _ _ _ _ h1).trans (hst k hk h2)
  · rcases hA.foot.1 hx with e | e | e
    · exact Or.inl e
    · rcases hat with hat | hat
      · rw [hat] at e
        exact h.foot.2 (Or.inr (Or.inl e))
      · rw [hat] at e
        injection e with e
        have := hX.size
        omega
    · exact h.foot.2 (Or.inr (Or.inr e))

/-- Bytes appended: where the new slice lies is told. -/
theorem append_bytes_at {w : World} {ops : Array Oper} {rest : List Oper} {o : Oper} {a : Act} {Q : Exit → Act → World → Prop} (hgd : o.guard = none) (s x : Operand)
    (ho : o.op = .call { callee := .builtin .append, args := #[s, x], argTypes := #[24, 24] })
    (base : Nat) (v vx : Value) (L l : List UInt8) (hs : a.eval s = v) (hown : OwnB w base v L) (hx : a.eval x = vx) (hr : Rd w vx l) (hb : L.length + l.length ≤ 100000000000) (hbase : base ≤ w.heap.size)
    (h : ∀ v' w', OwnB w' base v' (L ++ l) → w.grownBy w' v.ownBlock → (v'.ownBlock = v.ownBlock ∨ v'.ownBlock = some w.heap.size) → wpList Tryz.prog ops Q rest (a.put o.dst v') w') : wpList Tryz.prog ops Q (o :: rest) a w := by
  obtain ⟨i0, hi, hz0, hz1, hz2⟩ := info_parts info_u8
  rcases hr with ⟨rfl, rfl⟩ | ⟨ad, n, c, rfl, hn, hc, hm, hc2⟩
  · refine wpList_append_own_none hgd s x 24 ho base U8 i0 1 Tryz.underlying24 hi v L.length (Lib.byteCells L) hs hown hx (h v w (by rw [List.append_nil]; exact hown) ⟨rfl, rfl, rfl, Nat.le_refl _, fun _ _ _ => rfl⟩ (Or.inl rfl))
  · refine wpList_append_own_at w hgd s x 24 ho base U8 i0 (.int .u8 0) 1 1 Tryz.underlying24 hi hz0 hz1 hz2 rfl (by decide) v L.length (Lib.byteCells L) hs hown ad n c (Lib.byteCells l) hx (by rw [bcells_length]; omega) (fun j u hj => by obtain ⟨x, h1, rfl⟩ := bcells_get hj; exact hc2 j x h1) (fun u hu => by simp only [Lib.byteCells, List.mem_map] at hu; obtain ⟨x, _, rfl⟩ := hu; rfl) (by unfold maxLen; omega) (by omega) hbase ?_
    intro v' w' h1 h2 _ h4
    exact h v' w' (OwnB.more h1 (by omega)) h2 h4
end Go.Proofs.YtdifknecndlklaaGreatDoor
