/- bytes.Buffer: grow, Write, WriteByte, WriteString at any state of the buffer. -/
import Derived.Test.YtdedkoahfailcaaGreatDoorBuf
namespace Go.Proofs.YtdedkoahfailcaaGreatDoor
open Go Go.RowKit

/-- Where a slice's address stands behind '[o:]'. -/
theorem Reset_raw (b : Nat) (a : Option Addr) (n c : Nat) (x y : Value) (w : World) (hb : w.heap[b]? = some (.cells #[.slice a n c, x, y] TB (0, 0))) :
    Calls Tryz.prog 91 #[.pointer (some ⟨b, 0, none⟩)] w fun e w' => e = .returned (.tuple #[]) ∧ ((w.setCell ⟨b, 0, none⟩ (.slice a 0 c)).setCell ⟨b, 1, none⟩ (.int .i64 0)).setCell ⟨b, 2, none⟩ (.int .i8 0) = w' := by
  have c0 : w.cell? ⟨b, 0, none⟩ = some (.slice a n c) := by rw [cell_at hb]; rfl
  have c1 : w.cell? ⟨b, 1, none⟩ = some x := by rw [cell_at hb]; rfl
  have c2 : w.cell? ⟨b, 2, none⟩ = some y := by rw [cell_at hb]; rfl
  have f0 := free_at hb 0
  have f1 := free_at hb 1
  have f2 := free_at hb 2
  clear hb
  go_enter Tryz.func91, Tryz.ntmps91
  go_wp2
  go_end0
  exact ⟨rfl, rfl⟩

/-- What a Reset leaves. -/
theorem Reset_heap {b : Nat} {a : Option Addr} {n c : Nat} {x y : Value} {w : World} (hb : w.heap[b]? = some (.cells #[.slice a n c, x, y] TB (0, 0))) :
    (((w.setCell ⟨b, 0, none⟩ (.slice a 0 c)).setCell ⟨b, 1, none⟩ (.int .i64 0)).setCell ⟨b, 2, none⟩ (.int .i8 0)).heap[b]? = some (.cells #[.slice a 0 c, .int .i64 0, .int .i8 0] TB (0, 0)) :=
  setCell_at (i := 2) (setCell_at (i := 1) (setCell_at (i := 0) hb _) _) _

/-- Reset: the buffer is empty. -/
theorem Buf_Reset (b T : Nat) (z : Bool) (l : List UInt8) (w : World) (h : Buf w b T z l) :
    Calls Tryz.prog 91 #[.pointer (some ⟨b, 0, none⟩)] w fun e w' => e = .returned (.tuple #[]) ∧ Buf w' b 0 true [] ∧ Fr (BF w b) (BF w' b) w w' := by
  have fr : ∀ (v0 v1 v2 : Value) , Fr (BF w b) (BF w b) w (((w.setCell ⟨b, 0, none⟩ v0).setCell ⟨b, 1, none⟩ v1).setCell ⟨b, 2, none⟩ v2) := fun v0 v1 v2 =>
    (((Fr.refl (BF w b) w).setCell (p := ⟨b, 0, none⟩) (Or.inl (Or.inl rfl)) v0).setCell (p := ⟨b, 1, none⟩) (Or.inl (Or.inl rfl)) v1).setCell (p := ⟨b, 2, none⟩) (Or.inl (Or.inl rfl)) v2
  rcases h with ⟨rfl, lr, hb⟩ | ⟨lr, r, n, c, o, cur, hb, hr, hcs, hc, hon, hnc, hT, hl, hz⟩
  · refine (Reset_raw b _ _ _ _ _ w hb).mono ?_
    rintro e w' ⟨he, rfl⟩
    have hk := Reset_heap hb
    refine ⟨he, Or.inl ⟨rfl, 0, hk⟩, (fr _ _ _).conv fun k _ hf => ?_⟩
    rcases hf with rfl | ⟨n, c, x, y, hf⟩
    · exact Or.inl rfl
    · rw [hk] at hf; simp at hf
  · refine (Reset_raw b _ _ _ _ _ w hb).mono ?_
    rintro e w' ⟨he, rfl⟩
    have hk := Reset_heap hb
    have hrb : r ≠ b := tag_ne hr hb (by decide)
    refine ⟨he, Or.inr ⟨0, r, 0, c, 0, cur, hk, setCell_ne (setCell_ne (setCell_ne hr hrb _) hrb _) hrb _, hcs, hc, Nat.le_refl _, Nat.zero_le _, Nat.zero_le _, by simp [Lib.byteCells], fun _ => rfl⟩, (fr _ _ _).conv fun k _ hf => ?_⟩
    rcases hf with rfl | ⟨n', c', x, y, hf⟩
    · exact Or.inl rfl
    · rw [hk] at hf
      simp at hf
      obtain ⟨⟨rfl, _⟩, _⟩ := hf
      exact Or.inr ⟨_, _, _, _, hb⟩

/-- Len, of a buffer. -/
theorem Buf_Len (b T : Nat) (z : Bool) (l : List UInt8) (w : World) (h : Buf w b T z l) :
    Calls Tryz.prog 63 #[.pointer (some ⟨b, 0, none⟩)] w fun e w' => e = .returned (.int .i64 (l.length : Int)) ∧ ∃ q, w.drewN q = w' := by
  rcases h with ⟨rfl, lr, hb⟩ | ⟨lr, r, n, c, o, cur, hb, hr, hcs, hc, hon, hnc, hT, hl, hz⟩
  · exact buf_len_raw b none 0 0 0 w (by rw [cell_at hb]; rfl) (by rw [cell_at hb]; rfl) (Nat.le_refl _) (Nat.zero_le _)
  · have e1 : l.length = n - o := by
      have := congrArg List.length hl
      rw [bcells_length, List.length_drop, List.length_take, Array.length_toList] at this
      omega
    rw [e1]
    exact buf_len_raw b _ n c o w (by rw [cell_at hb]; rfl) (by rw [cell_at hb]; rfl) hon (Nat.le_trans hnc hc)

/-- The outcome of grow: where to write, and the buffer with room there. -/
def Grown1 (w : World) (b T : Nat) (l : List UInt8) (k : Nat) (e : Ending) (w' : World) : Prop :=
  ∃ i, e = .returned (.int .i64 ((i : Nat) : Int)) ∧ Room w' b (T + k) true l i k ∧ Fr (BF w b) (BF w' b) w w'

theorem BF_row {w : World} {b r n c : Nat} {x y : Value} (hb : w.heap[b]? = some (.cells #[.slice (some ⟨r, 0, none⟩) n c, x, y] TB (0, 0))) : BF w b r := Or.inr ⟨_, _, _, _, hb⟩
theorem BF_of {w : World} {b r n c : Nat} {x y : Value} (hb : w.heap[b]? = some (.cells #[.slice (some ⟨r, 0, none⟩) n c, x, y] TB (0, 0))) {k : Nat} (hk : BF w b k) : k = b ∨ k = r := by
  rcases hk with rfl | ⟨n', c', x', y', hk⟩
  · exact Or.inl rfl
  · rw [hb] at hk; simp at hk; obtain ⟨⟨rfl, _⟩, _⟩ := hk; exact Or.inr rfl
theorem BF_nil {w : World} {b : Nat} {x y : Value} (hb : w.heap[b]? = some (.cells #[.slice none 0 0, x, y] TB (0, 0))) {k : Nat} (hk : BF w b k) : k = b := by
  rcases hk with rfl | ⟨n', c', x', y', hk⟩
  · rfl
  · rw [hb] at hk; simp at hk
end Go.Proofs.YtdedkoahfailcaaGreatDoor
