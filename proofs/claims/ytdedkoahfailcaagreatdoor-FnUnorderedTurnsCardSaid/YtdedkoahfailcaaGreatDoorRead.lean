/- bytes.Buffer: reading. -/
import Derived.Test.YtdedkoahfailcaaGreatDoorPut
import Derived.Laws.CopyRow
namespace Go.Proofs.YtdedkoahfailcaaGreatDoor
open Go Go.RowKit
set_option maxHeartbeats 1000000
set_option maxRecDepth 100000

theorem Buf_empty (b T : Nat) (z : Bool) (l : List UInt8) (w : World) (h : Buf w b T z l) : Calls Tryz.prog 115 #[.pointer (some ⟨b, 0, none⟩)] w fun e w' => e = .returned (.bool l.isEmpty) ∧ ∃ q, w.drewN q = w' := by
  rcases h with ⟨rfl, lr, h⟩ | ⟨lr, r, n, c, o, cur, h, hr, hc, hm, ho, hn, hT, hl, hz⟩
  · have c0 := cell_at h 0
    have c1 := cell_at h 1
    simp at c0 c1
    clear h
    go_enter Tryz.func115, Tryz.ntmps115
    go_wp2
    go_quiet (fail)
    go_wp2
    go_ret
    exact ⟨rfl, _, rfl⟩
  · have c0 := cell_at h 0
    have c1 := cell_at h 1
    simp at c0 c1
    have he : l.isEmpty = decide (n ≤ o) := by
      have := congrArg List.length hl
      rw [bcells_length, List.length_drop, List.length_take, Array.length_toList] at this
      rw [Bool.eq_iff_iff, List.isEmpty_iff, decide_eq_true_eq, ← List.length_eq_zero_iff]
      omega
    rw [he]
    clear h hr hl hz he
    go_enter Tryz.func115, Tryz.ntmps115
    go_wp2
    go_quiet (fail)
    go_wp2
    go_ret
    exact ⟨rfl, _, rfl⟩

/-- The row of a block's cells, from place o on, is overwritten by bytes. -/
def laid (cs : Array Value) (o : Nat) (l : List UInt8) : Array Value := (cs.toList.take o ++ Lib.byteCells l ++ cs.toList.drop (o + l.length)).toArray

/-- What is read: n bytes of l into block g at o. -/
def ReadP (w : World) (b T : Nat) (l : List UInt8) (g : Nat) (Tg : TypeId) (cs : Array Value) (o n : Nat) (e : Ending) (w' : World) : Prop :=
  e = .returned (.tuple #[.int .i64 n, .nilIface]) ∧ Buf w' b T false (l.drop n) ∧ w'.heap[g]? = some (.cells (laid cs o (l.take n)) Tg (0, 0)) ∧ Fr (fun k => BF w b k ∨ k = g) (fun k => BF w' b k ∨ k = g) w w'

/-- What the copy in Read does, and what stands behind it. -/
structure RCopy (w W : World) (b T : Nat) (l : List UInt8) (g : Nat) (Tg : TypeId) (cs : Array Value) (o k cap N : Nat) (r n c ob : Nat) (Y : Array Value) : Prop where
  c0 : W.cell? ⟨b, 0, none⟩ = some (.slice (some ⟨r, 0, none⟩) n c)
  c1 : W.cell? ⟨b, 1, none⟩ = some (.int .i64 ((ob : Nat) : Int))
  lt : ob < n
  le : n ≤ c
  mx : c ≤ maxLen
  run : (Builtin.copy_ #[35, 35] 3 #[.slice (some ⟨g, o, none⟩) k cap, .slice (some ⟨r, ob, none⟩) (n - ob) (c - ob)]).run Tryz.prog W = .ok (goInt (N : Int)) (W.setRow g Y)
  d0 : (W.setRow g Y).cell? ⟨b, 0, none⟩ = some (.slice (some ⟨r, 0, none⟩) n c)
  d1 : (W.setRow g Y).cell? ⟨b, 1, none⟩ = some (.int .i64 ((ob : Nat) : Int))
  d2 : ∃ x, (W.setRow g Y).cell? ⟨b, 2, none⟩ = some x
  f1 : (W.setRow g Y).frozen? ⟨b, 1, none⟩ = false
  f2 : (W.setRow g Y).frozen? ⟨b, 2, none⟩ = false
  fit : ob + N ≤ n
  fin : ReadP w b T l g Tg cs o N (.returned (.tuple #[.int .i64 (N : Int), .nilIface])) (((W.setRow g Y).setCell ⟨b, 1, none⟩ (.int .i64 ((ob : Nat) + N : Int))).setCell ⟨b, 2, none⟩ (.int .i8 (-1)))

theorem rcopy {w W : World} {b T : Nat} {z : Bool} {l : List UInt8} {g : Nat} {Tg : TypeId} {cs : Array Value} {o k : Nat} (cap N : Nat) (hN : N = min l.length k) (h : Buf W b T z l) (hf : Fr (BF w b) (BF W b) w W) (hl0 : l ≠ []) (hg : w.heap[g]? = some (.cells cs Tg (0, 0))) (hfit : o + k ≤ cs.size) (hfar : ¬ BF w b g) :
    ∃ r n c ob Y, RCopy w W b T l g Tg cs o k cap N r n c ob Y := by
  have hgW : W.heap[g]? = some (.cells cs Tg (0, 0)) := hf.block hg hfar
  have hgF : ¬ BF W b g := fun hx => hfar (hf.foot g (lt_heap hg) hx)
  rcases h with ⟨h0, _⟩ | ⟨lr, r, n, c, ob, cur, hb, hr, hcs, hc, hon, hnc, hT, hl, hz⟩
  · exact absurd h0 hl0
  have hlen : l.length = n - ob := by
    have := congrArg List.length hl
    rw [bcells_length, List.length_drop, List.length_take, Array.length_toList] at this
    omega
  have hpos : 0 < l.length := List.length_pos_iff.2 hl0
  have hbg : b ≠ g := fun e => hgF (e ▸ Or.inl rfl)
  have hrg : r ≠ g := fun e => hgF (e ▸ BF_row hb)
  have htk : (l.take N).length = N := by rw [List.length_take]; omega
  have hsrc : ∀ j v, (Lib.byteCells (l.take N))[j]? = some v → W.cell? (Addr.add ⟨r, ob, none⟩ j) = some v := by
    intro j v hj
    have hj' : (Lib.byteCells l)[j]? = some v := by
      unfold Lib.byteCells at hj ⊢
      rw [List.getElem?_map] at hj ⊢
      have hjl : j < N := by
        have := List.getElem?_eq_some_iff.1 (Option.map_eq_some_iff.1 hj).choose_spec.1
        have := this.1
        omega
      rwa [List.getElem?_take_of_lt hjl] at hj
    have hjl : j < l.length := by have := (List.getElem?_eq_some_iff.1 hj').1; rwa [bcells_length] at this
    rw [← hl, List.getElem?_drop, List.getElem?_take_of_lt (by omega)] at hj'
    rw [Lib.addr_add, cell_at hr]
    simpa using hj'
  have hcp := run_copy_row (P := Tryz.prog) W 35 35 3 5 g o k cap ⟨r, ob, none⟩ (n - ob) (c - ob) cs Tg (Lib.byteCells (l.take N)) Tryz.underlying35 hinfo hgW (by rw [bcells_length, htk, hN, hlen]) hsrc (by rw [bcells_length, htk]; omega) (Lib.byteCells_one _)
  rw [bcells_length, htk] at hcp
  have hY : laid cs o (l.take N) = (cs.toList.take o ++ Lib.byteCells (l.take N) ++ cs.toList.drop (o + N)).toArray := by unfold laid; rw [htk]
  rw [← hY] at hcp
  have hb' : (W.setRow g (laid cs o (l.take N))).heap[b]? = _ := setRow_ne hb hbg _
  have hr' : (W.setRow g (laid cs o (l.take N))).heap[r]? = _ := setRow_ne hr hrg _
  have hg' : (W.setRow g (laid cs o (l.take N))).heap[g]? = _ := setRow_heap W g cs (laid cs o (l.take N)) Tg (0, 0) hgW
  refine ⟨r, n, c, ob, _, ⟨by rw [cell_at hb]; rfl, by rw [cell_at hb]; rfl, by omega, hnc, hc, hcp, by rw [cell_at hb']; rfl, by rw [cell_at hb']; rfl, ⟨_, by rw [cell_at hb']; rfl⟩, free_at hb' 1, free_at hb' 2, by omega, rfl, ?_, ?_, ?_⟩⟩
  · have k1 := setCell_at (i := 1) hb' (.int .i64 ((ob : Nat) + N : Int))
    have k2 := setCell_at (i := 2) k1 (.int .i8 (-1))
    have hrb : r ≠ b := tag_ne hr hb (by decide)
    refine Or.inr ⟨-1, r, n, c, ob + N, cur, k2, setCell_ne (setCell_ne hr' hrb _) hrb _, hcs, hc, by omega, hnc, hT, ?_, fun hz => by cases hz⟩
    rw [← List.drop_drop, hl]
    simp [Lib.byteCells, List.map_drop]
  · exact setCell_ne (setCell_ne hg' (Ne.symm hbg) _) (Ne.symm hbg) _
  · have k1 := setCell_at (i := 1) hb' (.int .i64 ((ob : Nat) + N : Int))
    have k2 := setCell_at (i := 2) k1 (.int .i8 (-1))
    have hfw : Fr (fun k => BF w b k ∨ k = g) (fun k => BF W b k ∨ k = g) w W := hf.beside (fun k => k = g)
    refine (((hfw.setRow (g := g) (Or.inl (Or.inr rfl)) _).setCell (p := ⟨b, 1, none⟩) (Or.inl (Or.inl (Or.inl rfl))) _).setCell (p := ⟨b, 2, none⟩) (Or.inl (Or.inl (Or.inl rfl))) _).conv fun k _ hk => ?_
    rcases hk with hk | hk
    · rcases BF_of k2 hk with rfl | rfl
      · exact Or.inl (Or.inl rfl)
      · exact Or.inl (BF_row hb)
    · exact Or.inr hk

theorem Buf_Read_some (b T : Nat) (z : Bool) (l : List UInt8) (g : Nat) (Tg : TypeId) (cs : Array Value) (o k cap N : Nat) (hN : N = min l.length k) (w : World) (h : Buf w b T z l) (hl0 : l ≠ []) (hg : w.heap[g]? = some (.cells cs Tg (0, 0))) (hfit : o + k ≤ cs.size) (hk : 0 < k) (hfar : ¬ BF w b g) :
    Calls Tryz.prog 109 #[.pointer (some ⟨b, 0, none⟩), .slice (some ⟨g, o, none⟩) k cap] w (ReadP w b T l g Tg cs o N) := by
  have hE : ∀ w', Buf w' b T z l → Calls Tryz.prog 115 #[.pointer (some ⟨b, 0, none⟩)] w' fun e w'' => e = .returned (.bool false) ∧ ∃ q, w'.drewN q = w'' := fun w' hw' => by
    have := Buf_empty b T z l w' hw'
    rwa [show l.isEmpty = false by cases l <;> simp_all] at this
  obtain ⟨h1, fr1⟩ := h.setLast 0
  have hE1 := hE _ h1
  have f2 : w.frozen? ⟨b, 2, none⟩ = false := by
    rcases h with ⟨_, lr, h⟩ | ⟨lr, r, n, c, o, cur, h, _⟩ <;> exact free_at h 2
  have c2 : ∃ x, w.cell? ⟨b, 2, none⟩ = some x := by
    rcases h with ⟨_, lr, h⟩ | ⟨lr, r, n, c, o, cur, h, _⟩ <;> exact ⟨_, cell_at h 2⟩
  obtain ⟨x2, c2⟩ := c2
  have hrc : ∀ q, ∃ r n c ob Y, RCopy w ((w.setCell ⟨b, 2, none⟩ (.int .i8 0)).drewN (q + 1)) b T l g Tg cs o k cap N r n c ob Y := fun q =>
    rcopy cap N hN (W := ((w.setCell ⟨b, 2, none⟩ (.int .i8 0)).drewN (q + 1))) h1 (fr1.drewN (q + 1)) hl0 hg hfit hfar
  have H1 := Lib.hid hE1
  have HR := Lib.hid hrc
  have hpos : 0 < N := by have := List.length_pos_iff.2 hl0; omega
  clear hE hE1 h hrc h1 fr1 hg hfit hfar hl0 hN
  go_enter Tryz.func109, Tryz.ntmps109
  go_wp2_with (go_at_call 115; refine H1.out.mono ?_)
  rintro e W ⟨rfl, q, rfl⟩
  go_wp2_with fail
  obtain ⟨r, n, c, ob, Y, hC⟩ := HR.out q
  have c0 := hC.c0
  have c1 := hC.c1
  have d0 := hC.d0
  have d1 := hC.d1
  have hlt := hC.lt
  have hle := hC.le
  have hmx := hC.mx
  have hrun := hC.run
  have HC := Lib.hid hC
  clear hC c2 f2
  have i1 : (0 : Int) ≤ (ob : Int) := by omega
  have i2 : (ob : Int) ≤ (n : Int) := by omega
  have i3 : ¬ c = ob := by omega
  go_region_held3 (fun w' => w'.cell? ⟨b, 0, none⟩ = some (.slice (some ⟨r, 0, none⟩) n c) ∧ w'.cell? ⟨b, 1, none⟩ = some (.int .i64 ((ob : Nat) : Int))) (first | exact ⟨c0, c1⟩ | exact ⟨d0, d1⟩) (fail)
  have f1 := HC.out.f1
  have f2 := HC.out.f2
  obtain ⟨x3, d2⟩ := HC.out.d2
  have hfit := HC.out.fit
  have hpos2 : (0 : Int) < (N : Int) := by omega
  have HF := Lib.hid HC.out.fin
  have hsum : (ob : Int) + (N : Int) ≤ 9223372036854775807 := by unfold maxLen at hmx; omega
  clear HC hrun c0 c1
  unfold maxLen at hmx
  go_wp2
  go_ret2
  exact HF.out
end Go.Proofs.YtdedkoahfailcaaGreatDoor
