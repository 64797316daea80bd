/- The binary protocol: a uuid is written. -/
import Derived.Test.YtdedkoahfailcaaGreatDoorBW2
import Derived.Deep.RegionHeld3
namespace Go.Proofs.YtdedkoahfailcaaGreatDoor
open Go Go.RowKit

/-- A uuid as a value. -/
abbrev uuidV (u : List UInt8) : Value := .agg (Lib.byteCells u).toArray

theorem BP.alloc {w : World} {p m b T : Nat} {cf : Value} {z : Bool} {l : List UInt8} (h : BP w p m b cf T z l) (o : Obj) : BP (w.alloc o) p m b cf T z l ∧ Fr (BPF w p b) (BPF (w.alloc o) p b) w (w.alloc o) := by
  obtain ⟨⟨bf, hbf, ha⟩, ⟨sz, hm⟩, hB⟩ := h
  have hb : (w.alloc o).heap[b]? = w.heap[b]? := Below.heap_alloc w o b hB.lt
  refine ⟨⟨⟨bf, hbf, alloc_at ha⟩, ⟨sz, alloc_at hm⟩, hB.same fun k hk => Below.heap_alloc w o k (hB.foot_lt hk)⟩, ((Fr.refl _ w).alloc o).conv fun k _ hk => hk.elim Or.inl fun y => Or.inr ((BF.of_same hb).1 y)⟩

theorem BP.drew {w : World} {p m b T : Nat} {cf : Value} {z : Bool} {l : List UInt8} (h : BP w p m b cf T z l) : BP w.drew p m b cf T z l := ⟨h.arr, h.mem, h.buf⟩
theorem BP.drewN {w : World} {p m b T : Nat} {cf : Value} {z : Bool} {l : List UInt8} (h : BP w p m b cf T z l) (n : Nat) : BP (w.drewN n) p m b cf T z l := ⟨h.arr, h.mem, h.buf⟩
theorem BP.trans {w : World} {p m b T : Nat} {cf : Value} {z : Bool} {l : List UInt8} (h : BP w p m b cf T z l) : w.cell? ⟨p, 0, none⟩ = some (memI m) := by
  obtain ⟨bf, _, ha⟩ := h.arr; exact ha.head 0 _ rfl

theorem BPF.lt {w : World} {p m b T : Nat} {cf : Value} {z : Bool} {l : List UInt8} (h : BP w p m b cf T z l) {k : Nat} (hk : BPF w p b k) : k < w.heap.size := by
  obtain ⟨bf, hbf, ha⟩ := h.arr
  rcases hk with rfl | hk
  · exact lt_heap ha
  · exact h.buf.foot_lt hk

set_option maxHeartbeats 1000000 in
set_option maxRecDepth 100000 in
theorem B_WriteUUID (p m b T : Nat) (cf c : Value) (l u : List UInt8) (w : World) (h : BP w p m b cf T true l) (hlim : T + 16 ≤ LIM) (hu : u.length = 16) :
    Calls Tryz.prog 248 #[.pointer (some ⟨p, 0, none⟩), c, uuidV u] w (BW w p m b cf T l u) := by
  obtain ⟨h1, f1⟩ := h.alloc (.cells (Lib.byteCells u).toArray 65)
  obtain ⟨bf, hbf, ha⟩ := h1.arr
  have c0 : (w.alloc (.cells (Lib.byteCells u).toArray 65)).cell? ⟨p, 0, none⟩ = some (memI m) := ha.head 0 _ rfl
  have hme := meth_Write (w := (w.alloc (.cells (Lib.byteCells u).toArray 65)).drew) h1.mem.cell
  have hnew := alloc_new w (.cells (Lib.byteCells u).toArray 65)
  have hrd : Rd (w.alloc (.cells (Lib.byteCells u).toArray 65)) (.slice (some ⟨w.heap.size, 0, none⟩) 16 16) u :=
    Or.inr ⟨_, 16, 16, rfl, hu, Nat.le_refl _, by unfold maxLen; omega, fun j x hj => by rw [Lib.addr_add, cell_at hnew]; simp [Lib.byteCells, hj]⟩
  have hfar : ∀ k, vblk (.slice (some ⟨w.heap.size, 0, none⟩) 16 16) k → ¬ BF (w.alloc (.cells (Lib.byteCells u).toArray 65)) b k := fun k hk => by
    cases hk; exact h1.buf.other hnew (by decide) (by decide)
  have hw := Buf_Write b T l u (.slice (some ⟨w.heap.size, 0, none⟩) 16 16) (w.alloc (.cells (Lib.byteCells u).toArray 65)).drew h1.buf (by rw [hu]; exact hlim) hrd hfar
  rw [hu] at hw
  have hfin : ∀ w2, Buf w2 b (T + u.length) true (l ++ u) → Fr (BF (w.alloc (.cells (Lib.byteCells u).toArray 65)) b) (BF w2 b) (w.alloc (.cells (Lib.byteCells u).toArray 65)).drew w2 → BW w p m b cf T l u (.returned .nilIface) w2 := fun w2 hB hF => by
    have h2 : BP (w.alloc (.cells (Lib.byteCells u).toArray 65)).drew p m b cf T true l := h1.drew
    obtain ⟨a, f⟩ := h2.lift hB hF
    exact ⟨rfl, a, f1.drew.trans f⟩
  have hc2 : ∀ w2, Fr (BF (w.alloc (.cells (Lib.byteCells u).toArray 65)) b) (BF w2 b) (w.alloc (.cells (Lib.byteCells u).toArray 65)).drew w2 → w2.cell? ⟨p, 0, none⟩ = some (memI m) := fun w2 hF => by
    refine hF.cell (w := (w.alloc (.cells (Lib.byteCells u).toArray 65)).drew) c0 ?_
    exact h1.buf.other ha (by decide) (by decide)
  have HC := Lib.hid hc2
  have HW := Lib.hid hw
  have HF := Lib.hid hfin
  clear hw hfin hc2 hfar hrd hnew ha hbf h1 f1 h
  go_enter Tryz.func248, Tryz.ntmps248
  go_wp2_with fail
  go_region_held3 (fun w' => w'.cell? ⟨p, 0, none⟩ = some (memI m)) (first | exact c0 | exact d0)
    (first | (go_at_call 78; refine HW.out.mono ?_; rintro e w2 ⟨rfl, hB, hF⟩; have d0 := HC.out w2 hF))
  have HX := Lib.hid (HF.out w2 hB hF)
  clear hB hF
  go_wp2_with (go_at_call 163; refine (exc_nil _).mono ?_; rintro e w' ⟨rfl, rfl⟩)
  go_ret
  exact HX.out
end Go.Proofs.YtdedkoahfailcaaGreatDoor
