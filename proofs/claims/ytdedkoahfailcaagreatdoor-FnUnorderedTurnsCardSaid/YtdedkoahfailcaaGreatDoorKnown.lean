/- known(): what every law asks besides. -/
import Derived.Test.YtdedkoahfailcaaGreatDoorEqual
namespace Go.Proofs.YtdedkoahfailcaaGreatDoor
open Go Go.RowKit
set_option maxHeartbeats 1000000
set_option maxRecDepth 100000

theorem known_put (w : World) : Calls Tryz.prog 37 #[.agg #[.int .i64 0, .bool true, .bool false, .bool false, .int .i32 0, .int .i32 0, .int .i32 0], valN 8 258] w (PutR w [0, 0, 1, 2]) :=
  I_Put_B 0 true false false 0 0 0 (by decide) _ _ _ _ _ _ _ [0, 0, 1, 2] w fun p m b cf w1 _ _ hP => put_I32_B p m b 0 cf [] 258 _ _ _ _ _ w1 hP (by decide)
theorem vint5 : vint (zig (IntKind.i32.wrap (-3))).toNat = [5] := by
  rw [show (zig (IntKind.i32.wrap (-3))).toNat = 5 by decide, vint_small (by decide)]
  rfl
theorem known_put2 (w : World) : Calls Tryz.prog 37 #[.agg #[.int .i64 1, .bool true, .bool false, .bool false, .int .i32 0, .int .i32 0, .int .i32 0], valN 8 (-3)] w (PutR w [5]) :=
  I_Put_C 1 true false false 0 0 0 rfl _ _ _ _ _ _ _ [5] w fun p m b cf w1 _ _ hP => by
    have h := put_I32_C p m b 0 cf CSt.new [] (-3) (.slice none 0 0) (.int .i64 0) (.int .i64 0) (.slice none 0 0) (.slice none 0 0) w1 hP (by decide)
    rw [vint5] at h
    exact h
theorem known_get (w : World) (g : Nat) (hg : w.heap[g]? = some (.cells (Lib.byteCells [0, 0, 1, 2, 9]).toArray U8 (0, 0))) : Calls Tryz.prog 38 #[.agg #[.int .i64 0, .bool true, .bool false, .bool false, .int .i32 0, .int .i32 0, .int .i32 0], .int .i64 8, .slice (some ⟨g, 0, none⟩) 5 5, .int .i64 1] w (GetR w (valN 8 258) 0 1) := by
  have hv : Rd w (.slice (some ⟨g, 0, none⟩) 5 5) [0, 0, 1, 2, 9] := Or.inr ⟨_, 5, 5, rfl, rfl, Nat.le_refl _, by unfold maxLen; omega, fun j u hj => by
    rw [Lib.addr_add, cell_at hg]
    simp only [Lib.byteCells, List.getElem?_toArray, Nat.zero_add, List.getElem?_map, hj, Option.map_some]⟩
  have e : wrap32 (Lib.beNat (List.take 4 [0, 0, 1, 2, 9])) = 258 := by simp [Lib.beNat, Lib.beFrom, wrap32]
  have h := I_Get_I32_B 0 true false false 0 0 0 (by decide) _ [0, 0, 1, 2, 9] w hv (fun k hk => by cases hk; exact lt_heap hg) (by decide) (by decide)
  rw [e] at h
  exact h

theorem Rd_new (W : World) (l : List UInt8) (hl : l.length ≤ 100) : Rd (W.alloc (.cells (Lib.byteCells l).toArray U8 (0, 0))) (.slice (some ⟨W.heap.size, 0, none⟩) l.length l.length) l :=
  Or.inr ⟨_, l.length, l.length, rfl, rfl, Nat.le_refl _, by unfold maxLen; omega, fun j u hj => by
    rw [Lib.addr_add, cell_at (alloc_new W _)]
    simp only [Lib.byteCells, List.getElem?_toArray, Nat.zero_add, List.getElem?_map, hj, Option.map_some]⟩

def KnownP (w : World) (e : Ending) (w' : World) : Prop := e = .returned (.bool true) ∧ Fr noF noF w w'
theorem eqP {v : Value} {l : List UInt8} {w1 W : World} (HE : ∀ (v1 v2 : Value) (l1 l2 : List UInt8) (w : World), Rd w v1 l1 → Rd w v2 l2 → Calls Tryz.prog 15 #[v1, v2] w fun e w' => e = .returned (.bool (decide (l1 = l2))) ∧ ∃ q, w.drewN q = w')
    (h : Rd w1 v l) (hf : Fr noF noF w1 W) (m : List UInt8) (hm : m.length ≤ 100) (N : Nat) (hN : W.heap.size = N) :
    Calls Tryz.prog 15 #[v, .slice (some ⟨N, 0, none⟩) m.length m.length] (W.alloc (.cells (Lib.byteCells m).toArray U8 (0, 0))) fun e w' => e = .returned (.bool (decide (l = m))) ∧ ∃ q, (W.alloc (.cells (Lib.byteCells m).toArray U8 (0, 0))).drewN q = w' := by
  subst hN
  exact HE v _ l m _ (h.keep (F := noF) (hf.alloc _) fun _ _ x => x) (Rd_new W m hm)

theorem L_known (w : World) : Calls Tryz.prog 13 #[] w (KnownP w) := by
  have HP := Lib.hid known_put
  have HQ := Lib.hid known_put2
  have HG := Lib.hid known_get
  have HE := Lib.hid L_equal
  go_enter Tryz.func13, Tryz.ntmps13
  go_wp2_with fail
  refine (HP.out _).mono ?_
  rintro e w1 ⟨v1, rfl, hr1, hb1, hf1⟩
  have R1 := Lib.hid (And.intro hr1 (And.intro hb1 hf1))
  clear hr1 hb1 hf1
  go_wp2_with fail
  refine (HQ.out _).mono ?_
  rintro e w2 ⟨v2, rfl, hr2, hb2, hf2⟩
  have R2 := Lib.hid (And.intro hr2 (And.intro hb2 hf2))
  clear hr2 hb2 hf2
  go_wp2_with fail
  refine (HG.out _ _ (alloc_new w2 _)).mono ?_
  rintro e w3 ⟨rfl, hf3⟩
  have R3 := Lib.hid hf3
  clear hf3
  go_wp2_with fail
  have hF : Fr noF noF w1 w3 := (R2.out.2.2.alloc _).trans R3.out
  have hW : Fr noF noF w w3 := R1.out.2.2.trans hF
  have hF2 : Fr noF noF w2 w3 := ((Fr.refl noF w2).alloc _).trans R3.out
  have HF2 := Lib.hid hF2
  have HW := Lib.hid hW
  have q1 := eqP HE.out R1.out.1 (hF.alloc (.cells #[.int .i64 8, .int .i64 258, .slice none 0 0, .int .i64 0, .int .i64 0, .slice none 0 0, .slice none 0 0] 55 (0, 0))) [0, 0, 1, 2] (by decide) (w3.heap.size + 1) (by simp)
  have Q1 := Lib.hid q1
  clear q1 hF hW hF2
  refine Q1.out.mono ?_
  rintro e w4 ⟨rfl, q, rfl⟩
  clear Q1
  go_wp2_with fail
  have q2 := eqP HE.out R2.out.1 (((HF2.out.alloc (.cells #[.int .i64 8, .int .i64 258, .slice none 0 0, .int .i64 0, .int .i64 0, .slice none 0 0, .slice none 0 0] 55 (0, 0))).alloc (.cells (Lib.byteCells [0, 0, 1, 2]).toArray U8 (0, 0))).drewN q) [5] (by decide) (w3.heap.size + 1 + 1) (by simp)
  have hfin : Fr noF noF w ((((w3.alloc (.cells #[.int .i64 8, .int .i64 258, .slice none 0 0, .int .i64 0, .int .i64 0, .slice none 0 0, .slice none 0 0] 55 (0, 0))).alloc (.cells (Lib.byteCells [0, 0, 1, 2]).toArray U8 (0, 0))).drewN q).alloc (.cells (Lib.byteCells [5]).toArray U8 (0, 0))) := (((HW.out.alloc _).alloc _).drewN q).alloc _
  have hcell : ((((w3.alloc (.cells #[.int .i64 8, .int .i64 258, .slice none 0 0, .int .i64 0, .int .i64 0, .slice none 0 0, .slice none 0 0] 55 (0, 0))).alloc (.cells (Lib.byteCells [0, 0, 1, 2]).toArray U8 (0, 0))).drewN q).alloc (.cells (Lib.byteCells [5]).toArray U8 (0, 0))).cell? ⟨w3.heap.size, 1, none⟩ = some (.int .i64 258) := by
    have h1 := alloc_at (o := .cells (Lib.byteCells [5]).toArray U8 (0, 0)) (w := ((w3.alloc (.cells #[.int .i64 8, .int .i64 258, .slice none 0 0, .int .i64 0, .int .i64 0, .slice none 0 0, .slice none 0 0] 55 (0, 0))).alloc (.cells (Lib.byteCells [0, 0, 1, 2]).toArray U8 (0, 0))).drewN q) (alloc_at (o := .cells (Lib.byteCells [0, 0, 1, 2]).toArray U8 (0, 0)) (alloc_new w3 (.cells #[.int .i64 8, .int .i64 258, .slice none 0 0, .int .i64 0, .int .i64 0, .slice none 0 0, .slice none 0 0] 55 (0, 0))))
    rw [cell_at h1]
    rfl
  obtain ⟨Z, hZ⟩ : ∃ Z, Z = ((((w3.alloc (.cells #[.int .i64 8, .int .i64 258, .slice none 0 0, .int .i64 0, .int .i64 0, .slice none 0 0, .slice none 0 0] 55 (0, 0))).alloc (.cells (Lib.byteCells [0, 0, 1, 2]).toArray U8 (0, 0))).drewN q).alloc (.cells (Lib.byteCells [5]).toArray U8 (0, 0))) := ⟨_, rfl⟩
  rw [← hZ] at q2 hfin hcell
  have Q2 := Lib.hid q2
  have HZ := Lib.hid hfin
  change Calls Tryz.prog 15 #[v2, _] ((((w3.alloc (.cells #[.int .i64 8, .int .i64 258, .slice none 0 0, .int .i64 0, .int .i64 0, .slice none 0 0, .slice none 0 0] 55 (0, 0))).alloc (.cells (Lib.byteCells [0, 0, 1, 2]).toArray U8 (0, 0))).drewN q).alloc (.cells (Lib.byteCells [5]).toArray U8 (0, 0))) _
  rw [← hZ]
  clear hZ q2 hfin HF2 HW R1 R2 R3
  refine Q2.out.mono ?_
  rintro e w5 ⟨rfl, q', rfl⟩
  clear Q2
  go_wp2
  go_ret
  exact ⟨rfl, HZ.out.drewN q'⟩
end Go.Proofs.YtdedkoahfailcaaGreatDoor
