/- The specification's writer: a step, steps. -/
import Derived.Test.YtoikkjefaakchaaGreatDoorZSx
import Derived.Test.YtoikkjefaakchaaGreatDoorZ6
set_option linter.all false
namespace Go.Proofs.YtoikkjefaakchaaGreatDoor
open Go Go.RowKit
set_option maxHeartbeats 4000000
set_option maxRecDepth 100000

theorem SSt.add_nil (s : SSt) : s.add [] = s := by
  obtain ⟨o, a, b, c, d, e⟩ := s
  simp [SSt.add]
theorem SSt.add_add (s : SSt) (a b : List UInt8) : (s.add a).add b = s.add (a ++ b) := by
  obtain ⟨o, _, _, _, _, _⟩ := s
  simp [SSt.add]
theorem SR.under {p : Nat} {c : ConfV} {w X : World} {s s' : SSt} {k : Int} {e : Ending} {w' : World} (h : SwI p c w s) (hX : Fr noF noF w X) (hr : SR p c X k s' e w') : SR p c w k s' e w' :=
  ⟨hr.1, hr.2.1, (h.quiet hX).2.2.trans hr.2.2⟩

theorem b8_mod (n : Int) : b8 (n % 256) = b8 n := by unfold b8; rw [Int.emod_emod_of_dvd _ (by decide)]
theorem b8_i8 (n : Int) : b8 (IntKind.i8.wrap n) = b8 n := by
  unfold b8
  rw [wrap_i8]
  congr 2
  omega
theorem be2_i16 (n : Int) : be2 (IntKind.i16.wrap n) = be2 n := by
  unfold be2
  rw [wrap_i16]
  congr 2
  omega
theorem be8_u64n (n : Int) : be8 (((IntKind.u64.wrap n).toNat : Nat) : Int) = be8 n := by
  unfold be8
  rw [IntKind.wrap_u64]
  congr 2
  omega

theorem bitB_of (n : Int) : [bitB n] = WOp.binB true (.bool (n != 0)) := by
  unfold WOp.binB bitB
  by_cases h : n = 0
  · simp [h]
  · simp [h]

/-- What a step of the binary protocol writes: as the package's. -/
theorem S_binary (x : Stp) (h0 : x.op ≠ 0) (hin : 0 ≤ x.op ∧ x.op ≤ 21) (p : Nat) (c : ConfV) (w : World) (s : SSt) (hv : Rd w x.v x.s) (hl : x.s.length ≤ 1000000) (h : SwI p c w s) (hout : s.out.length ≤ 10000000000) :
    Calls Tryz.prog 105 #[.pointer (some ⟨p, 0, none⟩), x.val] w (SR p c w 0 (s.add (x.binB c.strictW))) := by
  obtain ⟨op, t, k, sz, id, n, v, l⟩ := x
  have hcv : ∀ {B B' : List UInt8} {Q : List UInt8 → Prop}, B = B' → Q B → Q B' := fun e h => e ▸ h
  rcases (show op = 1 ∨ op = 2 ∨ op = 3 ∨ op = 4 ∨ op = 5 ∨ op = 6 ∨ op = 7 ∨ op = 8 ∨ op = 9 ∨ op = 10 ∨ op = 11 ∨ op = 12 ∨ op = 13 ∨ op = 14 ∨ op = 15 ∨ op = 16 ∨ op = 17 ∨ op = 18 ∨ op = 19 ∨ op = 20 ∨ op = 21 by
    dsimp only at h0 hin; omega) with rfl | rfl | rfl | rfl | rfl | rfl | rfl | rfl | rfl | rfl | rfl | rfl | rfl | rfl | rfl | rfl | rfl | rfl | rfl | rfl | rfl
  · exact S_bin1 p c w s t k sz id n v l hv hl h hout
  · exact S_bin2 p c w s t k sz id n v l hv hl h hout
  · exact S_bin3 p c w s t k sz id n v l hv hl h hout
  · have e : (Stp.binB c.strictW ⟨4, t, k, sz, id, n, v, l⟩) = b8 t :: be2 id := by show b8 (t % 256) :: be2 (IntKind.i16.wrap id) = _; rw [b8_mod, be2_i16]
    rw [e]; exact S_bin4 p c w s t k sz id n v l hv hl h hout
  · exact S_bin5 p c w s t k sz id n v l hv hl h hout
  · exact S_bin6 p c w s t k sz id n v l hv hl h hout
  · have e : (Stp.binB c.strictW ⟨7, t, k, sz, id, n, v, l⟩) = b8 k :: b8 t :: be4 sz := by show b8 (k % 256) :: b8 (t % 256) :: be4 sz = _; rw [b8_mod, b8_mod]
    rw [e]; exact S_bin7 p c w s t k sz id n v l hv hl h hout
  · exact S_bin8 p c w s t k sz id n v l hv hl h hout
  · have e : (Stp.binB c.strictW ⟨9, t, k, sz, id, n, v, l⟩) = b8 t :: be4 sz := by show b8 (t % 256) :: be4 sz = _; rw [b8_mod]
    rw [e]; exact S_bin9 p c w s t k sz id n v l hv hl h hout
  · exact S_bin10 p c w s t k sz id n v l hv hl h hout
  · have e : (Stp.binB c.strictW ⟨11, t, k, sz, id, n, v, l⟩) = b8 t :: be4 sz := by show b8 (t % 256) :: be4 sz = _; rw [b8_mod]
    rw [e]; exact S_bin11 p c w s t k sz id n v l hv hl h hout
  · exact S_bin12 p c w s t k sz id n v l hv hl h hout
  · have e : (Stp.binB c.strictW ⟨13, t, k, sz, id, n, v, l⟩) = [bitB n] := (bitB_of n).symm
    rw [e]; exact S_bin13 p c w s t k sz id n v l hv hl h hout
  · have e : (Stp.binB c.strictW ⟨14, t, k, sz, id, n, v, l⟩) = [b8 n] := by show [b8 (IntKind.i8.wrap n)] = _; rw [b8_i8]
    rw [e]; exact S_bin14 p c w s t k sz id n v l hv hl h hout
  · have e : (Stp.binB c.strictW ⟨15, t, k, sz, id, n, v, l⟩) = be2 n := be2_i16 n
    rw [e]; exact S_bin15 p c w s t k sz id n v l hv hl h hout
  · have e : (Stp.binB c.strictW ⟨16, t, k, sz, id, n, v, l⟩) = be4 n := be4_wrapK n
    rw [e]; exact S_bin16 p c w s t k sz id n v l hv hl h hout
  · exact S_bin17 p c w s t k sz id n v l hv hl h hout
  · have e : (Stp.binB c.strictW ⟨18, t, k, sz, id, n, v, l⟩) = be8 n := be8_u64n n
    rw [e]; exact S_bin18 p c w s t k sz id n v l hv hl h hout
  · have e : (Stp.binB c.strictW ⟨19, t, k, sz, id, n, v, l⟩) = be4 l.length ++ l := by simp [Stp.binB, Stp.wop, WOp.binB, strOf, ByteArray.size]
    rw [e]; exact S_bin19 p c w s t k sz id n v l hv hl h hout
  · exact S_bin20 p c w s t k sz id n v l hv hl h hout
  · exact S_bin21 p c w s t k sz id n v l hv hl h hout

theorem S_step (x : Stp) (h0 : x.op ≠ 0) (p : Nat) (c : ConfV) (hc : c.proto ≠ 1) (w : World) (s : SSt) (hv : Rd w x.v x.s) (hl : x.s.length ≤ 1000000) (h : SwI p c w s) (hout : s.out.length ≤ 10000000000) :
    Calls Tryz.prog 72 #[.pointer (some ⟨p, 0, none⟩), x.val] w (SR p c w 0 (s.add (x.binB c.strictW))) := by
  have hf0 : Fr noF noF w (w.alloc (.cells x.cells 144 (0, 0))) := (Fr.refl noF w).alloc _
  have hb0 := alloc_new w (.cells x.cells 144 (0, 0))
  obtain ⟨sa, sn, sc, hsl, -⟩ := hv.len
  by_cases hin : 0 ≤ x.op ∧ x.op ≤ 21
  · have hb := S_binary x h0 hin p c (w.alloc (.cells x.cells 144 (0, 0))) s (hv.keep (F := noF) (F' := noF) hf0 fun _ _ x => x) hl (h.quiet hf0).1 hout
    obtain ⟨ov, uv, hA⟩ := (h.quiet hf0).1
    have c0 := cell_at hA.box 0
    simp only [List.getElem?_toArray, List.getElem?_cons_zero] at c0
    have HB := Lib.hid hb
    have HH := Lib.hid (And.intro h hf0)
    obtain ⟨op, t, k, sz, id, n, v, l⟩ := x
    dsimp only at hsl
    subst hsl
    obtain ⟨hi1, hi2⟩ := hin
    dsimp only at hi1 hi2
    have n1 : (c.proto == 1) = false := beq_eq_false_iff_ne.2 hc
    have d0 := cell_at hb0 0; have d1 := cell_at hb0 1; have d2 := cell_at hb0 2; have d3 := cell_at hb0 3; have d4 := cell_at hb0 4; have d5 := cell_at hb0 5; have d6 := cell_at hb0 6
    simp only [Stp.cells, List.getElem?_toArray, List.getElem?_cons_zero, List.getElem?_cons_succ] at d0 d1 d2 d3 d4 d5 d6
    clear hb hA hf0 hb0 h hc h0 hv
    go_enter Tryz.func72, Tryz.ntmps72
    go_wp2_with fail
    (with_reducible refine HB.out.mono ?_)
    rintro e w1 hr
    obtain rfl := hr.1
    have HX := Lib.hid (SR.under HH.out.1 HH.out.2 hr)
    clear hr c0 d0 d1 d2 d3 d4 d5 d6
    go_wp2
    go_ret
    exact HX.out
  · have e : x.binB c.strictW = [] := by
      unfold Stp.binB
      rw [wop_none (by omega)]
    have HX := Lib.hid (show SR p c w 0 (s.add (x.binB c.strictW)) (.returned (.int .i64 0)) (w.alloc (.cells x.cells 144 (0, 0))) from by
      rw [e, SSt.add_nil]
      exact ⟨rfl, (h.quiet hf0).1, (h.quiet hf0).2.2⟩)
    obtain ⟨op, t, k, sz, id, n, v, l⟩ := x
    dsimp only at hsl hin
    subst hsl
    clear hf0 hb0 h hc h0 hv e
    rcases (show op < 0 ∨ (¬ op < 0 ∧ 21 < op) by omega) with h1 | ⟨h1, h2⟩
    · go_enter Tryz.func72, Tryz.ntmps72
      go_wp2
      go_ret
      exact HX.out
    · go_enter Tryz.func72, Tryz.ntmps72
      go_wp2
      go_ret
      exact HX.out
end Go.Proofs.YtoikkjefaakchaaGreatDoor
