/- The specification's writer: whatever step by the binary protocol. -/
import Derived.Test.YtdifknecndlklaaGreatDoorZSxM
import Derived.Test.YtdifknecndlklaaGreatDoorZQ
set_option linter.all false
namespace Go.Proofs.YtdifknecndlklaaGreatDoor
open Go Go.RowKit
set_option maxHeartbeats 4000000
set_option maxRecDepth 100000
set_option linter.all false

theorem S_step_any (x : Stp) (p : Nat) (c : ConfV) (hc : c.proto ≠ 1) (w : World) (s : SSt) (hv : Rd w x.v x.s) (hl : x.s.length ≤ 1000000) (h : SwI p c w s) (hout : s.out.length ≤ 10000000000) :
    Calls Tryz.prog 83 #[.pointer (some ⟨p, 0, none⟩), x.val] w (SR p c w 0 (s.add (x.binB c.strictW))) := by
  by_cases h0 : x.op ≠ 0
  · exact S_step x h0 p c hc w s hv hl h hout
  · have h0 : x.op = 0 := Decidable.not_not.1 h0
    obtain ⟨op, t, k, sz, id, n, v, l⟩ := x
    dsimp only at h0
    subst h0
    have hf0 : Fr noF noF w (w.alloc (.cells (Stp.cells ⟨0, t, k, sz, id, n, v, l⟩) 239 (0, 0))) := (Fr.refl noF w).alloc _
    have hb0 := alloc_new w (.cells (Stp.cells ⟨0, t, k, sz, id, n, v, l⟩) 239 (0, 0))
    obtain ⟨sa, sn, sc, hsl, -⟩ := hv.len
    dsimp only at hsl
    subst hsl
    have hbin : Stp.binB c.strictW ⟨0, t, k, sz, id, n, .slice sa sn sc, l⟩ = if c.strictW then (verB (IntKind.i32.wrap t) ++ (be4 l.length ++ l)) ++ be4 n else ((be4 l.length ++ l) ++ [b8 t]) ++ be4 n := by
      show msgB c.strictW (strOf l) (IntKind.i32.wrap t) (IntKind.i32.wrap n) = _
      unfold msgB
      have e1 : (strOf l).size = l.length := by simp [strOf, ByteArray.size]
      have e2 : (strOf l).data.toList = l := by simp [strOf]
      have e3 : b8 (IntKind.i32.wrap t) = b8 t := by
        unfold b8
        rw [wrap_i32']
        congr 2
        omega
      rw [e1, e2, e3, be4_i32]
    have hb := S_bin0 p c (w.alloc (.cells (Stp.cells ⟨0, t, k, sz, id, n, .slice sa sn sc, l⟩) 239 (0, 0))) s t k sz id n _ l (hv.keep (F := noF) (F' := noF) hf0 fun _ _ x => x) hl (h.quiet hf0).1 hout _ hbin
    obtain ⟨ov, uv, hA⟩ := (h.quiet hf0).1
    have c0 := cell_at hA.box 0
    simp only [List.getElem?_toArray, List.getElem?_cons_zero] at c0
    have HB := Lib.hid hb
    have HH := Lib.hid (And.intro h hf0)
    have n1 : (c.proto == 1) = false := beq_eq_false_iff_ne.2 hc
    have d0 := cell_at hb0 0; have d1 := cell_at hb0 1; have d2 := cell_at hb0 2; have d3 := cell_at hb0 3; have d4 := cell_at hb0 4; have d5 := cell_at hb0 5; have d6 := cell_at hb0 6
    simp only [Stp.cells, List.getElem?_toArray, List.getElem?_cons_zero, List.getElem?_cons_succ] at d0 d1 d2 d3 d4 d5 d6
    clear hb hA hf0 hb0 h hc hv hbin
    go_enter Tryz.func83, Tryz.ntmps83
    go_wp2_with fail
    (with_reducible refine HB.out.mono ?_)
    rintro e w1 hr
    obtain rfl := hr.1
    have HX := Lib.hid (SR.under HH.out.1 HH.out.2 hr)
    clear hr c0 d0 d1 d2 d3 d4 d5 d6
    go_wp2
    go_ret
    exact HX.out

end Go.Proofs.YtdifknecndlklaaGreatDoor
