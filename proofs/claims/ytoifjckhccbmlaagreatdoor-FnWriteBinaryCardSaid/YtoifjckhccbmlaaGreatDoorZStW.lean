/- The specification's writer: whatever step; spec.Write. -/
import Derived.OwnWalk
import Derived.Test.YtoifjckhccbmlaaGreatDoorZSxM
import Derived.Test.YtoifjckhccbmlaaGreatDoorZSp
import Derived.Test.YtoifjckhccbmlaaGreatDoorZ4
set_option linter.all false
namespace Go.Proofs.YtoifjckhccbmlaaGreatDoor
open Go Go.RowKit
set_option maxHeartbeats 4000000
set_option maxRecDepth 100000
set_option linter.all false

theorem S_step_any (x : Stp) (p : Nat) (c : ConfV) (hc : c.proto ≠ 1) (w : World) (s : SSt) (hv : Rd w x.v x.s) (hl : x.s.length ≤ 1000000) (h : SwI p c w s) (hout : s.out.length ≤ 10000000000) :
    Calls Tryz.prog 89 #[.pointer (some ⟨p, 0, none⟩), x.val] w (SR p c w 0 (s.add (x.binB c.strictW))) := by
  by_cases h0 : x.op ≠ 0
  · exact S_step x h0 p c hc w s hv hl h hout
  · have h0 : x.op = 0 := Decidable.not_not.1 h0
    obtain ⟨op, t, k, sz, id, n, v, l⟩ := x
    dsimp only at h0
    subst h0
    have hf0 : Fr noF noF w (w.alloc (.cells (Stp.cells ⟨0, t, k, sz, id, n, v, l⟩) 203 (0, 0))) := (Fr.refl noF w).alloc _
    have hb0 := alloc_new w (.cells (Stp.cells ⟨0, t, k, sz, id, n, v, l⟩) 203 (0, 0))
    obtain ⟨sa, sn, sc, hsl, -⟩ := hv.len
    dsimp only at hsl
    subst hsl
    have hbin : Stp.binB c.strictW ⟨0, t, k, sz, id, n, .slice sa sn sc, l⟩ = if c.strictW then (verB (IntKind.i32.wrap t) ++ (be4 l.length ++ l)) ++ be4 n else ((be4 l.length ++ l) ++ [b8 t]) ++ be4 n := by
      show msgB c.strictW (strOf l) (IntKind.i32.wrap t) (IntKind.i32.wrap n) = _
      unfold msgB
      have e1 : (strOf l).size = l.length := by simp [strOf, ByteArray.size]
      have e2 : (strOf l).data.toList = l := by simp [strOf]
      have e3 : b8 (IntKind.i32.wrap t) = b8 t := by
        unfold b8
        rw [wrap_i32']
        congr 2
        omega
      rw [e1, e2, e3, be4_i32]
    have hb := S_bin0 p c (w.alloc (.cells (Stp.cells ⟨0, t, k, sz, id, n, .slice sa sn sc, l⟩) 203 (0, 0))) s t k sz id n _ l (hv.keep (F := noF) (F' := noF) hf0 fun _ _ x => x) hl (h.quiet hf0).1 hout _ hbin
    obtain ⟨ov, uv, hA⟩ := (h.quiet hf0).1
    have c0 := cell_at hA.box 0
    simp only [List.getElem?_toArray, List.getElem?_cons_zero] at c0
    have HB := Lib.hid hb
    have HH := Lib.hid (And.intro h hf0)
    have n1 : (c.proto == 1) = false := beq_eq_false_iff_ne.2 hc
    have d0 := cell_at hb0 0; have d1 := cell_at hb0 1; have d2 := cell_at hb0 2; have d3 := cell_at hb0 3; have d4 := cell_at hb0 4; have d5 := cell_at hb0 5; have d6 := cell_at hb0 6
    simp only [Stp.cells, List.getElem?_toArray, List.getElem?_cons_zero, List.getElem?_cons_succ] at d0 d1 d2 d3 d4 d5 d6
    clear hb hA hf0 hb0 h hc hv hbin
    go_enter Tryz.func89, Tryz.ntmps89
    go_wp2_with fail
    (with_reducible refine HB.out.mono ?_)
    rintro e w1 hr
    obtain rfl := hr.1
    have HX := Lib.hid (SR.under HH.out.1 HH.out.2 hr)
    clear hr c0 d0 d1 d2 d3 d4 d5 d6
    go_wp2
    go_ret
    exact HX.out

/-- What stands while steps are written: their bytes so far, the kinds. -/
structure WrA (w : World) (p g n : Nat) (c : ConfV) (s : SSt) (X : World) : Prop where
  I : SwI p c X s
  fr : Fr noF noF w X
  kinds : X.heap[g]? = some (.cells (Array.replicate n (.int .i64 0)) TIn (0, 0))
  apart : ¬ SwF p X g
  low : ∀ k, SwF p X k → w.heap.size ≤ k
  new : w.heap.size ≤ g
theorem WrA.next {w X Y : World} {p g n : Nat} {c : ConfV} {s s' : SSt} {k : Int} {e : Ending} (h : WrA w p g n c s X) (hr : SR p c X k s' e Y) : WrA w p g n c s' Y := by
  have hg := lt_heap h.kinds
  refine ⟨hr.2.1, ⟨hr.2.2.os.trans h.fr.os, hr.2.2.tape.trans h.fr.tape, hr.2.2.output.trans h.fr.output, Nat.le_trans h.fr.size hr.2.2.size, fun j hj _ => (hr.2.2.keep j (Nat.lt_of_lt_of_le hj h.fr.size) fun hx => by have := h.low j hx; omega).trans (h.fr.keep j hj fun x => x), fun _ _ x => x⟩, hr.2.2.block h.kinds h.apart, fun hk => h.apart (hr.2.2.foot _ hg hk), fun j hj => ?_, h.new⟩
  rcases Nat.lt_or_ge j X.heap.size with hlt | hge
  · exact h.low j (hr.2.2.foot j hlt hj)
  · exact Nat.le_trans h.fr.size hge
theorem WrA.store {w X : World} {p g n : Nat} {c : ConfV} {s : SSt} (h : WrA w p g n c s X) (i : Nat) : WrA w p g n c s (X.setCell ⟨g, i, none⟩ (.int .i64 0)) := by
  have hf : Fr (fun k => k = g) (fun k => k = g) X (X.setCell ⟨g, i, none⟩ (.int .i64 0)) := (Fr.refl (fun k => k = g) X).setCell (p := ⟨g, i, none⟩) (Or.inl rfl) _
  obtain ⟨h1, h2⟩ := h.I.keep hf fun k hk e => h.apart (by
    have e : k = g := e
    exact e ▸ hk)
  have hk := setCell_at (i := i) h.kinds (.int .i64 0)
  have he : (Array.replicate n (Value.int .i64 0)).setIfInBounds i (.int .i64 0) = Array.replicate n (.int .i64 0) := by
    apply Array.ext'
    simp [List.set_replicate_self]
  rw [he] at hk
  exact ⟨h1, h.fr.setCell (p := ⟨g, i, none⟩) (Or.inr h.new) _, hk, fun hx => h.apart (h2 _ hx), fun k hx => h.low k (h2 k hx), h.new⟩

theorem zeros_kinds {w : World} {base g m : Nat} (h : w.ownsRow base TIn 1 (.slice (some ⟨g, 0, none⟩) m m) m (madeCells #[Value.int .i64 0] m).toList) : w.heap[g]? = some (.cells (Array.replicate m (.int .i64 0)) TIn (0, 0)) := by
  rcases h.2 with ⟨h0, _⟩ | ⟨g', cap, cur, hv, _, hg, h1, h2, h3, h4⟩
  · cases h0
  · injection hv with e1 e2 e3
    injection e1 with e1
    injection e1 with e1
    subst e1 e3
    rw [hg]
    congr 2
    apply Array.ext'
    rw [List.take_of_length_le (by rw [Array.length_toList, h3]; omega)] at h4
    rw [h4, toList_madeCells_one]
    simp
theorem upon_kinds {o : Oper} {a : Act} {next : Act → World → Prop} {Q : Exit → Act → World → Prop} (w : World) (n : Nat) (hn : n ≤ 1000000)
    (hK : ∀ M, Fr noF noF w M → M.heap[w.heap.size]? = some (.cells (Array.replicate n (.int .i64 0)) TIn (0, 0)) → next (a.put o.dst (.slice (some ⟨w.heap.size, 0, none⟩) n n)) M) :
    Oper.upon Tryz.prog o a next Q ((Sem.run Tryz.prog (Instr.makeSlice 24 (.int .i64 (n : Int)) (.int .i64 (n : Int))) w).andThen fun a w' => Result.ok (Next.value a) w') := by
  obtain ⟨i0, hi, hz0, hz1, hz2⟩ := info_parts info_int
  obtain ⟨w', hrun, r1, r2⟩ := run_make_full (P := Tryz.prog) w w.heap.size 24 TIn i0 (.int .i64 0) 1 Tryz.underlying24 hi hz0 hz1 .i64 .i64 n (by rw [hz2]; omega) (by unfold maxLen; omega) (Nat.le_refl _)
  rw [hrun]
  exact hK w' ((Fr.refl noF w).grown r2 (fun k hk => by cases hk)) (zeros_kinds (by rw [Nat.mul_one] at r1; exact r1))

/-- What Write leaves. -/
def SWriteR (w : World) (l : List UInt8) (n : Nat) (e : Ending) (w' : World) : Prop :=
  ∃ oa on oc kg, e = .returned (.tuple #[.slice oa on oc, .slice (some ⟨kg, 0, none⟩) n n]) ∧ Rd w' (.slice oa on oc) l ∧ w'.heap[kg]? = some (.cells (Array.replicate n (.int .i64 0)) TIn (0, 0)) ∧ Fr noF noF w w'

theorem S_Write (c : ConfV) (hc : c.proto ≠ 1) (la : Option Addr) (n : Nat) (cap : Nat) (xs : List Stp) (hn : xs.length = n) (hnm : n ≤ 1000000) (w : World)
    (hla : 0 < n → ∃ ga, la = some ⟨ga, 0, none⟩ ∧ ∀ (j : Nat) x, xs[j]? = some x → ∀ (i : Nat) u, x.cells[i]? = some u → w.cell? ⟨ga, j * 7 + i, none⟩ = some u)
    (hx : ∀ (j : Nat) x, xs[j]? = some x → Rd w x.v x.s ∧ x.s.length ≤ 1000000)
    (hl : (xs.flatMap (Stp.binB c.strictW)).length ≤ 10000000000) :
    Calls Tryz.prog 63 #[c.val, .slice la n cap] w (SWriteR w (xs.flatMap (Stp.binB c.strictW)) n) := by
  have n2 := new2 w (.cells #[.int .i64 c.proto, .bool c.plain, .bool c.sr, .bool c.sw, .int .i32 c.msg, .int .i32 c.con, .int .i32 c.fra] 101 (0, 0)) (.cells (SwC c ⟨[], 0, [], false, 0, false⟩ (.slice none 0 0) (.slice none 0 0)) TSW (0, 0))
  obtain ⟨W, hW⟩ : ∃ W, W = ((w.alloc (.cells #[.int .i64 c.proto, .bool c.plain, .bool c.sr, .bool c.sw, .int .i32 c.msg, .int .i32 c.con, .int .i32 c.fra] 101 (0, 0))).alloc (.cells (SwC c ⟨[], 0, [], false, 0, false⟩ (.slice none 0 0) (.slice none 0 0)) TSW (0, 0))) := ⟨_, rfl⟩
  have hfW : Fr noF noF w W := by rw [hW]; exact ((Fr.refl noF w).alloc _).alloc _
  have hWs : W.heap.size = w.heap.size + 1 + 1 := by rw [hW]; simp
  rw [← hW] at n2
  have hA : SwA (w.heap.size + 1) c W ⟨[], 0, [], false, 0, false⟩ (.slice none 0 0) (.slice none 0 0) := ⟨n2.2, ⟨rfl, Or.inl ⟨rfl, rfl⟩⟩, ⟨rfl, Or.inl ⟨rfl, rfl⟩⟩⟩
  have hstart : ∀ X g, Fr noF noF W X → X.heap[g]? = some (.cells (Array.replicate n (.int .i64 0)) TIn (0, 0)) → W.heap.size ≤ g → WrA w (w.heap.size + 1) g n c ⟨[], 0, [], false, 0, false⟩ X := fun X g hX hg hge => by
    have hAX := hA.keep (G := noF) (G' := noF) hX fun _ _ x => x
    have hlow : ∀ k, SwF (w.heap.size + 1) X k → k = w.heap.size + 1 := fun k hk => by
      rcases hAX.foot.1 hk with h | h | h
      · exact h
      · cases h
      · cases h
    exact ⟨⟨_, _, hAX⟩, hfW.trans hX, hg, fun hk => by have := hlow g hk; omega, fun k hk => by have := hlow k hk; omega, by omega⟩
  have hstep : ∀ (k g : Nat) x X (dn : List UInt8), xs[k]? = some x → WrA w (w.heap.size + 1) g n c ((⟨[], 0, [], false, 0, false⟩ : SSt).add dn) X → dn ++ (xs.drop k).flatMap (Stp.binB c.strictW) = xs.flatMap (Stp.binB c.strictW) →
      Calls Tryz.prog 89 #[.pointer (some ⟨w.heap.size + 1, 0, none⟩), x.val] X (fun e Y => e = .returned (.int .i64 0) ∧ WrA w (w.heap.size + 1) g n c ((⟨[], 0, [], false, 0, false⟩ : SSt).add (dn ++ x.binB c.strictW)) Y) ∧ (dn ++ x.binB c.strictW) ++ (xs.drop (k + 1)).flatMap (Stp.binB c.strictW) = xs.flatMap (Stp.binB c.strictW) := fun k g x X dn hk hA hdn => by
    obtain ⟨hv, hsl⟩ := hx k x hk
    have e : (xs.drop k).flatMap (Stp.binB c.strictW) = x.binB c.strictW ++ (xs.drop (k + 1)).flatMap (Stp.binB c.strictW) := by
      rw [List.drop_eq_getElem_cons (List.getElem?_eq_some_iff.1 hk).1, List.flatMap_cons, (List.getElem?_eq_some_iff.1 hk).2]
    rw [e] at hdn
    refine ⟨?_, by rw [List.append_assoc]; exact hdn⟩
    have hlen : dn.length ≤ 10000000000 := by
      have := congrArg List.length hdn
      rw [List.length_append] at this
      omega
    refine (S_step_any x (w.heap.size + 1) c hc X _ (hv.keep hA.fr fun _ _ x => x) hsl hA.I (by simpa [SSt.add] using hlen)).mono fun e Y hr => ⟨hr.1, ?_⟩
    have := hA.next hr
    rw [SSt.add_add] at this
    exact this
  have hel : ∀ k, k < n → ∃ ga x sa sn sc, la = some ⟨ga, 0, none⟩ ∧ xs[k]? = some x ∧ x.v = .slice sa sn sc ∧ ∀ X, Fr noF noF w X → ∀ (i : Nat) u, x.cells[i]? = some u → X.cell? ⟨ga, k * 7 + i, none⟩ = some u := fun k hk => by
    have h : xs[k]? = some xs[k] := List.getElem?_eq_getElem (by omega)
    obtain ⟨hr, _⟩ := hx k _ h
    obtain ⟨sa, sn, sc, hv, -⟩ := hr.len
    obtain ⟨ga, hg, hcc⟩ := hla (by omega)
    exact ⟨ga, _, sa, sn, sc, hg, h, hv, fun X hX i u hu => hX.cell (hcc k _ h i u hu) fun x => x⟩
  have hfin : ∀ g dn X, WrA w (w.heap.size + 1) g n c ((⟨[], 0, [], false, 0, false⟩ : SSt).add dn) X → dn = xs.flatMap (Stp.binB c.strictW) → ∃ oa on oc, X.cell? ⟨w.heap.size + 1, 7, none⟩ = some (.slice oa on oc) ∧ SWriteR w (xs.flatMap (Stp.binB c.strictW)) n (.returned (.tuple #[.slice oa on oc, .slice (some ⟨g, 0, none⟩) n n])) X := fun g dn X hA hd => by
    obtain ⟨ov, uv, hSw⟩ := hA.I
    obtain ⟨oa, on, oc, rfl, -⟩ := hSw.out.rd.len
    exact ⟨oa, on, oc, hSw.cells.1, oa, on, oc, g, rfl, by simpa [SSt.add, hd] using hSw.out.rd, hA.kinds, hA.fr⟩
  obtain ⟨i0, hi, hz0, hz1, hz2⟩ := info_parts info_int
  have HI := Lib.hid (And.intro hi (And.intro hz0 (And.intro hz1 hz2)))
  have HST := Lib.hid hstart
  have HSP := Lib.hid hstep
  have HEL := Lib.hid hel
  have HFI := Lib.hid hfin
  have HW := Lib.hid hW
  obtain ⟨B, hB⟩ : ∃ B, B = xs.flatMap (Stp.binB c.strictW) := ⟨_, rfl⟩
  have HB := Lib.hid hB
  have HN := Lib.hid hn
  have b0 := cell_at n2.1
  have hnI : (n : Int) ≤ 1000000 := by omega
  rw [hW] at b0
  have HNM := Lib.hid hnm
  clear hi hz0 hz1 hz2 hstart hstep hel hfin hA hfW hWs n2 hx hl hc hW hB hn hnm hla
  go_enter Tryz.func63, Tryz.ntmps63
  go_wp2_with fail
  rw [← HW.out]
  clear b0
  refine upon_kinds _ n HNM.out ?_
  intro M hfm hkm
  have hA0 := HST.out M _ hfm hkm (Nat.le_refl _)
  have HA0 := Lib.hid hA0
  clear hA0 hkm hfm
  go_wp2_with fail
  go_loopw [8] (fun i wr => ∃ (k : Nat) (dn : List UInt8), i = .int .i64 k ∧ k ≤ n ∧ WrA w (w.heap.size + 1) W.heap.size n c ((⟨[], 0, [], false, 0, false⟩ : SSt).add dn) wr ∧ dn ++ (xs.drop k).flatMap (Stp.binB c.strictW) = xs.flatMap (Stp.binB c.strictW)) (fun i _ => n - (intOf i).toNat)
  case atStart => exact ⟨0, [], rfl, by omega, by rw [SSt.add_nil]; exact HA0.out, rfl⟩
  case round =>
    obtain ⟨k, dn, rfl, hk, hA, hdn⟩ := hrel
    have hk0 : (0 : Int) ≤ (k : Int) := by omega
    have hk3 : (k : Int) ≤ 1000000 := by have := HNM.out; omega
    by_cases hlt : k < n
    · obtain ⟨ga, x, sa, sn, sc, rfl, hx, hxv, hcc⟩ := HEL.out k hlt
      obtain ⟨hcall, hnext⟩ := HSP.out k _ x wr dn hx hA hdn
      obtain ⟨op, t, kk, sz, id, nn, v, l⟩ := x
      dsimp only at hxv
      subst hxv
      have d0 : wr.cell? ⟨ga, k * 7, none⟩ = some (.int .i64 op) := hcc wr hA.fr 0 _ rfl
      have d1 : wr.cell? ⟨ga, k * 7 + 1, none⟩ = some (.int .i64 t) := hcc wr hA.fr 1 _ rfl
      have d2 : wr.cell? ⟨ga, k * 7 + 2, none⟩ = some (.int .i64 kk) := hcc wr hA.fr 2 _ rfl
      have d3 : wr.cell? ⟨ga, k * 7 + 3, none⟩ = some (.int .i64 sz) := hcc wr hA.fr 3 _ rfl
      have d4 : wr.cell? ⟨ga, k * 7 + 4, none⟩ = some (.int .i64 id) := hcc wr hA.fr 4 _ rfl
      have d5 : wr.cell? ⟨ga, k * 7 + 5, none⟩ = some (.int .i64 nn) := hcc wr hA.fr 5 _ rfl
      have d6 : wr.cell? ⟨ga, k * 7 + 6, none⟩ = some (.slice sa sn sc) := hcc wr hA.fr 6 _ rfl
      have hk1 : (k : Int) < (n : Int) := by omega
      have HC := Lib.hid hcall
      have HX := Lib.hid hnext
      clear hcall hnext hcc hx hA hdn
      go_wp2_with fail
      (with_reducible refine HC.out.mono ?_)
      rintro e Y ⟨rfl, hY⟩
      have hz := cell_at hY.kinds k
      have hfz := free_at hY.kinds k
      rw [show (Array.replicate n (Value.int IntKind.i64 0))[k]? = some (Value.int IntKind.i64 0) by simp [hlt]] at hz
      have HY := Lib.hid (hY.store k)
      clear hY d0 d1 d2 d3 d4 d5 d6
      go_wp2_with fail
      go_roundw
      case rel => exact ⟨k + 1, _, by go_num, by omega, HY.out, HX.out⟩
      case measure => simp [intOf]; omega
    · have hend : dn = xs.flatMap (Stp.binB c.strictW) := by
        rw [List.drop_of_length_le (by rw [HN.out]; omega)] at hdn
        simpa using hdn
      obtain ⟨oa, on, oc, hc7, hR⟩ := HFI.out _ dn wr hA hend
      have HR := Lib.hid hR
      have hk1 : ¬ (k : Int) < (n : Int) := by omega
      clear hA hdn hend hR
      go_wp2_with fail
      go_ret2
      exact HR.out
end Go.Proofs.YtoifjckhccbmlaaGreatDoor
