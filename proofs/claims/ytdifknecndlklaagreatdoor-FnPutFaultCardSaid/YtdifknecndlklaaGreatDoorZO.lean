/- The specification's writer: the begin and the end of a struct by the compact protocol. Printed by gen_sfp.py. The specification's writer: the begin of a message by the compact protocol. Printed by gen_sf0.py. The specification's writer: a double by the compact protocol. Printed by gen_sf18.py. -/
import Derived.Test.YtdifknecndlklaaGreatDoorZK
import Derived.Test.YtdifknecndlklaaGreatDoorZC
import Derived.Test.YtdifknecndlklaaGreatDoorZBig
set_option linter.all false
namespace Go.Proofs.YtdifknecndlklaaGreatDoor
open Go Go.RowKit
set_option maxHeartbeats 4000000
set_option maxRecDepth 100000
set_option linter.all false

/-- A number is appended to the row of ids, as an operation of a drawn region. -/
theorem step_push {w : World} {ops : Array Oper} {o : Oper} {a : Act} {K : Act → World → Prop} {Q : Exit → Act → World → Prop} {E : Prop} (hgd : o.guard = none) (s x : Operand)
    (ho : o.op = .call { callee := .builtin .append, args := #[s, x], argTypes := #[36, 36] })
    (v : Value) (L : List Int) (n : Int) (hs : a.eval s = v) (hown : OwnU w v L) (ad : Addr) (hx : a.eval x = .slice (some ad) 1 1) (hnews : ∀ j u, [Value.int .i64 n][j]? = some u → w.cell? (ad.add j) = some u) (hl : L.length ≤ 10000000000) (H : Nat) (hH : w.heap.size = H)
    (h : ∀ g cap w', w'.ownsRow 0 TIn 1 (.slice (some ⟨g, 0, none⟩) (L.length + 1) cap) (L.length + 1) (L.map (.int .i64) ++ [.int .i64 n]) → w.grownBy w' v.ownBlock → (v.ownBlock = some g ∨ g = H) → g < w'.heap.size → K (a.put o.dst (.slice (some ⟨g, 0, none⟩) (L.length + 1) cap)) w') :
    if Region.wanted o (yielded ops a.tmps) = true then Oper.wp Tryz.prog o a w K Q else E := by
  obtain ⟨i0, hi, hz0, hz1, hz2⟩ := info_parts info_TI
  have hb1 : L.length + 1 ≤ maxLen := by unfold maxLen; omega
  rcases hown with h1 | ⟨g, cur, rfl, hg, h2, h3, h4⟩
  · exact step_append_lies _ hgd s x _ ho 0 TIn i0 (.int .i64 0) 1 8 Tryz.underlying36 hi hz0 hz1 hz2 rfl (by decide) v L.length (L.map (.int .i64)) hs h1 ad 1 1 [.int .i64 n] hx rfl hnews (app_one rfl) (by decide) hb1 (by omega) (Nat.zero_le _) H hH h
  · have hw : Region.wanted o (yielded ops a.tmps) = true := by simp [Region.wanted, hgd]
    rw [if_pos hw]
    have holds : ∀ j u, (L.map (Value.int .i64))[j]? = some u → w.cell? ((⟨g, 0, none⟩ : Addr).add j) = some u := fun j u hj => by
      have hj' : j < L.length := by
        rw [List.getElem?_eq_some_iff] at hj
        obtain ⟨hlt, _⟩ := hj
        simpa using hlt
      rw [Lib.addr_add]
      simp only [Nat.zero_add]
      rw [cell_at hg]
      rw [← h4, List.getElem?_take_of_lt hj'] at hj
      simpa using hj
    have hr := run_append_grow (P := Tryz.prog) w 36 o.type TIn i0 (.int .i64 0) Tryz.underlying36 hi hz0 ⟨g, 0, none⟩ L.length L.length (L.map (.int .i64)) (by rw [hz1]; simp) holds ad 1 1 [.int .i64 n] (by rw [hz1]; rfl) hnews (by omega) (by omega) (growslice_fits (by omega) (by rw [hz2]; omega))
    unfold Oper.wp execOp
    simp only [ho, resolve, invoke, builtin, Sem.run_bind, Sem.run_pure, Result.andThen_ok, List.map_toArray, List.map_cons, List.map_nil, hs, hx, hr]
    have hge := grownCap_ge w (L.length + 1) L.length TIn
    have hcm : grownCap w (L.length + 1) L.length TIn ≤ maxLen := grownCap_le_maxLen w (L.length + 1) L.length TIn hb1
    refine h w.heap.size _ _ ⟨by simp, .inr ⟨w.heap.size, _, _, rfl, Nat.zero_le _, heap_alloc_new w.drew _, hge, hcm, ?_, ?_⟩⟩ ⟨rfl, rfl, rfl, by simp, fun k hk _ => heap_alloc_old w.drew _ hk⟩ (Or.inr hH) (by simp)
    · have hzs : (Value.int .i64 0).cells.size = 1 := rfl
      simp only [Array.size_append, List.size_toArray, size_zeroCells, hzs, List.length_map, List.length_singleton]
      omega
    · simp only [Array.toList_append, List.append_assoc]
      rw [← List.append_assoc]
      rw [show (L.length + 1) * 1 = (L.map (Value.int .i64) ++ [Value.int .i64 n]).length by simp]
      exact List.take_left

/-- The row of ids has grown, and is stored, and the last id is nothing. -/
theorem SwA.push {p : Nat} {c : ConfV} {w X Z : World} {s : SSt} {ov uv : Value} {g cap : Nat} (h : SwA p c w s ov uv) (hX : Fr noF noF w X) (hown : Z.ownsRow 0 TIn 1 (.slice (some ⟨g, 0, none⟩) (s.outer.length + 1) cap) (s.outer.length + 1) (s.outer.map (.int .i64) ++ [.int .i64 s.last])) (hg : X.grownBy Z uv.ownBlock) (hat : uv.ownBlock = some g ∨ g = X.heap.size) :
    (Z.cell? ⟨p, 9, none⟩ = some uv ∧ Z.frozen? ⟨p, 9, none⟩ = false) ∧ ((Z.setCell ⟨p, 9, none⟩ (.slice (some ⟨g, 0, none⟩) (s.outer.length + 1) cap)).cell? ⟨p, 8, none⟩ = some (.int .i64 s.last) ∧ (Z.setCell ⟨p, 9, none⟩ (.slice (some ⟨g, 0, none⟩) (s.outer.length + 1) cap)).frozen? ⟨p, 8, none⟩ = false) ∧
      SwA p c ((Z.setCell ⟨p, 9, none⟩ (.slice (some ⟨g, 0, none⟩) (s.outer.length + 1) cap)).setCell ⟨p, 8, none⟩ (.int .i64 0)) { s with outer := s.outer ++ [s.last], last := 0 } ov (.slice (some ⟨g, 0, none⟩) (s.outer.length + 1) cap) ∧ Fr (SwF p w) (SwF p ((Z.setCell ⟨p, 9, none⟩ (.slice (some ⟨g, 0, none⟩) (s.outer.length + 1) cap)).setCell ⟨p, 8, none⟩ (.int .i64 0))) w ((Z.setCell ⟨p, 9, none⟩ (.slice (some ⟨g, 0, none⟩) (s.outer.length + 1) cap)).setCell ⟨p, 8, none⟩ (.int .i64 0)) := by
  obtain ⟨v', hv'⟩ : ∃ v', v' = Value.slice (some ⟨g, 0, none⟩) (s.outer.length + 1) cap := ⟨_, rfl⟩
  have hvb : v'.ownBlock = some g := by rw [hv']; rfl
  rw [← hv'] at hown ⊢
  clear hv'
  have hG : Grew w Z uv := Grew.more (Grew.start uv hX) (OwnAt.refl w uv) hg
  have hap : ∀ k, uv.ownBlock = some k → k ≠ p := fun k hk e => by
    obtain ⟨cur, hc⟩ := ownu_block h.outer hk
    subst e
    exact tag_ne hc h.box (by decide) rfl
  have hau : ∀ k, ov.ownBlock = some k → k ≠ p ∧ uv.ownBlock ≠ some k := fun k hk => by
    obtain ⟨cur, hc⟩ := owns_block h.out hk
    refine ⟨fun e => ?_, fun e => ?_⟩
    · subst e
      exact tag_ne hc h.box (by decide) rfl
    · obtain ⟨cur', hc'⟩ := ownu_block h.outer e
      exact tag_ne hc hc' (by decide) rfl
  have hpl := lt_heap h.box
  have hb4 : Z.heap[p]? = some (.cells (SwC c s ov uv) TSW (0, 0)) := (hG.keep p hpl fun e => hap p e rfl).trans h.box
  have hbz := setCell_at (i := 9) hb4 v'
  have hbzz := setCell_at (i := 8) hbz (.int .i64 0)
  have hvp : ∀ k, v'.ownBlock = some k → k ≠ p := fun k hk e => by
    obtain ⟨cur, hc⟩ := owns_block hown hk
    subst e
    exact tag_ne hc hb4 (by decide) rfl
  have hA : SwA p c ((Z.setCell ⟨p, 9, none⟩ v').setCell ⟨p, 8, none⟩ (.int .i64 0)) { s with outer := s.outer ++ [s.last], last := 0 } ov v' := by
    refine ⟨hbzz, owns_keep h.out fun k hk => ?_, ?_⟩
    · obtain ⟨cur, hc⟩ := owns_block h.out hk
      exact (Below.heap_setCell _ _ _ _ (hau k hk).1).trans ((Below.heap_setCell _ _ _ _ (hau k hk).1).trans (hG.keep k (lt_heap hc) (hau k hk).2))
    · show OwnU _ v' (s.outer ++ [s.last])
      refine Or.inl ?_
      rw [List.length_append, List.map_append]
      exact owns_keep hown fun k hk => (Below.heap_setCell _ _ _ _ (hvp k hk)).trans (Below.heap_setCell _ _ _ _ (hvp k hk))
  refine ⟨⟨by rw [cell_at hb4]; rfl, free_at hb4 9⟩, ⟨by rw [cell_at hbz]; rfl, free_at hbz 8⟩, hA, hG.os, hG.tape, hG.output, by rw [setCell_size, setCell_size]; exact hG.size, fun k hk hn => ?_, fun k hk hx => ?_⟩
  · exact (Below.heap_setCell _ _ _ _ fun e => hn (Or.inl e)).trans ((Below.heap_setCell _ _ _ _ fun e => hn (Or.inl e)).trans (hG.keep k hk fun e => hn (h.foot.2 (Or.inr (Or.inr e)))))
  · rcases hA.foot.1 hx with e | e | e
    · exact Or.inl e
    · exact h.foot.2 (Or.inr (Or.inl e))
    · rw [hvb] at e
      injection e with e
      subst e
      rcases hat with hat | hat
      · exact h.foot.2 (Or.inr (Or.inr hat))
      · have := hX.size; omega

theorem S_s2 (p : Nat) (c : ConfV) (w : World) (s : SSt) (t k sz id n : Int) (v : Value) (l : List UInt8) (hv : Rd w v l) (hb : ∀ k, vblk v k → ¬ SwF p w k) (hl : l.length ≤ 1000000) (h : SwI p c w s) (hok : s.okS) (hout : s.out.length ≤ 10000000000) (hou : s.outer.length ≤ 10000000000) :
    Calls Tryz.prog 95 #[.pointer (some ⟨p, 0, none⟩), .agg (stepA 2 t k sz id n v)] w (SR p c w 0 ({ s with outer := s.outer ++ [s.last], last := 0 })) := by
  obtain ⟨ov, uv, hA⟩ := h
  obtain ⟨va, vn, vc, rfl, hvn⟩ := hv.len
  have hC := CBox.start hA (stepA 2 t k sz id n (.slice va vn vc))
  obtain ⟨W, hW⟩ : ∃ W, W = w.alloc (.cells (stepA 2 t k sz id n (.slice va vn vc)) 239 (0, 0)) := ⟨_, rfl⟩
  have HW := Lib.hid hW
  rw [← hW] at hC
  have hAW := hA.keep hC.fr fun _ _ x => x
  obtain ⟨aP, aB, -, aF⟩ := hC.at (Grew.start ov (Fr.refl noF W))
  have ap8 := aP 8
  have ap9 := aP 9
  have ab0 := aB 0
  simp only [List.getElem?_toArray, List.getElem?_cons_zero, List.getElem?_cons_succ, List.size_toArray] at ap8 ap9 ab0
  clear aP aB
  obtain ⟨rP, rB, -, rF⟩ := hC.at (Grew.start ov ((Fr.refl noF W).alloc (.cells #[.int .i64 s.last] TIn (0, 0))))
  have rp8 := rP 8
  have rp9 := rP 9
  simp only [List.getElem?_toArray, List.getElem?_cons_zero, List.getElem?_cons_succ, List.size_toArray] at rp8 rp9
  clear rP rB
  have HL := Lib.hid hou
  have HO := Lib.hid hAW.outer
  have HP := Lib.hid (fun X Z g cap hX hown hg hat => hAW.push (X := X) (Z := Z) (g := g) (cap := cap) hX hown hg hat)
  have HH := Lib.hid (And.intro (show SwI p c w s from ⟨_, _, hA⟩) hC.fr)
  clear hC hA hW hv hb hl hout hok hvn aF rF hAW hou
  go_enter Tryz.func95, Tryz.ntmps95
  go_upto_region 1 with fail
  rw [← HW.out]
  go_wp2_with fail
  go_region_law (first | ((refine step_push (by rfl) _ _ (by rfl) uv s.outer s.last (by rfl) (ownu_keep HO.out fun k hk => ?_) ⟨W.heap.size, 0, none⟩ (by rfl) (app_cell W _ _) HL.out _ rfl ?_); (obtain ⟨cur, hcur⟩ := ownu_block HO.out hk; exact (alloc_at hcur).trans hcur.symm); intro g cap Z hown hgrow hat hlt; have hz := HP.out _ Z g cap (((Fr.refl noF W).alloc _).drew) hown hgrow (by simpa using hat); obtain ⟨⟨z3, f3⟩, ⟨z4, f4⟩, hA2, hF2⟩ := hz; have HX := Lib.hid (SR.under (k := 0) HH.out.1 HH.out.2 (e := .returned (.int .i64 0)) ⟨rfl, ⟨_, _, hA2⟩, hF2⟩); clear hown hgrow hat hlt hA2 hF2) | fail)
  all_goals clear ap8 ap9 ab0 rp8 rp9
  all_goals go_wp2
  all_goals go_ret
  all_goals exact HX.out

theorem OwnU.form {w : World} {v : Value} {l : List Int} {n : Nat} (h : OwnU w v l) (hn : l.length = n + 1) : ∃ g cap cur, v = .slice (some ⟨g, 0, none⟩) (n + 1) cap ∧ w.heap[g]? = some (.cells cur TIn (0, 0)) ∧ n + 1 ≤ cap ∧ cap ≤ cur.size ∧ cur.size ≤ maxLen ∧ cur.toList.take (n + 1) = l.map (.int .i64) := by
  rcases h with h | ⟨g, cur, rfl, hg, h2, h3, h4⟩
  · rcases h.2 with ⟨_, h0⟩ | ⟨g, cap, cur, rfl, _, hg, hle, hmx, hsz, htk⟩
    · omega
    · rw [hn] at hle htk ⊢
      rw [Nat.mul_one] at hsz htk
      exact ⟨g, cap, cur, rfl, hg, hle, by omega, by omega, htk⟩
  · rw [hn] at h2 h4 ⊢
    exact ⟨g, n + 1, cur, rfl, hg, Nat.le_refl _, h2, h3, h4⟩
/-- An id is taken back. -/
theorem SwA.pop {p : Nat} {c : ConfV} {w : World} {s : SSt} {ov uv : Value} (h : SwA p c w s ov uv) (n : Nat) (hn : s.outer.length = n + 1) :
    ∃ g cap x, uv = .slice (some ⟨g, 0, none⟩) (n + 1) cap ∧ s.outer.getLastD 0 = x ∧ n + 1 ≤ cap ∧ cap ≤ maxLen ∧ w.cell? ⟨g, n, none⟩ = some (.int .i64 x) ∧
      ((w.setCell ⟨p, 8, none⟩ (.int .i64 x)).cell? ⟨p, 9, none⟩ = some uv ∧ (w.setCell ⟨p, 8, none⟩ (.int .i64 x)).frozen? ⟨p, 9, none⟩ = false) ∧
      SwA p c ((w.setCell ⟨p, 8, none⟩ (.int .i64 x)).setCell ⟨p, 9, none⟩ (.slice (some ⟨g, 0, none⟩) n n)) { s with outer := s.outer.dropLast, last := x } ov (.slice (some ⟨g, 0, none⟩) n n) ∧ Fr (SwF p w) (SwF p ((w.setCell ⟨p, 8, none⟩ (.int .i64 x)).setCell ⟨p, 9, none⟩ (.slice (some ⟨g, 0, none⟩) n n))) w ((w.setCell ⟨p, 8, none⟩ (.int .i64 x)).setCell ⟨p, 9, none⟩ (.slice (some ⟨g, 0, none⟩) n n)) := by
  obtain ⟨g, cap, cur, hsv, hgg, hle, hcs, hmx, htk⟩ := h.outer.form hn
  subst hsv
  have hx : s.outer[n]? = some (s.outer.getLastD 0) := by
    obtain ⟨x, hx⟩ : ∃ x, s.outer[n]? = some x := ⟨_, List.getElem?_eq_getElem (by omega)⟩
    have hl : s.outer.getLast? = some x := by rw [List.getLast?_eq_getElem?, show s.outer.length - 1 = n by omega]; exact hx
    rw [hx, List.getLastD_eq_getLast?, hl]
    rfl
  have hcx : cur[n]? = some (.int .i64 (s.outer.getLastD 0)) := by
    have h1 : (cur.toList.take (n + 1))[n]? = (s.outer.map (Value.int .i64))[n]? := by rw [htk]
    rw [List.getElem?_take_of_lt (by omega), List.getElem?_map, hx] at h1
    simpa using h1
  have hgp : g ≠ p := fun e => by subst e; exact tag_ne hgg h.box (by decide) rfl
  have hb1 := setCell_at (i := 8) h.box (.int .i64 (s.outer.getLastD 0))
  have hb2 := setCell_at (i := 9) hb1 (.slice (some ⟨g, 0, none⟩) n n)
  have hop : ∀ k, ov.ownBlock = some k → k ≠ p := fun k hk e => by
    obtain ⟨cur', hc⟩ := owns_block h.out hk
    subst e
    exact tag_ne hc h.box (by decide) rfl
  have hA : SwA p c ((w.setCell ⟨p, 8, none⟩ (.int .i64 (s.outer.getLastD 0))).setCell ⟨p, 9, none⟩ (.slice (some ⟨g, 0, none⟩) n n)) { s with outer := s.outer.dropLast, last := s.outer.getLastD 0 } ov (.slice (some ⟨g, 0, none⟩) n n) := by
    refine ⟨hb2, owns_keep h.out fun k hk => (Below.heap_setCell _ _ _ _ (hop k hk)).trans (Below.heap_setCell _ _ _ _ (hop k hk)), ?_⟩
    have hlen : s.outer.dropLast.length = n := by rw [List.length_dropLast]; omega
    refine Or.inr ⟨g, cur, ?_, (Below.heap_setCell _ _ _ _ hgp).trans ((Below.heap_setCell _ _ _ _ hgp).trans hgg), ?_, hmx, ?_⟩
    · show _ = Value.slice _ s.outer.dropLast.length s.outer.dropLast.length
      rw [hlen]
    · show s.outer.dropLast.length ≤ _
      omega
    · show cur.toList.take s.outer.dropLast.length = s.outer.dropLast.map (.int .i64)
      rw [hlen, List.dropLast_eq_take, List.map_take, ← htk, List.take_take, show s.outer.length - 1 = n by omega]
      congr 1
      omega
  refine ⟨g, cap, _, rfl, rfl, hle, by omega, by rw [cell_at hgg]; exact hcx, ⟨by rw [cell_at hb1]; rfl, free_at hb1 9⟩, hA, rfl, rfl, rfl, by rw [setCell_size, setCell_size]; exact Nat.le_refl _, fun k hk hne => ?_, fun k hk hxx => ?_⟩
  · exact (Below.heap_setCell _ _ _ _ fun e => hne (Or.inl e)).trans (Below.heap_setCell _ _ _ _ fun e => hne (Or.inl e))
  · exact h.foot.2 (hA.foot.1 hxx)

theorem S_s3e (p : Nat) (c : ConfV) (w : World) (s : SSt) (t k sz id n : Int) (v : Value) (l : List UInt8) (hv : Rd w v l) (hb : ∀ k, vblk v k → ¬ SwF p w k) (hl : l.length ≤ 1000000) (h : SwI p c w s) (hok : s.okS) (hout : s.out.length ≤ 10000000000) (he : s.outer = []) :
    Calls Tryz.prog 95 #[.pointer (some ⟨p, 0, none⟩), .agg (stepA 3 t k sz id n v)] w (SR p c w (-2) s) := by
  obtain ⟨ov, uv, hA⟩ := h
  obtain ⟨va, vn, vc, rfl, hvn⟩ := hv.len
  have hC := CBox.start hA (stepA 3 t k sz id n (.slice va vn vc))
  obtain ⟨W, hW⟩ : ∃ W, W = w.alloc (.cells (stepA 3 t k sz id n (.slice va vn vc)) 239 (0, 0)) := ⟨_, rfl⟩
  have HW := Lib.hid hW
  rw [← hW] at hC
  have hAW := hA.keep hC.fr fun _ _ x => x
  have hu : ∃ ua uc, uv = .slice ua 0 uc := by
    rcases hAW.outer with h | ⟨g, cur, h, _⟩
    · rcases h.2 with ⟨h, _⟩ | ⟨g, cap, cur, h, _⟩
      · exact ⟨_, _, h⟩
      · rw [he] at h
        exact ⟨_, _, h⟩
    · rw [he] at h
      exact ⟨_, _, h⟩
  obtain ⟨ua, uc, rfl⟩ := hu
  obtain ⟨aP, aB, -, aF⟩ := hC.at (Grew.start ov (Fr.refl noF W))
  have ap9 := aP 9
  have ab0 := aB 0
  simp only [List.getElem?_toArray, List.getElem?_cons_zero, List.getElem?_cons_succ, List.size_toArray] at ap9 ab0
  clear aP aB
  have HX := Lib.hid (SR.under (k := -2) (show SwI p c w s from ⟨_, _, hA⟩) hC.fr (SR.self (SwI.quiet (show SwI p c w s from ⟨_, _, hA⟩) hC.fr).1 (-2)))
  clear hC hA hW hv hb hl hout hok hvn aF hAW he
  go_enter Tryz.func95, Tryz.ntmps95
  go_upto_region 1 with fail
  rw [← HW.out]
  go_wp2
  go_ret
  exact HX.out

theorem S_s3 (p : Nat) (c : ConfV) (w : World) (s : SSt) (t k sz id n : Int) (v : Value) (l : List UInt8) (hv : Rd w v l) (hb : ∀ k, vblk v k → ¬ SwF p w k) (hl : l.length ≤ 1000000) (h : SwI p c w s) (hok : s.okS) (hout : s.out.length ≤ 10000000000) (he : s.outer ≠ []) :
    Calls Tryz.prog 95 #[.pointer (some ⟨p, 0, none⟩), .agg (stepA 3 t k sz id n v)] w (SR p c w 0 ({ s with last := s.outer.getLastD 0, outer := s.outer.dropLast })) := by
  obtain ⟨ov, uv, hA⟩ := h
  obtain ⟨va, vn, vc, rfl, hvn⟩ := hv.len
  have hC := CBox.start hA (stepA 3 t k sz id n (.slice va vn vc))
  obtain ⟨W, hW⟩ : ∃ W, W = w.alloc (.cells (stepA 3 t k sz id n (.slice va vn vc)) 239 (0, 0)) := ⟨_, rfl⟩
  have HW := Lib.hid hW
  rw [← hW] at hC
  have hAW := hA.keep hC.fr fun _ _ x => x
  obtain ⟨m, hm⟩ : ∃ m, s.outer.length = m + 1 := by
    cases h : s.outer with
    | nil => exact (he h).elim
    | cons a b => exact ⟨b.length, rfl⟩
  obtain ⟨g, cap, x, rfl, hxd, hle, hmx, hcx, ⟨c9, f9⟩, hA2, hF2⟩ := hAW.pop m hm
  obtain ⟨aP, aB, -, aF⟩ := hC.at (Grew.start ov (Fr.refl noF W))
  have ap8 := aP 8
  have ap9 := aP 9
  have ab0 := aB 0
  simp only [List.getElem?_toArray, List.getElem?_cons_zero, List.getElem?_cons_succ, List.size_toArray] at ap8 ap9 ab0
  clear aP aB
  have af8 := aF 8
  rw [hxd]
  have HX := Lib.hid (SR.under (k := 0) (show SwI p c w s from ⟨_, _, hA⟩) hC.fr (e := .returned (.int .i64 0)) ⟨rfl, ⟨_, _, hA2⟩, hF2⟩)
  have k2 : wrap64 (m : Int) = (m : Int) := by unfold maxLen at hmx; unfold wrap64; omega
  have k6 : IntKind.i64.wrap (m : Int) = (m : Int) := by unfold maxLen at hmx; rw [IntKind.wrap_i64]; omega
  have k3 : ((m : Int) + 1 == 0) = false := by rw [beq_eq_false_iff_ne]; omega
  have k4 : m < m + 1 := by omega
  have k5 : m ≤ cap := by omega
  clear hC hA hW hv hb hl hout hok hvn aF hAW hA2 hF2 he hm hxd
  go_enter Tryz.func95, Tryz.ntmps95
  go_upto_region 1 with fail
  rw [← HW.out]
  go_wp2
  go_ret
  exact HX.out

end Go.Proofs.YtdifknecndlklaaGreatDoor
namespace Go.Proofs.YtdifknecndlklaaGreatDoor
open Go Go.RowKit
set_option maxHeartbeats 4000000
set_option maxRecDepth 100000
set_option linter.all false

/-- What stands between two writings: the writer, a step's box. -/
structure CBg (p : Nat) (c : ConfV) (g : Nat) (s : SSt) (ov uv : Value) (cs : Array Value) (W : World) : Prop where
  A : SwA p c W s ov uv
  box : W.heap[g]? = some (.cells cs 239 (0, 0))
theorem CBox.g {p : Nat} {c : ConfV} {w W : World} {s : SSt} {ov uv : Value} {cs : Array Value} (h : CBox p c w s ov uv cs W) : CBg p c w.heap.size s ov uv cs W := ⟨h.A.keep h.fr fun _ _ x => x, h.box⟩
theorem CBg.ne {p g : Nat} {c : ConfV} {W : World} {s : SSt} {ov uv : Value} {cs : Array Value} (h : CBg p c g s ov uv cs W) : ov.ownBlock ≠ some p ∧ ov.ownBlock ≠ some g ∧ g ≠ p := by
  refine ⟨fun e => ?_, fun e => ?_, tag_ne h.box h.A.box (by decide)⟩
  · obtain ⟨cur, hc⟩ := owns_block h.A.out e
    exact tag_ne hc h.A.box (by decide) rfl
  · obtain ⟨cur, hc⟩ := owns_block h.A.out e
    exact tag_ne hc h.box (by decide) rfl
theorem CBg.at {p g : Nat} {c : ConfV} {W Z : World} {s : SSt} {ov uv : Value} {cs : Array Value} (h : CBg p c g s ov uv cs W) (hG : Grew W Z ov) : (∀ i, Z.cell? ⟨p, i, none⟩ = (SwC c s ov uv)[i]?) ∧ (∀ i, Z.cell? ⟨g, i, none⟩ = cs[i]?) ∧ (∀ i, Z.frozen? ⟨p, i, none⟩ = false) := by
  obtain ⟨n1, n2, _⟩ := h.ne
  have e1 := (hG.keep p (lt_heap h.A.box) n1).trans h.A.box
  have e2 := (hG.keep g (lt_heap h.box) n2).trans h.box
  exact ⟨fun i => cell_at e1 i, fun i => cell_at e2 i, fun i => free_at e1 i⟩
theorem CBg.own {p g : Nat} {c : ConfV} {W Z : World} {s : SSt} {ov uv : Value} {cs : Array Value} (h : CBg p c g s ov uv cs W) (hf : Fr noF noF W Z) : OwnB Z 0 ov s.out := (h.A.keep hf fun _ _ x => x).out
theorem CBg.fin {p g : Nat} {c : ConfV} {W Z : World} {s : SSt} {ov uv : Value} {cs : Array Value} {news : List UInt8} {va : Option Addr} {vn vc : Nat} (h : CBg p c g s ov uv cs W) (hG : Grew W Z ov) (ho : OwnB Z 0 (.slice va vn vc) (s.out ++ news)) (hat : OwnAt W (.slice va vn vc) ov) :
    CBg p c g { s with out := s.out ++ news } (.slice va vn vc) uv cs (Z.setCell ⟨p, 7, none⟩ (.slice va vn vc)) ∧ Fr (SwF p W) (SwF p (Z.setCell ⟨p, 7, none⟩ (.slice va vn vc))) W (Z.setCell ⟨p, 7, none⟩ (.slice va vn vc)) := by
  obtain ⟨_, h2, h3⟩ := h.A.wroteG hG ho hat
  obtain ⟨_, n2, n3⟩ := h.ne
  exact ⟨⟨h2, (Below.heap_setCell _ _ _ _ n3).trans ((hG.keep g (lt_heap h.box) n2).trans h.box)⟩, h3⟩
theorem or1 : ∀ y : Fin 256, bits .or .u8 1 (((y.val : Nat) : Int) * 32 % 256) = ((y.val : Nat) : Int) * 32 % 256 + 1 := by decide
theorem two_bytes (w : World) (u : UInt8) (x : Int) (hx : x = (u.toNat : Int)) : Rd (w.alloc (.cells #[.int .u8 130, .int .u8 x] U8 (0, 0))) (.slice (some ⟨w.heap.size, 0, none⟩) 2 2) [130, u] := by
  subst hx
  refine Or.inr ⟨_, 2, 2, rfl, rfl, Nat.le_refl _, by decide, fun j y hj => ?_⟩
  rw [Lib.addr_add, Nat.zero_add, cell_at (alloc_new w _)]
  match j, hj with
  | 0, hj => simp at hj; subst hj; rfl
  | 1, hj => simp at hj; subst hj; rfl

theorem S_s0 (p : Nat) (c : ConfV) (w : World) (s : SSt) (t k sz id n : Int) (v : Value) (l : List UInt8) (hv : Rd w v l) (hb : ∀ k, vblk v k → ¬ SwF p w k) (hl : l.length ≤ 1000000) (h : SwI p c w s) (hok : s.okS) (hout : s.out.length ≤ 9000000000) :
    Calls Tryz.prog 95 #[.pointer (some ⟨p, 0, none⟩), .agg (stepA 0 t k sz id n v)] w (SR p c w 0 ({ s with out := s.out ++ (msgC (strOf l) (IntKind.i32.wrap t) (IntKind.i32.wrap n)) })) := by
  obtain ⟨ov, uv, hA⟩ := h
  obtain ⟨va, vn, vc, rfl, hvn⟩ := hv.len
  have hC := CBox.start hA (stepA 0 t k sz id n (.slice va vn vc))
  obtain ⟨W, hW⟩ : ∃ W, W = w.alloc (.cells (stepA 0 t k sz id n (.slice va vn vc)) 239 (0, 0)) := ⟨_, rfl⟩
  have HW := Lib.hid hW
  rw [← hW] at hC
  have hvc : l.length % 4294967296 = l.length := by omega
  obtain ⟨y, hy⟩ : ∃ y, y = t % 256 := ⟨_, rfl⟩
  obtain ⟨z, hz⟩ : ∃ z, z = y * 32 % 256 := ⟨_, rfl⟩
  have hwt : IntKind.u8.wrap t = y := by rw [IntKind.wrap_u8, hy]
  have hm : y * 32 % 256 = z := hz.symm
  have hm2 : IntKind.u8.wrap (y * 32) = z := by rw [IntKind.wrap_u8, hz]
  have hor : bits .or .u8 1 z = z + 1 := by rw [hz]; have := or1 ⟨y.toNat, by omega⟩; simpa [Int.toNat_of_nonneg (show 0 ≤ y by omega)] using this
  obtain ⟨u, hu⟩ : ∃ u, u = b8 (IntKind.i32.wrap t * 32 + 1) := ⟨_, rfl⟩
  have hzu : z + 1 = (u.toNat : Int) := by rw [hu, b8_toNat, wrap_i32']; omega
  obtain ⟨M, hM⟩ : ∃ M, M = IntKind.i32.wrap n % 4294967296 := ⟨_, rfl⟩
  have hM1 : IntKind.u32.wrap (IntKind.i32.wrap n) = M := by rw [IntKind.wrap_u32, hM]
  have hM2 : IntKind.u64.wrap M = M := by rw [IntKind.wrap_u64]; omega
  have hMn : ((M.toNat : Nat) : Int) = M := by omega
  have HV := Lib.hid (show ∀ X, Calls Tryz.prog 101 #[.int .u64 M] X (NewR (vint M.toNat) X) from fun X => by have := S_varint M.toNat (by omega) X; rwa [hMn] at this)
  have hvl := vint32_le M.toNat (by omega)
  have hres : msgC (strOf l) (IntKind.i32.wrap t) (IntKind.i32.wrap n) = [130, u] ++ (vint M.toNat ++ (vint (l.length % 4294967296) ++ l)) := by rw [msgC, hu, hM]; rfl
  rw [hres]
  have hG := hC.g
  have hv2 : ∀ X, Fr noF noF W X → Rd X (.slice va vn vc) l := fun X hX => hv.keep (F := noF) (hC.fr.trans hX) fun _ _ x => x
  have q := fun i => (hG.at (Grew.start ov (Fr.refl noF W))).1 i
  have ap7 : W.cell? ⟨p, 7, none⟩ = some ov := q 7
  have r := fun i => (hG.at (Grew.start ov (Fr.refl noF W))).2.1 i
  have ab0 : W.cell? ⟨w.heap.size, 0, none⟩ = some (.int .i64 0) := r 0
  have ab1 : W.cell? ⟨w.heap.size, 1, none⟩ = some (.int .i64 t) := r 1
  have HB := Lib.hid (And.intro ((Fr.refl noF W).alloc (.cells #[.int .u8 130, .int .u8 (z + 1)] U8 (0, 0))) (two_bytes W u (z + 1) hzu))
  have rp7 : (W.alloc (.cells #[.int .u8 130, .int .u8 (z + 1)] U8 (0, 0))).cell? ⟨p, 7, none⟩ = some ov := (hG.at (Grew.start ov HB.out.1)).1 7
  have rb1 : (W.alloc (.cells #[.int .u8 130, .int .u8 (z + 1)] U8 (0, 0))).cell? ⟨w.heap.size, 1, none⟩ = some (.int .i64 t) := (hG.at (Grew.start ov HB.out.1)).2.1 1
  have HC := Lib.hid hC
  have HG := Lib.hid hG
  have HL := Lib.hid (And.intro hout (And.intro hvl hl))
  have HS := Lib.hid (show SwI p c w s from ⟨_, _, hA⟩)
  have HVV := Lib.hid (And.intro hv2 (show ∀ k, vblk (.slice va vn vc) k → ¬ SwF p W k from fun k hk hx => hb k hk ((SwI.quiet ⟨_, _, hA⟩ hC.fr).2.1 k hx)))
  clear hC hA hW hv hb hl hout hok hvn hvl hG q r hv2 hy hz hu hzu hM hMn hres hvc
  go_enter Tryz.func95, Tryz.ntmps95
  go_upto_region 1 with fail
  rw [← HW.out]
  go_wp2_with fail
  go_region_law (first | ((refine step_bytes (by rfl) _ _ (by rfl) 0 ov (.slice (some ⟨W.heap.size, 0, none⟩) 2 2) s.out [130, u] (by rfl) (HG.out.own (HB.out.1.trans ?_)) (by rfl) (HB.out.2.keep (F := noF) (F' := noF) ?_ fun _ _ x => x) (by have := HL.out; simp only [List.length_cons, List.length_nil]; omega) (Nat.zero_le _) ?_); (focus ((repeat (first | with_reducible exact Fr.refl _ _ | with_reducible assumption | with_reducible refine Fr.alloc ?_ _ | with_reducible refine Fr.drew ?_ | with_reducible refine Fr.drewN ?_ _ | with_reducible refine Fr.trans (F' := noF) ?_ (by with_reducible assumption) | fail)); done)); (focus ((repeat (first | with_reducible exact Fr.refl _ _ | with_reducible assumption | with_reducible refine Fr.alloc ?_ _ | with_reducible refine Fr.drew ?_ | with_reducible refine Fr.drewN ?_ _ | with_reducible refine Fr.trans (F' := noF) ?_ (by with_reducible assumption) | fail)); done)); intro za zn zc Z ho hg hat; have hzG : Grew W Z ov := Grew.more (Grew.start ov (HB.out.1.trans (by (focus ((repeat (first | with_reducible exact Fr.refl _ _ | with_reducible assumption | with_reducible refine Fr.alloc ?_ _ | with_reducible refine Fr.drew ?_ | with_reducible refine Fr.drewN ?_ _ | with_reducible refine Fr.trans (F' := noF) ?_ (by with_reducible assumption) | fail)); done))))) (OwnAt.refl W ov) hg; have hzA : OwnAt W (.slice za zn zc) ov := (OwnAt.refl W ov).next HB.out.1.size hat; have zp7 : Z.cell? ⟨p, 7, none⟩ = some ov := (HG.out.at hzG).1 7; have zf7 := (HG.out.at hzG).2.2 7; have HX := Lib.hid (HG.out.fin hzG ho hzA); clear ho hg hat hzG hzA) | fail)
  all_goals clear ap7 ab0 ab1 rp7 rb1 zp7 zf7
  all_goals go_wp2_with fail
  all_goals obtain ⟨W2, hW2⟩ : ∃ W2, W2 = Z.setCell ⟨p, 7, none⟩ (.slice za zn zc) := ⟨_, rfl⟩
  all_goals rw [← hW2]
  all_goals have HX2 := Lib.hid (show CBg p c w.heap.size { s with out := s.out ++ [130, u] } (.slice za zn zc) uv (stepA 0 t k sz id n (.slice va vn vc)) W2 ∧ Fr (SwF p W) (SwF p W2) W W2 by rw [hW2]; exact HX.out)
  all_goals clear hW2
  all_goals have ap7 : W2.cell? ⟨p, 7, none⟩ = some (.slice za zn zc) := (HX2.out.1.at (Grew.start _ (Fr.refl noF W2))).1 7
  all_goals have ab5 : W2.cell? ⟨w.heap.size, 5, none⟩ = some (.int .i64 n) := (HX2.out.1.at (Grew.start _ (Fr.refl noF W2))).2.1 5
  all_goals go_region_law (first | (go_simp; go_at_call 101; (with_reducible refine (HV.out _).mono ?_); rintro e Y ⟨yv, rfl, hyo, hyf⟩; obtain ⟨ya, yn, yc, rfl, -⟩ := hyo.rd.len; have hyr := hyo.rd; have hyF : Fr noF noF W2 Y := (by (focus ((repeat (first | with_reducible exact Fr.refl _ _ | with_reducible assumption | with_reducible refine Fr.alloc ?_ _ | with_reducible refine Fr.drew ?_ | with_reducible refine Fr.drewN ?_ _ | with_reducible refine Fr.trans (F' := noF) ?_ (by with_reducible assumption) | fail)); done))); have yp7 : Y.cell? ⟨p, 7, none⟩ = some (.slice za zn zc) := (HX2.out.1.at (Grew.start _ hyF)).1 7; clear hyo) | ((refine step_bytes (by rfl) _ _ (by rfl) 0 (.slice za zn zc) (.slice ya yn yc) (s.out ++ [130, u]) (vint M.toNat) (by rfl) (HX2.out.1.own ?_) (by rfl) ?_ (by have := HL.out; simp only [List.length_append, List.length_cons, List.length_nil]; omega) (Nat.zero_le _) ?_); (focus ((repeat (first | with_reducible exact Fr.refl _ _ | with_reducible assumption | with_reducible refine Fr.alloc ?_ _ | with_reducible refine Fr.drew ?_ | with_reducible refine Fr.drewN ?_ _ | with_reducible refine Fr.trans (F' := noF) ?_ (by with_reducible assumption) | fail)); done)); (focus ((repeat (first | with_reducible assumption | with_reducible refine Rd.keep (F := noF) (F' := noF) ?_ (Fr.alloc (Fr.refl noF _) _) (fun _ _ x => x) | with_reducible refine Rd.keep (F := noF) (F' := noF) ?_ (Fr.drew (Fr.refl noF _)) (fun _ _ x => x) | with_reducible refine Rd.keep (F := noF) (F' := noF) ?_ (by with_reducible assumption) (fun _ _ x => x) | fail)); done)); intro xa xn xc Z3 hz1 hzg hzh; have hzG : Grew W2 Z3 (.slice za zn zc) := Grew.more (Grew.start _ (by (focus ((repeat (first | with_reducible exact Fr.refl _ _ | with_reducible assumption | with_reducible refine Fr.alloc ?_ _ | with_reducible refine Fr.drew ?_ | with_reducible refine Fr.drewN ?_ _ | with_reducible refine Fr.trans (F' := noF) ?_ (by with_reducible assumption) | fail)); done)))) (OwnAt.refl W2 _) hzg; have hzA : OwnAt W2 (.slice xa xn xc) (.slice za zn zc) := (OwnAt.refl W2 _).next (Fr.size (F := noF) (F' := noF) (by (focus ((repeat (first | with_reducible exact Fr.refl _ _ | with_reducible assumption | with_reducible refine Fr.alloc ?_ _ | with_reducible refine Fr.drew ?_ | with_reducible refine Fr.drewN ?_ _ | with_reducible refine Fr.trans (F' := noF) ?_ (by with_reducible assumption) | fail)); done)))) hzh; have zp7 : Z3.cell? ⟨p, 7, none⟩ = some (.slice za zn zc) := (HX2.out.1.at hzG).1 7; have zf7 := (HX2.out.1.at hzG).2.2 7; have HX3 := Lib.hid (HX2.out.1.fin hzG hz1 hzA); clear hz1 hzg hzh hzG hzA) | fail)
  all_goals clear ap7 ab5 yp7 hyr hyF hyf zp7 zf7
  all_goals obtain ⟨W3, hW3⟩ : ∃ W3, W3 = Z3.setCell ⟨p, 7, none⟩ (.slice xa xn xc) := ⟨_, rfl⟩
  all_goals have HX4 := Lib.hid (show CBg p c w.heap.size { s with out := (s.out ++ [130, u]) ++ vint M.toNat } (.slice xa xn xc) uv (stepA 0 t k sz id n (.slice va vn vc)) W3 ∧ Fr (SwF p W) (SwF p W3) W W3 by rw [hW3]; exact ⟨HX3.out.1, HX2.out.2.trans HX3.out.2⟩)
  all_goals have HT := Lib.hid (S_wtext p c W3 { s with out := (s.out ++ [130, u]) ++ vint M.toNat } (.slice va vn vc) l ((HVV.out.1 W (Fr.refl noF W)).keep HX4.out.2 fun j hj => HVV.out.2 j hj) (fun j hj hx => HVV.out.2 j hj (HX4.out.2.foot j ((HVV.out.1 W (Fr.refl noF W)).blt j hj) hx)) HL.out.2.2 ⟨_, _, HX4.out.1.A⟩ (by have := HL.out; simp only [List.length_append, List.length_cons, List.length_nil]; omega))
  all_goals have HS3 := Lib.hid (show ∀ Y, SwI p c Y { s with out := (s.out ++ [130, u]) ++ vint M.toNat ++ (vint (l.length % 4294967296) ++ l) } → Fr (SwF p W3) (SwF p Y) W3 Y → SR p c w 0 { s with out := s.out ++ ([130, u] ++ (vint M.toNat ++ (vint (l.length % 4294967296) ++ l))) } (.returned (.int .i64 0)) Y from fun Y h1 h2 => by rw [List.append_assoc, List.append_assoc] at h1; exact SR.under (k := 0) HS.out HC.out.fr ⟨rfl, h1, HX4.out.2.trans h2⟩)
  all_goals have ab0 : W3.cell? ⟨w.heap.size, 0, none⟩ = some (.int .i64 0) := (HX4.out.1.at (Grew.start _ (Fr.refl noF W3))).2.1 0
  all_goals have ab6 : W3.cell? ⟨w.heap.size, 6, none⟩ = some (.slice va vn vc) := (HX4.out.1.at (Grew.start _ (Fr.refl noF W3))).2.1 6
  all_goals rw [← hW3]
  all_goals clear hW3
  all_goals go_wp2_with fail
  all_goals (with_reducible refine HT.out.mono ?_)
  all_goals rintro e Y4 ⟨rfl, hy1, hy2⟩
  all_goals have HX5 := Lib.hid (HS3.out Y4 hy1 hy2)
  all_goals clear hy1 hy2 ab0 ab6
  all_goals go_wp2
  all_goals go_ret
  all_goals exact HX5.out

end Go.Proofs.YtdifknecndlklaaGreatDoor
namespace Go.Proofs.YtdifknecndlklaaGreatDoor
open Go Go.RowKit
set_option maxHeartbeats 4000000
set_option maxRecDepth 100000
set_option linter.all false

theorem S_c18 (p : Nat) (c : ConfV) (w : World) (s : SSt) (t kk sz id n : Int) (v : Value) (l : List UInt8) (hv : Rd w v l) (hb : ∀ k, vblk v k → ¬ SwF p w k) (hl : l.length ≤ 1000000) (h : SwI p c w s) (hok : s.okS) (hout : s.out.length ≤ 9000000000) :
    Calls Tryz.prog 105 #[.pointer (some ⟨p, 0, none⟩), .agg (stepA 18 t kk sz id n v)] w (SR p c w 0 ({ s with out := s.out ++ (le8 ((IntKind.u64.wrap n).toNat : Int)) })) := by
  obtain ⟨ov, uv, hA⟩ := h
  obtain ⟨va, vn, vc, rfl, hvn⟩ := hv.len
  have hC := CBox.start hA (stepA 18 t kk sz id n (.slice va vn vc))
  obtain ⟨W, hW⟩ : ∃ W, W = w.alloc (.cells (stepA 18 t kk sz id n (.slice va vn vc)) 239 (0, 0)) := ⟨_, rfl⟩
  have HW := Lib.hid hW
  rw [← hW] at hC
  obtain ⟨V, hV⟩ : ∃ V, V = (n % 18446744073709551616).toNat := ⟨_, rfl⟩
  have hres : le8 ((IntKind.u64.wrap n).toNat : Int) = Lib.leBytes 8 V := by rw [le8, hV, IntKind.wrap_u64]; congr 1; omega
  rw [hres]
  have HVV := Lib.hid (show ∀ j : Nat, IntKind.u64.wrap n / 2 ^ (8 * j) % 256 = ((V / 256 ^ j % 256).toUInt8.toNat : Int) from fun j => by rw [hV]; exact big_val n j)
  have hG := hC.g
  have r := fun i => (hG.at (Grew.start ov (Fr.refl noF W))).2.1 i
  have ab0 : W.cell? ⟨w.heap.size, 0, none⟩ = some (.int .i64 18) := r 0
  have HC := Lib.hid hC
  have HG := Lib.hid hG
  have HL := Lib.hid hout
  have HS := Lib.hid (show SwI p c w s from ⟨_, _, hA⟩)
  have HQ := Lib.hid (SwI.quiet (show SwI p c W s from ⟨_, _, hG.A⟩) (Fr.refl noF W)).2.2
  clear hC hA hW hv hb hl hout hok hvn hG r hV hres
  go_enter Tryz.func105, Tryz.ntmps105
  go_upto_region 1 with fail
  rw [← HW.out]
  go_wp2_with fail
  go_loopw [6] (fun i wr => ∃ (k : Nat) (ov1 : Value), i = .int .i64 k ∧ k ≤ 8 ∧ CBg p c w.heap.size { s with out := s.out ++ Lib.leBytes k V } ov1 uv (stepA 18 t kk sz id n (.slice va vn vc)) wr ∧ Fr (SwF p W) (SwF p wr) W wr) (fun i _ => 8 - (intOf i).toNat)
  case atStart => exact ⟨0, ov, rfl, by omega, by simpa [Lib.leBytes] using HG.out, HQ.out⟩
  case round =>
    obtain ⟨k, ov1, rfl, hk, hg1, hfr1⟩ := hrel
    have hk0 : (0 : Int) ≤ (k : Int) := by omega
    by_cases hlt : k < 8
    · have hk1 : (k : Int) < 8 := by omega
      have hk2 : (k : Int) ≤ 7 := by omega
      have hw8 : IntKind.i64.wrap (8 * (k : Int)) = 8 * (k : Int) := by rw [IntKind.wrap_i64]; omega
      have hw9 : (0 : Int) ≤ 8 * (k : Int) := by omega
      have hw7 : ¬ (8 * (k : Int) < 0) := by omega
      have r := fun i => (hg1.at (Grew.start ov1 (Fr.refl noF wr))).2.1 i
      have b5 : wr.cell? ⟨w.heap.size, 5, none⟩ = some (.int .i64 n) := r 5
      have p7 : wr.cell? ⟨p, 7, none⟩ = some ov1 := (hg1.at (Grew.start ov1 (Fr.refl noF wr))).1 7
      have HX1 := Lib.hid (And.intro ((Fr.refl noF wr).alloc (.cells #[.int .u8 (IntKind.u64.wrap n / 2 ^ (8 * k) % 256)] U8 (0, 0))) (own_byte (u := (V / 256 ^ k % 256).toUInt8) (HVV.out k) (alloc_new wr (.cells #[.int .u8 (IntKind.u64.wrap n / 2 ^ (8 * k) % 256)] U8 (0, 0)))))
      have HX2 := Lib.hid (And.intro ((Fr.refl noF wr).alloc (.cells #[.int .u8 (IntKind.u8.wrap (IntKind.u64.wrap n / 2 ^ (8 * (k : Int)).toNat))] U8 (0, 0))) (own_byte (u := (V / 256 ^ k % 256).toUInt8) (by rw [IntKind.wrap_u8, show (8 * (k : Int)).toNat = 8 * k by omega]; exact HVV.out k) (alloc_new wr (.cells #[.int .u8 (IntKind.u8.wrap (IntKind.u64.wrap n / 2 ^ (8 * (k : Int)).toNat))] U8 (0, 0)))))
      have q7 : (wr.alloc (.cells #[.int .u8 (IntKind.u64.wrap n / 2 ^ (8 * k) % 256)] U8 (0, 0))).cell? ⟨p, 7, none⟩ = some ov1 := (hg1.at (Grew.start ov1 HX1.out.1)).1 7
      have q5 : (wr.alloc (.cells #[.int .u8 (IntKind.u64.wrap n / 2 ^ (8 * k) % 256)] U8 (0, 0))).cell? ⟨w.heap.size, 5, none⟩ = some (.int .i64 n) := (hg1.at (Grew.start ov1 HX1.out.1)).2.1 5
      have s7 : (wr.alloc (.cells #[.int .u8 (IntKind.u8.wrap (IntKind.u64.wrap n / 2 ^ (8 * (k : Int)).toNat))] U8 (0, 0))).cell? ⟨p, 7, none⟩ = some ov1 := (hg1.at (Grew.start ov1 HX2.out.1)).1 7
      have s5 : (wr.alloc (.cells #[.int .u8 (IntKind.u8.wrap (IntKind.u64.wrap n / 2 ^ (8 * (k : Int)).toNat))] U8 (0, 0))).cell? ⟨w.heap.size, 5, none⟩ = some (.int .i64 n) := (hg1.at (Grew.start ov1 HX2.out.1)).2.1 5
      have HG1 := Lib.hid hg1
      have HF1 := Lib.hid (And.intro hk (And.intro hlt hfr1))
      have hln : (Lib.leBytes k V).length = k := Lib.leBytes_length k V
      have HLN := Lib.hid hln
      clear hg1 hfr1 hk hlt r ab0 HG HQ hln
      go_wp2_with fail
      go_region_law (first | ((refine step_bytes (by rfl) _ _ (by rfl) 0 ov1 (.slice (some ⟨wr.heap.size, 0, none⟩) 1 1) (s.out ++ Lib.leBytes k V) [(V / 256 ^ k % 256).toUInt8] (by rfl) (HG1.out.own (HX1.out.1.trans ?_)) (by rfl) (HX1.out.2.keep (F := noF) (F' := noF) ?_ fun _ _ x => x) (by have := HL.out; have := HLN.out; have := HF1.out.1; simp only [List.length_append, List.length_singleton]; omega) (Nat.zero_le _) ?_); (focus ((repeat (first | with_reducible exact Fr.refl _ _ | with_reducible assumption | with_reducible refine Fr.alloc ?_ _ | with_reducible refine Fr.drew ?_ | with_reducible refine Fr.drewN ?_ _ | with_reducible refine Fr.trans (F' := noF) ?_ (by with_reducible assumption) | fail)); done)); (focus ((repeat (first | with_reducible exact Fr.refl _ _ | with_reducible assumption | with_reducible refine Fr.alloc ?_ _ | with_reducible refine Fr.drew ?_ | with_reducible refine Fr.drewN ?_ _ | with_reducible refine Fr.trans (F' := noF) ?_ (by with_reducible assumption) | fail)); done)); intro za zn zc Z ho hg hat; have hzG : Grew wr Z ov1 := Grew.more (Grew.start ov1 (HX1.out.1.trans (by (focus ((repeat (first | with_reducible exact Fr.refl _ _ | with_reducible assumption | with_reducible refine Fr.alloc ?_ _ | with_reducible refine Fr.drew ?_ | with_reducible refine Fr.drewN ?_ _ | with_reducible refine Fr.trans (F' := noF) ?_ (by with_reducible assumption) | fail)); done))))) (OwnAt.refl wr ov1) hg; have hzA : OwnAt wr (.slice za zn zc) ov1 := (OwnAt.refl wr ov1).next HX1.out.1.size hat; have zp7 : Z.cell? ⟨p, 7, none⟩ = some ov1 := (HG1.out.at hzG).1 7; have zf7 := (HG1.out.at hzG).2.2 7; have HX := Lib.hid (HG1.out.fin hzG ho hzA); clear ho hg hat hzG hzA) | ((refine step_bytes (by rfl) _ _ (by rfl) 0 ov1 (.slice (some ⟨wr.heap.size, 0, none⟩) 1 1) (s.out ++ Lib.leBytes k V) [(V / 256 ^ k % 256).toUInt8] (by rfl) (HG1.out.own (HX2.out.1.trans ?_)) (by rfl) (HX2.out.2.keep (F := noF) (F' := noF) ?_ fun _ _ x => x) (by have := HL.out; have := HLN.out; have := HF1.out.1; simp only [List.length_append, List.length_singleton]; omega) (Nat.zero_le _) ?_); (focus ((repeat (first | with_reducible exact Fr.refl _ _ | with_reducible assumption | with_reducible refine Fr.alloc ?_ _ | with_reducible refine Fr.drew ?_ | with_reducible refine Fr.drewN ?_ _ | with_reducible refine Fr.trans (F' := noF) ?_ (by with_reducible assumption) | fail)); done)); (focus ((repeat (first | with_reducible exact Fr.refl _ _ | with_reducible assumption | with_reducible refine Fr.alloc ?_ _ | with_reducible refine Fr.drew ?_ | with_reducible refine Fr.drewN ?_ _ | with_reducible refine Fr.trans (F' := noF) ?_ (by with_reducible assumption) | fail)); done)); intro za zn zc Z ho hg hat; have hzG : Grew wr Z ov1 := Grew.more (Grew.start ov1 (HX2.out.1.trans (by (focus ((repeat (first | with_reducible exact Fr.refl _ _ | with_reducible assumption | with_reducible refine Fr.alloc ?_ _ | with_reducible refine Fr.drew ?_ | with_reducible refine Fr.drewN ?_ _ | with_reducible refine Fr.trans (F' := noF) ?_ (by with_reducible assumption) | fail)); done))))) (OwnAt.refl wr ov1) hg; have hzA : OwnAt wr (.slice za zn zc) ov1 := (OwnAt.refl wr ov1).next HX2.out.1.size hat; have zp7 : Z.cell? ⟨p, 7, none⟩ = some ov1 := (HG1.out.at hzG).1 7; have zf7 := (HG1.out.at hzG).2.2 7; have HX := Lib.hid (HG1.out.fin hzG ho hzA); clear ho hg hat hzG hzA) | fail)
      all_goals clear p7 b5 q7 q5 s7 s5
      all_goals go_wp2_with fail
      all_goals go_roundw
      all_goals first | (have := HF1.out.2.1; simp [intOf]; omega) | skip
      all_goals exact ⟨k + 1, _, by go_num, by have := HF1.out.2.1; omega, by have h := HX.out.1; rw [leBytes_snoc, ← List.append_assoc]; exact h, HF1.out.2.2.trans HX.out.2⟩
    · obtain rfl : k = 8 := by omega
      have HX := Lib.hid (show SR p c w 0 { s with out := s.out ++ Lib.leBytes 8 V } (.returned (.int .i64 0)) wr from SR.under (k := 0) HS.out HC.out.fr ⟨rfl, ⟨_, _, hg1.A⟩, hfr1⟩)
      clear hg1 hfr1 hk hlt ab0
      go_wp2
      go_ret
      exact HX.out

end Go.Proofs.YtdifknecndlklaaGreatDoor
