/- impl.Write by whatever protocol: steps over a new buffer. Printed by gen_rpc.py. -/
import Derived.Test.YtkfkieebcahiiaaGreatDoorZE
import Derived.Test.YtkfkieebcahiiaaGreatDoorZ6
set_option linter.all false
namespace Go.Proofs.YtkfkieebcahiiaaGreatDoor
open Go Go.RowKit
set_option maxHeartbeats 2000000
set_option maxRecDepth 100000
set_option linter.all false

theorem wfold_ops {S : Type} (P : WProto S) : ∀ (xs : List Stp) (ops : List WOp) (s : S), xs.map Stp.wop = ops.map some → xs.foldl (wstep P) s = P.steps s ops
  | [], [], s, _ => rfl
  | x :: xs, op :: ops, s, h => by
    simp only [List.map_cons, List.cons.injEq] at h
    rw [List.foldl_cons, wfold_ops P xs ops _ h.2]
    unfold wstep
    rw [h.1]
    rfl
  | [], op :: ops, s, h => by simp at h
  | x :: xs, [], s, h => by simp at h
theorem wgood_ops {S : Type} (P : WProto S) : ∀ (xs : List Stp) (ops : List WOp) (s : S), xs.map Stp.wop = ops.map some → P.goods s ops → ∀ (k : Nat) x, xs[k]? = some x → wgood P ((xs.take k).foldl (wstep P) s) x
  | [], ops, s, _, _, k, x, hx => by simp at hx
  | y :: xs, [], s, h, _, k, x, hx => by simp at h
  | y :: xs, op :: ops, s, h, hg, 0, x, hx => by
    simp only [List.map_cons, List.cons.injEq] at h
    simp only [List.getElem?_cons_zero, Option.some.injEq] at hx
    subst hx
    show wgood P s y
    unfold wgood
    rw [h.1]
    exact hg.1
  | y :: xs, op :: ops, s, h, hg, k + 1, x, hx => by
    simp only [List.map_cons, List.cons.injEq] at h
    rw [List.take_succ_cons, List.foldl_cons]
    refine wgood_ops P xs ops _ h.2 ?_ k x (by simpa using hx)
    unfold wstep
    rw [h.1]
    exact hg.2

theorem write_prepA (c : ConfV) (v : Value) (xs : List Stp) (w W0 : World) (hv : RdS w noF v xs) (hn : xs.length ≤ 100000000) (ops : List WOp) (hops : xs.map Stp.wop = ops.map some) (hl : mostAll ops ≤ LIM) (hr : rngAll ops) (hd : c.proto = 1 → dep CSt.new.stack.length ops ≠ none) (hf0 : Fr noF noF w W0)
    (m b : Nat) (w1 : World) (hm : Mem w1 m b) (hb : Buf w1 b 0 true []) (hf : Fr noF (BF w1 b) W0 w1) (hmn : W0.heap.size ≤ m) :
    Calls Tryz.prog 44 #[c.val, memI m] w1 (fun e w2 => ∃ PT r, e = .returned (.iface PT r) ∧ Calls Tryz.prog 61 #[.iface PT r, v] w2 (fun e w3 => ∃ kv, e = .returned kv ∧ WEnd w w3 m b (encAll c CSt.new ops) xs.length kv)) := by
  refine (Prot_any m b c w1 hm hb).mono ?_
  rintro e w2 ⟨P, rfl, hM, hI, hF⟩
  have hfA : Fr noF (P.F w2) w w2 := hf0.trans ((hf.conv (F'' := fun k => BF w1 b k ∨ k = m) fun k hk hx => by
    rcases hx with hx | rfl
    · exact hx
    · omega).trans hF)
  have hg := hM.goods ops (0, [], CSt.new) CSt.new_ok (by rw [Nat.zero_add]; exact hl) hr hd
  refine ⟨P.T, P.recv, rfl, (I_writes P hM.ok v xs (0, [], CSt.new) w2 hI (hv.new hfA) hn fun k x hx => wgood_ops P xs ops _ hops hg k x hx).mono ?_⟩
  rintro e w3 ⟨kv, rfl, hW⟩
  obtain ⟨hI3, hfr, hown, hap⟩ := hW
  rw [wfold_ops P xs ops _ hops, hM.steps] at hI3
  simp only [Nat.zero_add, List.nil_append] at hI3
  obtain ⟨h1, h2⟩ := hM.mem _ _ hI3
  exact ⟨kv, rfl, h1, h2.tight, (hfA.trans hfr).conv fun k _ hk => hM.foot _ _ hk, hown.lower hfA.size⟩

theorem I_Write_ops (c : ConfV) (v : Value) (xs : List Stp) (w : World) (hv : RdS w noF v xs) (hn : xs.length ≤ 100000000) (ops : List WOp) (hops : xs.map Stp.wop = ops.map some) (hl : mostAll ops ≤ LIM) (hr : rngAll ops) (hd : c.proto = 1 → dep CSt.new.stack.length ops ≠ none) :
    Calls Tryz.prog 34 #[c.val, v] w (WriteR w (encAll c CSt.new ops) xs.length) := by
  have h2 := fun m b w1 hm hb hf hmn => write_prepA c v xs w (w.alloc (.cells #[.int .i64 c.proto, .bool c.plain, .bool c.sr, .bool c.sw, .int .i32 c.msg, .int .i32 c.con, .int .i32 c.fra] 23 (0, 0))) hv hn ops hops hl hr hd ((Fr.refl noF w).alloc _) m b w1 hm hb hf hmn
  have h1 := NewTMemoryBuffer_raw (w.alloc (.cells #[.int .i64 c.proto, .bool c.plain, .bool c.sr, .bool c.sw, .int .i32 c.msg, .int .i32 c.con, .int .i32 c.fra] 23 (0, 0)))
  obtain ⟨L, hL⟩ : ∃ L, L = encAll c CSt.new ops := ⟨_, rfl⟩
  obtain ⟨N, hN⟩ : ∃ N, N = xs.length := ⟨_, rfl⟩
  rw [← hL, ← hN] at h2 ⊢
  obtain ⟨pr, pl, sr, sw, ms, co, fr⟩ := c
  have H1 := Lib.hid h1
  have H2 := Lib.hid h2
  clear h1 h2 hL hN hv hn hl hr hd hops
  go_enter Tryz.func34, Tryz.ntmps34
  go_wp2_with fail
  refine H1.out.mono ?_
  rintro e w1 ⟨m, b, rfl, hm, hb, hf, hmn⟩
  have n1 := hf.block (alloc_new w _) fun x => x
  have c0 := cell_at n1 0
  have c1 := cell_at n1 1
  have c2 := cell_at n1 2
  have c3 := cell_at n1 3
  have c4 := cell_at n1 4
  have c5 := cell_at n1 5
  have c6 := cell_at n1 6
  simp only [List.getElem?_toArray, List.getElem?_cons_zero, List.getElem?_cons_succ] at c0 c1 c2 c3 c4 c5 c6
  have HP := Lib.hid (H2.out m b w1 hm hb hf hmn)
  clear hm hb hf hmn n1
  go_wp2_with fail
  refine HP.out.mono ?_
  rintro e w2 ⟨PT, r, rfl, hx⟩
  have HX := Lib.hid hx
  clear hx c0 c1 c2 c3 c4 c5 c6
  go_wp2_with fail
  refine HX.out.mono ?_
  rintro e w3 ⟨kv, rfl, hE⟩
  have m0 := hE.mem
  have HE := Lib.hid hE
  clear hE
  go_wp2_with fail
  refine (Buf_Bytes b _ true L w3 HE.out.buf).mono ?_
  rintro e w4 ⟨bv, q, rfl, rfl, hR, hblk⟩
  have HR := Lib.hid (And.intro hR hblk)
  clear hR hblk m0
  go_wp2
  go_ret2
  refine ⟨bv, kv, rfl, HR.out.1, fun k hk => ?_, HE.out.own.drewN q, (HE.out.fr.conv fun _ _ x => x.elim).drewN q⟩
  have hB := HR.out.2 k hk
  refine Nat.le_of_not_lt fun hlt => ?_
  exact HE.out.fr.foot k hlt hB
end Go.Proofs.YtkfkieebcahiiaaGreatDoor
