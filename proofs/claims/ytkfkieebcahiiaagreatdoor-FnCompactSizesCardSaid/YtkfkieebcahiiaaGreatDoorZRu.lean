/- The thin package reads a uuid, by whatever protocol. -/
import Derived.Deep.RegionHeld3
import Derived.Test.YtkfkieebcahiiaaGreatDoorZRp
import Derived.Test.YtkfkieebcahiiaaGreatDoorZ3
import Derived.Test.YtkfkieebcahiiaaGreatDoorZ5
set_option linter.all false
namespace Go.Proofs.YtkfkieebcahiiaaGreatDoor
open Go Go.RowKit
set_option maxHeartbeats 1000000
set_option maxRecDepth 100000

theorem alloc_new2 (w : World) (o0 o1 o2 : Obj) : (((w.alloc o0).alloc o1).alloc o2).drew.heap[w.heap.size + 1 + 1]? = some o2 := (new3 w o0 o1 o2).2.2
theorem there_new (w : World) (s : List UInt8) (hs : s.length = 16) : (w.alloc (.cells zL.toArray TU (0, 0))).there w.heap.size 0 (Lib.byteCells s).length := there_of (alloc_new w _) (by rw [bcells_length, hs]; exact Nat.le_refl _)
theorem there_old {w : World} {k : Nat} (h : w.heap[k]? = some (.cells zL.toArray TU (0, 0))) (s : List UInt8) (hs : s.length = 16) : w.there k 0 (Lib.byteCells s).length := there_of h (by rw [bcells_length, hs]; exact Nat.le_refl _)

theorem fr_cellsG {W : World} {b : Nat} (vs : List Value) (o : Nat) : Fr (fun k => k = b) (fun k => k = b) W (W.setCells b o vs) := by
  suffices h : ∀ (vs : List Value) (o : Nat) (W' : World), Fr (fun k => k = b) (fun k => k = b) W W' → Fr (fun k => k = b) (fun k => k = b) W (W'.setCells b o vs) from h vs o W (Fr.refl _ W)
  intro vs
  induction vs with
  | nil => intro o W' h; exact h
  | cons v vs ih => intro o W' h; exact ih (o + 1) _ (h.setCell (p := ⟨b, o, none⟩) (Or.inl rfl) v)
theorem Fr.weak {F G : Nat → Prop} {w w' : World} (h : Fr F F w w') (c : ∀ k, F k → G k) : Fr G G w w' := ⟨h.os, h.tape, h.output, h.size, fun k hk hn => h.keep k hk fun x => hn (c k x), fun _ _ x => x⟩
theorem Fr.predrew {F F' : Nat → Prop} {A X : World} (h : Fr F F' A X) : Fr F F' A.drew X := ⟨h.os, h.tape, h.output, h.size, h.keep, h.foot⟩
variable {S : Type} (P : RProto S) (hP : P.Ok)
include hP
theorem I_read21 (w : World) (s : S) (r : Int × RVal × S) (t k sz id n : Int) (vS : Value) (h : P.I w s) (hr : P.next s .uuid = some r) :
    Calls Tryz.prog 89 #[.iface P.T P.recv, .agg (stepA 21 t k sz id n vS)] w (GR P w r (fun _ vS => #[.int .i64 0, .int .i64 0, .int .i64 0, .int .i64 0, .int .i64 0, .int .i64 0, vS]) (fun x => x.s)) := by
  have hfr : Fr noF noF w ((w.alloc (.cells (stepA 21 t k sz id n vS) 63 (0, 0))).alloc (.cells gotZ TGot (0, 0))).drew := (((Fr.refl noF w).alloc _).alloc _).drew
  have hbx : ((w.alloc (.cells (stepA 21 t k sz id n vS) 63 (0, 0))).alloc (.cells gotZ TGot (0, 0))).drew.heap[w.heap.size + 1]? = some (.cells gotZ TGot (0, 0)) := (new2 w _ _).2
  have hlt : w.heap.size + 1 < ((w.alloc (.cells (stepA 21 t k sz id n vS) 63 (0, 0))).alloc (.cells gotZ TGot (0, 0))).drew.heap.size := by simp
  have hb2 : ∀ W, Fr noF noF ((w.alloc (.cells (stepA 21 t k sz id n vS) 63 (0, 0))).alloc (.cells gotZ TGot (0, 0))).drew W → Calls Tryz.prog (P.fn "ReadUUID") #[P.recv, .iface 236 (.agg #[])] W (fun e w' => ∃ x v ev s', e = .returned (.tuple #[uuidV x.s, ev]) ∧ RX P w r .uuid x v ev s' w' ∧ (¬ P.F w' (w.heap.size + 1) ∧ w'.heap[w.heap.size + 1]? = some (.cells gotZ TGot (0, 0))) ∧
      (∀ k, w.heap.size ≤ k → k < W.heap.size → ¬ P.F w' k) ∧ (∀ k o, w.heap.size ≤ k → W.heap[k]? = some o → w'.heap[k]? = some o)) := fun W hW => by
    refine (hP.beside (W := W) .uuid h (hfr.trans hW) hr).mono ?_
    rintro e w' ⟨x, v, ev, s', he, hx, hF, hk⟩
    exact ⟨x, v, ev, s', he, hx, ⟨hF _ (by omega) (Nat.lt_of_lt_of_le hlt hW.size), hk _ _ (by omega) (hW.block hbx fun x => x)⟩, hF, hk⟩
  have hm : ∀ w, (method 512 P.T P.recv "ReadUUID").run Tryz.prog w = .ok (P.fn "ReadUUID", P.recv) w := hP.meth .uuid
  have ha : ∀ w, (nilAhead 512 P.T P.recv "ReadUUID").run Tryz.prog w = .ok (some false) w := hP.ahead .uuid
  have he : ∀ xs w, (callFunc (P.fn "ReadUUID") xs).run Tryz.prog w = .ok (.enter (P.fn "ReadUUID") xs) w := hP.enter .uuid
  obtain ⟨f, hf⟩ : ∃ f, f = P.fn "ReadUUID" := ⟨_, rfl⟩
  obtain ⟨PT, hPT⟩ : ∃ f, f = P.T := ⟨_, rfl⟩
  obtain ⟨rc, hrc⟩ : ∃ f, f = P.recv := ⟨_, rfl⟩
  rw [← hf, ← hrc] at hb2
  rw [← hf] at he
  rw [← hf, ← hrc, ← hPT] at hm
  rw [← hrc, ← hPT] at ha
  rw [← hPT, ← hrc]
  have HB := Lib.hid hb2
  have HC := Lib.hid I_ctx
  have HQ := Lib.hid hP
  clear hb2 hf hPT hrc hP hr h hfr hbx hlt
  go_enter Tryz.func89, Tryz.ntmps89
  go_wp2_with fail
  go_region_held3 (fun _ => True) (exact True.intro) (first | (go_at_call 45; refine (HC.out _).mono ?_; rintro e w1 ⟨rfl, rfl⟩) | ((with_reducible refine (HB.out _ (Fr.refl noF _)).mono ?_); rintro e w2 ⟨x, v, ev, s', rfl, hx, hg, hF, hk⟩; have hs16 : x.s.length = 16 := hx.fits; have hone := Lib.byteCells_one x.s; have hinf : (Tryz.prog.info? TU).map (·.size) = some (Lib.byteCells x.s).length := (by rw [info_TU, bcells_length, hs16]); have ht := there_new w2 x.s hs16; have HX := Lib.hid hx; have HG := Lib.hid hg; have HS := Lib.hid hs16; have HK := Lib.hid (And.intro hF hk); clear hx hg hs16 hF hk) | ((with_reducible refine (HB.out _ (((Fr.refl noF _).alloc _).drew.predrew)).mono ?_); rintro e w2 ⟨x, v, ev, s', rfl, hx, hg, hF, hk⟩; have hs16 : x.s.length = 16 := hx.fits; have hone := Lib.byteCells_one x.s; have hinf : (Tryz.prog.info? TU).map (·.size) = some (Lib.byteCells x.s).length := (by rw [info_TU, bcells_length, hs16]); have ht : w2.there (w.heap.size + 1 + 1) 0 (Lib.byteCells x.s).length := there_old (hk (w.heap.size + 1 + 1) _ (by omega) (alloc_new2 w _ _ _)) x.s hs16; have HX := Lib.hid hx; have HG := Lib.hid hg; have HS := Lib.hid hs16; have HK := Lib.hid (And.intro hF hk); clear hx hg hs16 hF hk))
  all_goals first
    | (
      have hbk : (w2.alloc (.cells zL.toArray TU (0, 0))).heap[w2.heap.size]? = some (.cells zL.toArray TU (0, 0)) := alloc_new w2 _
      have hfz : Fr noF noF w2 ((w2.alloc (.cells zL.toArray TU (0, 0))).setCells w2.heap.size 0 (Lib.byteCells x.s)) := fr_cells ((Fr.refl noF w2).alloc _) (Nat.le_refl _) hbk _ _
      have hrd : Rd ((w2.alloc (.cells zL.toArray TU (0, 0))).setCells w2.heap.size 0 (Lib.byteCells x.s)) (.slice (some ⟨w2.heap.size, 0, none⟩) 16 16) x.s := rd_range (World.rangeAt_setCells_same _ _ 0 _ (there_of hbk (by rw [bcells_length, HS.out]; exact Nat.le_refl _))) HS.out
      have HZ := Lib.hid hfz
      have HD := Lib.hid hrd
      have HBk := Lib.hid hbk
      clear hfz hrd hbk hone hinf ht
      go_wp2_with fail
      refine (I_owned _ x.s _ HD.out (by rw [HS.out]; decide)).mono ?_
      rintro e X ⟨vS, rfl, hown, hcf⟩
      obtain ⟨ca, cn, cc, rfl, -⟩ := hown.rd.len
      have hzx := HZ.out.size
      have HR := Lib.hid (And.intro hown.rd (And.intro (fun k hk => Nat.le_trans hzx (hown.blk k hk)) (HZ.out.trans hcf)))
      clear hown hcf hzx
      have hbx := HR.out.2.2.block HG.out.2 (fun x => x)
      have c0 := cell_at hbx 0; have c1 := cell_at hbx 1; have c2 := cell_at hbx 2; have c3 := cell_at hbx 3; have c4 := cell_at hbx 4; have c5 := cell_at hbx 5; have c6 := cell_at hbx 6; have ff := free_at hbx
      simp only [gotZ, List.getElem?_toArray, List.getElem?_cons_zero, List.getElem?_cons_succ] at c0 c1 c2 c3 c4 c5 c6
      go_wp2
      have hd := cell_at (store7_at hbx (.int .i64 0) (.int .i64 0) (.int .i64 0) (.int .i64 0) (.int .i64 0) (.int .i64 0) (.slice ca cn cc))
      have d0 := hd 0; have d1 := hd 1; have d2 := hd 2; have d3 := hd 3; have d4 := hd 4; have d5 := hd 5; have d6 := hd 6
      simp only [List.getElem?_toArray, List.getElem?_cons_zero, List.getElem?_cons_succ] at d0 d1 d2 d3 d4 d5 d6
      obtain ⟨q1, q2, q3, q4⟩ := RX.after HQ.out (G := (fun k => k = w.heap.size + 1)) HX.out (store7_fr (k := w.heap.size + 1) (HR.out.2.2.wide (G := (fun k => k = w.heap.size + 1))) (Or.inl rfl) (.int .i64 0) (.int .i64 0) (.int .i64 0) (.int .i64 0) (.int .i64 0) (.int .i64 0) (.slice ca cn cc)) (fun k hk => by subst hk; exact ⟨by omega, HG.out.1, tag_got HG.out.2⟩)
      have qr : Rd _ (.slice ca cn cc) _ := (HR.out.1).keep (store7_fr (Fr.refl (fun k => k = w.heap.size + 1) _) (Or.inl rfl) (.int .i64 0) (.int .i64 0) (.int .i64 0) (.int .i64 0) (.int .i64 0) (.int .i64 0) (.slice ca cn cc)) (fun k hk e => by have := HR.out.2.1 k hk; have := lt_heap HG.out.2; omega)
      have qf := RX.fresh HQ.out HX.out q4 (vS := .slice ca cn cc) (fun k hk => by have := HR.out.2.1 k hk; omega)
      clear hd hbx c0 c1 c2 c3 c4 c5 c6 ff 
      refine bodyPost_ret (v := .tuple #[.agg #[.int .i64 0, .int .i64 0, .int .i64 0, .int .i64 0, .int .i64 0, .int .i64 0, .slice ca cn cc], ev]) ?_ rfl ⟨x, .slice ca cn cc, ev, s', HX.out.val, ?_, q1, q2, q3, qr, qf⟩
      · rw [results_cell_tmp rfl]; clear q1 q2 q3 q4 HZ HD HBk HS HK HX HG HB HC HQ hm ha he qr qf; go_simp; done
      · rfl)
    | (
      have hbk : w2.heap[w.heap.size + 1 + 1]? = some (.cells zL.toArray TU (0, 0)) := HK.out.2 (w.heap.size + 1 + 1) _ (by omega) (alloc_new2 w _ _ _)
      have hnf : ¬ P.F w2 (w.heap.size + 1 + 1) := HK.out.1 (w.heap.size + 1 + 1) (by omega) (by simp)
      have hfz : Fr (fun k => k = w.heap.size + 1 + 1) (fun k => k = w.heap.size + 1 + 1) w2 (w2.setCells (w.heap.size + 1 + 1) 0 (Lib.byteCells x.s)) := fr_cellsG _ _
      have hrd : Rd (w2.setCells (w.heap.size + 1 + 1) 0 (Lib.byteCells x.s)) (.slice (some ⟨(w.heap.size + 1 + 1), 0, none⟩) 16 16) x.s := rd_range (World.rangeAt_setCells_same _ _ 0 _ (there_of hbk (by rw [bcells_length, HS.out]; exact Nat.le_refl _))) HS.out
      have HZ := Lib.hid hfz
      have HD := Lib.hid hrd
      have HBk := Lib.hid (And.intro hbk hnf)
      clear hfz hrd hbk hone hinf ht hnf
      go_wp2_with fail
      refine (I_owned _ x.s _ HD.out (by rw [HS.out]; decide)).mono ?_
      rintro e X ⟨vS, rfl, hown, hcf⟩
      obtain ⟨ca, cn, cc, rfl, -⟩ := hown.rd.len
      have hzx := HZ.out.size
      have HR := Lib.hid (And.intro hown.rd (And.intro (fun k hk => Nat.le_trans hzx (hown.blk k hk)) (HZ.out.trans hcf.wide)))
      clear hown hcf hzx
      have hbx := HR.out.2.2.block HG.out.2 (fun x => by omega)
      have c0 := cell_at hbx 0; have c1 := cell_at hbx 1; have c2 := cell_at hbx 2; have c3 := cell_at hbx 3; have c4 := cell_at hbx 4; have c5 := cell_at hbx 5; have c6 := cell_at hbx 6; have ff := free_at hbx
      simp only [gotZ, List.getElem?_toArray, List.getElem?_cons_zero, List.getElem?_cons_succ] at c0 c1 c2 c3 c4 c5 c6
      go_wp2
      have hd := cell_at (store7_at hbx (.int .i64 0) (.int .i64 0) (.int .i64 0) (.int .i64 0) (.int .i64 0) (.int .i64 0) (.slice ca cn cc))
      have d0 := hd 0; have d1 := hd 1; have d2 := hd 2; have d3 := hd 3; have d4 := hd 4; have d5 := hd 5; have d6 := hd 6
      simp only [List.getElem?_toArray, List.getElem?_cons_zero, List.getElem?_cons_succ] at d0 d1 d2 d3 d4 d5 d6
      obtain ⟨q1, q2, q3, q4⟩ := RX.after HQ.out (G := fun k => k = w.heap.size + 1 ∨ k = w.heap.size + 1 + 1) HX.out (store7_fr (k := w.heap.size + 1) ((HR.out.2.2.weak (fun _ => Or.inr) (G := fun k => k = w.heap.size + 1 ∨ k = w.heap.size + 1 + 1))) (Or.inl (Or.inl rfl)) (.int .i64 0) (.int .i64 0) (.int .i64 0) (.int .i64 0) (.int .i64 0) (.int .i64 0) (.slice ca cn cc)) (fun k hk => by rcases hk with rfl | rfl; exact ⟨by omega, HG.out.1, tag_got HG.out.2⟩; exact ⟨by omega, HBk.out.2, fun cs e => by rw [HBk.out.1] at e; injection e with e; injection e with _ e _; revert e; decide⟩)
      have qr : Rd _ (.slice ca cn cc) _ := (HR.out.1).keep (store7_fr (Fr.refl (fun k => k = w.heap.size + 1) _) (Or.inl rfl) (.int .i64 0) (.int .i64 0) (.int .i64 0) (.int .i64 0) (.int .i64 0) (.int .i64 0) (.slice ca cn cc)) (fun k hk e => by have := HR.out.2.1 k hk; have := lt_heap HG.out.2; omega)
      have qf := RX.fresh HQ.out HX.out q4 (vS := .slice ca cn cc) (fun k hk => by have := HR.out.2.1 k hk; omega)
      clear hd hbx c0 c1 c2 c3 c4 c5 c6 ff 
      refine bodyPost_ret (v := .tuple #[.agg #[.int .i64 0, .int .i64 0, .int .i64 0, .int .i64 0, .int .i64 0, .int .i64 0, .slice ca cn cc], ev]) ?_ rfl ⟨x, .slice ca cn cc, ev, s', HX.out.val, ?_, q1, q2, q3, qr, qf⟩
      · rw [results_cell_tmp rfl]; clear q1 q2 q3 q4 HZ HD HBk HS HK HX HG HB HC HQ hm ha he qr qf; go_simp; done
      · rfl)
end Go.Proofs.YtkfkieebcahiiaaGreatDoor
