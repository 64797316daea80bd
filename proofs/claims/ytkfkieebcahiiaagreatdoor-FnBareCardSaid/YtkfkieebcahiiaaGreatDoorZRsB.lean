/- The thin package reads a step, by whatever protocol. Printed by gen_rs.py. -/
import Derived.Deep.RegionHeld3
import Derived.Test.YtkfkieebcahiiaaGreatDoorZRp
import Derived.Test.YtkfkieebcahiiaaGreatDoorZ5
set_option linter.all false
namespace Go.Proofs.YtkfkieebcahiiaaGreatDoor
open Go Go.RowKit
set_option maxHeartbeats 1000000
set_option maxRecDepth 100000

variable {S : Type} (P : RProto S) (hP : P.Ok)
include hP

theorem I_begun1 (w : World) (s : S) (r : Int × RVal × S) (t k sz id n : Int) (vS : Value) (h : P.I w s) (hr : P.next s .msgEnd = some r) :
    Calls Tryz.prog 110 #[.iface P.T P.recv, .agg (stepA 1 t k sz id n vS)] w (GR P w r (fun _ vS => #[.int .i64 0, .int .i64 0, .int .i64 0, .int .i64 0, .int .i64 0, .int .i64 0, vS]) (fun _ => ([] : List UInt8))) := by
  have hfr : Fr noF noF w (((w.alloc (.cells (stepA 1 t k sz id n vS) 63 (0, 0))).alloc (.cells gotZ TGot (0, 0))).alloc (.cells gotZ TGot (0, 0))).drew := ((((Fr.refl noF w).alloc _).alloc _).alloc _).drew
  have hbx : (((w.alloc (.cells (stepA 1 t k sz id n vS) 63 (0, 0))).alloc (.cells gotZ TGot (0, 0))).alloc (.cells gotZ TGot (0, 0))).drew.heap[w.heap.size + 1]? = some (.cells gotZ TGot (0, 0)) := (new3g w _ _ _).1
  have hby : (((w.alloc (.cells (stepA 1 t k sz id n vS) 63 (0, 0))).alloc (.cells gotZ TGot (0, 0))).alloc (.cells gotZ TGot (0, 0))).drew.heap[w.heap.size + 1 + 1]? = some (.cells gotZ TGot (0, 0)) := (new3g w _ _ _).2
  have hlt : w.heap.size + 2 < (((w.alloc (.cells (stepA 1 t k sz id n vS) 63 (0, 0))).alloc (.cells gotZ TGot (0, 0))).alloc (.cells gotZ TGot (0, 0))).drew.heap.size := by simp
  have hb2 : Calls Tryz.prog (P.fn "ReadMessageEnd") #[P.recv, .iface 236 (.agg #[])] (((w.alloc (.cells (stepA 1 t k sz id n vS) 63 (0, 0))).alloc (.cells gotZ TGot (0, 0))).alloc (.cells gotZ TGot (0, 0))).drew (fun e w' => ∃ x v ev s', e = .returned ev ∧ RX P w r .msgEnd x v ev s' w' ∧ (¬ P.F w' (w.heap.size + 1) ∧ w'.heap[w.heap.size + 1]? = some (.cells gotZ TGot (0, 0))) ∧ (¬ P.F w' (w.heap.size + 1 + 1) ∧ w'.heap[w.heap.size + 1 + 1]? = some (.cells gotZ TGot (0, 0)))) := by
    refine (hP.beside (W := (((w.alloc (.cells (stepA 1 t k sz id n vS) 63 (0, 0))).alloc (.cells gotZ TGot (0, 0))).alloc (.cells gotZ TGot (0, 0))).drew) .msgEnd h hfr hr).mono ?_
    rintro e w' ⟨x, v, ev, s', he, hx, hF, hk⟩
    exact ⟨x, v, ev, s', he, hx, ⟨hF _ (by omega) (by simp), hk _ _ (by omega) hbx⟩, ⟨hF _ (by omega) (by simp), hk _ _ (by omega) hby⟩⟩
  have hm : ∀ w, (method 512 P.T P.recv "ReadMessageEnd").run Tryz.prog w = .ok (P.fn "ReadMessageEnd", P.recv) w := hP.meth .msgEnd
  have ha : ∀ w, (nilAhead 512 P.T P.recv "ReadMessageEnd").run Tryz.prog w = .ok (some false) w := hP.ahead .msgEnd
  have he : ∀ xs w, (callFunc (P.fn "ReadMessageEnd") xs).run Tryz.prog w = .ok (.enter (P.fn "ReadMessageEnd") xs) w := hP.enter .msgEnd
  obtain ⟨f, hf⟩ : ∃ f, f = P.fn "ReadMessageEnd" := ⟨_, rfl⟩
  obtain ⟨PT, hPT⟩ : ∃ f, f = P.T := ⟨_, rfl⟩
  obtain ⟨rc, hrc⟩ : ∃ f, f = P.recv := ⟨_, rfl⟩
  rw [← hf, ← hrc] at hb2
  rw [← hf] at he
  rw [← hf, ← hrc, ← hPT] at hm
  rw [← hrc, ← hPT] at ha
  rw [← hPT, ← hrc]
  have HB := Lib.hid hb2
  have HC := Lib.hid I_ctx
  have HQ := Lib.hid hP
  clear hb2 hf hPT hrc hP hr h hfr hbx hlt hby
  go_enter Tryz.func110, Tryz.ntmps110
  go_wp2_with fail
  go_region_held3 (fun _ => True) (exact True.intro) (first | (go_at_call 45; refine (HC.out _).mono ?_; rintro e w1 ⟨rfl, rfl⟩) | ((with_reducible refine HB.out.mono ?_); rintro e w2 ⟨x, v, ev, s', rfl, hx, hg, hg2⟩; have HX := Lib.hid hx; have HG := Lib.hid hg; have HG2 := Lib.hid hg2; clear hx hg hg2))
  all_goals
    have hbx := HG.out.2
    have c0 := cell_at hbx 0; have c1 := cell_at hbx 1; have c2 := cell_at hbx 2; have c3 := cell_at hbx 3; have c4 := cell_at hbx 4; have c5 := cell_at hbx 5; have c6 := cell_at hbx 6; have ff := free_at hbx
    simp only [gotZ, List.getElem?_toArray, List.getElem?_cons_zero, List.getElem?_cons_succ] at c0 c1 c2 c3 c4 c5 c6
    have hby := HG2.out.2
    have g0 := cell_at hby 0; have g1 := cell_at hby 1; have g2 := cell_at hby 2; have g3 := cell_at hby 3; have g4 := cell_at hby 4; have g5 := cell_at hby 5; have g6 := cell_at hby 6; have gf := free_at hby
    simp only [gotZ, List.getElem?_toArray, List.getElem?_cons_zero, List.getElem?_cons_succ] at g0 g1 g2 g3 g4 g5 g6
    go_wp2
    have hbz : ((w2.setCell ⟨w.heap.size + 1 + 1, 1, none⟩ (.int .i64 0)).setCell ⟨w.heap.size + 1 + 1, 2, none⟩ (.int .i64 0)).heap[w.heap.size + 1]? = some (.cells gotZ TGot (0, 0)) := (setCell_ne (setCell_ne HG.out.2 (by omega) _) (by omega) _)
    have hd := cell_at (store7_at hbz (.int .i64 0) (.int .i64 0) (.int .i64 0) (.int .i64 0) (.int .i64 0) (.int .i64 0) (.slice none 0 0))
    have d0 := hd 0; have d1 := hd 1; have d2 := hd 2; have d3 := hd 3; have d4 := hd 4; have d5 := hd 5; have d6 := hd 6
    simp only [List.getElem?_toArray, List.getElem?_cons_zero, List.getElem?_cons_succ] at d0 d1 d2 d3 d4 d5 d6
    obtain ⟨q1, q2, q3, q4⟩ := RX.after HQ.out (G := (fun k => k = w.heap.size + 1 ∨ k = w.heap.size + 1 + 1)) HX.out (store7_fr (k := w.heap.size + 1) (((((Fr.refl (fun k => k = w.heap.size + 1 ∨ k = w.heap.size + 1 + 1) w2).setCell (p := ⟨w.heap.size + 1 + 1, 1, none⟩) (Or.inl (Or.inr rfl)) (.int .i64 0))).setCell (p := ⟨w.heap.size + 1 + 1, 2, none⟩) (Or.inl (Or.inr rfl)) (.int .i64 0))) (Or.inl (Or.inl rfl)) (.int .i64 0) (.int .i64 0) (.int .i64 0) (.int .i64 0) (.int .i64 0) (.int .i64 0) (.slice none 0 0)) (fun k hk => by rcases hk with rfl | rfl; exact ⟨by omega, HG.out.1, tag_got HG.out.2⟩; exact ⟨by omega, HG2.out.1, tag_got HG2.out.2⟩)
    clear hd hbz hbx hby c0 c1 c2 c3 c4 c5 c6 ff g0 g1 g2 g3 g4 g5 g6 gf 
    refine bodyPost_ret (v := .tuple #[.agg #[.int .i64 0, .int .i64 0, .int .i64 0, .int .i64 0, .int .i64 0, .int .i64 0, .slice none 0 0], ev]) ?_ rfl ⟨x, .slice none 0 0, ev, s', HX.out.val, ?_, q1, q2, q3, Or.inl ⟨rfl, rfl⟩, fun j hj => hj.elim⟩
    · rw [results_cell_tmp rfl]; clear q1 q2 q3 q4 HX HG HB HC HQ HG2 hm ha he; go_simp; done
    · rfl

theorem I_begun3 (w : World) (s : S) (r : Int × RVal × S) (t k sz id n : Int) (vS : Value) (h : P.I w s) (hr : P.next s .structEnd = some r) :
    Calls Tryz.prog 110 #[.iface P.T P.recv, .agg (stepA 3 t k sz id n vS)] w (GR P w r (fun _ vS => #[.int .i64 0, .int .i64 0, .int .i64 0, .int .i64 0, .int .i64 0, .int .i64 0, vS]) (fun _ => ([] : List UInt8))) := by
  have hfr : Fr noF noF w (((w.alloc (.cells (stepA 3 t k sz id n vS) 63 (0, 0))).alloc (.cells gotZ TGot (0, 0))).alloc (.cells gotZ TGot (0, 0))).drew := ((((Fr.refl noF w).alloc _).alloc _).alloc _).drew
  have hbx : (((w.alloc (.cells (stepA 3 t k sz id n vS) 63 (0, 0))).alloc (.cells gotZ TGot (0, 0))).alloc (.cells gotZ TGot (0, 0))).drew.heap[w.heap.size + 1]? = some (.cells gotZ TGot (0, 0)) := (new3g w _ _ _).1
  have hby : (((w.alloc (.cells (stepA 3 t k sz id n vS) 63 (0, 0))).alloc (.cells gotZ TGot (0, 0))).alloc (.cells gotZ TGot (0, 0))).drew.heap[w.heap.size + 1 + 1]? = some (.cells gotZ TGot (0, 0)) := (new3g w _ _ _).2
  have hlt : w.heap.size + 2 < (((w.alloc (.cells (stepA 3 t k sz id n vS) 63 (0, 0))).alloc (.cells gotZ TGot (0, 0))).alloc (.cells gotZ TGot (0, 0))).drew.heap.size := by simp
  have hb2 : Calls Tryz.prog (P.fn "ReadStructEnd") #[P.recv, .iface 236 (.agg #[])] (((w.alloc (.cells (stepA 3 t k sz id n vS) 63 (0, 0))).alloc (.cells gotZ TGot (0, 0))).alloc (.cells gotZ TGot (0, 0))).drew (fun e w' => ∃ x v ev s', e = .returned ev ∧ RX P w r .structEnd x v ev s' w' ∧ (¬ P.F w' (w.heap.size + 1) ∧ w'.heap[w.heap.size + 1]? = some (.cells gotZ TGot (0, 0))) ∧ (¬ P.F w' (w.heap.size + 1 + 1) ∧ w'.heap[w.heap.size + 1 + 1]? = some (.cells gotZ TGot (0, 0)))) := by
    refine (hP.beside (W := (((w.alloc (.cells (stepA 3 t k sz id n vS) 63 (0, 0))).alloc (.cells gotZ TGot (0, 0))).alloc (.cells gotZ TGot (0, 0))).drew) .structEnd h hfr hr).mono ?_
    rintro e w' ⟨x, v, ev, s', he, hx, hF, hk⟩
    exact ⟨x, v, ev, s', he, hx, ⟨hF _ (by omega) (by simp), hk _ _ (by omega) hbx⟩, ⟨hF _ (by omega) (by simp), hk _ _ (by omega) hby⟩⟩
  have hm : ∀ w, (method 512 P.T P.recv "ReadStructEnd").run Tryz.prog w = .ok (P.fn "ReadStructEnd", P.recv) w := hP.meth .structEnd
  have ha : ∀ w, (nilAhead 512 P.T P.recv "ReadStructEnd").run Tryz.prog w = .ok (some false) w := hP.ahead .structEnd
  have he : ∀ xs w, (callFunc (P.fn "ReadStructEnd") xs).run Tryz.prog w = .ok (.enter (P.fn "ReadStructEnd") xs) w := hP.enter .structEnd
  obtain ⟨f, hf⟩ : ∃ f, f = P.fn "ReadStructEnd" := ⟨_, rfl⟩
  obtain ⟨PT, hPT⟩ : ∃ f, f = P.T := ⟨_, rfl⟩
  obtain ⟨rc, hrc⟩ : ∃ f, f = P.recv := ⟨_, rfl⟩
  rw [← hf, ← hrc] at hb2
  rw [← hf] at he
  rw [← hf, ← hrc, ← hPT] at hm
  rw [← hrc, ← hPT] at ha
  rw [← hPT, ← hrc]
  have HB := Lib.hid hb2
  have HC := Lib.hid I_ctx
  have HQ := Lib.hid hP
  clear hb2 hf hPT hrc hP hr h hfr hbx hlt hby
  go_enter Tryz.func110, Tryz.ntmps110
  go_wp2_with fail
  go_region_held3 (fun _ => True) (exact True.intro) (first | (go_at_call 45; refine (HC.out _).mono ?_; rintro e w1 ⟨rfl, rfl⟩) | ((with_reducible refine HB.out.mono ?_); rintro e w2 ⟨x, v, ev, s', rfl, hx, hg, hg2⟩; have HX := Lib.hid hx; have HG := Lib.hid hg; have HG2 := Lib.hid hg2; clear hx hg hg2))
  all_goals
    have hbx := HG.out.2
    have c0 := cell_at hbx 0; have c1 := cell_at hbx 1; have c2 := cell_at hbx 2; have c3 := cell_at hbx 3; have c4 := cell_at hbx 4; have c5 := cell_at hbx 5; have c6 := cell_at hbx 6; have ff := free_at hbx
    simp only [gotZ, List.getElem?_toArray, List.getElem?_cons_zero, List.getElem?_cons_succ] at c0 c1 c2 c3 c4 c5 c6
    have hby := HG2.out.2
    have g0 := cell_at hby 0; have g1 := cell_at hby 1; have g2 := cell_at hby 2; have g3 := cell_at hby 3; have g4 := cell_at hby 4; have g5 := cell_at hby 5; have g6 := cell_at hby 6; have gf := free_at hby
    simp only [gotZ, List.getElem?_toArray, List.getElem?_cons_zero, List.getElem?_cons_succ] at g0 g1 g2 g3 g4 g5 g6
    go_wp2
    have hbz : ((w2.setCell ⟨w.heap.size + 1 + 1, 1, none⟩ (.int .i64 0)).setCell ⟨w.heap.size + 1 + 1, 2, none⟩ (.int .i64 0)).heap[w.heap.size + 1]? = some (.cells gotZ TGot (0, 0)) := (setCell_ne (setCell_ne HG.out.2 (by omega) _) (by omega) _)
    have hd := cell_at (store7_at hbz (.int .i64 0) (.int .i64 0) (.int .i64 0) (.int .i64 0) (.int .i64 0) (.int .i64 0) (.slice none 0 0))
    have d0 := hd 0; have d1 := hd 1; have d2 := hd 2; have d3 := hd 3; have d4 := hd 4; have d5 := hd 5; have d6 := hd 6
    simp only [List.getElem?_toArray, List.getElem?_cons_zero, List.getElem?_cons_succ] at d0 d1 d2 d3 d4 d5 d6
    obtain ⟨q1, q2, q3, q4⟩ := RX.after HQ.out (G := (fun k => k = w.heap.size + 1 ∨ k = w.heap.size + 1 + 1)) HX.out (store7_fr (k := w.heap.size + 1) (((((Fr.refl (fun k => k = w.heap.size + 1 ∨ k = w.heap.size + 1 + 1) w2).setCell (p := ⟨w.heap.size + 1 + 1, 1, none⟩) (Or.inl (Or.inr rfl)) (.int .i64 0))).setCell (p := ⟨w.heap.size + 1 + 1, 2, none⟩) (Or.inl (Or.inr rfl)) (.int .i64 0))) (Or.inl (Or.inl rfl)) (.int .i64 0) (.int .i64 0) (.int .i64 0) (.int .i64 0) (.int .i64 0) (.int .i64 0) (.slice none 0 0)) (fun k hk => by rcases hk with rfl | rfl; exact ⟨by omega, HG.out.1, tag_got HG.out.2⟩; exact ⟨by omega, HG2.out.1, tag_got HG2.out.2⟩)
    clear hd hbz hbx hby c0 c1 c2 c3 c4 c5 c6 ff g0 g1 g2 g3 g4 g5 g6 gf 
    refine bodyPost_ret (v := .tuple #[.agg #[.int .i64 0, .int .i64 0, .int .i64 0, .int .i64 0, .int .i64 0, .int .i64 0, .slice none 0 0], ev]) ?_ rfl ⟨x, .slice none 0 0, ev, s', HX.out.val, ?_, q1, q2, q3, Or.inl ⟨rfl, rfl⟩, fun j hj => hj.elim⟩
    · rw [results_cell_tmp rfl]; clear q1 q2 q3 q4 HX HG HB HC HQ HG2 hm ha he; go_simp; done
    · rfl

theorem I_begun5 (w : World) (s : S) (r : Int × RVal × S) (t k sz id n : Int) (vS : Value) (h : P.I w s) (hr : P.next s .fieldEnd = some r) :
    Calls Tryz.prog 110 #[.iface P.T P.recv, .agg (stepA 5 t k sz id n vS)] w (GR P w r (fun _ vS => #[.int .i64 0, .int .i64 0, .int .i64 0, .int .i64 0, .int .i64 0, .int .i64 0, vS]) (fun _ => ([] : List UInt8))) := by
  have hfr : Fr noF noF w (((w.alloc (.cells (stepA 5 t k sz id n vS) 63 (0, 0))).alloc (.cells gotZ TGot (0, 0))).alloc (.cells gotZ TGot (0, 0))).drew := ((((Fr.refl noF w).alloc _).alloc _).alloc _).drew
  have hbx : (((w.alloc (.cells (stepA 5 t k sz id n vS) 63 (0, 0))).alloc (.cells gotZ TGot (0, 0))).alloc (.cells gotZ TGot (0, 0))).drew.heap[w.heap.size + 1]? = some (.cells gotZ TGot (0, 0)) := (new3g w _ _ _).1
  have hby : (((w.alloc (.cells (stepA 5 t k sz id n vS) 63 (0, 0))).alloc (.cells gotZ TGot (0, 0))).alloc (.cells gotZ TGot (0, 0))).drew.heap[w.heap.size + 1 + 1]? = some (.cells gotZ TGot (0, 0)) := (new3g w _ _ _).2
  have hlt : w.heap.size + 2 < (((w.alloc (.cells (stepA 5 t k sz id n vS) 63 (0, 0))).alloc (.cells gotZ TGot (0, 0))).alloc (.cells gotZ TGot (0, 0))).drew.heap.size := by simp
  have hb2 : Calls Tryz.prog (P.fn "ReadFieldEnd") #[P.recv, .iface 236 (.agg #[])] (((w.alloc (.cells (stepA 5 t k sz id n vS) 63 (0, 0))).alloc (.cells gotZ TGot (0, 0))).alloc (.cells gotZ TGot (0, 0))).drew (fun e w' => ∃ x v ev s', e = .returned ev ∧ RX P w r .fieldEnd x v ev s' w' ∧ (¬ P.F w' (w.heap.size + 1) ∧ w'.heap[w.heap.size + 1]? = some (.cells gotZ TGot (0, 0))) ∧ (¬ P.F w' (w.heap.size + 1 + 1) ∧ w'.heap[w.heap.size + 1 + 1]? = some (.cells gotZ TGot (0, 0)))) := by
    refine (hP.beside (W := (((w.alloc (.cells (stepA 5 t k sz id n vS) 63 (0, 0))).alloc (.cells gotZ TGot (0, 0))).alloc (.cells gotZ TGot (0, 0))).drew) .fieldEnd h hfr hr).mono ?_
    rintro e w' ⟨x, v, ev, s', he, hx, hF, hk⟩
    exact ⟨x, v, ev, s', he, hx, ⟨hF _ (by omega) (by simp), hk _ _ (by omega) hbx⟩, ⟨hF _ (by omega) (by simp), hk _ _ (by omega) hby⟩⟩
  have hm : ∀ w, (method 512 P.T P.recv "ReadFieldEnd").run Tryz.prog w = .ok (P.fn "ReadFieldEnd", P.recv) w := hP.meth .fieldEnd
  have ha : ∀ w, (nilAhead 512 P.T P.recv "ReadFieldEnd").run Tryz.prog w = .ok (some false) w := hP.ahead .fieldEnd
  have he : ∀ xs w, (callFunc (P.fn "ReadFieldEnd") xs).run Tryz.prog w = .ok (.enter (P.fn "ReadFieldEnd") xs) w := hP.enter .fieldEnd
  obtain ⟨f, hf⟩ : ∃ f, f = P.fn "ReadFieldEnd" := ⟨_, rfl⟩
  obtain ⟨PT, hPT⟩ : ∃ f, f = P.T := ⟨_, rfl⟩
  obtain ⟨rc, hrc⟩ : ∃ f, f = P.recv := ⟨_, rfl⟩
  rw [← hf, ← hrc] at hb2
  rw [← hf] at he
  rw [← hf, ← hrc, ← hPT] at hm
  rw [← hrc, ← hPT] at ha
  rw [← hPT, ← hrc]
  have HB := Lib.hid hb2
  have HC := Lib.hid I_ctx
  have HQ := Lib.hid hP
  clear hb2 hf hPT hrc hP hr h hfr hbx hlt hby
  go_enter Tryz.func110, Tryz.ntmps110
  go_wp2_with fail
  go_region_held3 (fun _ => True) (exact True.intro) (first | (go_at_call 45; refine (HC.out _).mono ?_; rintro e w1 ⟨rfl, rfl⟩) | ((with_reducible refine HB.out.mono ?_); rintro e w2 ⟨x, v, ev, s', rfl, hx, hg, hg2⟩; have HX := Lib.hid hx; have HG := Lib.hid hg; have HG2 := Lib.hid hg2; clear hx hg hg2))
  all_goals
    have hbx := HG.out.2
    have c0 := cell_at hbx 0; have c1 := cell_at hbx 1; have c2 := cell_at hbx 2; have c3 := cell_at hbx 3; have c4 := cell_at hbx 4; have c5 := cell_at hbx 5; have c6 := cell_at hbx 6; have ff := free_at hbx
    simp only [gotZ, List.getElem?_toArray, List.getElem?_cons_zero, List.getElem?_cons_succ] at c0 c1 c2 c3 c4 c5 c6
    have hby := HG2.out.2
    have g0 := cell_at hby 0; have g1 := cell_at hby 1; have g2 := cell_at hby 2; have g3 := cell_at hby 3; have g4 := cell_at hby 4; have g5 := cell_at hby 5; have g6 := cell_at hby 6; have gf := free_at hby
    simp only [gotZ, List.getElem?_toArray, List.getElem?_cons_zero, List.getElem?_cons_succ] at g0 g1 g2 g3 g4 g5 g6
    go_wp2
    have hbz : ((w2.setCell ⟨w.heap.size + 1 + 1, 1, none⟩ (.int .i64 0)).setCell ⟨w.heap.size + 1 + 1, 2, none⟩ (.int .i64 0)).heap[w.heap.size + 1]? = some (.cells gotZ TGot (0, 0)) := (setCell_ne (setCell_ne HG.out.2 (by omega) _) (by omega) _)
    have hd := cell_at (store7_at hbz (.int .i64 0) (.int .i64 0) (.int .i64 0) (.int .i64 0) (.int .i64 0) (.int .i64 0) (.slice none 0 0))
    have d0 := hd 0; have d1 := hd 1; have d2 := hd 2; have d3 := hd 3; have d4 := hd 4; have d5 := hd 5; have d6 := hd 6
    simp only [List.getElem?_toArray, List.getElem?_cons_zero, List.getElem?_cons_succ] at d0 d1 d2 d3 d4 d5 d6
    obtain ⟨q1, q2, q3, q4⟩ := RX.after HQ.out (G := (fun k => k = w.heap.size + 1 ∨ k = w.heap.size + 1 + 1)) HX.out (store7_fr (k := w.heap.size + 1) (((((Fr.refl (fun k => k = w.heap.size + 1 ∨ k = w.heap.size + 1 + 1) w2).setCell (p := ⟨w.heap.size + 1 + 1, 1, none⟩) (Or.inl (Or.inr rfl)) (.int .i64 0))).setCell (p := ⟨w.heap.size + 1 + 1, 2, none⟩) (Or.inl (Or.inr rfl)) (.int .i64 0))) (Or.inl (Or.inl rfl)) (.int .i64 0) (.int .i64 0) (.int .i64 0) (.int .i64 0) (.int .i64 0) (.int .i64 0) (.slice none 0 0)) (fun k hk => by rcases hk with rfl | rfl; exact ⟨by omega, HG.out.1, tag_got HG.out.2⟩; exact ⟨by omega, HG2.out.1, tag_got HG2.out.2⟩)
    clear hd hbz hbx hby c0 c1 c2 c3 c4 c5 c6 ff g0 g1 g2 g3 g4 g5 g6 gf 
    refine bodyPost_ret (v := .tuple #[.agg #[.int .i64 0, .int .i64 0, .int .i64 0, .int .i64 0, .int .i64 0, .int .i64 0, .slice none 0 0], ev]) ?_ rfl ⟨x, .slice none 0 0, ev, s', HX.out.val, ?_, q1, q2, q3, Or.inl ⟨rfl, rfl⟩, fun j hj => hj.elim⟩
    · rw [results_cell_tmp rfl]; clear q1 q2 q3 q4 HX HG HB HC HQ HG2 hm ha he; go_simp; done
    · rfl

theorem I_begun8 (w : World) (s : S) (r : Int × RVal × S) (t k sz id n : Int) (vS : Value) (h : P.I w s) (hr : P.next s .mapEnd = some r) :
    Calls Tryz.prog 110 #[.iface P.T P.recv, .agg (stepA 8 t k sz id n vS)] w (GR P w r (fun _ vS => #[.int .i64 0, .int .i64 0, .int .i64 0, .int .i64 0, .int .i64 0, .int .i64 0, vS]) (fun _ => ([] : List UInt8))) := by
  have hfr : Fr noF noF w (((w.alloc (.cells (stepA 8 t k sz id n vS) 63 (0, 0))).alloc (.cells gotZ TGot (0, 0))).alloc (.cells gotZ TGot (0, 0))).drew := ((((Fr.refl noF w).alloc _).alloc _).alloc _).drew
  have hbx : (((w.alloc (.cells (stepA 8 t k sz id n vS) 63 (0, 0))).alloc (.cells gotZ TGot (0, 0))).alloc (.cells gotZ TGot (0, 0))).drew.heap[w.heap.size + 1]? = some (.cells gotZ TGot (0, 0)) := (new3g w _ _ _).1
  have hby : (((w.alloc (.cells (stepA 8 t k sz id n vS) 63 (0, 0))).alloc (.cells gotZ TGot (0, 0))).alloc (.cells gotZ TGot (0, 0))).drew.heap[w.heap.size + 1 + 1]? = some (.cells gotZ TGot (0, 0)) := (new3g w _ _ _).2
  have hlt : w.heap.size + 2 < (((w.alloc (.cells (stepA 8 t k sz id n vS) 63 (0, 0))).alloc (.cells gotZ TGot (0, 0))).alloc (.cells gotZ TGot (0, 0))).drew.heap.size := by simp
  have hb2 : Calls Tryz.prog (P.fn "ReadMapEnd") #[P.recv, .iface 236 (.agg #[])] (((w.alloc (.cells (stepA 8 t k sz id n vS) 63 (0, 0))).alloc (.cells gotZ TGot (0, 0))).alloc (.cells gotZ TGot (0, 0))).drew (fun e w' => ∃ x v ev s', e = .returned ev ∧ RX P w r .mapEnd x v ev s' w' ∧ (¬ P.F w' (w.heap.size + 1) ∧ w'.heap[w.heap.size + 1]? = some (.cells gotZ TGot (0, 0))) ∧ (¬ P.F w' (w.heap.size + 1 + 1) ∧ w'.heap[w.heap.size + 1 + 1]? = some (.cells gotZ TGot (0, 0)))) := by
    refine (hP.beside (W := (((w.alloc (.cells (stepA 8 t k sz id n vS) 63 (0, 0))).alloc (.cells gotZ TGot (0, 0))).alloc (.cells gotZ TGot (0, 0))).drew) .mapEnd h hfr hr).mono ?_
    rintro e w' ⟨x, v, ev, s', he, hx, hF, hk⟩
    exact ⟨x, v, ev, s', he, hx, ⟨hF _ (by omega) (by simp), hk _ _ (by omega) hbx⟩, ⟨hF _ (by omega) (by simp), hk _ _ (by omega) hby⟩⟩
  have hm : ∀ w, (method 512 P.T P.recv "ReadMapEnd").run Tryz.prog w = .ok (P.fn "ReadMapEnd", P.recv) w := hP.meth .mapEnd
  have ha : ∀ w, (nilAhead 512 P.T P.recv "ReadMapEnd").run Tryz.prog w = .ok (some false) w := hP.ahead .mapEnd
  have he : ∀ xs w, (callFunc (P.fn "ReadMapEnd") xs).run Tryz.prog w = .ok (.enter (P.fn "ReadMapEnd") xs) w := hP.enter .mapEnd
  obtain ⟨f, hf⟩ : ∃ f, f = P.fn "ReadMapEnd" := ⟨_, rfl⟩
  obtain ⟨PT, hPT⟩ : ∃ f, f = P.T := ⟨_, rfl⟩
  obtain ⟨rc, hrc⟩ : ∃ f, f = P.recv := ⟨_, rfl⟩
  rw [← hf, ← hrc] at hb2
  rw [← hf] at he
  rw [← hf, ← hrc, ← hPT] at hm
  rw [← hrc, ← hPT] at ha
  rw [← hPT, ← hrc]
  have HB := Lib.hid hb2
  have HC := Lib.hid I_ctx
  have HQ := Lib.hid hP
  clear hb2 hf hPT hrc hP hr h hfr hbx hlt hby
  go_enter Tryz.func110, Tryz.ntmps110
  go_wp2_with fail
  go_region_held3 (fun _ => True) (exact True.intro) (first | (go_at_call 45; refine (HC.out _).mono ?_; rintro e w1 ⟨rfl, rfl⟩) | ((with_reducible refine HB.out.mono ?_); rintro e w2 ⟨x, v, ev, s', rfl, hx, hg, hg2⟩; have HX := Lib.hid hx; have HG := Lib.hid hg; have HG2 := Lib.hid hg2; clear hx hg hg2))
  all_goals
    have hbx := HG.out.2
    have c0 := cell_at hbx 0; have c1 := cell_at hbx 1; have c2 := cell_at hbx 2; have c3 := cell_at hbx 3; have c4 := cell_at hbx 4; have c5 := cell_at hbx 5; have c6 := cell_at hbx 6; have ff := free_at hbx
    simp only [gotZ, List.getElem?_toArray, List.getElem?_cons_zero, List.getElem?_cons_succ] at c0 c1 c2 c3 c4 c5 c6
    have hby := HG2.out.2
    have g0 := cell_at hby 0; have g1 := cell_at hby 1; have g2 := cell_at hby 2; have g3 := cell_at hby 3; have g4 := cell_at hby 4; have g5 := cell_at hby 5; have g6 := cell_at hby 6; have gf := free_at hby
    simp only [gotZ, List.getElem?_toArray, List.getElem?_cons_zero, List.getElem?_cons_succ] at g0 g1 g2 g3 g4 g5 g6
    go_wp2
    have hbz : ((w2.setCell ⟨w.heap.size + 1 + 1, 1, none⟩ (.int .i64 0)).setCell ⟨w.heap.size + 1 + 1, 2, none⟩ (.int .i64 0)).heap[w.heap.size + 1]? = some (.cells gotZ TGot (0, 0)) := (setCell_ne (setCell_ne HG.out.2 (by omega) _) (by omega) _)
    have hd := cell_at (store7_at hbz (.int .i64 0) (.int .i64 0) (.int .i64 0) (.int .i64 0) (.int .i64 0) (.int .i64 0) (.slice none 0 0))
    have d0 := hd 0; have d1 := hd 1; have d2 := hd 2; have d3 := hd 3; have d4 := hd 4; have d5 := hd 5; have d6 := hd 6
    simp only [List.getElem?_toArray, List.getElem?_cons_zero, List.getElem?_cons_succ] at d0 d1 d2 d3 d4 d5 d6
    obtain ⟨q1, q2, q3, q4⟩ := RX.after HQ.out (G := (fun k => k = w.heap.size + 1 ∨ k = w.heap.size + 1 + 1)) HX.out (store7_fr (k := w.heap.size + 1) (((((Fr.refl (fun k => k = w.heap.size + 1 ∨ k = w.heap.size + 1 + 1) w2).setCell (p := ⟨w.heap.size + 1 + 1, 1, none⟩) (Or.inl (Or.inr rfl)) (.int .i64 0))).setCell (p := ⟨w.heap.size + 1 + 1, 2, none⟩) (Or.inl (Or.inr rfl)) (.int .i64 0))) (Or.inl (Or.inl rfl)) (.int .i64 0) (.int .i64 0) (.int .i64 0) (.int .i64 0) (.int .i64 0) (.int .i64 0) (.slice none 0 0)) (fun k hk => by rcases hk with rfl | rfl; exact ⟨by omega, HG.out.1, tag_got HG.out.2⟩; exact ⟨by omega, HG2.out.1, tag_got HG2.out.2⟩)
    clear hd hbz hbx hby c0 c1 c2 c3 c4 c5 c6 ff g0 g1 g2 g3 g4 g5 g6 gf 
    refine bodyPost_ret (v := .tuple #[.agg #[.int .i64 0, .int .i64 0, .int .i64 0, .int .i64 0, .int .i64 0, .int .i64 0, .slice none 0 0], ev]) ?_ rfl ⟨x, .slice none 0 0, ev, s', HX.out.val, ?_, q1, q2, q3, Or.inl ⟨rfl, rfl⟩, fun j hj => hj.elim⟩
    · rw [results_cell_tmp rfl]; clear q1 q2 q3 q4 HX HG HB HC HQ HG2 hm ha he; go_simp; done
    · rfl

theorem I_begun10 (w : World) (s : S) (r : Int × RVal × S) (t k sz id n : Int) (vS : Value) (h : P.I w s) (hr : P.next s .listEnd = some r) :
    Calls Tryz.prog 110 #[.iface P.T P.recv, .agg (stepA 10 t k sz id n vS)] w (GR P w r (fun _ vS => #[.int .i64 0, .int .i64 0, .int .i64 0, .int .i64 0, .int .i64 0, .int .i64 0, vS]) (fun _ => ([] : List UInt8))) := by
  have hfr : Fr noF noF w (((w.alloc (.cells (stepA 10 t k sz id n vS) 63 (0, 0))).alloc (.cells gotZ TGot (0, 0))).alloc (.cells gotZ TGot (0, 0))).drew := ((((Fr.refl noF w).alloc _).alloc _).alloc _).drew
  have hbx : (((w.alloc (.cells (stepA 10 t k sz id n vS) 63 (0, 0))).alloc (.cells gotZ TGot (0, 0))).alloc (.cells gotZ TGot (0, 0))).drew.heap[w.heap.size + 1]? = some (.cells gotZ TGot (0, 0)) := (new3g w _ _ _).1
  have hby : (((w.alloc (.cells (stepA 10 t k sz id n vS) 63 (0, 0))).alloc (.cells gotZ TGot (0, 0))).alloc (.cells gotZ TGot (0, 0))).drew.heap[w.heap.size + 1 + 1]? = some (.cells gotZ TGot (0, 0)) := (new3g w _ _ _).2
  have hlt : w.heap.size + 2 < (((w.alloc (.cells (stepA 10 t k sz id n vS) 63 (0, 0))).alloc (.cells gotZ TGot (0, 0))).alloc (.cells gotZ TGot (0, 0))).drew.heap.size := by simp
  have hb2 : Calls Tryz.prog (P.fn "ReadListEnd") #[P.recv, .iface 236 (.agg #[])] (((w.alloc (.cells (stepA 10 t k sz id n vS) 63 (0, 0))).alloc (.cells gotZ TGot (0, 0))).alloc (.cells gotZ TGot (0, 0))).drew (fun e w' => ∃ x v ev s', e = .returned ev ∧ RX P w r .listEnd x v ev s' w' ∧ (¬ P.F w' (w.heap.size + 1) ∧ w'.heap[w.heap.size + 1]? = some (.cells gotZ TGot (0, 0))) ∧ (¬ P.F w' (w.heap.size + 1 + 1) ∧ w'.heap[w.heap.size + 1 + 1]? = some (.cells gotZ TGot (0, 0)))) := by
    refine (hP.beside (W := (((w.alloc (.cells (stepA 10 t k sz id n vS) 63 (0, 0))).alloc (.cells gotZ TGot (0, 0))).alloc (.cells gotZ TGot (0, 0))).drew) .listEnd h hfr hr).mono ?_
    rintro e w' ⟨x, v, ev, s', he, hx, hF, hk⟩
    exact ⟨x, v, ev, s', he, hx, ⟨hF _ (by omega) (by simp), hk _ _ (by omega) hbx⟩, ⟨hF _ (by omega) (by simp), hk _ _ (by omega) hby⟩⟩
  have hm : ∀ w, (method 512 P.T P.recv "ReadListEnd").run Tryz.prog w = .ok (P.fn "ReadListEnd", P.recv) w := hP.meth .listEnd
  have ha : ∀ w, (nilAhead 512 P.T P.recv "ReadListEnd").run Tryz.prog w = .ok (some false) w := hP.ahead .listEnd
  have he : ∀ xs w, (callFunc (P.fn "ReadListEnd") xs).run Tryz.prog w = .ok (.enter (P.fn "ReadListEnd") xs) w := hP.enter .listEnd
  obtain ⟨f, hf⟩ : ∃ f, f = P.fn "ReadListEnd" := ⟨_, rfl⟩
  obtain ⟨PT, hPT⟩ : ∃ f, f = P.T := ⟨_, rfl⟩
  obtain ⟨rc, hrc⟩ : ∃ f, f = P.recv := ⟨_, rfl⟩
  rw [← hf, ← hrc] at hb2
  rw [← hf] at he
  rw [← hf, ← hrc, ← hPT] at hm
  rw [← hrc, ← hPT] at ha
  rw [← hPT, ← hrc]
  have HB := Lib.hid hb2
  have HC := Lib.hid I_ctx
  have HQ := Lib.hid hP
  clear hb2 hf hPT hrc hP hr h hfr hbx hlt hby
  go_enter Tryz.func110, Tryz.ntmps110
  go_wp2_with fail
  go_region_held3 (fun _ => True) (exact True.intro) (first | (go_at_call 45; refine (HC.out _).mono ?_; rintro e w1 ⟨rfl, rfl⟩) | ((with_reducible refine HB.out.mono ?_); rintro e w2 ⟨x, v, ev, s', rfl, hx, hg, hg2⟩; have HX := Lib.hid hx; have HG := Lib.hid hg; have HG2 := Lib.hid hg2; clear hx hg hg2))
  all_goals
    have hbx := HG.out.2
    have c0 := cell_at hbx 0; have c1 := cell_at hbx 1; have c2 := cell_at hbx 2; have c3 := cell_at hbx 3; have c4 := cell_at hbx 4; have c5 := cell_at hbx 5; have c6 := cell_at hbx 6; have ff := free_at hbx
    simp only [gotZ, List.getElem?_toArray, List.getElem?_cons_zero, List.getElem?_cons_succ] at c0 c1 c2 c3 c4 c5 c6
    have hby := HG2.out.2
    have g0 := cell_at hby 0; have g1 := cell_at hby 1; have g2 := cell_at hby 2; have g3 := cell_at hby 3; have g4 := cell_at hby 4; have g5 := cell_at hby 5; have g6 := cell_at hby 6; have gf := free_at hby
    simp only [gotZ, List.getElem?_toArray, List.getElem?_cons_zero, List.getElem?_cons_succ] at g0 g1 g2 g3 g4 g5 g6
    go_wp2
    have hbz : ((w2.setCell ⟨w.heap.size + 1 + 1, 1, none⟩ (.int .i64 0)).setCell ⟨w.heap.size + 1 + 1, 2, none⟩ (.int .i64 0)).heap[w.heap.size + 1]? = some (.cells gotZ TGot (0, 0)) := (setCell_ne (setCell_ne HG.out.2 (by omega) _) (by omega) _)
    have hd := cell_at (store7_at hbz (.int .i64 0) (.int .i64 0) (.int .i64 0) (.int .i64 0) (.int .i64 0) (.int .i64 0) (.slice none 0 0))
    have d0 := hd 0; have d1 := hd 1; have d2 := hd 2; have d3 := hd 3; have d4 := hd 4; have d5 := hd 5; have d6 := hd 6
    simp only [List.getElem?_toArray, List.getElem?_cons_zero, List.getElem?_cons_succ] at d0 d1 d2 d3 d4 d5 d6
    obtain ⟨q1, q2, q3, q4⟩ := RX.after HQ.out (G := (fun k => k = w.heap.size + 1 ∨ k = w.heap.size + 1 + 1)) HX.out (store7_fr (k := w.heap.size + 1) (((((Fr.refl (fun k => k = w.heap.size + 1 ∨ k = w.heap.size + 1 + 1) w2).setCell (p := ⟨w.heap.size + 1 + 1, 1, none⟩) (Or.inl (Or.inr rfl)) (.int .i64 0))).setCell (p := ⟨w.heap.size + 1 + 1, 2, none⟩) (Or.inl (Or.inr rfl)) (.int .i64 0))) (Or.inl (Or.inl rfl)) (.int .i64 0) (.int .i64 0) (.int .i64 0) (.int .i64 0) (.int .i64 0) (.int .i64 0) (.slice none 0 0)) (fun k hk => by rcases hk with rfl | rfl; exact ⟨by omega, HG.out.1, tag_got HG.out.2⟩; exact ⟨by omega, HG2.out.1, tag_got HG2.out.2⟩)
    clear hd hbz hbx hby c0 c1 c2 c3 c4 c5 c6 ff g0 g1 g2 g3 g4 g5 g6 gf 
    refine bodyPost_ret (v := .tuple #[.agg #[.int .i64 0, .int .i64 0, .int .i64 0, .int .i64 0, .int .i64 0, .int .i64 0, .slice none 0 0], ev]) ?_ rfl ⟨x, .slice none 0 0, ev, s', HX.out.val, ?_, q1, q2, q3, Or.inl ⟨rfl, rfl⟩, fun j hj => hj.elim⟩
    · rw [results_cell_tmp rfl]; clear q1 q2 q3 q4 HX HG HB HC HQ HG2 hm ha he; go_simp; done
    · rfl

theorem I_begun12 (w : World) (s : S) (r : Int × RVal × S) (t k sz id n : Int) (vS : Value) (h : P.I w s) (hr : P.next s .setEnd = some r) :
    Calls Tryz.prog 110 #[.iface P.T P.recv, .agg (stepA 12 t k sz id n vS)] w (GR P w r (fun _ vS => #[.int .i64 0, .int .i64 0, .int .i64 0, .int .i64 0, .int .i64 0, .int .i64 0, vS]) (fun _ => ([] : List UInt8))) := by
  have hfr : Fr noF noF w (((w.alloc (.cells (stepA 12 t k sz id n vS) 63 (0, 0))).alloc (.cells gotZ TGot (0, 0))).alloc (.cells gotZ TGot (0, 0))).drew := ((((Fr.refl noF w).alloc _).alloc _).alloc _).drew
  have hbx : (((w.alloc (.cells (stepA 12 t k sz id n vS) 63 (0, 0))).alloc (.cells gotZ TGot (0, 0))).alloc (.cells gotZ TGot (0, 0))).drew.heap[w.heap.size + 1]? = some (.cells gotZ TGot (0, 0)) := (new3g w _ _ _).1
  have hby : (((w.alloc (.cells (stepA 12 t k sz id n vS) 63 (0, 0))).alloc (.cells gotZ TGot (0, 0))).alloc (.cells gotZ TGot (0, 0))).drew.heap[w.heap.size + 1 + 1]? = some (.cells gotZ TGot (0, 0)) := (new3g w _ _ _).2
  have hlt : w.heap.size + 2 < (((w.alloc (.cells (stepA 12 t k sz id n vS) 63 (0, 0))).alloc (.cells gotZ TGot (0, 0))).alloc (.cells gotZ TGot (0, 0))).drew.heap.size := by simp
  have hb2 : Calls Tryz.prog (P.fn "ReadSetEnd") #[P.recv, .iface 236 (.agg #[])] (((w.alloc (.cells (stepA 12 t k sz id n vS) 63 (0, 0))).alloc (.cells gotZ TGot (0, 0))).alloc (.cells gotZ TGot (0, 0))).drew (fun e w' => ∃ x v ev s', e = .returned ev ∧ RX P w r .setEnd x v ev s' w' ∧ (¬ P.F w' (w.heap.size + 1) ∧ w'.heap[w.heap.size + 1]? = some (.cells gotZ TGot (0, 0))) ∧ (¬ P.F w' (w.heap.size + 1 + 1) ∧ w'.heap[w.heap.size + 1 + 1]? = some (.cells gotZ TGot (0, 0)))) := by
    refine (hP.beside (W := (((w.alloc (.cells (stepA 12 t k sz id n vS) 63 (0, 0))).alloc (.cells gotZ TGot (0, 0))).alloc (.cells gotZ TGot (0, 0))).drew) .setEnd h hfr hr).mono ?_
    rintro e w' ⟨x, v, ev, s', he, hx, hF, hk⟩
    exact ⟨x, v, ev, s', he, hx, ⟨hF _ (by omega) (by simp), hk _ _ (by omega) hbx⟩, ⟨hF _ (by omega) (by simp), hk _ _ (by omega) hby⟩⟩
  have hm : ∀ w, (method 512 P.T P.recv "ReadSetEnd").run Tryz.prog w = .ok (P.fn "ReadSetEnd", P.recv) w := hP.meth .setEnd
  have ha : ∀ w, (nilAhead 512 P.T P.recv "ReadSetEnd").run Tryz.prog w = .ok (some false) w := hP.ahead .setEnd
  have he : ∀ xs w, (callFunc (P.fn "ReadSetEnd") xs).run Tryz.prog w = .ok (.enter (P.fn "ReadSetEnd") xs) w := hP.enter .setEnd
  obtain ⟨f, hf⟩ : ∃ f, f = P.fn "ReadSetEnd" := ⟨_, rfl⟩
  obtain ⟨PT, hPT⟩ : ∃ f, f = P.T := ⟨_, rfl⟩
  obtain ⟨rc, hrc⟩ : ∃ f, f = P.recv := ⟨_, rfl⟩
  rw [← hf, ← hrc] at hb2
  rw [← hf] at he
  rw [← hf, ← hrc, ← hPT] at hm
  rw [← hrc, ← hPT] at ha
  rw [← hPT, ← hrc]
  have HB := Lib.hid hb2
  have HC := Lib.hid I_ctx
  have HQ := Lib.hid hP
  clear hb2 hf hPT hrc hP hr h hfr hbx hlt hby
  go_enter Tryz.func110, Tryz.ntmps110
  go_wp2_with fail
  go_region_held3 (fun _ => True) (exact True.intro) (first | (go_at_call 45; refine (HC.out _).mono ?_; rintro e w1 ⟨rfl, rfl⟩) | ((with_reducible refine HB.out.mono ?_); rintro e w2 ⟨x, v, ev, s', rfl, hx, hg, hg2⟩; have HX := Lib.hid hx; have HG := Lib.hid hg; have HG2 := Lib.hid hg2; clear hx hg hg2))
  all_goals
    have hbx := HG.out.2
    have c0 := cell_at hbx 0; have c1 := cell_at hbx 1; have c2 := cell_at hbx 2; have c3 := cell_at hbx 3; have c4 := cell_at hbx 4; have c5 := cell_at hbx 5; have c6 := cell_at hbx 6; have ff := free_at hbx
    simp only [gotZ, List.getElem?_toArray, List.getElem?_cons_zero, List.getElem?_cons_succ] at c0 c1 c2 c3 c4 c5 c6
    have hby := HG2.out.2
    have g0 := cell_at hby 0; have g1 := cell_at hby 1; have g2 := cell_at hby 2; have g3 := cell_at hby 3; have g4 := cell_at hby 4; have g5 := cell_at hby 5; have g6 := cell_at hby 6; have gf := free_at hby
    simp only [gotZ, List.getElem?_toArray, List.getElem?_cons_zero, List.getElem?_cons_succ] at g0 g1 g2 g3 g4 g5 g6
    go_wp2
    have hbz : ((w2.setCell ⟨w.heap.size + 1 + 1, 1, none⟩ (.int .i64 0)).setCell ⟨w.heap.size + 1 + 1, 2, none⟩ (.int .i64 0)).heap[w.heap.size + 1]? = some (.cells gotZ TGot (0, 0)) := (setCell_ne (setCell_ne HG.out.2 (by omega) _) (by omega) _)
    have hd := cell_at (store7_at hbz (.int .i64 0) (.int .i64 0) (.int .i64 0) (.int .i64 0) (.int .i64 0) (.int .i64 0) (.slice none 0 0))
    have d0 := hd 0; have d1 := hd 1; have d2 := hd 2; have d3 := hd 3; have d4 := hd 4; have d5 := hd 5; have d6 := hd 6
    simp only [List.getElem?_toArray, List.getElem?_cons_zero, List.getElem?_cons_succ] at d0 d1 d2 d3 d4 d5 d6
    obtain ⟨q1, q2, q3, q4⟩ := RX.after HQ.out (G := (fun k => k = w.heap.size + 1 ∨ k = w.heap.size + 1 + 1)) HX.out (store7_fr (k := w.heap.size + 1) (((((Fr.refl (fun k => k = w.heap.size + 1 ∨ k = w.heap.size + 1 + 1) w2).setCell (p := ⟨w.heap.size + 1 + 1, 1, none⟩) (Or.inl (Or.inr rfl)) (.int .i64 0))).setCell (p := ⟨w.heap.size + 1 + 1, 2, none⟩) (Or.inl (Or.inr rfl)) (.int .i64 0))) (Or.inl (Or.inl rfl)) (.int .i64 0) (.int .i64 0) (.int .i64 0) (.int .i64 0) (.int .i64 0) (.int .i64 0) (.slice none 0 0)) (fun k hk => by rcases hk with rfl | rfl; exact ⟨by omega, HG.out.1, tag_got HG.out.2⟩; exact ⟨by omega, HG2.out.1, tag_got HG2.out.2⟩)
    clear hd hbz hbx hby c0 c1 c2 c3 c4 c5 c6 ff g0 g1 g2 g3 g4 g5 g6 gf 
    refine bodyPost_ret (v := .tuple #[.agg #[.int .i64 0, .int .i64 0, .int .i64 0, .int .i64 0, .int .i64 0, .int .i64 0, .slice none 0 0], ev]) ?_ rfl ⟨x, .slice none 0 0, ev, s', HX.out.val, ?_, q1, q2, q3, Or.inl ⟨rfl, rfl⟩, fun j hj => hj.elim⟩
    · rw [results_cell_tmp rfl]; clear q1 q2 q3 q4 HX HG HB HC HQ HG2 hm ha he; go_simp; done
    · rfl

theorem I_begun7 (w : World) (s : S) (r : Int × RVal × S) (t k sz id n : Int) (vS : Value) (h : P.I w s) (hr : P.next s .mapBegin = some r) :
    Calls Tryz.prog 110 #[.iface P.T P.recv, .agg (stepA 7 t k sz id n vS)] w (GR P w r (fun x vS => #[.int .i64 0, .int .i64 (wrap64 x.t), .int .i64 (wrap64 x.k), .int .i64 x.sz, .int .i64 0, .int .i64 0, vS]) (fun _ => ([] : List UInt8))) := by
  have hfr : Fr noF noF w (((w.alloc (.cells (stepA 7 t k sz id n vS) 63 (0, 0))).alloc (.cells gotZ TGot (0, 0))).alloc (.cells gotZ TGot (0, 0))).drew := ((((Fr.refl noF w).alloc _).alloc _).alloc _).drew
  have hbx : (((w.alloc (.cells (stepA 7 t k sz id n vS) 63 (0, 0))).alloc (.cells gotZ TGot (0, 0))).alloc (.cells gotZ TGot (0, 0))).drew.heap[w.heap.size + 1]? = some (.cells gotZ TGot (0, 0)) := (new3g w _ _ _).1
  have hby : (((w.alloc (.cells (stepA 7 t k sz id n vS) 63 (0, 0))).alloc (.cells gotZ TGot (0, 0))).alloc (.cells gotZ TGot (0, 0))).drew.heap[w.heap.size + 1 + 1]? = some (.cells gotZ TGot (0, 0)) := (new3g w _ _ _).2
  have hlt : w.heap.size + 2 < (((w.alloc (.cells (stepA 7 t k sz id n vS) 63 (0, 0))).alloc (.cells gotZ TGot (0, 0))).alloc (.cells gotZ TGot (0, 0))).drew.heap.size := by simp
  have hb2 : Calls Tryz.prog (P.fn "ReadMapBegin") #[P.recv, .iface 236 (.agg #[])] (((w.alloc (.cells (stepA 7 t k sz id n vS) 63 (0, 0))).alloc (.cells gotZ TGot (0, 0))).alloc (.cells gotZ TGot (0, 0))).drew (fun e w' => ∃ x v ev s', e = .returned (.tuple #[.int .u8 x.k, .int .u8 x.t, .int .i64 x.sz, ev]) ∧ RX P w r .mapBegin x v ev s' w' ∧ (¬ P.F w' (w.heap.size + 1) ∧ w'.heap[w.heap.size + 1]? = some (.cells gotZ TGot (0, 0))) ∧ (¬ P.F w' (w.heap.size + 1 + 1) ∧ w'.heap[w.heap.size + 1 + 1]? = some (.cells gotZ TGot (0, 0)))) := by
    refine (hP.beside (W := (((w.alloc (.cells (stepA 7 t k sz id n vS) 63 (0, 0))).alloc (.cells gotZ TGot (0, 0))).alloc (.cells gotZ TGot (0, 0))).drew) .mapBegin h hfr hr).mono ?_
    rintro e w' ⟨x, v, ev, s', he, hx, hF, hk⟩
    exact ⟨x, v, ev, s', he, hx, ⟨hF _ (by omega) (by simp), hk _ _ (by omega) hbx⟩, ⟨hF _ (by omega) (by simp), hk _ _ (by omega) hby⟩⟩
  have hm : ∀ w, (method 512 P.T P.recv "ReadMapBegin").run Tryz.prog w = .ok (P.fn "ReadMapBegin", P.recv) w := hP.meth .mapBegin
  have ha : ∀ w, (nilAhead 512 P.T P.recv "ReadMapBegin").run Tryz.prog w = .ok (some false) w := hP.ahead .mapBegin
  have he : ∀ xs w, (callFunc (P.fn "ReadMapBegin") xs).run Tryz.prog w = .ok (.enter (P.fn "ReadMapBegin") xs) w := hP.enter .mapBegin
  obtain ⟨f, hf⟩ : ∃ f, f = P.fn "ReadMapBegin" := ⟨_, rfl⟩
  obtain ⟨PT, hPT⟩ : ∃ f, f = P.T := ⟨_, rfl⟩
  obtain ⟨rc, hrc⟩ : ∃ f, f = P.recv := ⟨_, rfl⟩
  rw [← hf, ← hrc] at hb2
  rw [← hf] at he
  rw [← hf, ← hrc, ← hPT] at hm
  rw [← hrc, ← hPT] at ha
  rw [← hPT, ← hrc]
  have HB := Lib.hid hb2
  have HC := Lib.hid I_ctx
  have HQ := Lib.hid hP
  clear hb2 hf hPT hrc hP hr h hfr hbx hlt hby
  go_enter Tryz.func110, Tryz.ntmps110
  go_wp2_with fail
  go_region_held3 (fun _ => True) (exact True.intro) (first | (go_at_call 45; refine (HC.out _).mono ?_; rintro e w1 ⟨rfl, rfl⟩) | ((with_reducible refine HB.out.mono ?_); rintro e w2 ⟨x, v, ev, s', rfl, hx, hg, hg2⟩; have HX := Lib.hid hx; have HG := Lib.hid hg; have HG2 := Lib.hid hg2; clear hx hg hg2; have g3 := cell_at HG2.out.2 3; have gf := free_at HG2.out.2 3; simp only [gotZ, List.getElem?_toArray, List.getElem?_cons_zero, List.getElem?_cons_succ] at g3))
  all_goals
    clear g3 gf
    have hbx := HG.out.2
    have c0 := cell_at hbx 0; have c1 := cell_at hbx 1; have c2 := cell_at hbx 2; have c3 := cell_at hbx 3; have c4 := cell_at hbx 4; have c5 := cell_at hbx 5; have c6 := cell_at hbx 6; have ff := free_at hbx
    simp only [gotZ, List.getElem?_toArray, List.getElem?_cons_zero, List.getElem?_cons_succ] at c0 c1 c2 c3 c4 c5 c6
    have hby := HG2.out.2
    have g0 := cell_at hby 0; have g1 := cell_at hby 1; have g2 := cell_at hby 2; have g3 := cell_at hby 3; have g4 := cell_at hby 4; have g5 := cell_at hby 5; have g6 := cell_at hby 6; have gf := free_at hby
    simp only [gotZ, List.getElem?_toArray, List.getElem?_cons_zero, List.getElem?_cons_succ] at g0 g1 g2 g3 g4 g5 g6
    go_wp2
    have hbz : (((w2.setCell ⟨w.heap.size + 1 + 1, 3, none⟩ (.int .i64 x.sz)).setCell ⟨w.heap.size + 1 + 1, 1, none⟩ (.int .i64 (wrap64 x.t))).setCell ⟨w.heap.size + 1 + 1, 2, none⟩ (.int .i64 (wrap64 x.k))).heap[w.heap.size + 1]? = some (.cells gotZ TGot (0, 0)) := (setCell_ne (setCell_ne (setCell_ne HG.out.2 (by omega) _) (by omega) _) (by omega) _)
    have hd := cell_at (store7_at hbz (.int .i64 0) (.int .i64 (wrap64 x.t)) (.int .i64 (wrap64 x.k)) (.int .i64 x.sz) (.int .i64 0) (.int .i64 0) (.slice none 0 0))
    have d0 := hd 0; have d1 := hd 1; have d2 := hd 2; have d3 := hd 3; have d4 := hd 4; have d5 := hd 5; have d6 := hd 6
    simp only [List.getElem?_toArray, List.getElem?_cons_zero, List.getElem?_cons_succ] at d0 d1 d2 d3 d4 d5 d6
    obtain ⟨q1, q2, q3, q4⟩ := RX.after HQ.out (G := (fun k => k = w.heap.size + 1 ∨ k = w.heap.size + 1 + 1)) HX.out (store7_fr (k := w.heap.size + 1) (((((((Fr.refl (fun k => k = w.heap.size + 1 ∨ k = w.heap.size + 1 + 1) w2).setCell (p := ⟨w.heap.size + 1 + 1, 3, none⟩) (Or.inl (Or.inr rfl)) (.int .i64 x.sz))).setCell (p := ⟨w.heap.size + 1 + 1, 1, none⟩) (Or.inl (Or.inr rfl)) (.int .i64 (wrap64 x.t)))).setCell (p := ⟨w.heap.size + 1 + 1, 2, none⟩) (Or.inl (Or.inr rfl)) (.int .i64 (wrap64 x.k)))) (Or.inl (Or.inl rfl)) (.int .i64 0) (.int .i64 (wrap64 x.t)) (.int .i64 (wrap64 x.k)) (.int .i64 x.sz) (.int .i64 0) (.int .i64 0) (.slice none 0 0)) (fun k hk => by rcases hk with rfl | rfl; exact ⟨by omega, HG.out.1, tag_got HG.out.2⟩; exact ⟨by omega, HG2.out.1, tag_got HG2.out.2⟩)
    clear hd hbz hbx hby c0 c1 c2 c3 c4 c5 c6 ff g0 g1 g2 g3 g4 g5 g6 gf 
    refine bodyPost_ret (v := .tuple #[.agg #[.int .i64 0, .int .i64 (wrap64 x.t), .int .i64 (wrap64 x.k), .int .i64 x.sz, .int .i64 0, .int .i64 0, .slice none 0 0], ev]) ?_ rfl ⟨x, .slice none 0 0, ev, s', HX.out.val, ?_, q1, q2, q3, Or.inl ⟨rfl, rfl⟩, fun j hj => hj.elim⟩
    · rw [results_cell_tmp rfl]; clear q1 q2 q3 q4 HX HG HB HC HQ HG2 hm ha he; go_simp; done
    · rfl

theorem I_begun9 (w : World) (s : S) (r : Int × RVal × S) (t k sz id n : Int) (vS : Value) (h : P.I w s) (hr : P.next s .listBegin = some r) :
    Calls Tryz.prog 110 #[.iface P.T P.recv, .agg (stepA 9 t k sz id n vS)] w (GR P w r (fun x vS => #[.int .i64 0, .int .i64 (wrap64 x.t), .int .i64 (0), .int .i64 x.sz, .int .i64 0, .int .i64 0, vS]) (fun _ => ([] : List UInt8))) := by
  have hfr : Fr noF noF w (((w.alloc (.cells (stepA 9 t k sz id n vS) 63 (0, 0))).alloc (.cells gotZ TGot (0, 0))).alloc (.cells gotZ TGot (0, 0))).drew := ((((Fr.refl noF w).alloc _).alloc _).alloc _).drew
  have hbx : (((w.alloc (.cells (stepA 9 t k sz id n vS) 63 (0, 0))).alloc (.cells gotZ TGot (0, 0))).alloc (.cells gotZ TGot (0, 0))).drew.heap[w.heap.size + 1]? = some (.cells gotZ TGot (0, 0)) := (new3g w _ _ _).1
  have hby : (((w.alloc (.cells (stepA 9 t k sz id n vS) 63 (0, 0))).alloc (.cells gotZ TGot (0, 0))).alloc (.cells gotZ TGot (0, 0))).drew.heap[w.heap.size + 1 + 1]? = some (.cells gotZ TGot (0, 0)) := (new3g w _ _ _).2
  have hlt : w.heap.size + 2 < (((w.alloc (.cells (stepA 9 t k sz id n vS) 63 (0, 0))).alloc (.cells gotZ TGot (0, 0))).alloc (.cells gotZ TGot (0, 0))).drew.heap.size := by simp
  have hb2 : Calls Tryz.prog (P.fn "ReadListBegin") #[P.recv, .iface 236 (.agg #[])] (((w.alloc (.cells (stepA 9 t k sz id n vS) 63 (0, 0))).alloc (.cells gotZ TGot (0, 0))).alloc (.cells gotZ TGot (0, 0))).drew (fun e w' => ∃ x v ev s', e = .returned (.tuple #[.int .u8 x.t, .int .i64 x.sz, ev]) ∧ RX P w r .listBegin x v ev s' w' ∧ (¬ P.F w' (w.heap.size + 1) ∧ w'.heap[w.heap.size + 1]? = some (.cells gotZ TGot (0, 0))) ∧ (¬ P.F w' (w.heap.size + 1 + 1) ∧ w'.heap[w.heap.size + 1 + 1]? = some (.cells gotZ TGot (0, 0)))) := by
    refine (hP.beside (W := (((w.alloc (.cells (stepA 9 t k sz id n vS) 63 (0, 0))).alloc (.cells gotZ TGot (0, 0))).alloc (.cells gotZ TGot (0, 0))).drew) .listBegin h hfr hr).mono ?_
    rintro e w' ⟨x, v, ev, s', he, hx, hF, hk⟩
    exact ⟨x, v, ev, s', he, hx, ⟨hF _ (by omega) (by simp), hk _ _ (by omega) hbx⟩, ⟨hF _ (by omega) (by simp), hk _ _ (by omega) hby⟩⟩
  have hm : ∀ w, (method 512 P.T P.recv "ReadListBegin").run Tryz.prog w = .ok (P.fn "ReadListBegin", P.recv) w := hP.meth .listBegin
  have ha : ∀ w, (nilAhead 512 P.T P.recv "ReadListBegin").run Tryz.prog w = .ok (some false) w := hP.ahead .listBegin
  have he : ∀ xs w, (callFunc (P.fn "ReadListBegin") xs).run Tryz.prog w = .ok (.enter (P.fn "ReadListBegin") xs) w := hP.enter .listBegin
  obtain ⟨f, hf⟩ : ∃ f, f = P.fn "ReadListBegin" := ⟨_, rfl⟩
  obtain ⟨PT, hPT⟩ : ∃ f, f = P.T := ⟨_, rfl⟩
  obtain ⟨rc, hrc⟩ : ∃ f, f = P.recv := ⟨_, rfl⟩
  rw [← hf, ← hrc] at hb2
  rw [← hf] at he
  rw [← hf, ← hrc, ← hPT] at hm
  rw [← hrc, ← hPT] at ha
  rw [← hPT, ← hrc]
  have HB := Lib.hid hb2
  have HC := Lib.hid I_ctx
  have HQ := Lib.hid hP
  clear hb2 hf hPT hrc hP hr h hfr hbx hlt hby
  go_enter Tryz.func110, Tryz.ntmps110
  go_wp2_with fail
  go_region_held3 (fun _ => True) (exact True.intro) (first | (go_at_call 45; refine (HC.out _).mono ?_; rintro e w1 ⟨rfl, rfl⟩) | ((with_reducible refine HB.out.mono ?_); rintro e w2 ⟨x, v, ev, s', rfl, hx, hg, hg2⟩; have HX := Lib.hid hx; have HG := Lib.hid hg; have HG2 := Lib.hid hg2; clear hx hg hg2; have g3 := cell_at HG2.out.2 3; have gf := free_at HG2.out.2 3; simp only [gotZ, List.getElem?_toArray, List.getElem?_cons_zero, List.getElem?_cons_succ] at g3))
  all_goals
    clear g3 gf
    have hbx := HG.out.2
    have c0 := cell_at hbx 0; have c1 := cell_at hbx 1; have c2 := cell_at hbx 2; have c3 := cell_at hbx 3; have c4 := cell_at hbx 4; have c5 := cell_at hbx 5; have c6 := cell_at hbx 6; have ff := free_at hbx
    simp only [gotZ, List.getElem?_toArray, List.getElem?_cons_zero, List.getElem?_cons_succ] at c0 c1 c2 c3 c4 c5 c6
    have hby := HG2.out.2
    have g0 := cell_at hby 0; have g1 := cell_at hby 1; have g2 := cell_at hby 2; have g3 := cell_at hby 3; have g4 := cell_at hby 4; have g5 := cell_at hby 5; have g6 := cell_at hby 6; have gf := free_at hby
    simp only [gotZ, List.getElem?_toArray, List.getElem?_cons_zero, List.getElem?_cons_succ] at g0 g1 g2 g3 g4 g5 g6
    go_wp2
    have hbz : (((w2.setCell ⟨w.heap.size + 1 + 1, 3, none⟩ (.int .i64 x.sz)).setCell ⟨w.heap.size + 1 + 1, 1, none⟩ (.int .i64 (wrap64 x.t))).setCell ⟨w.heap.size + 1 + 1, 2, none⟩ (.int .i64 (0))).heap[w.heap.size + 1]? = some (.cells gotZ TGot (0, 0)) := (setCell_ne (setCell_ne (setCell_ne HG.out.2 (by omega) _) (by omega) _) (by omega) _)
    have hd := cell_at (store7_at hbz (.int .i64 0) (.int .i64 (wrap64 x.t)) (.int .i64 (0)) (.int .i64 x.sz) (.int .i64 0) (.int .i64 0) (.slice none 0 0))
    have d0 := hd 0; have d1 := hd 1; have d2 := hd 2; have d3 := hd 3; have d4 := hd 4; have d5 := hd 5; have d6 := hd 6
    simp only [List.getElem?_toArray, List.getElem?_cons_zero, List.getElem?_cons_succ] at d0 d1 d2 d3 d4 d5 d6
    obtain ⟨q1, q2, q3, q4⟩ := RX.after HQ.out (G := (fun k => k = w.heap.size + 1 ∨ k = w.heap.size + 1 + 1)) HX.out (store7_fr (k := w.heap.size + 1) (((((((Fr.refl (fun k => k = w.heap.size + 1 ∨ k = w.heap.size + 1 + 1) w2).setCell (p := ⟨w.heap.size + 1 + 1, 3, none⟩) (Or.inl (Or.inr rfl)) (.int .i64 x.sz))).setCell (p := ⟨w.heap.size + 1 + 1, 1, none⟩) (Or.inl (Or.inr rfl)) (.int .i64 (wrap64 x.t)))).setCell (p := ⟨w.heap.size + 1 + 1, 2, none⟩) (Or.inl (Or.inr rfl)) (.int .i64 (0)))) (Or.inl (Or.inl rfl)) (.int .i64 0) (.int .i64 (wrap64 x.t)) (.int .i64 (0)) (.int .i64 x.sz) (.int .i64 0) (.int .i64 0) (.slice none 0 0)) (fun k hk => by rcases hk with rfl | rfl; exact ⟨by omega, HG.out.1, tag_got HG.out.2⟩; exact ⟨by omega, HG2.out.1, tag_got HG2.out.2⟩)
    clear hd hbz hbx hby c0 c1 c2 c3 c4 c5 c6 ff g0 g1 g2 g3 g4 g5 g6 gf 
    refine bodyPost_ret (v := .tuple #[.agg #[.int .i64 0, .int .i64 (wrap64 x.t), .int .i64 (0), .int .i64 x.sz, .int .i64 0, .int .i64 0, .slice none 0 0], ev]) ?_ rfl ⟨x, .slice none 0 0, ev, s', HX.out.val, ?_, q1, q2, q3, Or.inl ⟨rfl, rfl⟩, fun j hj => hj.elim⟩
    · rw [results_cell_tmp rfl]; clear q1 q2 q3 q4 HX HG HB HC HQ HG2 hm ha he; go_simp; done
    · rfl

theorem I_begun11 (w : World) (s : S) (r : Int × RVal × S) (t k sz id n : Int) (vS : Value) (h : P.I w s) (hr : P.next s .setBegin = some r) :
    Calls Tryz.prog 110 #[.iface P.T P.recv, .agg (stepA 11 t k sz id n vS)] w (GR P w r (fun x vS => #[.int .i64 0, .int .i64 (wrap64 x.t), .int .i64 (0), .int .i64 x.sz, .int .i64 0, .int .i64 0, vS]) (fun _ => ([] : List UInt8))) := by
  have hfr : Fr noF noF w (((w.alloc (.cells (stepA 11 t k sz id n vS) 63 (0, 0))).alloc (.cells gotZ TGot (0, 0))).alloc (.cells gotZ TGot (0, 0))).drew := ((((Fr.refl noF w).alloc _).alloc _).alloc _).drew
  have hbx : (((w.alloc (.cells (stepA 11 t k sz id n vS) 63 (0, 0))).alloc (.cells gotZ TGot (0, 0))).alloc (.cells gotZ TGot (0, 0))).drew.heap[w.heap.size + 1]? = some (.cells gotZ TGot (0, 0)) := (new3g w _ _ _).1
  have hby : (((w.alloc (.cells (stepA 11 t k sz id n vS) 63 (0, 0))).alloc (.cells gotZ TGot (0, 0))).alloc (.cells gotZ TGot (0, 0))).drew.heap[w.heap.size + 1 + 1]? = some (.cells gotZ TGot (0, 0)) := (new3g w _ _ _).2
  have hlt : w.heap.size + 2 < (((w.alloc (.cells (stepA 11 t k sz id n vS) 63 (0, 0))).alloc (.cells gotZ TGot (0, 0))).alloc (.cells gotZ TGot (0, 0))).drew.heap.size := by simp
  have hb2 : Calls Tryz.prog (P.fn "ReadSetBegin") #[P.recv, .iface 236 (.agg #[])] (((w.alloc (.cells (stepA 11 t k sz id n vS) 63 (0, 0))).alloc (.cells gotZ TGot (0, 0))).alloc (.cells gotZ TGot (0, 0))).drew (fun e w' => ∃ x v ev s', e = .returned (.tuple #[.int .u8 x.t, .int .i64 x.sz, ev]) ∧ RX P w r .setBegin x v ev s' w' ∧ (¬ P.F w' (w.heap.size + 1) ∧ w'.heap[w.heap.size + 1]? = some (.cells gotZ TGot (0, 0))) ∧ (¬ P.F w' (w.heap.size + 1 + 1) ∧ w'.heap[w.heap.size + 1 + 1]? = some (.cells gotZ TGot (0, 0)))) := by
    refine (hP.beside (W := (((w.alloc (.cells (stepA 11 t k sz id n vS) 63 (0, 0))).alloc (.cells gotZ TGot (0, 0))).alloc (.cells gotZ TGot (0, 0))).drew) .setBegin h hfr hr).mono ?_
    rintro e w' ⟨x, v, ev, s', he, hx, hF, hk⟩
    exact ⟨x, v, ev, s', he, hx, ⟨hF _ (by omega) (by simp), hk _ _ (by omega) hbx⟩, ⟨hF _ (by omega) (by simp), hk _ _ (by omega) hby⟩⟩
  have hm : ∀ w, (method 512 P.T P.recv "ReadSetBegin").run Tryz.prog w = .ok (P.fn "ReadSetBegin", P.recv) w := hP.meth .setBegin
  have ha : ∀ w, (nilAhead 512 P.T P.recv "ReadSetBegin").run Tryz.prog w = .ok (some false) w := hP.ahead .setBegin
  have he : ∀ xs w, (callFunc (P.fn "ReadSetBegin") xs).run Tryz.prog w = .ok (.enter (P.fn "ReadSetBegin") xs) w := hP.enter .setBegin
  obtain ⟨f, hf⟩ : ∃ f, f = P.fn "ReadSetBegin" := ⟨_, rfl⟩
  obtain ⟨PT, hPT⟩ : ∃ f, f = P.T := ⟨_, rfl⟩
  obtain ⟨rc, hrc⟩ : ∃ f, f = P.recv := ⟨_, rfl⟩
  rw [← hf, ← hrc] at hb2
  rw [← hf] at he
  rw [← hf, ← hrc, ← hPT] at hm
  rw [← hrc, ← hPT] at ha
  rw [← hPT, ← hrc]
  have HB := Lib.hid hb2
  have HC := Lib.hid I_ctx
  have HQ := Lib.hid hP
  clear hb2 hf hPT hrc hP hr h hfr hbx hlt hby
  go_enter Tryz.func110, Tryz.ntmps110
  go_wp2_with fail
  go_region_held3 (fun _ => True) (exact True.intro) (first | (go_at_call 45; refine (HC.out _).mono ?_; rintro e w1 ⟨rfl, rfl⟩) | ((with_reducible refine HB.out.mono ?_); rintro e w2 ⟨x, v, ev, s', rfl, hx, hg, hg2⟩; have HX := Lib.hid hx; have HG := Lib.hid hg; have HG2 := Lib.hid hg2; clear hx hg hg2; have g3 := cell_at HG2.out.2 3; have gf := free_at HG2.out.2 3; simp only [gotZ, List.getElem?_toArray, List.getElem?_cons_zero, List.getElem?_cons_succ] at g3))
  all_goals
    clear g3 gf
    have hbx := HG.out.2
    have c0 := cell_at hbx 0; have c1 := cell_at hbx 1; have c2 := cell_at hbx 2; have c3 := cell_at hbx 3; have c4 := cell_at hbx 4; have c5 := cell_at hbx 5; have c6 := cell_at hbx 6; have ff := free_at hbx
    simp only [gotZ, List.getElem?_toArray, List.getElem?_cons_zero, List.getElem?_cons_succ] at c0 c1 c2 c3 c4 c5 c6
    have hby := HG2.out.2
    have g0 := cell_at hby 0; have g1 := cell_at hby 1; have g2 := cell_at hby 2; have g3 := cell_at hby 3; have g4 := cell_at hby 4; have g5 := cell_at hby 5; have g6 := cell_at hby 6; have gf := free_at hby
    simp only [gotZ, List.getElem?_toArray, List.getElem?_cons_zero, List.getElem?_cons_succ] at g0 g1 g2 g3 g4 g5 g6
    go_wp2
    have hbz : (((w2.setCell ⟨w.heap.size + 1 + 1, 3, none⟩ (.int .i64 x.sz)).setCell ⟨w.heap.size + 1 + 1, 1, none⟩ (.int .i64 (wrap64 x.t))).setCell ⟨w.heap.size + 1 + 1, 2, none⟩ (.int .i64 (0))).heap[w.heap.size + 1]? = some (.cells gotZ TGot (0, 0)) := (setCell_ne (setCell_ne (setCell_ne HG.out.2 (by omega) _) (by omega) _) (by omega) _)
    have hd := cell_at (store7_at hbz (.int .i64 0) (.int .i64 (wrap64 x.t)) (.int .i64 (0)) (.int .i64 x.sz) (.int .i64 0) (.int .i64 0) (.slice none 0 0))
    have d0 := hd 0; have d1 := hd 1; have d2 := hd 2; have d3 := hd 3; have d4 := hd 4; have d5 := hd 5; have d6 := hd 6
    simp only [List.getElem?_toArray, List.getElem?_cons_zero, List.getElem?_cons_succ] at d0 d1 d2 d3 d4 d5 d6
    obtain ⟨q1, q2, q3, q4⟩ := RX.after HQ.out (G := (fun k => k = w.heap.size + 1 ∨ k = w.heap.size + 1 + 1)) HX.out (store7_fr (k := w.heap.size + 1) (((((((Fr.refl (fun k => k = w.heap.size + 1 ∨ k = w.heap.size + 1 + 1) w2).setCell (p := ⟨w.heap.size + 1 + 1, 3, none⟩) (Or.inl (Or.inr rfl)) (.int .i64 x.sz))).setCell (p := ⟨w.heap.size + 1 + 1, 1, none⟩) (Or.inl (Or.inr rfl)) (.int .i64 (wrap64 x.t)))).setCell (p := ⟨w.heap.size + 1 + 1, 2, none⟩) (Or.inl (Or.inr rfl)) (.int .i64 (0)))) (Or.inl (Or.inl rfl)) (.int .i64 0) (.int .i64 (wrap64 x.t)) (.int .i64 (0)) (.int .i64 x.sz) (.int .i64 0) (.int .i64 0) (.slice none 0 0)) (fun k hk => by rcases hk with rfl | rfl; exact ⟨by omega, HG.out.1, tag_got HG.out.2⟩; exact ⟨by omega, HG2.out.1, tag_got HG2.out.2⟩)
    clear hd hbz hbx hby c0 c1 c2 c3 c4 c5 c6 ff g0 g1 g2 g3 g4 g5 g6 gf 
    refine bodyPost_ret (v := .tuple #[.agg #[.int .i64 0, .int .i64 (wrap64 x.t), .int .i64 (0), .int .i64 x.sz, .int .i64 0, .int .i64 0, .slice none 0 0], ev]) ?_ rfl ⟨x, .slice none 0 0, ev, s', HX.out.val, ?_, q1, q2, q3, Or.inl ⟨rfl, rfl⟩, fun j hj => hj.elim⟩
    · rw [results_cell_tmp rfl]; clear q1 q2 q3 q4 HX HG HB HC HQ HG2 hm ha he; go_simp; done
    · rfl

theorem I_begun0 (w : World) (s : S) (r : Int × RVal × S) (t k sz id n : Int) (vS : Value) (h : P.I w s) (hr : P.next s .msgBegin = some r) :
    Calls Tryz.prog 110 #[.iface P.T P.recv, .agg (stepA 0 t k sz id n vS)] w (GR P w r (fun x vS => #[.int .i64 0, .int .i64 (wrap64 x.t), .int .i64 0, .int .i64 0, .int .i64 0, .int .i64 (wrap64 x.n), vS]) (fun x => x.s)) := by
  have hfr : Fr noF noF w (((w.alloc (.cells (stepA 0 t k sz id n vS) 63 (0, 0))).alloc (.cells gotZ TGot (0, 0))).alloc (.cells gotZ TGot (0, 0))).drew := ((((Fr.refl noF w).alloc _).alloc _).alloc _).drew
  have hbx : (((w.alloc (.cells (stepA 0 t k sz id n vS) 63 (0, 0))).alloc (.cells gotZ TGot (0, 0))).alloc (.cells gotZ TGot (0, 0))).drew.heap[w.heap.size + 1]? = some (.cells gotZ TGot (0, 0)) := (new3g w _ _ _).1
  have hby : (((w.alloc (.cells (stepA 0 t k sz id n vS) 63 (0, 0))).alloc (.cells gotZ TGot (0, 0))).alloc (.cells gotZ TGot (0, 0))).drew.heap[w.heap.size + 1 + 1]? = some (.cells gotZ TGot (0, 0)) := (new3g w _ _ _).2
  have hlt : w.heap.size + 2 < (((w.alloc (.cells (stepA 0 t k sz id n vS) 63 (0, 0))).alloc (.cells gotZ TGot (0, 0))).alloc (.cells gotZ TGot (0, 0))).drew.heap.size := by simp
  have hb2 : Calls Tryz.prog (P.fn "ReadMessageBegin") #[P.recv, .iface 236 (.agg #[])] (((w.alloc (.cells (stepA 0 t k sz id n vS) 63 (0, 0))).alloc (.cells gotZ TGot (0, 0))).alloc (.cells gotZ TGot (0, 0))).drew (fun e w' => ∃ x v ev s', e = .returned (.tuple #[.string ⟨x.s.toArray⟩, .int .i32 x.t, .int .i32 x.n, ev]) ∧ RX P w r .msgBegin x v ev s' w' ∧ (¬ P.F w' (w.heap.size + 1) ∧ w'.heap[w.heap.size + 1]? = some (.cells gotZ TGot (0, 0))) ∧ (¬ P.F w' (w.heap.size + 1 + 1) ∧ w'.heap[w.heap.size + 1 + 1]? = some (.cells gotZ TGot (0, 0)))) := by
    refine (hP.beside (W := (((w.alloc (.cells (stepA 0 t k sz id n vS) 63 (0, 0))).alloc (.cells gotZ TGot (0, 0))).alloc (.cells gotZ TGot (0, 0))).drew) .msgBegin h hfr hr).mono ?_
    rintro e w' ⟨x, v, ev, s', he, hx, hF, hk⟩
    exact ⟨x, v, ev, s', he, hx, ⟨hF _ (by omega) (by simp), hk _ _ (by omega) hbx⟩, ⟨hF _ (by omega) (by simp), hk _ _ (by omega) hby⟩⟩
  have hm : ∀ w, (method 512 P.T P.recv "ReadMessageBegin").run Tryz.prog w = .ok (P.fn "ReadMessageBegin", P.recv) w := hP.meth .msgBegin
  have ha : ∀ w, (nilAhead 512 P.T P.recv "ReadMessageBegin").run Tryz.prog w = .ok (some false) w := hP.ahead .msgBegin
  have he : ∀ xs w, (callFunc (P.fn "ReadMessageBegin") xs).run Tryz.prog w = .ok (.enter (P.fn "ReadMessageBegin") xs) w := hP.enter .msgBegin
  obtain ⟨f, hf⟩ : ∃ f, f = P.fn "ReadMessageBegin" := ⟨_, rfl⟩
  obtain ⟨PT, hPT⟩ : ∃ f, f = P.T := ⟨_, rfl⟩
  obtain ⟨rc, hrc⟩ : ∃ f, f = P.recv := ⟨_, rfl⟩
  rw [← hf, ← hrc] at hb2
  rw [← hf] at he
  rw [← hf, ← hrc, ← hPT] at hm
  rw [← hrc, ← hPT] at ha
  rw [← hPT, ← hrc]
  have HB := Lib.hid hb2
  have HC := Lib.hid I_ctx
  have HQ := Lib.hid hP
  clear hb2 hf hPT hrc hP hr h hfr hbx hlt hby
  go_enter Tryz.func110, Tryz.ntmps110
  go_wp2_with fail
  go_region_held3 (fun _ => True) (exact True.intro) (first | (go_at_call 45; refine (HC.out _).mono ?_; rintro e w1 ⟨rfl, rfl⟩) | ((with_reducible refine HB.out.mono ?_); rintro e w2 ⟨x, v, ev, s', rfl, hx, hg, hg2⟩; have HX := Lib.hid hx; have HG := Lib.hid hg; have HG2 := Lib.hid hg2; clear hx hg hg2))
  all_goals
    obtain ⟨ca, cn, cc, X, hcv, hcr, hcb, hcf⟩ := conv_ex w2 x.s (Nat.le_trans HX.out.len (by decide))
    have HR := Lib.hid (And.intro hcr (And.intro hcb hcf))
    clear hcr hcb hcf
    have hbx := HR.out.2.2.block HG.out.2 (fun x => x)
    have c0 := cell_at hbx 0; have c1 := cell_at hbx 1; have c2 := cell_at hbx 2; have c3 := cell_at hbx 3; have c4 := cell_at hbx 4; have c5 := cell_at hbx 5; have c6 := cell_at hbx 6; have ff := free_at hbx
    simp only [gotZ, List.getElem?_toArray, List.getElem?_cons_zero, List.getElem?_cons_succ] at c0 c1 c2 c3 c4 c5 c6
    go_wp2
    have hd := cell_at (store7_at hbx (.int .i64 0) (.int .i64 (wrap64 x.t)) (.int .i64 0) (.int .i64 0) (.int .i64 0) (.int .i64 (wrap64 x.n)) (.slice ca cn cc))
    have d0 := hd 0; have d1 := hd 1; have d2 := hd 2; have d3 := hd 3; have d4 := hd 4; have d5 := hd 5; have d6 := hd 6
    simp only [List.getElem?_toArray, List.getElem?_cons_zero, List.getElem?_cons_succ] at d0 d1 d2 d3 d4 d5 d6
    obtain ⟨q1, q2, q3, q4⟩ := RX.after HQ.out (G := (fun k => k = w.heap.size + 1)) HX.out (store7_fr (k := w.heap.size + 1) (HR.out.2.2.wide (G := (fun k => k = w.heap.size + 1))) (Or.inl rfl) (.int .i64 0) (.int .i64 (wrap64 x.t)) (.int .i64 0) (.int .i64 0) (.int .i64 0) (.int .i64 (wrap64 x.n)) (.slice ca cn cc)) (fun k hk => by subst hk; exact ⟨by omega, HG.out.1, tag_got HG.out.2⟩)
    have qr : Rd _ (.slice ca cn cc) _ := (HR.out.1).keep (store7_fr (Fr.refl (fun k => k = w.heap.size + 1) _) (Or.inl rfl) (.int .i64 0) (.int .i64 (wrap64 x.t)) (.int .i64 0) (.int .i64 0) (.int .i64 0) (.int .i64 (wrap64 x.n)) (.slice ca cn cc)) (fun k hk e => by have := HR.out.2.1 k hk; have := lt_heap HG.out.2; omega)
    have qf := RX.fresh HQ.out HX.out q4 (vS := .slice ca cn cc) (fun k hk => by have := HR.out.2.1 k hk; omega)
    clear hd hbx c0 c1 c2 c3 c4 c5 c6 ff hcv HG2
    refine bodyPost_ret (v := .tuple #[.agg #[.int .i64 0, .int .i64 (wrap64 x.t), .int .i64 0, .int .i64 0, .int .i64 0, .int .i64 (wrap64 x.n), .slice ca cn cc], ev]) ?_ rfl ⟨x, .slice ca cn cc, ev, s', HX.out.val, ?_, q1, q2, q3, qr, qf⟩
    · rw [results_cell_tmp rfl]; clear q1 q2 q3 q4 HX HG HB HC HQ hm ha he qr qf; go_simp; done
    · rfl

theorem I_begun4 (w : World) (s : S) (r : Int × RVal × S) (t k sz id n : Int) (vS : Value) (h : P.I w s) (hr : P.next s .fieldBegin = some r) :
    Calls Tryz.prog 110 #[.iface P.T P.recv, .agg (stepA 4 t k sz id n vS)] w (GR P w r (fun x vS => #[.int .i64 0, .int .i64 (wrap64 x.t), .int .i64 0, .int .i64 0, .int .i64 (wrap64 x.id), .int .i64 0, vS]) (fun x => x.s)) := by
  have hfr : Fr noF noF w (((w.alloc (.cells (stepA 4 t k sz id n vS) 63 (0, 0))).alloc (.cells gotZ TGot (0, 0))).alloc (.cells gotZ TGot (0, 0))).drew := ((((Fr.refl noF w).alloc _).alloc _).alloc _).drew
  have hbx : (((w.alloc (.cells (stepA 4 t k sz id n vS) 63 (0, 0))).alloc (.cells gotZ TGot (0, 0))).alloc (.cells gotZ TGot (0, 0))).drew.heap[w.heap.size + 1]? = some (.cells gotZ TGot (0, 0)) := (new3g w _ _ _).1
  have hby : (((w.alloc (.cells (stepA 4 t k sz id n vS) 63 (0, 0))).alloc (.cells gotZ TGot (0, 0))).alloc (.cells gotZ TGot (0, 0))).drew.heap[w.heap.size + 1 + 1]? = some (.cells gotZ TGot (0, 0)) := (new3g w _ _ _).2
  have hlt : w.heap.size + 2 < (((w.alloc (.cells (stepA 4 t k sz id n vS) 63 (0, 0))).alloc (.cells gotZ TGot (0, 0))).alloc (.cells gotZ TGot (0, 0))).drew.heap.size := by simp
  have hb2 : Calls Tryz.prog (P.fn "ReadFieldBegin") #[P.recv, .iface 236 (.agg #[])] (((w.alloc (.cells (stepA 4 t k sz id n vS) 63 (0, 0))).alloc (.cells gotZ TGot (0, 0))).alloc (.cells gotZ TGot (0, 0))).drew (fun e w' => ∃ x v ev s', e = .returned (.tuple #[.string ⟨x.s.toArray⟩, .int .u8 x.t, .int .i16 x.id, ev]) ∧ RX P w r .fieldBegin x v ev s' w' ∧ (¬ P.F w' (w.heap.size + 1) ∧ w'.heap[w.heap.size + 1]? = some (.cells gotZ TGot (0, 0))) ∧ (¬ P.F w' (w.heap.size + 1 + 1) ∧ w'.heap[w.heap.size + 1 + 1]? = some (.cells gotZ TGot (0, 0)))) := by
    refine (hP.beside (W := (((w.alloc (.cells (stepA 4 t k sz id n vS) 63 (0, 0))).alloc (.cells gotZ TGot (0, 0))).alloc (.cells gotZ TGot (0, 0))).drew) .fieldBegin h hfr hr).mono ?_
    rintro e w' ⟨x, v, ev, s', he, hx, hF, hk⟩
    exact ⟨x, v, ev, s', he, hx, ⟨hF _ (by omega) (by simp), hk _ _ (by omega) hbx⟩, ⟨hF _ (by omega) (by simp), hk _ _ (by omega) hby⟩⟩
  have hm : ∀ w, (method 512 P.T P.recv "ReadFieldBegin").run Tryz.prog w = .ok (P.fn "ReadFieldBegin", P.recv) w := hP.meth .fieldBegin
  have ha : ∀ w, (nilAhead 512 P.T P.recv "ReadFieldBegin").run Tryz.prog w = .ok (some false) w := hP.ahead .fieldBegin
  have he : ∀ xs w, (callFunc (P.fn "ReadFieldBegin") xs).run Tryz.prog w = .ok (.enter (P.fn "ReadFieldBegin") xs) w := hP.enter .fieldBegin
  obtain ⟨f, hf⟩ : ∃ f, f = P.fn "ReadFieldBegin" := ⟨_, rfl⟩
  obtain ⟨PT, hPT⟩ : ∃ f, f = P.T := ⟨_, rfl⟩
  obtain ⟨rc, hrc⟩ : ∃ f, f = P.recv := ⟨_, rfl⟩
  rw [← hf, ← hrc] at hb2
  rw [← hf] at he
  rw [← hf, ← hrc, ← hPT] at hm
  rw [← hrc, ← hPT] at ha
  rw [← hPT, ← hrc]
  have HB := Lib.hid hb2
  have HC := Lib.hid I_ctx
  have HQ := Lib.hid hP
  clear hb2 hf hPT hrc hP hr h hfr hbx hlt hby
  go_enter Tryz.func110, Tryz.ntmps110
  go_wp2_with fail
  go_region_held3 (fun _ => True) (exact True.intro) (first | (go_at_call 45; refine (HC.out _).mono ?_; rintro e w1 ⟨rfl, rfl⟩) | ((with_reducible refine HB.out.mono ?_); rintro e w2 ⟨x, v, ev, s', rfl, hx, hg, hg2⟩; have HX := Lib.hid hx; have HG := Lib.hid hg; have HG2 := Lib.hid hg2; clear hx hg hg2))
  all_goals
    obtain ⟨ca, cn, cc, X, hcv, hcr, hcb, hcf⟩ := conv_ex w2 x.s (Nat.le_trans HX.out.len (by decide))
    have HR := Lib.hid (And.intro hcr (And.intro hcb hcf))
    clear hcr hcb hcf
    have hbx := HR.out.2.2.block HG.out.2 (fun x => x)
    have c0 := cell_at hbx 0; have c1 := cell_at hbx 1; have c2 := cell_at hbx 2; have c3 := cell_at hbx 3; have c4 := cell_at hbx 4; have c5 := cell_at hbx 5; have c6 := cell_at hbx 6; have ff := free_at hbx
    simp only [gotZ, List.getElem?_toArray, List.getElem?_cons_zero, List.getElem?_cons_succ] at c0 c1 c2 c3 c4 c5 c6
    go_wp2
    have hd := cell_at (store7_at hbx (.int .i64 0) (.int .i64 (wrap64 x.t)) (.int .i64 0) (.int .i64 0) (.int .i64 (wrap64 x.id)) (.int .i64 0) (.slice ca cn cc))
    have d0 := hd 0; have d1 := hd 1; have d2 := hd 2; have d3 := hd 3; have d4 := hd 4; have d5 := hd 5; have d6 := hd 6
    simp only [List.getElem?_toArray, List.getElem?_cons_zero, List.getElem?_cons_succ] at d0 d1 d2 d3 d4 d5 d6
    obtain ⟨q1, q2, q3, q4⟩ := RX.after HQ.out (G := (fun k => k = w.heap.size + 1)) HX.out (store7_fr (k := w.heap.size + 1) (HR.out.2.2.wide (G := (fun k => k = w.heap.size + 1))) (Or.inl rfl) (.int .i64 0) (.int .i64 (wrap64 x.t)) (.int .i64 0) (.int .i64 0) (.int .i64 (wrap64 x.id)) (.int .i64 0) (.slice ca cn cc)) (fun k hk => by subst hk; exact ⟨by omega, HG.out.1, tag_got HG.out.2⟩)
    have qr : Rd _ (.slice ca cn cc) _ := (HR.out.1).keep (store7_fr (Fr.refl (fun k => k = w.heap.size + 1) _) (Or.inl rfl) (.int .i64 0) (.int .i64 (wrap64 x.t)) (.int .i64 0) (.int .i64 0) (.int .i64 (wrap64 x.id)) (.int .i64 0) (.slice ca cn cc)) (fun k hk e => by have := HR.out.2.1 k hk; have := lt_heap HG.out.2; omega)
    have qf := RX.fresh HQ.out HX.out q4 (vS := .slice ca cn cc) (fun k hk => by have := HR.out.2.1 k hk; omega)
    clear hd hbx c0 c1 c2 c3 c4 c5 c6 ff hcv HG2
    refine bodyPost_ret (v := .tuple #[.agg #[.int .i64 0, .int .i64 (wrap64 x.t), .int .i64 0, .int .i64 0, .int .i64 (wrap64 x.id), .int .i64 0, .slice ca cn cc], ev]) ?_ rfl ⟨x, .slice ca cn cc, ev, s', HX.out.val, ?_, q1, q2, q3, qr, qf⟩
    · rw [results_cell_tmp rfl]; clear q1 q2 q3 q4 HX HG HB HC HQ hm ha he qr qf; go_simp; done
    · rfl

theorem I_begun2 (w : World) (s : S) (r : Int × RVal × S) (t k sz id n : Int) (vS : Value) (h : P.I w s) (hr : P.next s .structBegin = some r) :
    Calls Tryz.prog 110 #[.iface P.T P.recv, .agg (stepA 2 t k sz id n vS)] w (GR P w r (fun _ vS => #[.int .i64 0, .int .i64 0, .int .i64 0, .int .i64 0, .int .i64 0, .int .i64 0, vS]) (fun x => x.s)) := by
  have hfr : Fr noF noF w (((w.alloc (.cells (stepA 2 t k sz id n vS) 63 (0, 0))).alloc (.cells gotZ TGot (0, 0))).alloc (.cells gotZ TGot (0, 0))).drew := ((((Fr.refl noF w).alloc _).alloc _).alloc _).drew
  have hbx : (((w.alloc (.cells (stepA 2 t k sz id n vS) 63 (0, 0))).alloc (.cells gotZ TGot (0, 0))).alloc (.cells gotZ TGot (0, 0))).drew.heap[w.heap.size + 1]? = some (.cells gotZ TGot (0, 0)) := (new3g w _ _ _).1
  have hby : (((w.alloc (.cells (stepA 2 t k sz id n vS) 63 (0, 0))).alloc (.cells gotZ TGot (0, 0))).alloc (.cells gotZ TGot (0, 0))).drew.heap[w.heap.size + 1 + 1]? = some (.cells gotZ TGot (0, 0)) := (new3g w _ _ _).2
  have hlt : w.heap.size + 2 < (((w.alloc (.cells (stepA 2 t k sz id n vS) 63 (0, 0))).alloc (.cells gotZ TGot (0, 0))).alloc (.cells gotZ TGot (0, 0))).drew.heap.size := by simp
  have hb2 : Calls Tryz.prog (P.fn "ReadStructBegin") #[P.recv, .iface 236 (.agg #[])] (((w.alloc (.cells (stepA 2 t k sz id n vS) 63 (0, 0))).alloc (.cells gotZ TGot (0, 0))).alloc (.cells gotZ TGot (0, 0))).drew (fun e w' => ∃ x v ev s', e = .returned (.tuple #[.string ⟨x.s.toArray⟩, ev]) ∧ RX P w r .structBegin x v ev s' w' ∧ (¬ P.F w' (w.heap.size + 1) ∧ w'.heap[w.heap.size + 1]? = some (.cells gotZ TGot (0, 0))) ∧ (¬ P.F w' (w.heap.size + 1 + 1) ∧ w'.heap[w.heap.size + 1 + 1]? = some (.cells gotZ TGot (0, 0)))) := by
    refine (hP.beside (W := (((w.alloc (.cells (stepA 2 t k sz id n vS) 63 (0, 0))).alloc (.cells gotZ TGot (0, 0))).alloc (.cells gotZ TGot (0, 0))).drew) .structBegin h hfr hr).mono ?_
    rintro e w' ⟨x, v, ev, s', he, hx, hF, hk⟩
    exact ⟨x, v, ev, s', he, hx, ⟨hF _ (by omega) (by simp), hk _ _ (by omega) hbx⟩, ⟨hF _ (by omega) (by simp), hk _ _ (by omega) hby⟩⟩
  have hm : ∀ w, (method 512 P.T P.recv "ReadStructBegin").run Tryz.prog w = .ok (P.fn "ReadStructBegin", P.recv) w := hP.meth .structBegin
  have ha : ∀ w, (nilAhead 512 P.T P.recv "ReadStructBegin").run Tryz.prog w = .ok (some false) w := hP.ahead .structBegin
  have he : ∀ xs w, (callFunc (P.fn "ReadStructBegin") xs).run Tryz.prog w = .ok (.enter (P.fn "ReadStructBegin") xs) w := hP.enter .structBegin
  obtain ⟨f, hf⟩ : ∃ f, f = P.fn "ReadStructBegin" := ⟨_, rfl⟩
  obtain ⟨PT, hPT⟩ : ∃ f, f = P.T := ⟨_, rfl⟩
  obtain ⟨rc, hrc⟩ : ∃ f, f = P.recv := ⟨_, rfl⟩
  rw [← hf, ← hrc] at hb2
  rw [← hf] at he
  rw [← hf, ← hrc, ← hPT] at hm
  rw [← hrc, ← hPT] at ha
  rw [← hPT, ← hrc]
  have HB := Lib.hid hb2
  have HC := Lib.hid I_ctx
  have HQ := Lib.hid hP
  clear hb2 hf hPT hrc hP hr h hfr hbx hlt hby
  go_enter Tryz.func110, Tryz.ntmps110
  go_wp2_with fail
  go_region_held3 (fun _ => True) (exact True.intro) (first | (go_at_call 45; refine (HC.out _).mono ?_; rintro e w1 ⟨rfl, rfl⟩) | ((with_reducible refine HB.out.mono ?_); rintro e w2 ⟨x, v, ev, s', rfl, hx, hg, hg2⟩; have HX := Lib.hid hx; have HG := Lib.hid hg; have HG2 := Lib.hid hg2; clear hx hg hg2))
  all_goals
    obtain ⟨ca, cn, cc, X, hcv, hcr, hcb, hcf⟩ := conv_ex w2 x.s (Nat.le_trans HX.out.len (by decide))
    have HR := Lib.hid (And.intro hcr (And.intro hcb hcf))
    clear hcr hcb hcf
    have hbx := HR.out.2.2.block HG.out.2 (fun x => x)
    have c0 := cell_at hbx 0; have c1 := cell_at hbx 1; have c2 := cell_at hbx 2; have c3 := cell_at hbx 3; have c4 := cell_at hbx 4; have c5 := cell_at hbx 5; have c6 := cell_at hbx 6; have ff := free_at hbx
    simp only [gotZ, List.getElem?_toArray, List.getElem?_cons_zero, List.getElem?_cons_succ] at c0 c1 c2 c3 c4 c5 c6
    have hby := HR.out.2.2.block HG2.out.2 (fun x => x)
    have g0 := cell_at hby 0; have g1 := cell_at hby 1; have g2 := cell_at hby 2; have g3 := cell_at hby 3; have g4 := cell_at hby 4; have g5 := cell_at hby 5; have g6 := cell_at hby 6; have gf := free_at hby
    simp only [gotZ, List.getElem?_toArray, List.getElem?_cons_zero, List.getElem?_cons_succ] at g0 g1 g2 g3 g4 g5 g6
    go_wp2
    have hbz : (((X.setCell ⟨w.heap.size + 1 + 1, 6, none⟩ (.slice ca cn cc)).setCell ⟨w.heap.size + 1 + 1, 1, none⟩ (.int .i64 0)).setCell ⟨w.heap.size + 1 + 1, 2, none⟩ (.int .i64 0)).heap[w.heap.size + 1]? = some (.cells gotZ TGot (0, 0)) := (setCell_ne (setCell_ne (setCell_ne (HR.out.2.2.block HG.out.2 fun x => x) (by omega) _) (by omega) _) (by omega) _)
    have hd := cell_at (store7_at hbz (.int .i64 0) (.int .i64 0) (.int .i64 0) (.int .i64 0) (.int .i64 0) (.int .i64 0) (.slice ca cn cc))
    have d0 := hd 0; have d1 := hd 1; have d2 := hd 2; have d3 := hd 3; have d4 := hd 4; have d5 := hd 5; have d6 := hd 6
    simp only [List.getElem?_toArray, List.getElem?_cons_zero, List.getElem?_cons_succ] at d0 d1 d2 d3 d4 d5 d6
    obtain ⟨q1, q2, q3, q4⟩ := RX.after HQ.out (G := (fun k => k = w.heap.size + 1 ∨ k = w.heap.size + 1 + 1)) HX.out (store7_fr (k := w.heap.size + 1) (((((((HR.out.2.2.wide (G := (fun k => k = w.heap.size + 1 ∨ k = w.heap.size + 1 + 1))).setCell (p := ⟨w.heap.size + 1 + 1, 6, none⟩) (Or.inl (Or.inr rfl)) (.slice ca cn cc))).setCell (p := ⟨w.heap.size + 1 + 1, 1, none⟩) (Or.inl (Or.inr rfl)) (.int .i64 0))).setCell (p := ⟨w.heap.size + 1 + 1, 2, none⟩) (Or.inl (Or.inr rfl)) (.int .i64 0))) (Or.inl (Or.inl rfl)) (.int .i64 0) (.int .i64 0) (.int .i64 0) (.int .i64 0) (.int .i64 0) (.int .i64 0) (.slice ca cn cc)) (fun k hk => by rcases hk with rfl | rfl; exact ⟨by omega, HG.out.1, tag_got HG.out.2⟩; exact ⟨by omega, HG2.out.1, tag_got HG2.out.2⟩)
    have qr : Rd _ (.slice ca cn cc) _ := (HR.out.1).keep (store7_fr (k := w.heap.size + 1) (((((Fr.refl (fun k => k = w.heap.size + 1 ∨ k = w.heap.size + 1 + 1) X)).setCell (p := ⟨w.heap.size + 1 + 1, 6, none⟩) (Or.inl (Or.inr rfl)) (.slice ca cn cc)).setCell (p := ⟨w.heap.size + 1 + 1, 1, none⟩) (Or.inl (Or.inr rfl)) (.int .i64 0)).setCell (p := ⟨w.heap.size + 1 + 1, 2, none⟩) (Or.inl (Or.inr rfl)) (.int .i64 0)) (Or.inl (Or.inl rfl)) (.int .i64 0) (.int .i64 0) (.int .i64 0) (.int .i64 0) (.int .i64 0) (.int .i64 0) (.slice ca cn cc)) (fun k hk e => by have := HR.out.2.1 k hk; have := lt_heap HG.out.2; have := lt_heap HG2.out.2; rcases e with rfl | rfl <;> omega)
    have qf := RX.fresh HQ.out HX.out q4 (vS := .slice ca cn cc) (fun k hk => by have := HR.out.2.1 k hk; omega)
    clear hd hbz hbx hby c0 c1 c2 c3 c4 c5 c6 ff g0 g1 g2 g3 g4 g5 g6 gf hcv
    refine bodyPost_ret (v := .tuple #[.agg #[.int .i64 0, .int .i64 0, .int .i64 0, .int .i64 0, .int .i64 0, .int .i64 0, .slice ca cn cc], ev]) ?_ rfl ⟨x, .slice ca cn cc, ev, s', HX.out.val, ?_, q1, q2, q3, qr, qf⟩
    · rw [results_cell_tmp rfl]; clear q1 q2 q3 q4 HX HG HB HC HQ HG2 hm ha he qr qf; go_simp; done
    · rfl
end Go.Proofs.YtkfkieebcahiiaaGreatDoor
