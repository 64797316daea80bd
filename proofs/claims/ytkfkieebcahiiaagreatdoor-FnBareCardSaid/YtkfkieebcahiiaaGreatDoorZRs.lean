/- The thin package reads a step, by whatever protocol. Printed by gen_rs.py. -/
import Derived.Deep.RegionHeld3
import Derived.Test.YtkfkieebcahiiaaGreatDoorZRp
import Derived.Test.YtkfkieebcahiiaaGreatDoorZ5
set_option linter.all false
namespace Go.Proofs.YtkfkieebcahiiaaGreatDoor
open Go Go.RowKit
set_option maxHeartbeats 1000000
set_option maxRecDepth 100000

variable {S : Type} (P : RProto S) (hP : P.Ok)
include hP

theorem I_read14 (w : World) (s : S) (r : Int × RVal × S) (t k sz id n : Int) (vS : Value) (h : P.I w s) (hr : P.next s .byte = some r) :
    Calls Tryz.prog 89 #[.iface P.T P.recv, .agg (stepA 14 t k sz id n vS)] w (GR P w r (fun x vS => #[.int .i64 0, .int .i64 0, .int .i64 0, .int .i64 0, .int .i64 0, .int .i64 (wrap64 x.n), vS]) (fun _ => ([] : List UInt8))) := by
  have hfr : Fr noF noF w ((w.alloc (.cells (stepA 14 t k sz id n vS) 63 (0, 0))).alloc (.cells gotZ TGot (0, 0))).drew := (((Fr.refl noF w).alloc _).alloc _).drew
  have hbx : ((w.alloc (.cells (stepA 14 t k sz id n vS) 63 (0, 0))).alloc (.cells gotZ TGot (0, 0))).drew.heap[w.heap.size + 1]? = some (.cells gotZ TGot (0, 0)) := (new2 w _ _).2
  have hlt : w.heap.size + 1 < ((w.alloc (.cells (stepA 14 t k sz id n vS) 63 (0, 0))).alloc (.cells gotZ TGot (0, 0))).drew.heap.size := by simp
  have hb2 : Calls Tryz.prog (P.fn "ReadByte") #[P.recv, .iface 236 (.agg #[])] ((w.alloc (.cells (stepA 14 t k sz id n vS) 63 (0, 0))).alloc (.cells gotZ TGot (0, 0))).drew (fun e w' => ∃ x v ev s', e = .returned (.tuple #[.int .i8 x.n, ev]) ∧ RX P w r .byte x v ev s' w' ∧ (¬ P.F w' (w.heap.size + 1) ∧ w'.heap[w.heap.size + 1]? = some (.cells gotZ TGot (0, 0)))) := by
    refine (hP.beside (W := ((w.alloc (.cells (stepA 14 t k sz id n vS) 63 (0, 0))).alloc (.cells gotZ TGot (0, 0))).drew) .byte h hfr hr).mono ?_
    rintro e w' ⟨x, v, ev, s', he, hx, hF, hk⟩
    exact ⟨x, v, ev, s', he, hx, ⟨hF _ (by omega) (by simp), hk _ _ (by omega) hbx⟩⟩
  have hm : ∀ w, (method 512 P.T P.recv "ReadByte").run Tryz.prog w = .ok (P.fn "ReadByte", P.recv) w := hP.meth .byte
  have ha : ∀ w, (nilAhead 512 P.T P.recv "ReadByte").run Tryz.prog w = .ok (some false) w := hP.ahead .byte
  have he : ∀ xs w, (callFunc (P.fn "ReadByte") xs).run Tryz.prog w = .ok (.enter (P.fn "ReadByte") xs) w := hP.enter .byte
  obtain ⟨f, hf⟩ : ∃ f, f = P.fn "ReadByte" := ⟨_, rfl⟩
  obtain ⟨PT, hPT⟩ : ∃ f, f = P.T := ⟨_, rfl⟩
  obtain ⟨rc, hrc⟩ : ∃ f, f = P.recv := ⟨_, rfl⟩
  rw [← hf, ← hrc] at hb2
  rw [← hf] at he
  rw [← hf, ← hrc, ← hPT] at hm
  rw [← hrc, ← hPT] at ha
  rw [← hPT, ← hrc]
  have HB := Lib.hid hb2
  have HC := Lib.hid I_ctx
  have HQ := Lib.hid hP
  clear hb2 hf hPT hrc hP hr h hfr hbx hlt
  go_enter Tryz.func89, Tryz.ntmps89
  go_wp2_with fail
  go_region_held3 (fun _ => True) (exact True.intro) (first | (go_at_call 45; refine (HC.out _).mono ?_; rintro e w1 ⟨rfl, rfl⟩) | ((with_reducible refine HB.out.mono ?_); rintro e w2 ⟨x, v, ev, s', rfl, hx, hg⟩; have HX := Lib.hid hx; have HG := Lib.hid hg; clear hx hg))
  all_goals
    have hbx := HG.out.2
    have c0 := cell_at hbx 0; have c1 := cell_at hbx 1; have c2 := cell_at hbx 2; have c3 := cell_at hbx 3; have c4 := cell_at hbx 4; have c5 := cell_at hbx 5; have c6 := cell_at hbx 6; have ff := free_at hbx
    simp only [gotZ, List.getElem?_toArray, List.getElem?_cons_zero, List.getElem?_cons_succ] at c0 c1 c2 c3 c4 c5 c6
    go_wp2
    have hd := cell_at (store7_at hbx (.int .i64 0) (.int .i64 0) (.int .i64 0) (.int .i64 0) (.int .i64 0) (.int .i64 (wrap64 x.n)) (.slice none 0 0))
    have d0 := hd 0; have d1 := hd 1; have d2 := hd 2; have d3 := hd 3; have d4 := hd 4; have d5 := hd 5; have d6 := hd 6
    simp only [List.getElem?_toArray, List.getElem?_cons_zero, List.getElem?_cons_succ] at d0 d1 d2 d3 d4 d5 d6
    obtain ⟨q1, q2, q3, q4⟩ := RX.after HQ.out (G := (fun k => k = w.heap.size + 1)) HX.out (store7_fr (k := w.heap.size + 1) ((Fr.refl (fun k => k = w.heap.size + 1) w2)) (Or.inl rfl) (.int .i64 0) (.int .i64 0) (.int .i64 0) (.int .i64 0) (.int .i64 0) (.int .i64 (wrap64 x.n)) (.slice none 0 0)) (fun k hk => by subst hk; exact ⟨by omega, HG.out.1, tag_got HG.out.2⟩)
    clear hd hbx c0 c1 c2 c3 c4 c5 c6 ff 
    refine bodyPost_ret (v := .tuple #[.agg #[.int .i64 0, .int .i64 0, .int .i64 0, .int .i64 0, .int .i64 0, .int .i64 (wrap64 x.n), .slice none 0 0], ev]) ?_ rfl ⟨x, .slice none 0 0, ev, s', HX.out.val, ?_, q1, q2, q3, Or.inl ⟨rfl, rfl⟩, fun j hj => hj.elim⟩
    · rw [results_cell_tmp rfl]; clear q1 q2 q3 q4 HX HG HB HC HQ hm ha he; go_simp; done
    · rfl

theorem I_read15 (w : World) (s : S) (r : Int × RVal × S) (t k sz id n : Int) (vS : Value) (h : P.I w s) (hr : P.next s .i16 = some r) :
    Calls Tryz.prog 89 #[.iface P.T P.recv, .agg (stepA 15 t k sz id n vS)] w (GR P w r (fun x vS => #[.int .i64 0, .int .i64 0, .int .i64 0, .int .i64 0, .int .i64 0, .int .i64 (wrap64 x.n), vS]) (fun _ => ([] : List UInt8))) := by
  have hfr : Fr noF noF w ((w.alloc (.cells (stepA 15 t k sz id n vS) 63 (0, 0))).alloc (.cells gotZ TGot (0, 0))).drew := (((Fr.refl noF w).alloc _).alloc _).drew
  have hbx : ((w.alloc (.cells (stepA 15 t k sz id n vS) 63 (0, 0))).alloc (.cells gotZ TGot (0, 0))).drew.heap[w.heap.size + 1]? = some (.cells gotZ TGot (0, 0)) := (new2 w _ _).2
  have hlt : w.heap.size + 1 < ((w.alloc (.cells (stepA 15 t k sz id n vS) 63 (0, 0))).alloc (.cells gotZ TGot (0, 0))).drew.heap.size := by simp
  have hb2 : Calls Tryz.prog (P.fn "ReadI16") #[P.recv, .iface 236 (.agg #[])] ((w.alloc (.cells (stepA 15 t k sz id n vS) 63 (0, 0))).alloc (.cells gotZ TGot (0, 0))).drew (fun e w' => ∃ x v ev s', e = .returned (.tuple #[.int .i16 x.n, ev]) ∧ RX P w r .i16 x v ev s' w' ∧ (¬ P.F w' (w.heap.size + 1) ∧ w'.heap[w.heap.size + 1]? = some (.cells gotZ TGot (0, 0)))) := by
    refine (hP.beside (W := ((w.alloc (.cells (stepA 15 t k sz id n vS) 63 (0, 0))).alloc (.cells gotZ TGot (0, 0))).drew) .i16 h hfr hr).mono ?_
    rintro e w' ⟨x, v, ev, s', he, hx, hF, hk⟩
    exact ⟨x, v, ev, s', he, hx, ⟨hF _ (by omega) (by simp), hk _ _ (by omega) hbx⟩⟩
  have hm : ∀ w, (method 512 P.T P.recv "ReadI16").run Tryz.prog w = .ok (P.fn "ReadI16", P.recv) w := hP.meth .i16
  have ha : ∀ w, (nilAhead 512 P.T P.recv "ReadI16").run Tryz.prog w = .ok (some false) w := hP.ahead .i16
  have he : ∀ xs w, (callFunc (P.fn "ReadI16") xs).run Tryz.prog w = .ok (.enter (P.fn "ReadI16") xs) w := hP.enter .i16
  obtain ⟨f, hf⟩ : ∃ f, f = P.fn "ReadI16" := ⟨_, rfl⟩
  obtain ⟨PT, hPT⟩ : ∃ f, f = P.T := ⟨_, rfl⟩
  obtain ⟨rc, hrc⟩ : ∃ f, f = P.recv := ⟨_, rfl⟩
  rw [← hf, ← hrc] at hb2
  rw [← hf] at he
  rw [← hf, ← hrc, ← hPT] at hm
  rw [← hrc, ← hPT] at ha
  rw [← hPT, ← hrc]
  have HB := Lib.hid hb2
  have HC := Lib.hid I_ctx
  have HQ := Lib.hid hP
  clear hb2 hf hPT hrc hP hr h hfr hbx hlt
  go_enter Tryz.func89, Tryz.ntmps89
  go_wp2_with fail
  go_region_held3 (fun _ => True) (exact True.intro) (first | (go_at_call 45; refine (HC.out _).mono ?_; rintro e w1 ⟨rfl, rfl⟩) | ((with_reducible refine HB.out.mono ?_); rintro e w2 ⟨x, v, ev, s', rfl, hx, hg⟩; have HX := Lib.hid hx; have HG := Lib.hid hg; clear hx hg))
  all_goals
    have hbx := HG.out.2
    have c0 := cell_at hbx 0; have c1 := cell_at hbx 1; have c2 := cell_at hbx 2; have c3 := cell_at hbx 3; have c4 := cell_at hbx 4; have c5 := cell_at hbx 5; have c6 := cell_at hbx 6; have ff := free_at hbx
    simp only [gotZ, List.getElem?_toArray, List.getElem?_cons_zero, List.getElem?_cons_succ] at c0 c1 c2 c3 c4 c5 c6
    go_wp2
    have hd := cell_at (store7_at hbx (.int .i64 0) (.int .i64 0) (.int .i64 0) (.int .i64 0) (.int .i64 0) (.int .i64 (wrap64 x.n)) (.slice none 0 0))
    have d0 := hd 0; have d1 := hd 1; have d2 := hd 2; have d3 := hd 3; have d4 := hd 4; have d5 := hd 5; have d6 := hd 6
    simp only [List.getElem?_toArray, List.getElem?_cons_zero, List.getElem?_cons_succ] at d0 d1 d2 d3 d4 d5 d6
    obtain ⟨q1, q2, q3, q4⟩ := RX.after HQ.out (G := (fun k => k = w.heap.size + 1)) HX.out (store7_fr (k := w.heap.size + 1) ((Fr.refl (fun k => k = w.heap.size + 1) w2)) (Or.inl rfl) (.int .i64 0) (.int .i64 0) (.int .i64 0) (.int .i64 0) (.int .i64 0) (.int .i64 (wrap64 x.n)) (.slice none 0 0)) (fun k hk => by subst hk; exact ⟨by omega, HG.out.1, tag_got HG.out.2⟩)
    clear hd hbx c0 c1 c2 c3 c4 c5 c6 ff 
    refine bodyPost_ret (v := .tuple #[.agg #[.int .i64 0, .int .i64 0, .int .i64 0, .int .i64 0, .int .i64 0, .int .i64 (wrap64 x.n), .slice none 0 0], ev]) ?_ rfl ⟨x, .slice none 0 0, ev, s', HX.out.val, ?_, q1, q2, q3, Or.inl ⟨rfl, rfl⟩, fun j hj => hj.elim⟩
    · rw [results_cell_tmp rfl]; clear q1 q2 q3 q4 HX HG HB HC HQ hm ha he; go_simp; done
    · rfl

theorem I_read16 (w : World) (s : S) (r : Int × RVal × S) (t k sz id n : Int) (vS : Value) (h : P.I w s) (hr : P.next s .i32 = some r) :
    Calls Tryz.prog 89 #[.iface P.T P.recv, .agg (stepA 16 t k sz id n vS)] w (GR P w r (fun x vS => #[.int .i64 0, .int .i64 0, .int .i64 0, .int .i64 0, .int .i64 0, .int .i64 (wrap64 x.n), vS]) (fun _ => ([] : List UInt8))) := by
  have hfr : Fr noF noF w ((w.alloc (.cells (stepA 16 t k sz id n vS) 63 (0, 0))).alloc (.cells gotZ TGot (0, 0))).drew := (((Fr.refl noF w).alloc _).alloc _).drew
  have hbx : ((w.alloc (.cells (stepA 16 t k sz id n vS) 63 (0, 0))).alloc (.cells gotZ TGot (0, 0))).drew.heap[w.heap.size + 1]? = some (.cells gotZ TGot (0, 0)) := (new2 w _ _).2
  have hlt : w.heap.size + 1 < ((w.alloc (.cells (stepA 16 t k sz id n vS) 63 (0, 0))).alloc (.cells gotZ TGot (0, 0))).drew.heap.size := by simp
  have hb2 : Calls Tryz.prog (P.fn "ReadI32") #[P.recv, .iface 236 (.agg #[])] ((w.alloc (.cells (stepA 16 t k sz id n vS) 63 (0, 0))).alloc (.cells gotZ TGot (0, 0))).drew (fun e w' => ∃ x v ev s', e = .returned (.tuple #[.int .i32 x.n, ev]) ∧ RX P w r .i32 x v ev s' w' ∧ (¬ P.F w' (w.heap.size + 1) ∧ w'.heap[w.heap.size + 1]? = some (.cells gotZ TGot (0, 0)))) := by
    refine (hP.beside (W := ((w.alloc (.cells (stepA 16 t k sz id n vS) 63 (0, 0))).alloc (.cells gotZ TGot (0, 0))).drew) .i32 h hfr hr).mono ?_
    rintro e w' ⟨x, v, ev, s', he, hx, hF, hk⟩
    exact ⟨x, v, ev, s', he, hx, ⟨hF _ (by omega) (by simp), hk _ _ (by omega) hbx⟩⟩
  have hm : ∀ w, (method 512 P.T P.recv "ReadI32").run Tryz.prog w = .ok (P.fn "ReadI32", P.recv) w := hP.meth .i32
  have ha : ∀ w, (nilAhead 512 P.T P.recv "ReadI32").run Tryz.prog w = .ok (some false) w := hP.ahead .i32
  have he : ∀ xs w, (callFunc (P.fn "ReadI32") xs).run Tryz.prog w = .ok (.enter (P.fn "ReadI32") xs) w := hP.enter .i32
  obtain ⟨f, hf⟩ : ∃ f, f = P.fn "ReadI32" := ⟨_, rfl⟩
  obtain ⟨PT, hPT⟩ : ∃ f, f = P.T := ⟨_, rfl⟩
  obtain ⟨rc, hrc⟩ : ∃ f, f = P.recv := ⟨_, rfl⟩
  rw [← hf, ← hrc] at hb2
  rw [← hf] at he
  rw [← hf, ← hrc, ← hPT] at hm
  rw [← hrc, ← hPT] at ha
  rw [← hPT, ← hrc]
  have HB := Lib.hid hb2
  have HC := Lib.hid I_ctx
  have HQ := Lib.hid hP
  clear hb2 hf hPT hrc hP hr h hfr hbx hlt
  go_enter Tryz.func89, Tryz.ntmps89
  go_wp2_with fail
  go_region_held3 (fun _ => True) (exact True.intro) (first | (go_at_call 45; refine (HC.out _).mono ?_; rintro e w1 ⟨rfl, rfl⟩) | ((with_reducible refine HB.out.mono ?_); rintro e w2 ⟨x, v, ev, s', rfl, hx, hg⟩; have HX := Lib.hid hx; have HG := Lib.hid hg; clear hx hg))
  all_goals
    have hbx := HG.out.2
    have c0 := cell_at hbx 0; have c1 := cell_at hbx 1; have c2 := cell_at hbx 2; have c3 := cell_at hbx 3; have c4 := cell_at hbx 4; have c5 := cell_at hbx 5; have c6 := cell_at hbx 6; have ff := free_at hbx
    simp only [gotZ, List.getElem?_toArray, List.getElem?_cons_zero, List.getElem?_cons_succ] at c0 c1 c2 c3 c4 c5 c6
    go_wp2
    have hd := cell_at (store7_at hbx (.int .i64 0) (.int .i64 0) (.int .i64 0) (.int .i64 0) (.int .i64 0) (.int .i64 (wrap64 x.n)) (.slice none 0 0))
    have d0 := hd 0; have d1 := hd 1; have d2 := hd 2; have d3 := hd 3; have d4 := hd 4; have d5 := hd 5; have d6 := hd 6
    simp only [List.getElem?_toArray, List.getElem?_cons_zero, List.getElem?_cons_succ] at d0 d1 d2 d3 d4 d5 d6
    obtain ⟨q1, q2, q3, q4⟩ := RX.after HQ.out (G := (fun k => k = w.heap.size + 1)) HX.out (store7_fr (k := w.heap.size + 1) ((Fr.refl (fun k => k = w.heap.size + 1) w2)) (Or.inl rfl) (.int .i64 0) (.int .i64 0) (.int .i64 0) (.int .i64 0) (.int .i64 0) (.int .i64 (wrap64 x.n)) (.slice none 0 0)) (fun k hk => by subst hk; exact ⟨by omega, HG.out.1, tag_got HG.out.2⟩)
    clear hd hbx c0 c1 c2 c3 c4 c5 c6 ff 
    refine bodyPost_ret (v := .tuple #[.agg #[.int .i64 0, .int .i64 0, .int .i64 0, .int .i64 0, .int .i64 0, .int .i64 (wrap64 x.n), .slice none 0 0], ev]) ?_ rfl ⟨x, .slice none 0 0, ev, s', HX.out.val, ?_, q1, q2, q3, Or.inl ⟨rfl, rfl⟩, fun j hj => hj.elim⟩
    · rw [results_cell_tmp rfl]; clear q1 q2 q3 q4 HX HG HB HC HQ hm ha he; go_simp; done
    · rfl

theorem I_read17 (w : World) (s : S) (r : Int × RVal × S) (t k sz id n : Int) (vS : Value) (h : P.I w s) (hr : P.next s .i64 = some r) :
    Calls Tryz.prog 89 #[.iface P.T P.recv, .agg (stepA 17 t k sz id n vS)] w (GR P w r (fun x vS => #[.int .i64 0, .int .i64 0, .int .i64 0, .int .i64 0, .int .i64 0, .int .i64 (x.n), vS]) (fun _ => ([] : List UInt8))) := by
  have hfr : Fr noF noF w ((w.alloc (.cells (stepA 17 t k sz id n vS) 63 (0, 0))).alloc (.cells gotZ TGot (0, 0))).drew := (((Fr.refl noF w).alloc _).alloc _).drew
  have hbx : ((w.alloc (.cells (stepA 17 t k sz id n vS) 63 (0, 0))).alloc (.cells gotZ TGot (0, 0))).drew.heap[w.heap.size + 1]? = some (.cells gotZ TGot (0, 0)) := (new2 w _ _).2
  have hlt : w.heap.size + 1 < ((w.alloc (.cells (stepA 17 t k sz id n vS) 63 (0, 0))).alloc (.cells gotZ TGot (0, 0))).drew.heap.size := by simp
  have hb2 : Calls Tryz.prog (P.fn "ReadI64") #[P.recv, .iface 236 (.agg #[])] ((w.alloc (.cells (stepA 17 t k sz id n vS) 63 (0, 0))).alloc (.cells gotZ TGot (0, 0))).drew (fun e w' => ∃ x v ev s', e = .returned (.tuple #[.int .i64 x.n, ev]) ∧ RX P w r .i64 x v ev s' w' ∧ (¬ P.F w' (w.heap.size + 1) ∧ w'.heap[w.heap.size + 1]? = some (.cells gotZ TGot (0, 0)))) := by
    refine (hP.beside (W := ((w.alloc (.cells (stepA 17 t k sz id n vS) 63 (0, 0))).alloc (.cells gotZ TGot (0, 0))).drew) .i64 h hfr hr).mono ?_
    rintro e w' ⟨x, v, ev, s', he, hx, hF, hk⟩
    exact ⟨x, v, ev, s', he, hx, ⟨hF _ (by omega) (by simp), hk _ _ (by omega) hbx⟩⟩
  have hm : ∀ w, (method 512 P.T P.recv "ReadI64").run Tryz.prog w = .ok (P.fn "ReadI64", P.recv) w := hP.meth .i64
  have ha : ∀ w, (nilAhead 512 P.T P.recv "ReadI64").run Tryz.prog w = .ok (some false) w := hP.ahead .i64
  have he : ∀ xs w, (callFunc (P.fn "ReadI64") xs).run Tryz.prog w = .ok (.enter (P.fn "ReadI64") xs) w := hP.enter .i64
  obtain ⟨f, hf⟩ : ∃ f, f = P.fn "ReadI64" := ⟨_, rfl⟩
  obtain ⟨PT, hPT⟩ : ∃ f, f = P.T := ⟨_, rfl⟩
  obtain ⟨rc, hrc⟩ : ∃ f, f = P.recv := ⟨_, rfl⟩
  rw [← hf, ← hrc] at hb2
  rw [← hf] at he
  rw [← hf, ← hrc, ← hPT] at hm
  rw [← hrc, ← hPT] at ha
  rw [← hPT, ← hrc]
  have HB := Lib.hid hb2
  have HC := Lib.hid I_ctx
  have HQ := Lib.hid hP
  clear hb2 hf hPT hrc hP hr h hfr hbx hlt
  go_enter Tryz.func89, Tryz.ntmps89
  go_wp2_with fail
  go_region_held3 (fun _ => True) (exact True.intro) (first | (go_at_call 45; refine (HC.out _).mono ?_; rintro e w1 ⟨rfl, rfl⟩) | ((with_reducible refine HB.out.mono ?_); rintro e w2 ⟨x, v, ev, s', rfl, hx, hg⟩; have HX := Lib.hid hx; have HG := Lib.hid hg; clear hx hg))
  all_goals
    have hbx := HG.out.2
    have c0 := cell_at hbx 0; have c1 := cell_at hbx 1; have c2 := cell_at hbx 2; have c3 := cell_at hbx 3; have c4 := cell_at hbx 4; have c5 := cell_at hbx 5; have c6 := cell_at hbx 6; have ff := free_at hbx
    simp only [gotZ, List.getElem?_toArray, List.getElem?_cons_zero, List.getElem?_cons_succ] at c0 c1 c2 c3 c4 c5 c6
    go_wp2
    have hd := cell_at (store7_at hbx (.int .i64 0) (.int .i64 0) (.int .i64 0) (.int .i64 0) (.int .i64 0) (.int .i64 (x.n)) (.slice none 0 0))
    have d0 := hd 0; have d1 := hd 1; have d2 := hd 2; have d3 := hd 3; have d4 := hd 4; have d5 := hd 5; have d6 := hd 6
    simp only [List.getElem?_toArray, List.getElem?_cons_zero, List.getElem?_cons_succ] at d0 d1 d2 d3 d4 d5 d6
    obtain ⟨q1, q2, q3, q4⟩ := RX.after HQ.out (G := (fun k => k = w.heap.size + 1)) HX.out (store7_fr (k := w.heap.size + 1) ((Fr.refl (fun k => k = w.heap.size + 1) w2)) (Or.inl rfl) (.int .i64 0) (.int .i64 0) (.int .i64 0) (.int .i64 0) (.int .i64 0) (.int .i64 (x.n)) (.slice none 0 0)) (fun k hk => by subst hk; exact ⟨by omega, HG.out.1, tag_got HG.out.2⟩)
    clear hd hbx c0 c1 c2 c3 c4 c5 c6 ff 
    refine bodyPost_ret (v := .tuple #[.agg #[.int .i64 0, .int .i64 0, .int .i64 0, .int .i64 0, .int .i64 0, .int .i64 (x.n), .slice none 0 0], ev]) ?_ rfl ⟨x, .slice none 0 0, ev, s', HX.out.val, ?_, q1, q2, q3, Or.inl ⟨rfl, rfl⟩, fun j hj => hj.elim⟩
    · rw [results_cell_tmp rfl]; clear q1 q2 q3 q4 HX HG HB HC HQ hm ha he; go_simp; done
    · rfl

theorem I_read18 (w : World) (s : S) (r : Int × RVal × S) (t k sz id n : Int) (vS : Value) (h : P.I w s) (hr : P.next s .double = some r) :
    Calls Tryz.prog 89 #[.iface P.T P.recv, .agg (stepA 18 t k sz id n vS)] w (GR P w r (fun x vS => #[.int .i64 0, .int .i64 0, .int .i64 0, .int .i64 0, .int .i64 0, .int .i64 (wrap64 x.f), vS]) (fun _ => ([] : List UInt8))) := by
  have hfr : Fr noF noF w ((w.alloc (.cells (stepA 18 t k sz id n vS) 63 (0, 0))).alloc (.cells gotZ TGot (0, 0))).drew := (((Fr.refl noF w).alloc _).alloc _).drew
  have hbx : ((w.alloc (.cells (stepA 18 t k sz id n vS) 63 (0, 0))).alloc (.cells gotZ TGot (0, 0))).drew.heap[w.heap.size + 1]? = some (.cells gotZ TGot (0, 0)) := (new2 w _ _).2
  have hlt : w.heap.size + 1 < ((w.alloc (.cells (stepA 18 t k sz id n vS) 63 (0, 0))).alloc (.cells gotZ TGot (0, 0))).drew.heap.size := by simp
  have hb2 : Calls Tryz.prog (P.fn "ReadDouble") #[P.recv, .iface 236 (.agg #[])] ((w.alloc (.cells (stepA 18 t k sz id n vS) 63 (0, 0))).alloc (.cells gotZ TGot (0, 0))).drew (fun e w' => ∃ x v ev s', e = .returned (.tuple #[.float .f64 x.f, ev]) ∧ RX P w r .double x v ev s' w' ∧ (¬ P.F w' (w.heap.size + 1) ∧ w'.heap[w.heap.size + 1]? = some (.cells gotZ TGot (0, 0)))) := by
    refine (hP.beside (W := ((w.alloc (.cells (stepA 18 t k sz id n vS) 63 (0, 0))).alloc (.cells gotZ TGot (0, 0))).drew) .double h hfr hr).mono ?_
    rintro e w' ⟨x, v, ev, s', he, hx, hF, hk⟩
    exact ⟨x, v, ev, s', he, hx, ⟨hF _ (by omega) (by simp), hk _ _ (by omega) hbx⟩⟩
  have hm : ∀ w, (method 512 P.T P.recv "ReadDouble").run Tryz.prog w = .ok (P.fn "ReadDouble", P.recv) w := hP.meth .double
  have ha : ∀ w, (nilAhead 512 P.T P.recv "ReadDouble").run Tryz.prog w = .ok (some false) w := hP.ahead .double
  have he : ∀ xs w, (callFunc (P.fn "ReadDouble") xs).run Tryz.prog w = .ok (.enter (P.fn "ReadDouble") xs) w := hP.enter .double
  obtain ⟨f, hf⟩ : ∃ f, f = P.fn "ReadDouble" := ⟨_, rfl⟩
  obtain ⟨PT, hPT⟩ : ∃ f, f = P.T := ⟨_, rfl⟩
  obtain ⟨rc, hrc⟩ : ∃ f, f = P.recv := ⟨_, rfl⟩
  rw [← hf, ← hrc] at hb2
  rw [← hf] at he
  rw [← hf, ← hrc, ← hPT] at hm
  rw [← hrc, ← hPT] at ha
  rw [← hPT, ← hrc]
  have HB := Lib.hid hb2
  have HC := Lib.hid I_ctx
  have HQ := Lib.hid hP
  clear hb2 hf hPT hrc hP hr h hfr hbx hlt
  have hrf := run_f64bits
  go_enter Tryz.func89, Tryz.ntmps89
  go_wp2_with fail
  go_region_held3 (fun _ => True) (exact True.intro) (first | (go_at_call 45; refine (HC.out _).mono ?_; rintro e w1 ⟨rfl, rfl⟩) | ((with_reducible refine HB.out.mono ?_); rintro e w2 ⟨x, v, ev, s', rfl, hx, hg⟩; have HX := Lib.hid hx; have HG := Lib.hid hg; clear hx hg))
  all_goals
    have hbx := HG.out.2
    have c0 := cell_at hbx 0; have c1 := cell_at hbx 1; have c2 := cell_at hbx 2; have c3 := cell_at hbx 3; have c4 := cell_at hbx 4; have c5 := cell_at hbx 5; have c6 := cell_at hbx 6; have ff := free_at hbx
    simp only [gotZ, List.getElem?_toArray, List.getElem?_cons_zero, List.getElem?_cons_succ] at c0 c1 c2 c3 c4 c5 c6
    go_wp2
    have hd := cell_at (store7_at hbx (.int .i64 0) (.int .i64 0) (.int .i64 0) (.int .i64 0) (.int .i64 0) (.int .i64 (wrap64 x.f)) (.slice none 0 0))
    have d0 := hd 0; have d1 := hd 1; have d2 := hd 2; have d3 := hd 3; have d4 := hd 4; have d5 := hd 5; have d6 := hd 6
    simp only [List.getElem?_toArray, List.getElem?_cons_zero, List.getElem?_cons_succ] at d0 d1 d2 d3 d4 d5 d6
    obtain ⟨q1, q2, q3, q4⟩ := RX.after HQ.out (G := (fun k => k = w.heap.size + 1)) HX.out (store7_fr (k := w.heap.size + 1) ((Fr.refl (fun k => k = w.heap.size + 1) w2)) (Or.inl rfl) (.int .i64 0) (.int .i64 0) (.int .i64 0) (.int .i64 0) (.int .i64 0) (.int .i64 (wrap64 x.f)) (.slice none 0 0)) (fun k hk => by subst hk; exact ⟨by omega, HG.out.1, tag_got HG.out.2⟩)
    clear hd hbx c0 c1 c2 c3 c4 c5 c6 ff 
    refine bodyPost_ret (v := .tuple #[.agg #[.int .i64 0, .int .i64 0, .int .i64 0, .int .i64 0, .int .i64 0, .int .i64 (wrap64 x.f), .slice none 0 0], ev]) ?_ rfl ⟨x, .slice none 0 0, ev, s', HX.out.val, ?_, q1, q2, q3, Or.inl ⟨rfl, rfl⟩, fun j hj => hj.elim⟩
    · rw [results_cell_tmp rfl]; clear q1 q2 q3 q4 HX HG HB HC HQ hm ha he; go_simp; done
    · rfl

theorem I_read13 (w : World) (s : S) (r : Int × RVal × S) (t k sz id n : Int) (vS : Value) (h : P.I w s) (hr : P.next s .bool = some r) :
    Calls Tryz.prog 89 #[.iface P.T P.recv, .agg (stepA 13 t k sz id n vS)] w (GR P w r (fun x vS => #[.int .i64 0, .int .i64 0, .int .i64 0, .int .i64 0, .int .i64 0, .int .i64 (if x.b then 1 else 0), vS]) (fun _ => ([] : List UInt8))) := by
  have hfr : Fr noF noF w ((w.alloc (.cells (stepA 13 t k sz id n vS) 63 (0, 0))).alloc (.cells gotZ TGot (0, 0))).drew := (((Fr.refl noF w).alloc _).alloc _).drew
  have hbx : ((w.alloc (.cells (stepA 13 t k sz id n vS) 63 (0, 0))).alloc (.cells gotZ TGot (0, 0))).drew.heap[w.heap.size + 1]? = some (.cells gotZ TGot (0, 0)) := (new2 w _ _).2
  have hlt : w.heap.size + 1 < ((w.alloc (.cells (stepA 13 t k sz id n vS) 63 (0, 0))).alloc (.cells gotZ TGot (0, 0))).drew.heap.size := by simp
  have hb2 : Calls Tryz.prog (P.fn "ReadBool") #[P.recv, .iface 236 (.agg #[])] ((w.alloc (.cells (stepA 13 t k sz id n vS) 63 (0, 0))).alloc (.cells gotZ TGot (0, 0))).drew (fun e w' => ∃ x v ev s', e = .returned (.tuple #[.bool x.b, ev]) ∧ RX P w r .bool x v ev s' w' ∧ (¬ P.F w' (w.heap.size + 1) ∧ w'.heap[w.heap.size + 1]? = some (.cells gotZ TGot (0, 0)))) := by
    refine (hP.beside (W := ((w.alloc (.cells (stepA 13 t k sz id n vS) 63 (0, 0))).alloc (.cells gotZ TGot (0, 0))).drew) .bool h hfr hr).mono ?_
    rintro e w' ⟨x, v, ev, s', he, hx, hF, hk⟩
    exact ⟨x, v, ev, s', he, hx, ⟨hF _ (by omega) (by simp), hk _ _ (by omega) hbx⟩⟩
  have hm : ∀ w, (method 512 P.T P.recv "ReadBool").run Tryz.prog w = .ok (P.fn "ReadBool", P.recv) w := hP.meth .bool
  have ha : ∀ w, (nilAhead 512 P.T P.recv "ReadBool").run Tryz.prog w = .ok (some false) w := hP.ahead .bool
  have he : ∀ xs w, (callFunc (P.fn "ReadBool") xs).run Tryz.prog w = .ok (.enter (P.fn "ReadBool") xs) w := hP.enter .bool
  obtain ⟨f, hf⟩ : ∃ f, f = P.fn "ReadBool" := ⟨_, rfl⟩
  obtain ⟨PT, hPT⟩ : ∃ f, f = P.T := ⟨_, rfl⟩
  obtain ⟨rc, hrc⟩ : ∃ f, f = P.recv := ⟨_, rfl⟩
  rw [← hf, ← hrc] at hb2
  rw [← hf] at he
  rw [← hf, ← hrc, ← hPT] at hm
  rw [← hrc, ← hPT] at ha
  rw [← hPT, ← hrc]
  have HB := Lib.hid hb2
  have HC := Lib.hid I_ctx
  have HQ := Lib.hid hP
  clear hb2 hf hPT hrc hP hr h hfr hbx hlt
  go_enter Tryz.func89, Tryz.ntmps89
  go_wp2_with fail
  go_region_held3 (fun _ => True) (exact True.intro) (first | (go_at_call 45; refine (HC.out _).mono ?_; rintro e w1 ⟨rfl, rfl⟩) | ((with_reducible refine HB.out.mono ?_); rintro e w2 ⟨x, v, ev, s', rfl, hx, hg⟩; have HX := Lib.hid hx; have HG := Lib.hid hg; clear hx hg))
  all_goals
    obtain ⟨xt, xk, xsz, xid, xn, xb, xf, xs⟩ := x
    cases xb
    ·
      have hbx := HG.out.2
      have c0 := cell_at hbx 0; have c1 := cell_at hbx 1; have c2 := cell_at hbx 2; have c3 := cell_at hbx 3; have c4 := cell_at hbx 4; have c5 := cell_at hbx 5; have c6 := cell_at hbx 6; have ff := free_at hbx
      simp only [gotZ, List.getElem?_toArray, List.getElem?_cons_zero, List.getElem?_cons_succ] at c0 c1 c2 c3 c4 c5 c6
      go_wp2
      have hd := cell_at (store7_at hbx (.int .i64 0) (.int .i64 0) (.int .i64 0) (.int .i64 0) (.int .i64 0) (.int .i64 0) (.slice none 0 0))
      have d0 := hd 0; have d1 := hd 1; have d2 := hd 2; have d3 := hd 3; have d4 := hd 4; have d5 := hd 5; have d6 := hd 6
      simp only [List.getElem?_toArray, List.getElem?_cons_zero, List.getElem?_cons_succ] at d0 d1 d2 d3 d4 d5 d6
      obtain ⟨q1, q2, q3, q4⟩ := RX.after HQ.out (G := (fun k => k = w.heap.size + 1)) HX.out (store7_fr (k := w.heap.size + 1) ((Fr.refl (fun k => k = w.heap.size + 1) w2)) (Or.inl rfl) (.int .i64 0) (.int .i64 0) (.int .i64 0) (.int .i64 0) (.int .i64 0) (.int .i64 0) (.slice none 0 0)) (fun k hk => by subst hk; exact ⟨by omega, HG.out.1, tag_got HG.out.2⟩)
      clear hd hbx c0 c1 c2 c3 c4 c5 c6 ff 
      refine bodyPost_ret (v := .tuple #[.agg #[.int .i64 0, .int .i64 0, .int .i64 0, .int .i64 0, .int .i64 0, .int .i64 0, .slice none 0 0], ev]) ?_ rfl ⟨⟨xt, xk, xsz, xid, xn, false, xf, xs⟩, .slice none 0 0, ev, s', HX.out.val, ?_, q1, q2, q3, Or.inl ⟨rfl, rfl⟩, fun j hj => hj.elim⟩
      · rw [results_cell_tmp rfl]; clear q1 q2 q3 q4 HX HG HB HC HQ hm ha he; go_simp; done
      · rfl
    ·
      have hbx := HG.out.2
      have c0 := cell_at hbx 0; have c1 := cell_at hbx 1; have c2 := cell_at hbx 2; have c3 := cell_at hbx 3; have c4 := cell_at hbx 4; have c5 := cell_at hbx 5; have c6 := cell_at hbx 6; have ff := free_at hbx
      simp only [gotZ, List.getElem?_toArray, List.getElem?_cons_zero, List.getElem?_cons_succ] at c0 c1 c2 c3 c4 c5 c6
      go_wp2
      have hd := cell_at (store7_at hbx (.int .i64 0) (.int .i64 0) (.int .i64 0) (.int .i64 0) (.int .i64 0) (.int .i64 1) (.slice none 0 0))
      have d0 := hd 0; have d1 := hd 1; have d2 := hd 2; have d3 := hd 3; have d4 := hd 4; have d5 := hd 5; have d6 := hd 6
      simp only [List.getElem?_toArray, List.getElem?_cons_zero, List.getElem?_cons_succ] at d0 d1 d2 d3 d4 d5 d6
      obtain ⟨q1, q2, q3, q4⟩ := RX.after HQ.out (G := (fun k => k = w.heap.size + 1)) HX.out (store7_fr (k := w.heap.size + 1) ((Fr.refl (fun k => k = w.heap.size + 1) w2)) (Or.inl rfl) (.int .i64 0) (.int .i64 0) (.int .i64 0) (.int .i64 0) (.int .i64 0) (.int .i64 1) (.slice none 0 0)) (fun k hk => by subst hk; exact ⟨by omega, HG.out.1, tag_got HG.out.2⟩)
      clear hd hbx c0 c1 c2 c3 c4 c5 c6 ff 
      refine bodyPost_ret (v := .tuple #[.agg #[.int .i64 0, .int .i64 0, .int .i64 0, .int .i64 0, .int .i64 0, .int .i64 1, .slice none 0 0], ev]) ?_ rfl ⟨⟨xt, xk, xsz, xid, xn, true, xf, xs⟩, .slice none 0 0, ev, s', HX.out.val, ?_, q1, q2, q3, Or.inl ⟨rfl, rfl⟩, fun j hj => hj.elim⟩
      · rw [results_cell_tmp rfl]; clear q1 q2 q3 q4 HX HG HB HC HQ hm ha he; go_simp; done
      · rfl

theorem I_read19 (w : World) (s : S) (r : Int × RVal × S) (t k sz id n : Int) (vS : Value) (h : P.I w s) (hr : P.next s .string = some r) :
    Calls Tryz.prog 89 #[.iface P.T P.recv, .agg (stepA 19 t k sz id n vS)] w (GR P w r (fun _ vS => #[.int .i64 0, .int .i64 0, .int .i64 0, .int .i64 0, .int .i64 0, .int .i64 0, vS]) (fun x => x.s)) := by
  have hfr : Fr noF noF w ((w.alloc (.cells (stepA 19 t k sz id n vS) 63 (0, 0))).alloc (.cells gotZ TGot (0, 0))).drew := (((Fr.refl noF w).alloc _).alloc _).drew
  have hbx : ((w.alloc (.cells (stepA 19 t k sz id n vS) 63 (0, 0))).alloc (.cells gotZ TGot (0, 0))).drew.heap[w.heap.size + 1]? = some (.cells gotZ TGot (0, 0)) := (new2 w _ _).2
  have hlt : w.heap.size + 1 < ((w.alloc (.cells (stepA 19 t k sz id n vS) 63 (0, 0))).alloc (.cells gotZ TGot (0, 0))).drew.heap.size := by simp
  have hb2 : Calls Tryz.prog (P.fn "ReadString") #[P.recv, .iface 236 (.agg #[])] ((w.alloc (.cells (stepA 19 t k sz id n vS) 63 (0, 0))).alloc (.cells gotZ TGot (0, 0))).drew (fun e w' => ∃ x v ev s', e = .returned (.tuple #[.string ⟨x.s.toArray⟩, ev]) ∧ RX P w r .string x v ev s' w' ∧ (¬ P.F w' (w.heap.size + 1) ∧ w'.heap[w.heap.size + 1]? = some (.cells gotZ TGot (0, 0)))) := by
    refine (hP.beside (W := ((w.alloc (.cells (stepA 19 t k sz id n vS) 63 (0, 0))).alloc (.cells gotZ TGot (0, 0))).drew) .string h hfr hr).mono ?_
    rintro e w' ⟨x, v, ev, s', he, hx, hF, hk⟩
    exact ⟨x, v, ev, s', he, hx, ⟨hF _ (by omega) (by simp), hk _ _ (by omega) hbx⟩⟩
  have hm : ∀ w, (method 512 P.T P.recv "ReadString").run Tryz.prog w = .ok (P.fn "ReadString", P.recv) w := hP.meth .string
  have ha : ∀ w, (nilAhead 512 P.T P.recv "ReadString").run Tryz.prog w = .ok (some false) w := hP.ahead .string
  have he : ∀ xs w, (callFunc (P.fn "ReadString") xs).run Tryz.prog w = .ok (.enter (P.fn "ReadString") xs) w := hP.enter .string
  obtain ⟨f, hf⟩ : ∃ f, f = P.fn "ReadString" := ⟨_, rfl⟩
  obtain ⟨PT, hPT⟩ : ∃ f, f = P.T := ⟨_, rfl⟩
  obtain ⟨rc, hrc⟩ : ∃ f, f = P.recv := ⟨_, rfl⟩
  rw [← hf, ← hrc] at hb2
  rw [← hf] at he
  rw [← hf, ← hrc, ← hPT] at hm
  rw [← hrc, ← hPT] at ha
  rw [← hPT, ← hrc]
  have HB := Lib.hid hb2
  have HC := Lib.hid I_ctx
  have HQ := Lib.hid hP
  clear hb2 hf hPT hrc hP hr h hfr hbx hlt
  go_enter Tryz.func89, Tryz.ntmps89
  go_wp2_with fail
  go_region_held3 (fun _ => True) (exact True.intro) (first | (go_at_call 45; refine (HC.out _).mono ?_; rintro e w1 ⟨rfl, rfl⟩) | ((with_reducible refine HB.out.mono ?_); rintro e w2 ⟨x, v, ev, s', rfl, hx, hg⟩; have HX := Lib.hid hx; have HG := Lib.hid hg; clear hx hg))
  all_goals
    obtain ⟨ca, cn, cc, X, hcv, hcr, hcb, hcf⟩ := conv_ex w2 x.s (Nat.le_trans HX.out.len (by decide))
    have HR := Lib.hid (And.intro hcr (And.intro hcb hcf))
    clear hcr hcb hcf
    have hbx := HR.out.2.2.block HG.out.2 (fun x => x)
    have c0 := cell_at hbx 0; have c1 := cell_at hbx 1; have c2 := cell_at hbx 2; have c3 := cell_at hbx 3; have c4 := cell_at hbx 4; have c5 := cell_at hbx 5; have c6 := cell_at hbx 6; have ff := free_at hbx
    simp only [gotZ, List.getElem?_toArray, List.getElem?_cons_zero, List.getElem?_cons_succ] at c0 c1 c2 c3 c4 c5 c6
    go_wp2
    have hd := cell_at (store7_at hbx (.int .i64 0) (.int .i64 0) (.int .i64 0) (.int .i64 0) (.int .i64 0) (.int .i64 0) (.slice ca cn cc))
    have d0 := hd 0; have d1 := hd 1; have d2 := hd 2; have d3 := hd 3; have d4 := hd 4; have d5 := hd 5; have d6 := hd 6
    simp only [List.getElem?_toArray, List.getElem?_cons_zero, List.getElem?_cons_succ] at d0 d1 d2 d3 d4 d5 d6
    obtain ⟨q1, q2, q3, q4⟩ := RX.after HQ.out (G := (fun k => k = w.heap.size + 1)) HX.out (store7_fr (k := w.heap.size + 1) (HR.out.2.2.wide (G := (fun k => k = w.heap.size + 1))) (Or.inl rfl) (.int .i64 0) (.int .i64 0) (.int .i64 0) (.int .i64 0) (.int .i64 0) (.int .i64 0) (.slice ca cn cc)) (fun k hk => by subst hk; exact ⟨by omega, HG.out.1, tag_got HG.out.2⟩)
    have qr : Rd _ (.slice ca cn cc) _ := (HR.out.1).keep (store7_fr (Fr.refl (fun k => k = w.heap.size + 1) _) (Or.inl rfl) (.int .i64 0) (.int .i64 0) (.int .i64 0) (.int .i64 0) (.int .i64 0) (.int .i64 0) (.slice ca cn cc)) (fun k hk e => by have := HR.out.2.1 k hk; have := lt_heap HG.out.2; omega)
    have qf := RX.fresh HQ.out HX.out q4 (vS := .slice ca cn cc) (fun k hk => by have := HR.out.2.1 k hk; omega)
    clear hd hbx c0 c1 c2 c3 c4 c5 c6 ff hcv
    refine bodyPost_ret (v := .tuple #[.agg #[.int .i64 0, .int .i64 0, .int .i64 0, .int .i64 0, .int .i64 0, .int .i64 0, .slice ca cn cc], ev]) ?_ rfl ⟨x, .slice ca cn cc, ev, s', HX.out.val, ?_, q1, q2, q3, qr, qf⟩
    · rw [results_cell_tmp rfl]; clear q1 q2 q3 q4 HX HG HB HC HQ hm ha he qr qf; go_simp; done
    · rfl

theorem I_read20 (w : World) (s : S) (r : Int × RVal × S) (t k sz id n : Int) (vS : Value) (h : P.I w s) (hr : P.next s .binary = some r) :
    Calls Tryz.prog 89 #[.iface P.T P.recv, .agg (stepA 20 t k sz id n vS)] w (GR P w r (fun _ vS => #[.int .i64 0, .int .i64 0, .int .i64 0, .int .i64 0, .int .i64 0, .int .i64 0, vS]) (fun x => x.s)) := by
  have hfr : Fr noF noF w ((w.alloc (.cells (stepA 20 t k sz id n vS) 63 (0, 0))).alloc (.cells gotZ TGot (0, 0))).drew := (((Fr.refl noF w).alloc _).alloc _).drew
  have hbx : ((w.alloc (.cells (stepA 20 t k sz id n vS) 63 (0, 0))).alloc (.cells gotZ TGot (0, 0))).drew.heap[w.heap.size + 1]? = some (.cells gotZ TGot (0, 0)) := (new2 w _ _).2
  have hlt : w.heap.size + 1 < ((w.alloc (.cells (stepA 20 t k sz id n vS) 63 (0, 0))).alloc (.cells gotZ TGot (0, 0))).drew.heap.size := by simp
  have hb2 : Calls Tryz.prog (P.fn "ReadBinary") #[P.recv, .iface 236 (.agg #[])] ((w.alloc (.cells (stepA 20 t k sz id n vS) 63 (0, 0))).alloc (.cells gotZ TGot (0, 0))).drew (fun e w' => ∃ x v ev s', e = .returned (.tuple #[v, ev]) ∧ RX P w r .binary x v ev s' w' ∧ (¬ P.F w' (w.heap.size + 1) ∧ w'.heap[w.heap.size + 1]? = some (.cells gotZ TGot (0, 0)))) := by
    refine (hP.beside (W := ((w.alloc (.cells (stepA 20 t k sz id n vS) 63 (0, 0))).alloc (.cells gotZ TGot (0, 0))).drew) .binary h hfr hr).mono ?_
    rintro e w' ⟨x, v, ev, s', he, hx, hF, hk⟩
    exact ⟨x, v, ev, s', he, hx, ⟨hF _ (by omega) (by simp), hk _ _ (by omega) hbx⟩⟩
  have hm : ∀ w, (method 512 P.T P.recv "ReadBinary").run Tryz.prog w = .ok (P.fn "ReadBinary", P.recv) w := hP.meth .binary
  have ha : ∀ w, (nilAhead 512 P.T P.recv "ReadBinary").run Tryz.prog w = .ok (some false) w := hP.ahead .binary
  have he : ∀ xs w, (callFunc (P.fn "ReadBinary") xs).run Tryz.prog w = .ok (.enter (P.fn "ReadBinary") xs) w := hP.enter .binary
  obtain ⟨f, hf⟩ : ∃ f, f = P.fn "ReadBinary" := ⟨_, rfl⟩
  obtain ⟨PT, hPT⟩ : ∃ f, f = P.T := ⟨_, rfl⟩
  obtain ⟨rc, hrc⟩ : ∃ f, f = P.recv := ⟨_, rfl⟩
  rw [← hf, ← hrc] at hb2
  rw [← hf] at he
  rw [← hf, ← hrc, ← hPT] at hm
  rw [← hrc, ← hPT] at ha
  rw [← hPT, ← hrc]
  have HB := Lib.hid hb2
  have HC := Lib.hid I_ctx
  have HQ := Lib.hid hP
  clear hb2 hf hPT hrc hP hr h hfr hbx hlt
  go_enter Tryz.func89, Tryz.ntmps89
  go_wp2_with fail
  go_region_held3 (fun _ => True) (exact True.intro) (first | (go_at_call 45; refine (HC.out _).mono ?_; rintro e w1 ⟨rfl, rfl⟩) | ((with_reducible refine HB.out.mono ?_); rintro e w2 ⟨x, v, ev, s', rfl, hx, hg⟩; have HX := Lib.hid hx; have HG := Lib.hid hg; clear hx hg))
  all_goals
    go_wp2_with fail
    refine (I_owned v x.s w2 HX.out.fits HX.out.len).mono ?_
    rintro e X ⟨vS, rfl, hown, hcf⟩
    obtain ⟨ca, cn, cc, rfl, -⟩ := hown.rd.len
    have HR := Lib.hid (And.intro hown.rd (And.intro hown.blk hcf))
    clear hown hcf
    have hbx := HR.out.2.2.block HG.out.2 (fun x => x)
    have c0 := cell_at hbx 0; have c1 := cell_at hbx 1; have c2 := cell_at hbx 2; have c3 := cell_at hbx 3; have c4 := cell_at hbx 4; have c5 := cell_at hbx 5; have c6 := cell_at hbx 6; have ff := free_at hbx
    simp only [gotZ, List.getElem?_toArray, List.getElem?_cons_zero, List.getElem?_cons_succ] at c0 c1 c2 c3 c4 c5 c6
    go_wp2
    have hd := cell_at (store7_at hbx (.int .i64 0) (.int .i64 0) (.int .i64 0) (.int .i64 0) (.int .i64 0) (.int .i64 0) (.slice ca cn cc))
    have d0 := hd 0; have d1 := hd 1; have d2 := hd 2; have d3 := hd 3; have d4 := hd 4; have d5 := hd 5; have d6 := hd 6
    simp only [List.getElem?_toArray, List.getElem?_cons_zero, List.getElem?_cons_succ] at d0 d1 d2 d3 d4 d5 d6
    obtain ⟨q1, q2, q3, q4⟩ := RX.after HQ.out (G := (fun k => k = w.heap.size + 1)) HX.out (store7_fr (k := w.heap.size + 1) (HR.out.2.2.wide (G := (fun k => k = w.heap.size + 1))) (Or.inl rfl) (.int .i64 0) (.int .i64 0) (.int .i64 0) (.int .i64 0) (.int .i64 0) (.int .i64 0) (.slice ca cn cc)) (fun k hk => by subst hk; exact ⟨by omega, HG.out.1, tag_got HG.out.2⟩)
    have qr : Rd _ (.slice ca cn cc) _ := (HR.out.1).keep (store7_fr (Fr.refl (fun k => k = w.heap.size + 1) _) (Or.inl rfl) (.int .i64 0) (.int .i64 0) (.int .i64 0) (.int .i64 0) (.int .i64 0) (.int .i64 0) (.slice ca cn cc)) (fun k hk e => by have := HR.out.2.1 k hk; have := lt_heap HG.out.2; omega)
    have qf := RX.fresh HQ.out HX.out q4 (vS := .slice ca cn cc) (fun k hk => by have := HR.out.2.1 k hk; omega)
    clear hd hbx c0 c1 c2 c3 c4 c5 c6 ff 
    refine bodyPost_ret (v := .tuple #[.agg #[.int .i64 0, .int .i64 0, .int .i64 0, .int .i64 0, .int .i64 0, .int .i64 0, .slice ca cn cc], ev]) ?_ rfl ⟨x, .slice ca cn cc, ev, s', HX.out.val, ?_, q1, q2, q3, qr, qf⟩
    · rw [results_cell_tmp rfl]; clear q1 q2 q3 q4 HX HG HB HC HQ hm ha he qr qf; go_simp; done
    · rfl
end Go.Proofs.YtkfkieebcahiiaaGreatDoor
