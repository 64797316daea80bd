/- The thin package writes a step, by whatever protocol. Printed by gen_ws.py. -/
import Derived.Deep.RegionHeld3
import Derived.Test.YtdifknecndlklaaGreatDoorZ5
set_option linter.all false
namespace Go.Proofs.YtdifknecndlklaaGreatDoor
open Go Go.RowKit
set_option maxHeartbeats 1000000
set_option maxRecDepth 100000

variable {S : Type} (P : WProto S) (hP : P.Ok)
include hP

theorem I_begin0 (w : World) (s : S) (t k sz id n : Int) (vS : Value) (l : List UInt8) (hv : Rd w vS l) (hb : ∀ k, vblk vS k → ¬ P.F w k) (hl : l.length ≤ maxLen) (h : P.I w s) (hg : P.good s (.msgBegin (strOf l) (IntKind.i32.wrap t) (IntKind.i32.wrap n))) :
    Calls Tryz.prog 85 #[.iface P.T P.recv, .agg (stepA 0 t k sz id n vS)] w (WR P w (P.step s (.msgBegin (strOf l) (IntKind.i32.wrap t) (IntKind.i32.wrap n)))) := by
  have hfr : Fr noF noF w (w.alloc (.cells (stepA 0 t k sz id n vS) 55 (0, 0))).drew := ((Fr.refl noF w).alloc _).drew
  have hv2 : Rd (w.alloc (.cells (stepA 0 t k sz id n vS) 55 (0, 0))).drew vS l := hv.keep hfr fun _ _ x => x
  have k1 : (w.alloc (.cells (stepA 0 t k sz id n vS) 55 (0, 0))).cell? ⟨w.heap.size, 1, none⟩ = some (.int .i64 t) := by rw [cell_at (alloc_new w _)]; rfl
  have k5 : (w.alloc (.cells (stepA 0 t k sz id n vS) 55 (0, 0))).cell? ⟨w.heap.size, 5, none⟩ = some (.int .i64 n) := by rw [cell_at (alloc_new w _)]; rfl
  have k6 : (w.alloc (.cells (stepA 0 t k sz id n vS) 55 (0, 0))).cell? ⟨w.heap.size, 6, none⟩ = some (vS) := by rw [cell_at (alloc_new w _)]; rfl
  have hb2 : Calls Tryz.prog (P.fn "WriteMessageBegin") #[P.recv, .iface 221 (.agg #[]), .string (strOf l), .int .i32 (IntKind.i32.wrap t), .int .i32 (IntKind.i32.wrap n)] (w.alloc (.cells (stepA 0 t k sz id n vS) 55 (0, 0))).drew (fun e w' => e = .returned .nilIface ∧ WR P w (P.step s (.msgBegin (strOf l) (IntKind.i32.wrap t) (IntKind.i32.wrap n))) e w' ∧ w'.cell? ⟨w.heap.size, 1, none⟩ = some (.int .i64 t) ∧ w'.cell? ⟨w.heap.size, 5, none⟩ = some (.int .i64 n) ∧ w'.cell? ⟨w.heap.size, 6, none⟩ = some (vS) ∧ (convert 24 9 vS).run Tryz.prog w' = .ok (.string (strOf l)) w') := by
    refine (hP.beside (W := (w.alloc (.cells (stepA 0 t k sz id n vS) 55 (0, 0))).drew) (.msgBegin (strOf l) (IntKind.i32.wrap t) (IntKind.i32.wrap n)) h hfr hg (show (strOf l).size ≤ maxLen by simpa [strOf, ByteArray.size] using hl)).mono ?_
    rintro e w' ⟨h1, h2, h3⟩
    exact ⟨h1, h2, by rw [cell_at (h3 _ _ (Nat.le_refl _) (alloc_new w _))]; rfl, by rw [cell_at (h3 _ _ (Nat.le_refl _) (alloc_new w _))]; rfl, by rw [cell_at (h3 _ _ (Nat.le_refl _) (alloc_new w _))]; rfl, conv_back (hv.keep h2.2.2 fun k hk hx => hb k hk hx)⟩
  have hm : ∀ w, (method 498 P.T P.recv "WriteMessageBegin").run Tryz.prog w = .ok (P.fn "WriteMessageBegin", P.recv) w := hP.meth (.msgBegin default 0 0)
  have ha : ∀ w, (nilAhead 498 P.T P.recv "WriteMessageBegin").run Tryz.prog w = .ok (some false) w := hP.ahead (.msgBegin default 0 0)
  have he : ∀ xs w, (callFunc (P.fn "WriteMessageBegin") xs).run Tryz.prog w = .ok (.enter (P.fn "WriteMessageBegin") xs) w := hP.enter (.msgBegin default 0 0)
  obtain ⟨f, hf⟩ : ∃ f, f = P.fn "WriteMessageBegin" := ⟨_, rfl⟩
  obtain ⟨PT, hPT⟩ : ∃ f, f = P.T := ⟨_, rfl⟩
  obtain ⟨r, hr⟩ : ∃ f, f = P.recv := ⟨_, rfl⟩
  rw [← hf, ← hr] at hb2
  rw [← hf] at he
  rw [← hf, ← hr, ← hPT] at hm
  rw [← hr, ← hPT] at ha
  rw [← hPT, ← hr]
  have HB := Lib.hid hb2
  have HC := Lib.hid I_ctx
  have hcv1 : (convert 24 9 vS).run Tryz.prog (w.alloc (.cells (stepA 0 t k sz id n vS) 55 (0, 0))).drew = .ok (.string (strOf l)) (w.alloc (.cells (stepA 0 t k sz id n vS) 55 (0, 0))).drew := conv_back hv2
  clear hb2 hf hPT hr hP hg h hfr hv hv2 hb hl
  go_enter Tryz.func85, Tryz.ntmps85
  go_wp2_with fail
  go_region_held3 (fun w' => w'.cell? ⟨w.heap.size, 1, none⟩ = some (.int .i64 t) ∧ w'.cell? ⟨w.heap.size, 5, none⟩ = some (.int .i64 n) ∧ w'.cell? ⟨w.heap.size, 6, none⟩ = some (vS) ∧ (convert 24 9 vS).run Tryz.prog w' = .ok (.string (strOf l)) w') (first | exact ⟨k1, k5, k6, hcv1⟩ | exact ⟨d1, d5, d6, dcv⟩) (first | (go_at_call 38; refine (HC.out _).mono ?_; rintro e w1 ⟨rfl, rfl⟩) | ((with_reducible refine HB.out.mono ?_); (rintro e w2 ⟨rfl, hw, d1, d5, d6, dcv⟩; have HX := Lib.hid hw; clear hw)))
  all_goals go_wp2
  all_goals go_ret
  all_goals exact HX.out

theorem I_begin1 (w : World) (s : S) (t k sz id n : Int) (vS : Value) (h : P.I w s) (hg : P.good s (.msgEnd)) :
    Calls Tryz.prog 85 #[.iface P.T P.recv, .agg (stepA 1 t k sz id n vS)] w (WR P w (P.step s (.msgEnd))) := by
  have hfr : Fr noF noF w (w.alloc (.cells (stepA 1 t k sz id n vS) 55 (0, 0))).drew := ((Fr.refl noF w).alloc _).drew
  have hb2 : Calls Tryz.prog (P.fn "WriteMessageEnd") #[P.recv, .iface 221 (.agg #[])] (w.alloc (.cells (stepA 1 t k sz id n vS) 55 (0, 0))).drew (fun e w' => e = .returned .nilIface ∧ WR P w (P.step s (.msgEnd)) e w' ∧ True) := by
    refine (hP.beside (W := (w.alloc (.cells (stepA 1 t k sz id n vS) 55 (0, 0))).drew) (.msgEnd) h hfr hg trivial).mono ?_
    rintro e w' ⟨h1, h2, h3⟩
    exact ⟨h1, h2, trivial⟩
  have hm : ∀ w, (method 498 P.T P.recv "WriteMessageEnd").run Tryz.prog w = .ok (P.fn "WriteMessageEnd", P.recv) w := hP.meth .msgEnd
  have ha : ∀ w, (nilAhead 498 P.T P.recv "WriteMessageEnd").run Tryz.prog w = .ok (some false) w := hP.ahead .msgEnd
  have he : ∀ xs w, (callFunc (P.fn "WriteMessageEnd") xs).run Tryz.prog w = .ok (.enter (P.fn "WriteMessageEnd") xs) w := hP.enter .msgEnd
  obtain ⟨f, hf⟩ : ∃ f, f = P.fn "WriteMessageEnd" := ⟨_, rfl⟩
  obtain ⟨PT, hPT⟩ : ∃ f, f = P.T := ⟨_, rfl⟩
  obtain ⟨r, hr⟩ : ∃ f, f = P.recv := ⟨_, rfl⟩
  rw [← hf, ← hr] at hb2
  rw [← hf] at he
  rw [← hf, ← hr, ← hPT] at hm
  rw [← hr, ← hPT] at ha
  rw [← hPT, ← hr]
  have HB := Lib.hid hb2
  have HC := Lib.hid I_ctx
  clear hb2 hf hPT hr hP hg h hfr
  go_enter Tryz.func85, Tryz.ntmps85
  go_wp2_with fail
  go_region_held3 (fun w' => True) (first | trivial) (first | (go_at_call 38; refine (HC.out _).mono ?_; rintro e w1 ⟨rfl, rfl⟩) | ((with_reducible refine HB.out.mono ?_); (rintro e w2 ⟨rfl, hw, -⟩; have HX := Lib.hid hw; clear hw)))
  all_goals go_wp2
  all_goals go_ret
  all_goals exact HX.out

theorem I_begin3 (w : World) (s : S) (t k sz id n : Int) (vS : Value) (h : P.I w s) (hg : P.good s (.structEnd)) :
    Calls Tryz.prog 85 #[.iface P.T P.recv, .agg (stepA 3 t k sz id n vS)] w (WR P w (P.step s (.structEnd))) := by
  have hfr : Fr noF noF w (w.alloc (.cells (stepA 3 t k sz id n vS) 55 (0, 0))).drew := ((Fr.refl noF w).alloc _).drew
  have hb2 : Calls Tryz.prog (P.fn "WriteStructEnd") #[P.recv, .iface 221 (.agg #[])] (w.alloc (.cells (stepA 3 t k sz id n vS) 55 (0, 0))).drew (fun e w' => e = .returned .nilIface ∧ WR P w (P.step s (.structEnd)) e w' ∧ True) := by
    refine (hP.beside (W := (w.alloc (.cells (stepA 3 t k sz id n vS) 55 (0, 0))).drew) (.structEnd) h hfr hg trivial).mono ?_
    rintro e w' ⟨h1, h2, h3⟩
    exact ⟨h1, h2, trivial⟩
  have hm : ∀ w, (method 498 P.T P.recv "WriteStructEnd").run Tryz.prog w = .ok (P.fn "WriteStructEnd", P.recv) w := hP.meth .structEnd
  have ha : ∀ w, (nilAhead 498 P.T P.recv "WriteStructEnd").run Tryz.prog w = .ok (some false) w := hP.ahead .structEnd
  have he : ∀ xs w, (callFunc (P.fn "WriteStructEnd") xs).run Tryz.prog w = .ok (.enter (P.fn "WriteStructEnd") xs) w := hP.enter .structEnd
  obtain ⟨f, hf⟩ : ∃ f, f = P.fn "WriteStructEnd" := ⟨_, rfl⟩
  obtain ⟨PT, hPT⟩ : ∃ f, f = P.T := ⟨_, rfl⟩
  obtain ⟨r, hr⟩ : ∃ f, f = P.recv := ⟨_, rfl⟩
  rw [← hf, ← hr] at hb2
  rw [← hf] at he
  rw [← hf, ← hr, ← hPT] at hm
  rw [← hr, ← hPT] at ha
  rw [← hPT, ← hr]
  have HB := Lib.hid hb2
  have HC := Lib.hid I_ctx
  clear hb2 hf hPT hr hP hg h hfr
  go_enter Tryz.func85, Tryz.ntmps85
  go_wp2_with fail
  go_region_held3 (fun w' => True) (first | trivial) (first | (go_at_call 38; refine (HC.out _).mono ?_; rintro e w1 ⟨rfl, rfl⟩) | ((with_reducible refine HB.out.mono ?_); (rintro e w2 ⟨rfl, hw, -⟩; have HX := Lib.hid hw; clear hw)))
  all_goals go_wp2
  all_goals go_ret
  all_goals exact HX.out

theorem I_begin5 (w : World) (s : S) (t k sz id n : Int) (vS : Value) (h : P.I w s) (hg : P.good s (.fieldEnd)) :
    Calls Tryz.prog 85 #[.iface P.T P.recv, .agg (stepA 5 t k sz id n vS)] w (WR P w (P.step s (.fieldEnd))) := by
  have hfr : Fr noF noF w (w.alloc (.cells (stepA 5 t k sz id n vS) 55 (0, 0))).drew := ((Fr.refl noF w).alloc _).drew
  have hb2 : Calls Tryz.prog (P.fn "WriteFieldEnd") #[P.recv, .iface 221 (.agg #[])] (w.alloc (.cells (stepA 5 t k sz id n vS) 55 (0, 0))).drew (fun e w' => e = .returned .nilIface ∧ WR P w (P.step s (.fieldEnd)) e w' ∧ True) := by
    refine (hP.beside (W := (w.alloc (.cells (stepA 5 t k sz id n vS) 55 (0, 0))).drew) (.fieldEnd) h hfr hg trivial).mono ?_
    rintro e w' ⟨h1, h2, h3⟩
    exact ⟨h1, h2, trivial⟩
  have hm : ∀ w, (method 498 P.T P.recv "WriteFieldEnd").run Tryz.prog w = .ok (P.fn "WriteFieldEnd", P.recv) w := hP.meth .fieldEnd
  have ha : ∀ w, (nilAhead 498 P.T P.recv "WriteFieldEnd").run Tryz.prog w = .ok (some false) w := hP.ahead .fieldEnd
  have he : ∀ xs w, (callFunc (P.fn "WriteFieldEnd") xs).run Tryz.prog w = .ok (.enter (P.fn "WriteFieldEnd") xs) w := hP.enter .fieldEnd
  obtain ⟨f, hf⟩ : ∃ f, f = P.fn "WriteFieldEnd" := ⟨_, rfl⟩
  obtain ⟨PT, hPT⟩ : ∃ f, f = P.T := ⟨_, rfl⟩
  obtain ⟨r, hr⟩ : ∃ f, f = P.recv := ⟨_, rfl⟩
  rw [← hf, ← hr] at hb2
  rw [← hf] at he
  rw [← hf, ← hr, ← hPT] at hm
  rw [← hr, ← hPT] at ha
  rw [← hPT, ← hr]
  have HB := Lib.hid hb2
  have HC := Lib.hid I_ctx
  clear hb2 hf hPT hr hP hg h hfr
  go_enter Tryz.func85, Tryz.ntmps85
  go_wp2_with fail
  go_region_held3 (fun w' => True) (first | trivial) (first | (go_at_call 38; refine (HC.out _).mono ?_; rintro e w1 ⟨rfl, rfl⟩) | ((with_reducible refine HB.out.mono ?_); (rintro e w2 ⟨rfl, hw, -⟩; have HX := Lib.hid hw; clear hw)))
  all_goals go_wp2
  all_goals go_ret
  all_goals exact HX.out

theorem I_begin6 (w : World) (s : S) (t k sz id n : Int) (vS : Value) (h : P.I w s) (hg : P.good s (.fieldStop)) :
    Calls Tryz.prog 85 #[.iface P.T P.recv, .agg (stepA 6 t k sz id n vS)] w (WR P w (P.step s (.fieldStop))) := by
  have hfr : Fr noF noF w (w.alloc (.cells (stepA 6 t k sz id n vS) 55 (0, 0))).drew := ((Fr.refl noF w).alloc _).drew
  have hb2 : Calls Tryz.prog (P.fn "WriteFieldStop") #[P.recv, .iface 221 (.agg #[])] (w.alloc (.cells (stepA 6 t k sz id n vS) 55 (0, 0))).drew (fun e w' => e = .returned .nilIface ∧ WR P w (P.step s (.fieldStop)) e w' ∧ True) := by
    refine (hP.beside (W := (w.alloc (.cells (stepA 6 t k sz id n vS) 55 (0, 0))).drew) (.fieldStop) h hfr hg trivial).mono ?_
    rintro e w' ⟨h1, h2, h3⟩
    exact ⟨h1, h2, trivial⟩
  have hm : ∀ w, (method 498 P.T P.recv "WriteFieldStop").run Tryz.prog w = .ok (P.fn "WriteFieldStop", P.recv) w := hP.meth .fieldStop
  have ha : ∀ w, (nilAhead 498 P.T P.recv "WriteFieldStop").run Tryz.prog w = .ok (some false) w := hP.ahead .fieldStop
  have he : ∀ xs w, (callFunc (P.fn "WriteFieldStop") xs).run Tryz.prog w = .ok (.enter (P.fn "WriteFieldStop") xs) w := hP.enter .fieldStop
  obtain ⟨f, hf⟩ : ∃ f, f = P.fn "WriteFieldStop" := ⟨_, rfl⟩
  obtain ⟨PT, hPT⟩ : ∃ f, f = P.T := ⟨_, rfl⟩
  obtain ⟨r, hr⟩ : ∃ f, f = P.recv := ⟨_, rfl⟩
  rw [← hf, ← hr] at hb2
  rw [← hf] at he
  rw [← hf, ← hr, ← hPT] at hm
  rw [← hr, ← hPT] at ha
  rw [← hPT, ← hr]
  have HB := Lib.hid hb2
  have HC := Lib.hid I_ctx
  clear hb2 hf hPT hr hP hg h hfr
  go_enter Tryz.func85, Tryz.ntmps85
  go_wp2_with fail
  go_region_held3 (fun w' => True) (first | trivial) (first | (go_at_call 38; refine (HC.out _).mono ?_; rintro e w1 ⟨rfl, rfl⟩) | ((with_reducible refine HB.out.mono ?_); (rintro e w2 ⟨rfl, hw, -⟩; have HX := Lib.hid hw; clear hw)))
  all_goals go_wp2
  all_goals go_ret
  all_goals exact HX.out

theorem I_begin8 (w : World) (s : S) (t k sz id n : Int) (vS : Value) (h : P.I w s) (hg : P.good s (.mapEnd)) :
    Calls Tryz.prog 85 #[.iface P.T P.recv, .agg (stepA 8 t k sz id n vS)] w (WR P w (P.step s (.mapEnd))) := by
  have hfr : Fr noF noF w (w.alloc (.cells (stepA 8 t k sz id n vS) 55 (0, 0))).drew := ((Fr.refl noF w).alloc _).drew
  have hb2 : Calls Tryz.prog (P.fn "WriteMapEnd") #[P.recv, .iface 221 (.agg #[])] (w.alloc (.cells (stepA 8 t k sz id n vS) 55 (0, 0))).drew (fun e w' => e = .returned .nilIface ∧ WR P w (P.step s (.mapEnd)) e w' ∧ True) := by
    refine (hP.beside (W := (w.alloc (.cells (stepA 8 t k sz id n vS) 55 (0, 0))).drew) (.mapEnd) h hfr hg trivial).mono ?_
    rintro e w' ⟨h1, h2, h3⟩
    exact ⟨h1, h2, trivial⟩
  have hm : ∀ w, (method 498 P.T P.recv "WriteMapEnd").run Tryz.prog w = .ok (P.fn "WriteMapEnd", P.recv) w := hP.meth .mapEnd
  have ha : ∀ w, (nilAhead 498 P.T P.recv "WriteMapEnd").run Tryz.prog w = .ok (some false) w := hP.ahead .mapEnd
  have he : ∀ xs w, (callFunc (P.fn "WriteMapEnd") xs).run Tryz.prog w = .ok (.enter (P.fn "WriteMapEnd") xs) w := hP.enter .mapEnd
  obtain ⟨f, hf⟩ : ∃ f, f = P.fn "WriteMapEnd" := ⟨_, rfl⟩
  obtain ⟨PT, hPT⟩ : ∃ f, f = P.T := ⟨_, rfl⟩
  obtain ⟨r, hr⟩ : ∃ f, f = P.recv := ⟨_, rfl⟩
  rw [← hf, ← hr] at hb2
  rw [← hf] at he
  rw [← hf, ← hr, ← hPT] at hm
  rw [← hr, ← hPT] at ha
  rw [← hPT, ← hr]
  have HB := Lib.hid hb2
  have HC := Lib.hid I_ctx
  clear hb2 hf hPT hr hP hg h hfr
  go_enter Tryz.func85, Tryz.ntmps85
  go_wp2_with fail
  go_region_held3 (fun w' => True) (first | trivial) (first | (go_at_call 38; refine (HC.out _).mono ?_; rintro e w1 ⟨rfl, rfl⟩) | ((with_reducible refine HB.out.mono ?_); (rintro e w2 ⟨rfl, hw, -⟩; have HX := Lib.hid hw; clear hw)))
  all_goals go_wp2
  all_goals go_ret
  all_goals exact HX.out

theorem I_begin10 (w : World) (s : S) (t k sz id n : Int) (vS : Value) (h : P.I w s) (hg : P.good s (.listEnd)) :
    Calls Tryz.prog 85 #[.iface P.T P.recv, .agg (stepA 10 t k sz id n vS)] w (WR P w (P.step s (.listEnd))) := by
  have hfr : Fr noF noF w (w.alloc (.cells (stepA 10 t k sz id n vS) 55 (0, 0))).drew := ((Fr.refl noF w).alloc _).drew
  have hb2 : Calls Tryz.prog (P.fn "WriteListEnd") #[P.recv, .iface 221 (.agg #[])] (w.alloc (.cells (stepA 10 t k sz id n vS) 55 (0, 0))).drew (fun e w' => e = .returned .nilIface ∧ WR P w (P.step s (.listEnd)) e w' ∧ True) := by
    refine (hP.beside (W := (w.alloc (.cells (stepA 10 t k sz id n vS) 55 (0, 0))).drew) (.listEnd) h hfr hg trivial).mono ?_
    rintro e w' ⟨h1, h2, h3⟩
    exact ⟨h1, h2, trivial⟩
  have hm : ∀ w, (method 498 P.T P.recv "WriteListEnd").run Tryz.prog w = .ok (P.fn "WriteListEnd", P.recv) w := hP.meth .listEnd
  have ha : ∀ w, (nilAhead 498 P.T P.recv "WriteListEnd").run Tryz.prog w = .ok (some false) w := hP.ahead .listEnd
  have he : ∀ xs w, (callFunc (P.fn "WriteListEnd") xs).run Tryz.prog w = .ok (.enter (P.fn "WriteListEnd") xs) w := hP.enter .listEnd
  obtain ⟨f, hf⟩ : ∃ f, f = P.fn "WriteListEnd" := ⟨_, rfl⟩
  obtain ⟨PT, hPT⟩ : ∃ f, f = P.T := ⟨_, rfl⟩
  obtain ⟨r, hr⟩ : ∃ f, f = P.recv := ⟨_, rfl⟩
  rw [← hf, ← hr] at hb2
  rw [← hf] at he
  rw [← hf, ← hr, ← hPT] at hm
  rw [← hr, ← hPT] at ha
  rw [← hPT, ← hr]
  have HB := Lib.hid hb2
  have HC := Lib.hid I_ctx
  clear hb2 hf hPT hr hP hg h hfr
  go_enter Tryz.func85, Tryz.ntmps85
  go_wp2_with fail
  go_region_held3 (fun w' => True) (first | trivial) (first | (go_at_call 38; refine (HC.out _).mono ?_; rintro e w1 ⟨rfl, rfl⟩) | ((with_reducible refine HB.out.mono ?_); (rintro e w2 ⟨rfl, hw, -⟩; have HX := Lib.hid hw; clear hw)))
  all_goals go_wp2
  all_goals go_ret
  all_goals exact HX.out

theorem I_begin12 (w : World) (s : S) (t k sz id n : Int) (vS : Value) (h : P.I w s) (hg : P.good s (.setEnd)) :
    Calls Tryz.prog 85 #[.iface P.T P.recv, .agg (stepA 12 t k sz id n vS)] w (WR P w (P.step s (.setEnd))) := by
  have hfr : Fr noF noF w (w.alloc (.cells (stepA 12 t k sz id n vS) 55 (0, 0))).drew := ((Fr.refl noF w).alloc _).drew
  have hb2 : Calls Tryz.prog (P.fn "WriteSetEnd") #[P.recv, .iface 221 (.agg #[])] (w.alloc (.cells (stepA 12 t k sz id n vS) 55 (0, 0))).drew (fun e w' => e = .returned .nilIface ∧ WR P w (P.step s (.setEnd)) e w' ∧ True) := by
    refine (hP.beside (W := (w.alloc (.cells (stepA 12 t k sz id n vS) 55 (0, 0))).drew) (.setEnd) h hfr hg trivial).mono ?_
    rintro e w' ⟨h1, h2, h3⟩
    exact ⟨h1, h2, trivial⟩
  have hm : ∀ w, (method 498 P.T P.recv "WriteSetEnd").run Tryz.prog w = .ok (P.fn "WriteSetEnd", P.recv) w := hP.meth .setEnd
  have ha : ∀ w, (nilAhead 498 P.T P.recv "WriteSetEnd").run Tryz.prog w = .ok (some false) w := hP.ahead .setEnd
  have he : ∀ xs w, (callFunc (P.fn "WriteSetEnd") xs).run Tryz.prog w = .ok (.enter (P.fn "WriteSetEnd") xs) w := hP.enter .setEnd
  obtain ⟨f, hf⟩ : ∃ f, f = P.fn "WriteSetEnd" := ⟨_, rfl⟩
  obtain ⟨PT, hPT⟩ : ∃ f, f = P.T := ⟨_, rfl⟩
  obtain ⟨r, hr⟩ : ∃ f, f = P.recv := ⟨_, rfl⟩
  rw [← hf, ← hr] at hb2
  rw [← hf] at he
  rw [← hf, ← hr, ← hPT] at hm
  rw [← hr, ← hPT] at ha
  rw [← hPT, ← hr]
  have HB := Lib.hid hb2
  have HC := Lib.hid I_ctx
  clear hb2 hf hPT hr hP hg h hfr
  go_enter Tryz.func85, Tryz.ntmps85
  go_wp2_with fail
  go_region_held3 (fun w' => True) (first | trivial) (first | (go_at_call 38; refine (HC.out _).mono ?_; rintro e w1 ⟨rfl, rfl⟩) | ((with_reducible refine HB.out.mono ?_); (rintro e w2 ⟨rfl, hw, -⟩; have HX := Lib.hid hw; clear hw)))
  all_goals go_wp2
  all_goals go_ret
  all_goals exact HX.out

theorem I_begin2 (w : World) (s : S) (t k sz id n : Int) (vS : Value) (h : P.I w s) (hg : P.good s (.structBegin)) :
    Calls Tryz.prog 85 #[.iface P.T P.recv, .agg (stepA 2 t k sz id n vS)] w (WR P w (P.step s (.structBegin))) := by
  have hfr : Fr noF noF w (w.alloc (.cells (stepA 2 t k sz id n vS) 55 (0, 0))).drew := ((Fr.refl noF w).alloc _).drew
  have hb2 : Calls Tryz.prog (P.fn "WriteStructBegin") #[P.recv, .iface 221 (.agg #[]), .string ⟨#[]⟩] (w.alloc (.cells (stepA 2 t k sz id n vS) 55 (0, 0))).drew (fun e w' => e = .returned .nilIface ∧ WR P w (P.step s (.structBegin)) e w' ∧ True) := by
    refine (hP.beside (W := (w.alloc (.cells (stepA 2 t k sz id n vS) 55 (0, 0))).drew) (.structBegin) h hfr hg trivial).mono ?_
    rintro e w' ⟨h1, h2, h3⟩
    exact ⟨h1, h2, trivial⟩
  have hm : ∀ w, (method 498 P.T P.recv "WriteStructBegin").run Tryz.prog w = .ok (P.fn "WriteStructBegin", P.recv) w := hP.meth .structBegin
  have ha : ∀ w, (nilAhead 498 P.T P.recv "WriteStructBegin").run Tryz.prog w = .ok (some false) w := hP.ahead .structBegin
  have he : ∀ xs w, (callFunc (P.fn "WriteStructBegin") xs).run Tryz.prog w = .ok (.enter (P.fn "WriteStructBegin") xs) w := hP.enter .structBegin
  obtain ⟨f, hf⟩ : ∃ f, f = P.fn "WriteStructBegin" := ⟨_, rfl⟩
  obtain ⟨PT, hPT⟩ : ∃ f, f = P.T := ⟨_, rfl⟩
  obtain ⟨r, hr⟩ : ∃ f, f = P.recv := ⟨_, rfl⟩
  rw [← hf, ← hr] at hb2
  rw [← hf] at he
  rw [← hf, ← hr, ← hPT] at hm
  rw [← hr, ← hPT] at ha
  rw [← hPT, ← hr]
  have HB := Lib.hid hb2
  have HC := Lib.hid I_ctx
  clear hb2 hf hPT hr hP hg h hfr
  go_enter Tryz.func85, Tryz.ntmps85
  go_wp2_with fail
  go_region_held3 (fun w' => True) (first | trivial) (first | (go_at_call 38; refine (HC.out _).mono ?_; rintro e w1 ⟨rfl, rfl⟩) | ((with_reducible refine HB.out.mono ?_); (rintro e w2 ⟨rfl, hw, -⟩; have HX := Lib.hid hw; clear hw)))
  all_goals go_wp2
  all_goals go_ret
  all_goals exact HX.out

theorem I_begin4 (w : World) (s : S) (t k sz id n : Int) (vS : Value) (h : P.I w s) (hg : P.good s (.fieldBegin (t % 256) (IntKind.i16.wrap id))) :
    Calls Tryz.prog 85 #[.iface P.T P.recv, .agg (stepA 4 t k sz id n vS)] w (WR P w (P.step s (.fieldBegin (t % 256) (IntKind.i16.wrap id)))) := by
  have hfr : Fr noF noF w (w.alloc (.cells (stepA 4 t k sz id n vS) 55 (0, 0))).drew := ((Fr.refl noF w).alloc _).drew
  have k1 : (w.alloc (.cells (stepA 4 t k sz id n vS) 55 (0, 0))).cell? ⟨w.heap.size, 1, none⟩ = some (.int .i64 t) := by rw [cell_at (alloc_new w _)]; rfl
  have k4 : (w.alloc (.cells (stepA 4 t k sz id n vS) 55 (0, 0))).cell? ⟨w.heap.size, 4, none⟩ = some (.int .i64 id) := by rw [cell_at (alloc_new w _)]; rfl
  have hb2 : Calls Tryz.prog (P.fn "WriteFieldBegin") #[P.recv, .iface 221 (.agg #[]), .string ⟨#[]⟩, .int .u8 (t % 256), .int .i16 (IntKind.i16.wrap id)] (w.alloc (.cells (stepA 4 t k sz id n vS) 55 (0, 0))).drew (fun e w' => e = .returned .nilIface ∧ WR P w (P.step s (.fieldBegin (t % 256) (IntKind.i16.wrap id))) e w' ∧ w'.cell? ⟨w.heap.size, 1, none⟩ = some (.int .i64 t) ∧ w'.cell? ⟨w.heap.size, 4, none⟩ = some (.int .i64 id)) := by
    refine (hP.beside (W := (w.alloc (.cells (stepA 4 t k sz id n vS) 55 (0, 0))).drew) (.fieldBegin (t % 256) (IntKind.i16.wrap id)) h hfr hg trivial).mono ?_
    rintro e w' ⟨h1, h2, h3⟩
    exact ⟨h1, h2, by rw [cell_at (h3 _ _ (Nat.le_refl _) (alloc_new w _))]; rfl, by rw [cell_at (h3 _ _ (Nat.le_refl _) (alloc_new w _))]; rfl⟩
  have hm : ∀ w, (method 498 P.T P.recv "WriteFieldBegin").run Tryz.prog w = .ok (P.fn "WriteFieldBegin", P.recv) w := hP.meth (.fieldBegin 0 0)
  have ha : ∀ w, (nilAhead 498 P.T P.recv "WriteFieldBegin").run Tryz.prog w = .ok (some false) w := hP.ahead (.fieldBegin 0 0)
  have he : ∀ xs w, (callFunc (P.fn "WriteFieldBegin") xs).run Tryz.prog w = .ok (.enter (P.fn "WriteFieldBegin") xs) w := hP.enter (.fieldBegin 0 0)
  obtain ⟨f, hf⟩ : ∃ f, f = P.fn "WriteFieldBegin" := ⟨_, rfl⟩
  obtain ⟨PT, hPT⟩ : ∃ f, f = P.T := ⟨_, rfl⟩
  obtain ⟨r, hr⟩ : ∃ f, f = P.recv := ⟨_, rfl⟩
  rw [← hf, ← hr] at hb2
  rw [← hf] at he
  rw [← hf, ← hr, ← hPT] at hm
  rw [← hr, ← hPT] at ha
  rw [← hPT, ← hr]
  have HB := Lib.hid hb2
  have HC := Lib.hid I_ctx
  have HT := Lib.hid I_typ
  clear hb2 hf hPT hr hP hg h hfr
  go_enter Tryz.func85, Tryz.ntmps85
  go_wp2_with fail
  go_region_held3 (fun w' => w'.cell? ⟨w.heap.size, 1, none⟩ = some (.int .i64 t) ∧ w'.cell? ⟨w.heap.size, 4, none⟩ = some (.int .i64 id)) (first | exact ⟨k1, k4⟩ | exact ⟨d1, d4⟩) (first | (go_at_call 38; refine (HC.out _).mono ?_; rintro e w1 ⟨rfl, rfl⟩) | (go_at_call 57; refine (HT.out _ _).mono ?_; rintro e w1 ⟨rfl, rfl⟩) | ((with_reducible refine HB.out.mono ?_); (rintro e w2 ⟨rfl, hw, d1, d4⟩; have HX := Lib.hid hw; clear hw)))
  all_goals go_wp2
  all_goals go_ret
  all_goals exact HX.out

theorem I_begin7 (w : World) (s : S) (t k sz id n : Int) (vS : Value) (h : P.I w s) (hg : P.good s (.mapBegin (k % 256) (t % 256) sz)) :
    Calls Tryz.prog 85 #[.iface P.T P.recv, .agg (stepA 7 t k sz id n vS)] w (WR P w (P.step s (.mapBegin (k % 256) (t % 256) sz))) := by
  have hfr : Fr noF noF w (w.alloc (.cells (stepA 7 t k sz id n vS) 55 (0, 0))).drew := ((Fr.refl noF w).alloc _).drew
  have k1 : (w.alloc (.cells (stepA 7 t k sz id n vS) 55 (0, 0))).cell? ⟨w.heap.size, 1, none⟩ = some (.int .i64 t) := by rw [cell_at (alloc_new w _)]; rfl
  have k2 : (w.alloc (.cells (stepA 7 t k sz id n vS) 55 (0, 0))).cell? ⟨w.heap.size, 2, none⟩ = some (.int .i64 k) := by rw [cell_at (alloc_new w _)]; rfl
  have k3 : (w.alloc (.cells (stepA 7 t k sz id n vS) 55 (0, 0))).cell? ⟨w.heap.size, 3, none⟩ = some (.int .i64 sz) := by rw [cell_at (alloc_new w _)]; rfl
  have hb2 : Calls Tryz.prog (P.fn "WriteMapBegin") #[P.recv, .iface 221 (.agg #[]), .int .u8 (k % 256), .int .u8 (t % 256), .int .i64 sz] (w.alloc (.cells (stepA 7 t k sz id n vS) 55 (0, 0))).drew (fun e w' => e = .returned .nilIface ∧ WR P w (P.step s (.mapBegin (k % 256) (t % 256) sz)) e w' ∧ w'.cell? ⟨w.heap.size, 1, none⟩ = some (.int .i64 t) ∧ w'.cell? ⟨w.heap.size, 2, none⟩ = some (.int .i64 k) ∧ w'.cell? ⟨w.heap.size, 3, none⟩ = some (.int .i64 sz)) := by
    refine (hP.beside (W := (w.alloc (.cells (stepA 7 t k sz id n vS) 55 (0, 0))).drew) (.mapBegin (k % 256) (t % 256) sz) h hfr hg trivial).mono ?_
    rintro e w' ⟨h1, h2, h3⟩
    exact ⟨h1, h2, by rw [cell_at (h3 _ _ (Nat.le_refl _) (alloc_new w _))]; rfl, by rw [cell_at (h3 _ _ (Nat.le_refl _) (alloc_new w _))]; rfl, by rw [cell_at (h3 _ _ (Nat.le_refl _) (alloc_new w _))]; rfl⟩
  have hm : ∀ w, (method 498 P.T P.recv "WriteMapBegin").run Tryz.prog w = .ok (P.fn "WriteMapBegin", P.recv) w := hP.meth (.mapBegin 0 0 0)
  have ha : ∀ w, (nilAhead 498 P.T P.recv "WriteMapBegin").run Tryz.prog w = .ok (some false) w := hP.ahead (.mapBegin 0 0 0)
  have he : ∀ xs w, (callFunc (P.fn "WriteMapBegin") xs).run Tryz.prog w = .ok (.enter (P.fn "WriteMapBegin") xs) w := hP.enter (.mapBegin 0 0 0)
  obtain ⟨f, hf⟩ : ∃ f, f = P.fn "WriteMapBegin" := ⟨_, rfl⟩
  obtain ⟨PT, hPT⟩ : ∃ f, f = P.T := ⟨_, rfl⟩
  obtain ⟨r, hr⟩ : ∃ f, f = P.recv := ⟨_, rfl⟩
  rw [← hf, ← hr] at hb2
  rw [← hf] at he
  rw [← hf, ← hr, ← hPT] at hm
  rw [← hr, ← hPT] at ha
  rw [← hPT, ← hr]
  have HB := Lib.hid hb2
  have HC := Lib.hid I_ctx
  have HT := Lib.hid I_typ
  clear hb2 hf hPT hr hP hg h hfr
  go_enter Tryz.func85, Tryz.ntmps85
  go_wp2_with fail
  go_region_held3 (fun w' => w'.cell? ⟨w.heap.size, 1, none⟩ = some (.int .i64 t) ∧ w'.cell? ⟨w.heap.size, 2, none⟩ = some (.int .i64 k) ∧ w'.cell? ⟨w.heap.size, 3, none⟩ = some (.int .i64 sz)) (first | exact ⟨k1, k2, k3⟩ | exact ⟨d1, d2, d3⟩) (first | (go_at_call 38; refine (HC.out _).mono ?_; rintro e w1 ⟨rfl, rfl⟩) | (go_at_call 57; refine (HT.out _ _).mono ?_; rintro e w1 ⟨rfl, rfl⟩) | ((with_reducible refine HB.out.mono ?_); (rintro e w2 ⟨rfl, hw, d1, d2, d3⟩; have HX := Lib.hid hw; clear hw)))
  all_goals go_wp2
  all_goals go_ret
  all_goals exact HX.out

theorem I_begin9 (w : World) (s : S) (t k sz id n : Int) (vS : Value) (h : P.I w s) (hg : P.good s (.listBegin (t % 256) sz)) :
    Calls Tryz.prog 85 #[.iface P.T P.recv, .agg (stepA 9 t k sz id n vS)] w (WR P w (P.step s (.listBegin (t % 256) sz))) := by
  have hfr : Fr noF noF w (w.alloc (.cells (stepA 9 t k sz id n vS) 55 (0, 0))).drew := ((Fr.refl noF w).alloc _).drew
  have k1 : (w.alloc (.cells (stepA 9 t k sz id n vS) 55 (0, 0))).cell? ⟨w.heap.size, 1, none⟩ = some (.int .i64 t) := by rw [cell_at (alloc_new w _)]; rfl
  have k3 : (w.alloc (.cells (stepA 9 t k sz id n vS) 55 (0, 0))).cell? ⟨w.heap.size, 3, none⟩ = some (.int .i64 sz) := by rw [cell_at (alloc_new w _)]; rfl
  have hb2 : Calls Tryz.prog (P.fn "WriteListBegin") #[P.recv, .iface 221 (.agg #[]), .int .u8 (t % 256), .int .i64 sz] (w.alloc (.cells (stepA 9 t k sz id n vS) 55 (0, 0))).drew (fun e w' => e = .returned .nilIface ∧ WR P w (P.step s (.listBegin (t % 256) sz)) e w' ∧ w'.cell? ⟨w.heap.size, 1, none⟩ = some (.int .i64 t) ∧ w'.cell? ⟨w.heap.size, 3, none⟩ = some (.int .i64 sz)) := by
    refine (hP.beside (W := (w.alloc (.cells (stepA 9 t k sz id n vS) 55 (0, 0))).drew) (.listBegin (t % 256) sz) h hfr hg trivial).mono ?_
    rintro e w' ⟨h1, h2, h3⟩
    exact ⟨h1, h2, by rw [cell_at (h3 _ _ (Nat.le_refl _) (alloc_new w _))]; rfl, by rw [cell_at (h3 _ _ (Nat.le_refl _) (alloc_new w _))]; rfl⟩
  have hm : ∀ w, (method 498 P.T P.recv "WriteListBegin").run Tryz.prog w = .ok (P.fn "WriteListBegin", P.recv) w := hP.meth (.listBegin 0 0)
  have ha : ∀ w, (nilAhead 498 P.T P.recv "WriteListBegin").run Tryz.prog w = .ok (some false) w := hP.ahead (.listBegin 0 0)
  have he : ∀ xs w, (callFunc (P.fn "WriteListBegin") xs).run Tryz.prog w = .ok (.enter (P.fn "WriteListBegin") xs) w := hP.enter (.listBegin 0 0)
  obtain ⟨f, hf⟩ : ∃ f, f = P.fn "WriteListBegin" := ⟨_, rfl⟩
  obtain ⟨PT, hPT⟩ : ∃ f, f = P.T := ⟨_, rfl⟩
  obtain ⟨r, hr⟩ : ∃ f, f = P.recv := ⟨_, rfl⟩
  rw [← hf, ← hr] at hb2
  rw [← hf] at he
  rw [← hf, ← hr, ← hPT] at hm
  rw [← hr, ← hPT] at ha
  rw [← hPT, ← hr]
  have HB := Lib.hid hb2
  have HC := Lib.hid I_ctx
  have HT := Lib.hid I_typ
  clear hb2 hf hPT hr hP hg h hfr
  go_enter Tryz.func85, Tryz.ntmps85
  go_wp2_with fail
  go_region_held3 (fun w' => w'.cell? ⟨w.heap.size, 1, none⟩ = some (.int .i64 t) ∧ w'.cell? ⟨w.heap.size, 3, none⟩ = some (.int .i64 sz)) (first | exact ⟨k1, k3⟩ | exact ⟨d1, d3⟩) (first | (go_at_call 38; refine (HC.out _).mono ?_; rintro e w1 ⟨rfl, rfl⟩) | (go_at_call 57; refine (HT.out _ _).mono ?_; rintro e w1 ⟨rfl, rfl⟩) | ((with_reducible refine HB.out.mono ?_); (rintro e w2 ⟨rfl, hw, d1, d3⟩; have HX := Lib.hid hw; clear hw)))
  all_goals go_wp2
  all_goals go_ret
  all_goals exact HX.out

theorem I_begin11 (w : World) (s : S) (t k sz id n : Int) (vS : Value) (h : P.I w s) (hg : P.good s (.setBegin (t % 256) sz)) :
    Calls Tryz.prog 85 #[.iface P.T P.recv, .agg (stepA 11 t k sz id n vS)] w (WR P w (P.step s (.setBegin (t % 256) sz))) := by
  have hfr : Fr noF noF w (w.alloc (.cells (stepA 11 t k sz id n vS) 55 (0, 0))).drew := ((Fr.refl noF w).alloc _).drew
  have k1 : (w.alloc (.cells (stepA 11 t k sz id n vS) 55 (0, 0))).cell? ⟨w.heap.size, 1, none⟩ = some (.int .i64 t) := by rw [cell_at (alloc_new w _)]; rfl
  have k3 : (w.alloc (.cells (stepA 11 t k sz id n vS) 55 (0, 0))).cell? ⟨w.heap.size, 3, none⟩ = some (.int .i64 sz) := by rw [cell_at (alloc_new w _)]; rfl
  have hb2 : Calls Tryz.prog (P.fn "WriteSetBegin") #[P.recv, .iface 221 (.agg #[]), .int .u8 (t % 256), .int .i64 sz] (w.alloc (.cells (stepA 11 t k sz id n vS) 55 (0, 0))).drew (fun e w' => e = .returned .nilIface ∧ WR P w (P.step s (.setBegin (t % 256) sz)) e w' ∧ w'.cell? ⟨w.heap.size, 1, none⟩ = some (.int .i64 t) ∧ w'.cell? ⟨w.heap.size, 3, none⟩ = some (.int .i64 sz)) := by
    refine (hP.beside (W := (w.alloc (.cells (stepA 11 t k sz id n vS) 55 (0, 0))).drew) (.setBegin (t % 256) sz) h hfr hg trivial).mono ?_
    rintro e w' ⟨h1, h2, h3⟩
    exact ⟨h1, h2, by rw [cell_at (h3 _ _ (Nat.le_refl _) (alloc_new w _))]; rfl, by rw [cell_at (h3 _ _ (Nat.le_refl _) (alloc_new w _))]; rfl⟩
  have hm : ∀ w, (method 498 P.T P.recv "WriteSetBegin").run Tryz.prog w = .ok (P.fn "WriteSetBegin", P.recv) w := hP.meth (.setBegin 0 0)
  have ha : ∀ w, (nilAhead 498 P.T P.recv "WriteSetBegin").run Tryz.prog w = .ok (some false) w := hP.ahead (.setBegin 0 0)
  have he : ∀ xs w, (callFunc (P.fn "WriteSetBegin") xs).run Tryz.prog w = .ok (.enter (P.fn "WriteSetBegin") xs) w := hP.enter (.setBegin 0 0)
  obtain ⟨f, hf⟩ : ∃ f, f = P.fn "WriteSetBegin" := ⟨_, rfl⟩
  obtain ⟨PT, hPT⟩ : ∃ f, f = P.T := ⟨_, rfl⟩
  obtain ⟨r, hr⟩ : ∃ f, f = P.recv := ⟨_, rfl⟩
  rw [← hf, ← hr] at hb2
  rw [← hf] at he
  rw [← hf, ← hr, ← hPT] at hm
  rw [← hr, ← hPT] at ha
  rw [← hPT, ← hr]
  have HB := Lib.hid hb2
  have HC := Lib.hid I_ctx
  have HT := Lib.hid I_typ
  clear hb2 hf hPT hr hP hg h hfr
  go_enter Tryz.func85, Tryz.ntmps85
  go_wp2_with fail
  go_region_held3 (fun w' => w'.cell? ⟨w.heap.size, 1, none⟩ = some (.int .i64 t) ∧ w'.cell? ⟨w.heap.size, 3, none⟩ = some (.int .i64 sz)) (first | exact ⟨k1, k3⟩ | exact ⟨d1, d3⟩) (first | (go_at_call 38; refine (HC.out _).mono ?_; rintro e w1 ⟨rfl, rfl⟩) | (go_at_call 57; refine (HT.out _ _).mono ?_; rintro e w1 ⟨rfl, rfl⟩) | ((with_reducible refine HB.out.mono ?_); (rintro e w2 ⟨rfl, hw, d1, d3⟩; have HX := Lib.hid hw; clear hw)))
  all_goals go_wp2
  all_goals go_ret
  all_goals exact HX.out

end Go.Proofs.YtdifknecndlklaaGreatDoor
