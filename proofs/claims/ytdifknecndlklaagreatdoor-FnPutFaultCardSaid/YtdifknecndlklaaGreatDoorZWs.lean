/- The thin package writes a step, by whatever protocol. Printed by gen_ws.py. -/
import Derived.Deep.RegionHeld3
import Derived.Test.YtdifknecndlklaaGreatDoorZ5
set_option linter.all false
namespace Go.Proofs.YtdifknecndlklaaGreatDoor
open Go Go.RowKit
set_option maxHeartbeats 1000000
set_option maxRecDepth 100000

variable {S : Type} (P : WProto S) (hP : P.Ok)
include hP

theorem I_write13 (w : World) (s : S) (t k sz id n : Int) (vS : Value) (h : P.I w s) (hg : P.good s (.bool (n != 0))) :
    Calls Tryz.prog 72 #[.iface P.T P.recv, .agg (stepA 13 t k sz id n vS)] w (WR P w (P.step s (.bool (n != 0)))) := by
  have hfr : Fr noF noF w (w.alloc (.cells (stepA 13 t k sz id n vS) 55 (0, 0))).drew := ((Fr.refl noF w).alloc _).drew
  have k5 : (w.alloc (.cells (stepA 13 t k sz id n vS) 55 (0, 0))).cell? ⟨w.heap.size, 5, none⟩ = some (.int .i64 n) := by rw [cell_at (alloc_new w _)]; rfl
  have hb2 : Calls Tryz.prog (P.fn "WriteBool") #[P.recv, .iface 221 (.agg #[]), .bool (n != 0)] (w.alloc (.cells (stepA 13 t k sz id n vS) 55 (0, 0))).drew (fun e w' => e = .returned .nilIface ∧ WR P w (P.step s (.bool (n != 0))) e w' ∧ w'.cell? ⟨w.heap.size, 5, none⟩ = some (.int .i64 n)) := by
    refine (hP.beside (W := (w.alloc (.cells (stepA 13 t k sz id n vS) 55 (0, 0))).drew) (.bool (n != 0)) h hfr hg trivial).mono ?_
    rintro e w' ⟨h1, h2, h3⟩
    exact ⟨h1, h2, by rw [cell_at (h3 _ _ (Nat.le_refl _) (alloc_new w _))]; rfl⟩
  have hm : ∀ w, (method 498 P.T P.recv "WriteBool").run Tryz.prog w = .ok (P.fn "WriteBool", P.recv) w := hP.meth (.bool true)
  have ha : ∀ w, (nilAhead 498 P.T P.recv "WriteBool").run Tryz.prog w = .ok (some false) w := hP.ahead (.bool true)
  have he : ∀ xs w, (callFunc (P.fn "WriteBool") xs).run Tryz.prog w = .ok (.enter (P.fn "WriteBool") xs) w := hP.enter (.bool true)
  obtain ⟨f, hf⟩ : ∃ f, f = P.fn "WriteBool" := ⟨_, rfl⟩
  obtain ⟨PT, hPT⟩ : ∃ f, f = P.T := ⟨_, rfl⟩
  obtain ⟨r, hr⟩ : ∃ f, f = P.recv := ⟨_, rfl⟩
  rw [← hf, ← hr] at hb2
  rw [← hf] at he
  rw [← hf, ← hr, ← hPT] at hm
  rw [← hr, ← hPT] at ha
  rw [← hPT, ← hr]
  have HB := Lib.hid hb2
  have HC := Lib.hid I_ctx
  clear hb2 hf hPT hr hP hg h hfr
  go_enter Tryz.func72, Tryz.ntmps72
  go_wp2_with fail
  go_region_held3 (fun w' => w'.cell? ⟨w.heap.size, 5, none⟩ = some (.int .i64 n)) (first | exact k5 | exact d5) (first | (go_at_call 38; refine (HC.out _).mono ?_; rintro e w1 ⟨rfl, rfl⟩) | ((with_reducible refine HB.out.mono ?_); (rintro e w2 ⟨rfl, hw, d5⟩; have HX := Lib.hid hw; clear hw)))
  all_goals go_wp2
  all_goals go_ret
  all_goals exact HX.out

theorem I_write14 (w : World) (s : S) (t k sz id n : Int) (vS : Value) (h : P.I w s) (hg : P.good s (.byte (IntKind.i8.wrap n))) :
    Calls Tryz.prog 72 #[.iface P.T P.recv, .agg (stepA 14 t k sz id n vS)] w (WR P w (P.step s (.byte (IntKind.i8.wrap n)))) := by
  have hfr : Fr noF noF w (w.alloc (.cells (stepA 14 t k sz id n vS) 55 (0, 0))).drew := ((Fr.refl noF w).alloc _).drew
  have k5 : (w.alloc (.cells (stepA 14 t k sz id n vS) 55 (0, 0))).cell? ⟨w.heap.size, 5, none⟩ = some (.int .i64 n) := by rw [cell_at (alloc_new w _)]; rfl
  have hb2 : Calls Tryz.prog (P.fn "WriteByte") #[P.recv, .iface 221 (.agg #[]), .int .i8 (IntKind.i8.wrap n)] (w.alloc (.cells (stepA 14 t k sz id n vS) 55 (0, 0))).drew (fun e w' => e = .returned .nilIface ∧ WR P w (P.step s (.byte (IntKind.i8.wrap n))) e w' ∧ w'.cell? ⟨w.heap.size, 5, none⟩ = some (.int .i64 n)) := by
    refine (hP.beside (W := (w.alloc (.cells (stepA 14 t k sz id n vS) 55 (0, 0))).drew) (.byte (IntKind.i8.wrap n)) h hfr hg trivial).mono ?_
    rintro e w' ⟨h1, h2, h3⟩
    exact ⟨h1, h2, by rw [cell_at (h3 _ _ (Nat.le_refl _) (alloc_new w _))]; rfl⟩
  have hm : ∀ w, (method 498 P.T P.recv "WriteByte").run Tryz.prog w = .ok (P.fn "WriteByte", P.recv) w := hP.meth (.byte 0)
  have ha : ∀ w, (nilAhead 498 P.T P.recv "WriteByte").run Tryz.prog w = .ok (some false) w := hP.ahead (.byte 0)
  have he : ∀ xs w, (callFunc (P.fn "WriteByte") xs).run Tryz.prog w = .ok (.enter (P.fn "WriteByte") xs) w := hP.enter (.byte 0)
  obtain ⟨f, hf⟩ : ∃ f, f = P.fn "WriteByte" := ⟨_, rfl⟩
  obtain ⟨PT, hPT⟩ : ∃ f, f = P.T := ⟨_, rfl⟩
  obtain ⟨r, hr⟩ : ∃ f, f = P.recv := ⟨_, rfl⟩
  rw [← hf, ← hr] at hb2
  rw [← hf] at he
  rw [← hf, ← hr, ← hPT] at hm
  rw [← hr, ← hPT] at ha
  rw [← hPT, ← hr]
  have HB := Lib.hid hb2
  have HC := Lib.hid I_ctx
  clear hb2 hf hPT hr hP hg h hfr
  go_enter Tryz.func72, Tryz.ntmps72
  go_wp2_with fail
  go_region_held3 (fun w' => w'.cell? ⟨w.heap.size, 5, none⟩ = some (.int .i64 n)) (first | exact k5 | exact d5) (first | (go_at_call 38; refine (HC.out _).mono ?_; rintro e w1 ⟨rfl, rfl⟩) | ((with_reducible refine HB.out.mono ?_); (rintro e w2 ⟨rfl, hw, d5⟩; have HX := Lib.hid hw; clear hw)))
  all_goals go_wp2
  all_goals go_ret
  all_goals exact HX.out

theorem I_write15 (w : World) (s : S) (t k sz id n : Int) (vS : Value) (h : P.I w s) (hg : P.good s (.i16 (IntKind.i16.wrap n))) :
    Calls Tryz.prog 72 #[.iface P.T P.recv, .agg (stepA 15 t k sz id n vS)] w (WR P w (P.step s (.i16 (IntKind.i16.wrap n)))) := by
  have hfr : Fr noF noF w (w.alloc (.cells (stepA 15 t k sz id n vS) 55 (0, 0))).drew := ((Fr.refl noF w).alloc _).drew
  have k5 : (w.alloc (.cells (stepA 15 t k sz id n vS) 55 (0, 0))).cell? ⟨w.heap.size, 5, none⟩ = some (.int .i64 n) := by rw [cell_at (alloc_new w _)]; rfl
  have hb2 : Calls Tryz.prog (P.fn "WriteI16") #[P.recv, .iface 221 (.agg #[]), .int .i16 (IntKind.i16.wrap n)] (w.alloc (.cells (stepA 15 t k sz id n vS) 55 (0, 0))).drew (fun e w' => e = .returned .nilIface ∧ WR P w (P.step s (.i16 (IntKind.i16.wrap n))) e w' ∧ w'.cell? ⟨w.heap.size, 5, none⟩ = some (.int .i64 n)) := by
    refine (hP.beside (W := (w.alloc (.cells (stepA 15 t k sz id n vS) 55 (0, 0))).drew) (.i16 (IntKind.i16.wrap n)) h hfr hg trivial).mono ?_
    rintro e w' ⟨h1, h2, h3⟩
    exact ⟨h1, h2, by rw [cell_at (h3 _ _ (Nat.le_refl _) (alloc_new w _))]; rfl⟩
  have hm : ∀ w, (method 498 P.T P.recv "WriteI16").run Tryz.prog w = .ok (P.fn "WriteI16", P.recv) w := hP.meth (.i16 0)
  have ha : ∀ w, (nilAhead 498 P.T P.recv "WriteI16").run Tryz.prog w = .ok (some false) w := hP.ahead (.i16 0)
  have he : ∀ xs w, (callFunc (P.fn "WriteI16") xs).run Tryz.prog w = .ok (.enter (P.fn "WriteI16") xs) w := hP.enter (.i16 0)
  obtain ⟨f, hf⟩ : ∃ f, f = P.fn "WriteI16" := ⟨_, rfl⟩
  obtain ⟨PT, hPT⟩ : ∃ f, f = P.T := ⟨_, rfl⟩
  obtain ⟨r, hr⟩ : ∃ f, f = P.recv := ⟨_, rfl⟩
  rw [← hf, ← hr] at hb2
  rw [← hf] at he
  rw [← hf, ← hr, ← hPT] at hm
  rw [← hr, ← hPT] at ha
  rw [← hPT, ← hr]
  have HB := Lib.hid hb2
  have HC := Lib.hid I_ctx
  clear hb2 hf hPT hr hP hg h hfr
  go_enter Tryz.func72, Tryz.ntmps72
  go_wp2_with fail
  go_region_held3 (fun w' => w'.cell? ⟨w.heap.size, 5, none⟩ = some (.int .i64 n)) (first | exact k5 | exact d5) (first | (go_at_call 38; refine (HC.out _).mono ?_; rintro e w1 ⟨rfl, rfl⟩) | ((with_reducible refine HB.out.mono ?_); (rintro e w2 ⟨rfl, hw, d5⟩; have HX := Lib.hid hw; clear hw)))
  all_goals go_wp2
  all_goals go_ret
  all_goals exact HX.out

theorem I_write16 (w : World) (s : S) (t k sz id n : Int) (vS : Value) (h : P.I w s) (hg : P.good s (.i32 (IntKind.i32.wrap n))) :
    Calls Tryz.prog 72 #[.iface P.T P.recv, .agg (stepA 16 t k sz id n vS)] w (WR P w (P.step s (.i32 (IntKind.i32.wrap n)))) := by
  have hfr : Fr noF noF w (w.alloc (.cells (stepA 16 t k sz id n vS) 55 (0, 0))).drew := ((Fr.refl noF w).alloc _).drew
  have k5 : (w.alloc (.cells (stepA 16 t k sz id n vS) 55 (0, 0))).cell? ⟨w.heap.size, 5, none⟩ = some (.int .i64 n) := by rw [cell_at (alloc_new w _)]; rfl
  have hb2 : Calls Tryz.prog (P.fn "WriteI32") #[P.recv, .iface 221 (.agg #[]), .int .i32 (IntKind.i32.wrap n)] (w.alloc (.cells (stepA 16 t k sz id n vS) 55 (0, 0))).drew (fun e w' => e = .returned .nilIface ∧ WR P w (P.step s (.i32 (IntKind.i32.wrap n))) e w' ∧ w'.cell? ⟨w.heap.size, 5, none⟩ = some (.int .i64 n)) := by
    refine (hP.beside (W := (w.alloc (.cells (stepA 16 t k sz id n vS) 55 (0, 0))).drew) (.i32 (IntKind.i32.wrap n)) h hfr hg trivial).mono ?_
    rintro e w' ⟨h1, h2, h3⟩
    exact ⟨h1, h2, by rw [cell_at (h3 _ _ (Nat.le_refl _) (alloc_new w _))]; rfl⟩
  have hm : ∀ w, (method 498 P.T P.recv "WriteI32").run Tryz.prog w = .ok (P.fn "WriteI32", P.recv) w := hP.meth (.i32 0)
  have ha : ∀ w, (nilAhead 498 P.T P.recv "WriteI32").run Tryz.prog w = .ok (some false) w := hP.ahead (.i32 0)
  have he : ∀ xs w, (callFunc (P.fn "WriteI32") xs).run Tryz.prog w = .ok (.enter (P.fn "WriteI32") xs) w := hP.enter (.i32 0)
  obtain ⟨f, hf⟩ : ∃ f, f = P.fn "WriteI32" := ⟨_, rfl⟩
  obtain ⟨PT, hPT⟩ : ∃ f, f = P.T := ⟨_, rfl⟩
  obtain ⟨r, hr⟩ : ∃ f, f = P.recv := ⟨_, rfl⟩
  rw [← hf, ← hr] at hb2
  rw [← hf] at he
  rw [← hf, ← hr, ← hPT] at hm
  rw [← hr, ← hPT] at ha
  rw [← hPT, ← hr]
  have HB := Lib.hid hb2
  have HC := Lib.hid I_ctx
  clear hb2 hf hPT hr hP hg h hfr
  go_enter Tryz.func72, Tryz.ntmps72
  go_wp2_with fail
  go_region_held3 (fun w' => w'.cell? ⟨w.heap.size, 5, none⟩ = some (.int .i64 n)) (first | exact k5 | exact d5) (first | (go_at_call 38; refine (HC.out _).mono ?_; rintro e w1 ⟨rfl, rfl⟩) | ((with_reducible refine HB.out.mono ?_); (rintro e w2 ⟨rfl, hw, d5⟩; have HX := Lib.hid hw; clear hw)))
  all_goals go_wp2
  all_goals go_ret
  all_goals exact HX.out

theorem I_write17 (w : World) (s : S) (t k sz id n : Int) (vS : Value) (h : P.I w s) (hg : P.good s (.i64 n)) :
    Calls Tryz.prog 72 #[.iface P.T P.recv, .agg (stepA 17 t k sz id n vS)] w (WR P w (P.step s (.i64 n))) := by
  have hfr : Fr noF noF w (w.alloc (.cells (stepA 17 t k sz id n vS) 55 (0, 0))).drew := ((Fr.refl noF w).alloc _).drew
  have k5 : (w.alloc (.cells (stepA 17 t k sz id n vS) 55 (0, 0))).cell? ⟨w.heap.size, 5, none⟩ = some (.int .i64 n) := by rw [cell_at (alloc_new w _)]; rfl
  have hb2 : Calls Tryz.prog (P.fn "WriteI64") #[P.recv, .iface 221 (.agg #[]), .int .i64 n] (w.alloc (.cells (stepA 17 t k sz id n vS) 55 (0, 0))).drew (fun e w' => e = .returned .nilIface ∧ WR P w (P.step s (.i64 n)) e w' ∧ w'.cell? ⟨w.heap.size, 5, none⟩ = some (.int .i64 n)) := by
    refine (hP.beside (W := (w.alloc (.cells (stepA 17 t k sz id n vS) 55 (0, 0))).drew) (.i64 n) h hfr hg trivial).mono ?_
    rintro e w' ⟨h1, h2, h3⟩
    exact ⟨h1, h2, by rw [cell_at (h3 _ _ (Nat.le_refl _) (alloc_new w _))]; rfl⟩
  have hm : ∀ w, (method 498 P.T P.recv "WriteI64").run Tryz.prog w = .ok (P.fn "WriteI64", P.recv) w := hP.meth (.i64 0)
  have ha : ∀ w, (nilAhead 498 P.T P.recv "WriteI64").run Tryz.prog w = .ok (some false) w := hP.ahead (.i64 0)
  have he : ∀ xs w, (callFunc (P.fn "WriteI64") xs).run Tryz.prog w = .ok (.enter (P.fn "WriteI64") xs) w := hP.enter (.i64 0)
  obtain ⟨f, hf⟩ : ∃ f, f = P.fn "WriteI64" := ⟨_, rfl⟩
  obtain ⟨PT, hPT⟩ : ∃ f, f = P.T := ⟨_, rfl⟩
  obtain ⟨r, hr⟩ : ∃ f, f = P.recv := ⟨_, rfl⟩
  rw [← hf, ← hr] at hb2
  rw [← hf] at he
  rw [← hf, ← hr, ← hPT] at hm
  rw [← hr, ← hPT] at ha
  rw [← hPT, ← hr]
  have HB := Lib.hid hb2
  have HC := Lib.hid I_ctx
  clear hb2 hf hPT hr hP hg h hfr
  go_enter Tryz.func72, Tryz.ntmps72
  go_wp2_with fail
  go_region_held3 (fun w' => w'.cell? ⟨w.heap.size, 5, none⟩ = some (.int .i64 n)) (first | exact k5 | exact d5) (first | (go_at_call 38; refine (HC.out _).mono ?_; rintro e w1 ⟨rfl, rfl⟩) | ((with_reducible refine HB.out.mono ?_); (rintro e w2 ⟨rfl, hw, d5⟩; have HX := Lib.hid hw; clear hw)))
  all_goals go_wp2
  all_goals go_ret
  all_goals exact HX.out

theorem I_write18 (w : World) (s : S) (t k sz id n : Int) (vS : Value) (h : P.I w s) (hg : P.good s (.double (IntKind.u64.wrap n).toNat)) :
    Calls Tryz.prog 72 #[.iface P.T P.recv, .agg (stepA 18 t k sz id n vS)] w (WR P w (P.step s (.double (IntKind.u64.wrap n).toNat))) := by
  have hfr : Fr noF noF w (w.alloc (.cells (stepA 18 t k sz id n vS) 55 (0, 0))).drew := ((Fr.refl noF w).alloc _).drew
  have k5 : (w.alloc (.cells (stepA 18 t k sz id n vS) 55 (0, 0))).cell? ⟨w.heap.size, 5, none⟩ = some (.int .i64 n) := by rw [cell_at (alloc_new w _)]; rfl
  have hb2 : Calls Tryz.prog (P.fn "WriteDouble") #[P.recv, .iface 221 (.agg #[]), .float .f64 (IntKind.u64.wrap n).toNat] (w.alloc (.cells (stepA 18 t k sz id n vS) 55 (0, 0))).drew (fun e w' => e = .returned .nilIface ∧ WR P w (P.step s (.double (IntKind.u64.wrap n).toNat)) e w' ∧ w'.cell? ⟨w.heap.size, 5, none⟩ = some (.int .i64 n)) := by
    refine (hP.beside (W := (w.alloc (.cells (stepA 18 t k sz id n vS) 55 (0, 0))).drew) (.double (IntKind.u64.wrap n).toNat) h hfr hg trivial).mono ?_
    rintro e w' ⟨h1, h2, h3⟩
    exact ⟨h1, h2, by rw [cell_at (h3 _ _ (Nat.le_refl _) (alloc_new w _))]; rfl⟩
  have hm : ∀ w, (method 498 P.T P.recv "WriteDouble").run Tryz.prog w = .ok (P.fn "WriteDouble", P.recv) w := hP.meth (.double 0)
  have ha : ∀ w, (nilAhead 498 P.T P.recv "WriteDouble").run Tryz.prog w = .ok (some false) w := hP.ahead (.double 0)
  have he : ∀ xs w, (callFunc (P.fn "WriteDouble") xs).run Tryz.prog w = .ok (.enter (P.fn "WriteDouble") xs) w := hP.enter (.double 0)
  obtain ⟨f, hf⟩ : ∃ f, f = P.fn "WriteDouble" := ⟨_, rfl⟩
  obtain ⟨PT, hPT⟩ : ∃ f, f = P.T := ⟨_, rfl⟩
  obtain ⟨r, hr⟩ : ∃ f, f = P.recv := ⟨_, rfl⟩
  rw [← hf, ← hr] at hb2
  rw [← hf] at he
  rw [← hf, ← hr, ← hPT] at hm
  rw [← hr, ← hPT] at ha
  rw [← hPT, ← hr]
  have HB := Lib.hid hb2
  have HC := Lib.hid I_ctx
  have hrf := run_f64from
  clear hb2 hf hPT hr hP hg h hfr
  go_enter Tryz.func72, Tryz.ntmps72
  go_wp2_with fail
  go_region_held3 (fun w' => w'.cell? ⟨w.heap.size, 5, none⟩ = some (.int .i64 n)) (first | exact k5 | exact d5) (first | (go_at_call 38; refine (HC.out _).mono ?_; rintro e w1 ⟨rfl, rfl⟩) | ((with_reducible refine HB.out.mono ?_); (rintro e w2 ⟨rfl, hw, d5⟩; have HX := Lib.hid hw; clear hw)))
  all_goals go_wp2
  all_goals go_ret
  all_goals exact HX.out

theorem I_write19 (w : World) (s : S) (t k sz id n : Int) (vS : Value) (l : List UInt8) (hv : Rd w vS l) (hb : ∀ k, vblk vS k → ¬ P.F w k) (hl : l.length ≤ maxLen) (h : P.I w s) (hg : P.good s (.string (strOf l))) :
    Calls Tryz.prog 72 #[.iface P.T P.recv, .agg (stepA 19 t k sz id n vS)] w (WR P w (P.step s (.string (strOf l)))) := by
  have hfr : Fr noF noF w (w.alloc (.cells (stepA 19 t k sz id n vS) 55 (0, 0))).drew := ((Fr.refl noF w).alloc _).drew
  have hv2 : Rd (w.alloc (.cells (stepA 19 t k sz id n vS) 55 (0, 0))).drew vS l := hv.keep hfr fun _ _ x => x
  have k6 : (w.alloc (.cells (stepA 19 t k sz id n vS) 55 (0, 0))).cell? ⟨w.heap.size, 6, none⟩ = some (vS) := by rw [cell_at (alloc_new w _)]; rfl
  have hb2 : Calls Tryz.prog (P.fn "WriteString") #[P.recv, .iface 221 (.agg #[]), .string (strOf l)] (w.alloc (.cells (stepA 19 t k sz id n vS) 55 (0, 0))).drew (fun e w' => e = .returned .nilIface ∧ WR P w (P.step s (.string (strOf l))) e w' ∧ w'.cell? ⟨w.heap.size, 6, none⟩ = some (vS) ∧ (convert 24 9 vS).run Tryz.prog w' = .ok (.string (strOf l)) w') := by
    refine (hP.beside (W := (w.alloc (.cells (stepA 19 t k sz id n vS) 55 (0, 0))).drew) (.string (strOf l)) h hfr hg (show (strOf l).size ≤ maxLen by simpa [strOf, ByteArray.size] using hl)).mono ?_
    rintro e w' ⟨h1, h2, h3⟩
    exact ⟨h1, h2, by rw [cell_at (h3 _ _ (Nat.le_refl _) (alloc_new w _))]; rfl, conv_back (hv.keep h2.2.2 fun k hk hx => hb k hk hx)⟩
  have hm : ∀ w, (method 498 P.T P.recv "WriteString").run Tryz.prog w = .ok (P.fn "WriteString", P.recv) w := hP.meth (.string default)
  have ha : ∀ w, (nilAhead 498 P.T P.recv "WriteString").run Tryz.prog w = .ok (some false) w := hP.ahead (.string default)
  have he : ∀ xs w, (callFunc (P.fn "WriteString") xs).run Tryz.prog w = .ok (.enter (P.fn "WriteString") xs) w := hP.enter (.string default)
  obtain ⟨f, hf⟩ : ∃ f, f = P.fn "WriteString" := ⟨_, rfl⟩
  obtain ⟨PT, hPT⟩ : ∃ f, f = P.T := ⟨_, rfl⟩
  obtain ⟨r, hr⟩ : ∃ f, f = P.recv := ⟨_, rfl⟩
  rw [← hf, ← hr] at hb2
  rw [← hf] at he
  rw [← hf, ← hr, ← hPT] at hm
  rw [← hr, ← hPT] at ha
  rw [← hPT, ← hr]
  have HB := Lib.hid hb2
  have HC := Lib.hid I_ctx
  have hcv1 : (convert 24 9 vS).run Tryz.prog (w.alloc (.cells (stepA 19 t k sz id n vS) 55 (0, 0))).drew = .ok (.string (strOf l)) (w.alloc (.cells (stepA 19 t k sz id n vS) 55 (0, 0))).drew := conv_back hv2
  clear hb2 hf hPT hr hP hg h hfr hv hv2 hb hl
  go_enter Tryz.func72, Tryz.ntmps72
  go_wp2_with fail
  go_region_held3 (fun w' => w'.cell? ⟨w.heap.size, 6, none⟩ = some (vS) ∧ (convert 24 9 vS).run Tryz.prog w' = .ok (.string (strOf l)) w') (first | exact ⟨k6, hcv1⟩ | exact ⟨d6, dcv⟩) (first | (go_at_call 38; refine (HC.out _).mono ?_; rintro e w1 ⟨rfl, rfl⟩) | ((with_reducible refine HB.out.mono ?_); (rintro e w2 ⟨rfl, hw, d6, dcv⟩; have HX := Lib.hid hw; clear hw)))
  all_goals go_wp2
  all_goals go_ret
  all_goals exact HX.out

theorem I_write20 (w : World) (s : S) (t k sz id n : Int) (vS : Value) (l : List UInt8) (hv : Rd w vS l) (hb : ∀ k, vblk vS k → ¬ P.F w k) (h : P.I w s) (hg : P.good s (.binary vS l)) :
    Calls Tryz.prog 72 #[.iface P.T P.recv, .agg (stepA 20 t k sz id n vS)] w (WR P w (P.step s (.binary vS l))) := by
  have hfr : Fr noF noF w (w.alloc (.cells (stepA 20 t k sz id n vS) 55 (0, 0))).drew := ((Fr.refl noF w).alloc _).drew
  have hv2 : Rd (w.alloc (.cells (stepA 20 t k sz id n vS) 55 (0, 0))).drew vS l := hv.keep hfr fun _ _ x => x
  have k6 : (w.alloc (.cells (stepA 20 t k sz id n vS) 55 (0, 0))).cell? ⟨w.heap.size, 6, none⟩ = some (vS) := by rw [cell_at (alloc_new w _)]; rfl
  have hb2 : Calls Tryz.prog (P.fn "WriteBinary") #[P.recv, .iface 221 (.agg #[]), vS] (w.alloc (.cells (stepA 20 t k sz id n vS) 55 (0, 0))).drew (fun e w' => e = .returned .nilIface ∧ WR P w (P.step s (.binary vS l)) e w' ∧ w'.cell? ⟨w.heap.size, 6, none⟩ = some (vS)) := by
    refine (hP.beside (W := (w.alloc (.cells (stepA 20 t k sz id n vS) 55 (0, 0))).drew) (.binary vS l) h hfr hg ⟨hv2, fun k hk hx => hb k hk ((hP.quiet h hfr).2.1 k hx)⟩).mono ?_
    rintro e w' ⟨h1, h2, h3⟩
    exact ⟨h1, h2, by rw [cell_at (h3 _ _ (Nat.le_refl _) (alloc_new w _))]; rfl⟩
  have hm : ∀ w, (method 498 P.T P.recv "WriteBinary").run Tryz.prog w = .ok (P.fn "WriteBinary", P.recv) w := hP.meth (.binary .nilIface [])
  have ha : ∀ w, (nilAhead 498 P.T P.recv "WriteBinary").run Tryz.prog w = .ok (some false) w := hP.ahead (.binary .nilIface [])
  have he : ∀ xs w, (callFunc (P.fn "WriteBinary") xs).run Tryz.prog w = .ok (.enter (P.fn "WriteBinary") xs) w := hP.enter (.binary .nilIface [])
  obtain ⟨f, hf⟩ : ∃ f, f = P.fn "WriteBinary" := ⟨_, rfl⟩
  obtain ⟨PT, hPT⟩ : ∃ f, f = P.T := ⟨_, rfl⟩
  obtain ⟨r, hr⟩ : ∃ f, f = P.recv := ⟨_, rfl⟩
  rw [← hf, ← hr] at hb2
  rw [← hf] at he
  rw [← hf, ← hr, ← hPT] at hm
  rw [← hr, ← hPT] at ha
  rw [← hPT, ← hr]
  have HB := Lib.hid hb2
  have HC := Lib.hid I_ctx
  clear hb2 hf hPT hr hP hg h hfr hv hv2 hb
  go_enter Tryz.func72, Tryz.ntmps72
  go_wp2_with fail
  go_region_held3 (fun w' => w'.cell? ⟨w.heap.size, 6, none⟩ = some (vS)) (first | exact k6 | exact d6) (first | (go_at_call 38; refine (HC.out _).mono ?_; rintro e w1 ⟨rfl, rfl⟩) | ((with_reducible refine HB.out.mono ?_); (rintro e w2 ⟨rfl, hw, d6⟩; have HX := Lib.hid hw; clear hw)))
  all_goals go_wp2
  all_goals go_ret
  all_goals exact HX.out

theorem I_write21 (w : World) (s : S) (t k sz id n : Int) (vS : Value) (l : List UInt8) (hv : Rd w vS l) (h : P.I w s) (hg : P.good s (.uuid (pad16 l))) :
    Calls Tryz.prog 72 #[.iface P.T P.recv, .agg (stepA 21 t k sz id n vS)] w (WR P w (P.step s (.uuid (pad16 l)))) := by
  have hfr : Fr noF noF w (w.alloc (.cells (stepA 21 t k sz id n vS) 55 (0, 0))).drew := ((Fr.refl noF w).alloc _).drew
  have hv2 : Rd (w.alloc (.cells (stepA 21 t k sz id n vS) 55 (0, 0))).drew vS l := hv.keep hfr fun _ _ x => x
  have huu := I_uuid vS l (w.alloc (.cells (stepA 21 t k sz id n vS) 55 (0, 0))).drew hv2
  have k6 : (w.alloc (.cells (stepA 21 t k sz id n vS) 55 (0, 0))).cell? ⟨w.heap.size, 6, none⟩ = some (vS) := by rw [cell_at (alloc_new w _)]; rfl
  have hb2 : ∀ W, Fr noF noF (w.alloc (.cells (stepA 21 t k sz id n vS) 55 (0, 0))).drew W → Calls Tryz.prog (P.fn "WriteUUID") #[P.recv, .iface 221 (.agg #[]), uuidV (pad16 l)] W (fun e w' => e = .returned .nilIface ∧ WR P w (P.step s (.uuid (pad16 l))) e w' ∧ w'.cell? ⟨w.heap.size, 6, none⟩ = some (vS)) := fun W hW => by
    refine (hP.beside (W := W) (.uuid (pad16 l)) h (hfr.trans hW) hg (pad16_len l)).mono ?_
    rintro e w' ⟨h1, h2, h3⟩
    exact ⟨h1, h2, by rw [cell_at (h3 _ _ (Nat.le_refl _) (hW.block (w := (w.alloc (.cells (stepA 21 t k sz id n vS) 55 (0, 0))).drew) (alloc_new w _) fun x => x))]; rfl⟩
  have hm : ∀ w, (method 498 P.T P.recv "WriteUUID").run Tryz.prog w = .ok (P.fn "WriteUUID", P.recv) w := hP.meth (.uuid [])
  have ha : ∀ w, (nilAhead 498 P.T P.recv "WriteUUID").run Tryz.prog w = .ok (some false) w := hP.ahead (.uuid [])
  have he : ∀ xs w, (callFunc (P.fn "WriteUUID") xs).run Tryz.prog w = .ok (.enter (P.fn "WriteUUID") xs) w := hP.enter (.uuid [])
  obtain ⟨f, hf⟩ : ∃ f, f = P.fn "WriteUUID" := ⟨_, rfl⟩
  obtain ⟨PT, hPT⟩ : ∃ f, f = P.T := ⟨_, rfl⟩
  obtain ⟨r, hr⟩ : ∃ f, f = P.recv := ⟨_, rfl⟩
  rw [← hf, ← hr] at hb2
  rw [← hf] at he
  rw [← hf, ← hr, ← hPT] at hm
  rw [← hr, ← hPT] at ha
  rw [← hPT, ← hr]
  have HB := Lib.hid hb2
  have HC := Lib.hid I_ctx
  have HU := Lib.hid huu
  clear hb2 hf hPT hr hP hg h hfr hv hv2 huu
  go_enter Tryz.func72, Tryz.ntmps72
  go_wp2_with fail
  go_region_held3 (fun w' => w'.cell? ⟨w.heap.size, 6, none⟩ = some (vS)) (first | exact k6 | exact d6 | exact u6) (first | (go_at_call 38; refine (HC.out _).mono ?_; rintro e w1 ⟨rfl, rfl⟩) | (go_at_call 69; refine HU.out.mono ?_; rintro e w1 ⟨rfl, hfu⟩; have HF := Lib.hid hfu; have u6 := hfu.cell (w := (w.alloc (.cells (stepA 21 t k sz id n vS) 55 (0, 0))).drew) k6 (fun x => x); clear hfu) | ((with_reducible refine (HB.out _ HF.out).mono ?_); (rintro e w2 ⟨rfl, hw, d6⟩; have HX := Lib.hid hw; clear hw)))
  all_goals go_wp2
  all_goals go_ret
  all_goals exact HX.out

end Go.Proofs.YtdifknecndlklaaGreatDoor
