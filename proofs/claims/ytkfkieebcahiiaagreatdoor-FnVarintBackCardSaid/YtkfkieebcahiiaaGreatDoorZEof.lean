/- What package-level variables hold by the rows' condition: io.EOF, io.ErrUnexpectedEOF; their kinds; reading at the end. -/
import Derived.LaidLaws
import Derived.LaidEql
import Derived.Stop.Asserts
import Derived.Stop.ErrReads
import Derived.Test.YtkfkieebcahiiaaGreatDoorZ4
import Derived.Test.YtkfkieebcahiiaaGreatDoorZ3
import Derived.Test.YtkfkieebcahiiaaGreatDoorZ8
set_option linter.all false
namespace Go.Proofs.YtkfkieebcahiiaaGreatDoor
open Go Go.RowKit Go.ChangeShapes Go.WideShapes
set_option maxHeartbeats 2000000
set_option maxRecDepth 100000
set_option linter.all false

abbrev ES : TypeId := 290
abbrev eofV (a : Addr) : Value := .iface ES (.pointer (some a))
theorem eof_glob : Tryz.prog.globalNamed "io.EOF" = some 0 := by kernel_rfl
theorem uneof_glob : Tryz.prog.globalNamed "io.ErrUnexpectedEOF" = some 1 := by kernel_rfl
theorem eof_type : (Tryz.prog.globals[0]?).map (·.type) = some 94 := by kernel_rfl
theorem uneof_type : (Tryz.prog.globals[1]?).map (·.type) = some 94 := by kernel_rfl
theorem es_cells : Tryz.prog.cellsOf 292 = 1 := by kernel_rfl
theorem str_cells : Tryz.prog.cellsOf 9 = 1 := by kernel_rfl
theorem es_star : "*" ++ "errors.errorString" = "*errors.errorString" := by decide
theorem es_row (u : TypeId) (h : Tryz.prog.typeName? 3 u = some "*errors.errorString") : u = ES :=
  typeName_ptr_named (nm := "errors.errorString") (by rw [es_star]; kernel_rfl) (by kernel_rfl) (by decide) u (by rw [es_star]; exact h)

/-- The two ends, where they lie. -/
structure Ends (W : World) (a0 a1 : Addr) : Prop where
  eof : W.cell? ⟨0, 0, none⟩ = some (eofV a0)
  uneof : W.cell? ⟨1, 0, none⟩ = some (eofV a1)
  ne : a0 ≠ a1
  b0 : ∃ c t, W.heap[a0.block]? = some (.cells c t (0, 0))
  b1 : ∃ c t, W.heap[a1.block]? = some (.cells c t (0, 0))
theorem Ends.keep {w w' : World} {a0 a1 : Addr} {F' : Nat → Prop} (h : Ends w a0 a1) (hf : Fr noF F' w w') : Ends w' a0 a1 := by
  obtain ⟨c0, t0, h0⟩ := h.b0
  obtain ⟨c1, t1, h1⟩ := h.b1
  exact ⟨hf.cell h.eof fun x => x, hf.cell h.uneof fun x => x, h.ne, ⟨c0, t0, hf.block h0 fun x => x⟩, ⟨c1, t1, hf.block h1 fun x => x⟩⟩

theorem ends_of_laid {W : World} {rest : List (String × DataW Unit)} (h : laidMet Tryz.prog (("io.EOF", Rows.laid_io_EOF) :: ("io.ErrUnexpectedEOF", Rows.laid_io_ErrUnexpectedEOF) :: rest) W) : ∃ a0 a1, Ends W a0 a1 := by
  obtain ⟨ps, ⟨g0, t0, cs0, f0, p0, q0, hg0, ht0, hv0, hd0, ⟨g1, t1, cs1, f1, p1, q1, hg1, ht1, hv1, hd1, hq1, e1⟩, e0⟩, hnd, hrows⟩ := h
  obtain rfl := Option.some.inj (eof_glob.symm.trans hg0)
  obtain rfl := Option.some.inj (uneof_glob.symm.trans hg1)
  obtain rfl := Option.some.inj (eof_type.symm.trans ht0)
  obtain rfl := Option.some.inj (uneof_type.symm.trans ht1)
  subst e1
  subst e0
  obtain ⟨l0⟩ := cs0
  obtain ⟨l1⟩ := cs1
  have ok0 : ∀ u v, l0 = [.iface u v] → Value.okWide Tryz.prog W .any 0 u v := fun u v e => by
    subst e
    exact (hrows 0 0 (by simp [MemPlace.row])).2 u v (by simpa using World.var?_cell hg0 hv0 0)
  have ok1 : ∀ u v, l1 = [.iface u v] → Value.okWide Tryz.prog W .any 0 u v := fun u v e => by
    subst e
    exact (hrows 1 0 (by simp [MemPlace.row])).2 u v (by simpa using World.var?_cell hg1 hv1 0)
  obtain ⟨a0, s0, rfl, hc0, hs0, hz0, rfl⟩ := errorString_of_trod Tryz.underlying94 es_row Tryz.underlying290 Tryz.underlying292 rfl rfl Tryz.underlying9 es_cells str_cells hd0 ok0
  obtain ⟨a1, s1, rfl, hc1, hs1, hz1, rfl⟩ := errorString_of_trod Tryz.underlying94 es_row Tryz.underlying290 Tryz.underlying292 rfl rfl Tryz.underlying9 es_cells str_cells hd1 ok1
  obtain ⟨c0, t0, hb0⟩ := (hrows a0.block a0.off (by simp [MemPlace.row])).1
  obtain ⟨c1, t1, hb1⟩ := (hrows a1.block a1.off (by simp [MemPlace.row])).1
  have k0 : W.cell? ⟨0, 0, none⟩ = some (eofV a0) := by simpa using World.var?_cell hg0 hv0 0
  have k1 : W.cell? ⟨1, 0, none⟩ = some (eofV a1) := by simpa using World.var?_cell hg1 hv1 0
  refine ⟨a0, a1, k0, k1, ?_, ⟨c0, t0, hb0⟩, ⟨c1, t1, hb1⟩⟩
  rintro rfl
  simp [MemPlace.row] at hnd

theorem es_info : ∃ i j, Tryz.prog.info? ES = some i ∧ i.comparable = true ∧ Tryz.prog.info? 292 = some j ∧ j.size ≠ 0 := by
  have h1 : (Tryz.prog.info? ES).map (·.comparable) = some true := by kernel_rfl
  have h2 : (Tryz.prog.info? 292).map (·.size) = some 1 := by kernel_rfl
  obtain ⟨i, hi, hc⟩ := Option.map_eq_some_iff.1 h1
  obtain ⟨j, hj, hs⟩ := Option.map_eq_some_iff.1 h2
  exact ⟨i, j, hi, hc, hj, by omega⟩
theorem eof_same (a : Addr) (w : World) : (binOp .eql 94 (eofV a) (eofV a)).run Tryz.prog w = .ok (.bool true) w := by
  obtain ⟨i, j, hi, hc, hj, hs⟩ := es_info
  exact run_eql_iface_ptr_same w a Tryz.underlying94 Tryz.underlying290 hi hc hj
theorem eof_own (a : Addr) (w : World) : (Instr.typeAssert (eofV a) 94 180 true).run Tryz.prog w = .ok (.tuple #[.int .i64 0, .bool false]) w := by kernel_rfl

/-- The kind of the end. -/
theorem kind_eof (w : World) (a0 a1 : Addr) (h : Ends w a0 a1) : Calls Tryz.prog 48 #[eofV a0] w fun e w' => e = .returned (.int .i64 1) ∧ w = w' := by
  have c0 := h.eof
  have h1 := eof_same a0
  have h2 := eof_own a0
  clear h
  go_enter Tryz.func48, Tryz.ntmps48
  go_wp2
  go_ret
  exact ⟨rfl, rfl⟩

/-- A byte asked of an empty buffer. -/
theorem Buf_ReadByte_none (b T : Nat) (z : Bool) (w : World) (h : Buf w b T z []) (ev : Value) (hE : ∀ X, Fr (BF w b) (BF X b) w X → X.cell? ⟨0, 0, none⟩ = some ev) :
    Calls Tryz.prog 140 #[.pointer (some ⟨b, 0, none⟩)] w fun e w' => e = .returned (.tuple #[.int .u8 0, ev]) ∧ Buf w' b T true [] ∧ Fr (BF w b) (BF w' b) w w' := by
  have hEm := Buf_empty b T z [] w h
  rw [show ([] : List UInt8).isEmpty = true from rfl] at hEm
  have hre := fun q => Buf_Reset b T z [] (w.drewN q) h
  have HE := Lib.hid hEm
  have HR := Lib.hid hre
  have HV := Lib.hid hE
  clear hEm hre hE h
  go_enter Tryz.func140, Tryz.ntmps140
  go_wp2_with (go_at_call 145; refine HE.out.mono ?_)
  rintro e W ⟨rfl, q, rfl⟩
  go_wp2_with fail
  (with_reducible refine (HR.out q).mono ?_)
  rintro e W ⟨rfl, hB, hF⟩
  have HX := Lib.hid (And.intro (hB.mono (Nat.zero_le T)) (show Fr (BF w b) (BF W b) w W from ⟨hF.os, hF.tape, hF.output, hF.size, hF.keep, hF.foot⟩))
  have c0 := HV.out W HX.out.2
  clear hB hF
  go_wp2_with fail
  go_quiet (fail)
  go_wp2
  go_ret2
  exact ⟨rfl, HX.out.1, HX.out.2.drewN _⟩
end Go.Proofs.YtkfkieebcahiiaaGreatDoor
