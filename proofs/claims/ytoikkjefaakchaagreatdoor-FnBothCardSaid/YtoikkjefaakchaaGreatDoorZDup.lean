/- A protocol that writes all by two others at once. Printed by gen_dup.py. -/
import Derived.Test.YtoikkjefaakchaaGreatDoorZ5
import Derived.Test.YtoikkjefaakchaaGreatDoorZ4
set_option linter.all false
namespace Go.Proofs.YtoikkjefaakchaaGreatDoor
open Go Go.RowKit
set_option maxHeartbeats 1000000
set_option maxRecDepth 100000
set_option linter.all false

abbrev TDP : TypeId := 169
abbrev PDP : TypeId := 167
section
variable {S S' : Type} (P : WProto S) (Q : WProto S') (d : Nat)
/-- The two, beside each other. -/
structure DupI (w : World) (s : S × S') : Prop where
  box : w.heap[d]? = some (.cells #[.iface P.T P.recv, .iface Q.T Q.recv] TDP (0, 0))
  I1 : P.I w s.1
  I2 : Q.I w s.2
  n1 : ¬ P.F w d
  n2 : ¬ Q.F w d
  apart : ∀ k, P.F w k → ¬ Q.F w k
def protoD : WProto (S × S') where
  T := PDP
  recv := .pointer (some ⟨d, 0, none⟩)
  fn n := match n with
    | "WriteMessageBegin" => 285
    | "WriteMessageEnd" => 286
    | "WriteStructBegin" => 290
    | "WriteStructEnd" => 291
    | "WriteFieldBegin" => 275
    | "WriteFieldEnd" => 276
    | "WriteFieldStop" => 277
    | "WriteMapBegin" => 283
    | "WriteMapEnd" => 284
    | "WriteListBegin" => 281
    | "WriteListEnd" => 282
    | "WriteSetBegin" => 287
    | "WriteSetEnd" => 288
    | "WriteBool" => 272
    | "WriteByte" => 273
    | "WriteI16" => 278
    | "WriteI32" => 279
    | "WriteI64" => 280
    | "WriteDouble" => 274
    | "WriteString" => 289
    | "WriteBinary" => 271
    | "WriteUUID" => 292
    | _ => 0
  I w s := DupI P Q d w s
  F w k := k = d ∨ P.F w k ∨ Q.F w k
  step s op := (P.step s.1 op, Q.step s.2 op)
  good s op := P.good s.1 op ∧ Q.good s.2 op

variable {P Q d} (hP : P.Ok) (hQ : Q.Ok)
include hP hQ
theorem DupI.old {w w' : World} {s : S × S'} {G G' : Nat → Prop} (h : DupI P Q d w s) (hf : Fr G G' w w') (hn : ∀ k, (protoD P Q d).F w k → ¬ G k) : DupI P Q d w' s ∧ (∀ k, (protoD P Q d).F w' k → (protoD P Q d).F w k) := by
  obtain ⟨h1, f1⟩ := hP.keep h.I1 hf fun k hk => hn k (Or.inr (Or.inl hk))
  obtain ⟨h2, f2⟩ := hQ.keep h.I2 hf fun k hk => hn k (Or.inr (Or.inr hk))
  refine ⟨⟨hf.block h.box (hn d (Or.inl rfl)), h1, h2, fun x => h.n1 (f1 _ x), fun x => h.n2 (f2 _ x), fun k hk hk' => h.apart k (f1 k hk) (f2 k hk')⟩, fun k hk => ?_⟩
  rcases hk with hk | hk | hk
  · exact Or.inl hk
  · exact Or.inr (Or.inl (f1 k hk))
  · exact Or.inr (Or.inr (f2 k hk))
theorem DupI.lt {w : World} {s : S × S'} (h : DupI P Q d w s) {k : Nat} (hk : (protoD P Q d).F w k) : k < w.heap.size := by
  rcases hk with rfl | hk | hk
  · exact lt_heap h.box
  · exact hP.lt h.I1 hk
  · exact hQ.lt h.I2 hk
/-- The one, then the other. -/
theorem D_core (op : WOp) (w : World) (s : S × S') (h : DupI P Q d w s) (hg : P.good s.1 op ∧ Q.good s.2 op) (hfit : op.fits w ((protoD P Q d).F w)) :
    Calls Tryz.prog (P.fn op.name) (op.args P.recv) w (fun e w0 => e = .returned .nilIface ∧ ∀ w1, Fr noF noF w0 w1 → w1.cell? ⟨d, 1, none⟩ = some (.iface Q.T Q.recv) ∧ w1.cell? ⟨d, 0, none⟩ = some (.iface P.T P.recv) ∧ (∀ k o, w.heap[k]? = some o → ¬ (protoD P Q d).F w k → w1.heap[k]? = some o) ∧ Calls Tryz.prog (Q.fn op.name) (op.args Q.recv) w1 (fun e w2 => e = .returned .nilIface ∧ WR (protoD P Q d) w ((protoD P Q d).step s op) (.returned .nilIface) w2)) := by
  have hf1 : op.fits w (P.F w) := by
    cases op <;> first | exact hfit | trivial | exact ⟨hfit.1, fun k hk hx => hfit.2 k hk (Or.inr (Or.inl hx))⟩
  refine (hP.call op w s.1 h.I1 hg.1 hf1).mono ?_
  rintro e w0 ⟨rfl, hI0, hF0⟩
  refine ⟨rfl, fun w1 hW1 => ?_⟩
  obtain ⟨hI1, _, q3⟩ := hP.quiet hI0 hW1
  have hF1 := hF0.trans q3
  obtain ⟨h2, f2⟩ := hQ.keep h.I2 hF1 fun k hk hk' => h.apart k hk' hk
  have hb1 := hF1.block h.box h.n1
  have ap1 : ∀ k, P.F w1 k → ¬ Q.F w1 k := fun k hk hk' => by
    have hq := f2 k hk'
    exact h.apart k (hF1.foot k (hQ.lt h.I2 hq) hk) hq
  have n11 : ¬ P.F w1 d := fun x => h.n1 (hF1.foot d (lt_heap h.box) x)
  refine ⟨by rw [cell_at hb1]; rfl, by rw [cell_at hb1]; rfl, fun k o ho hn => hF1.block ho fun hx => hn (Or.inr (Or.inl hx)), ?_⟩
  have hf2 : op.fits w1 (Q.F w1) := by
    cases op <;> first | exact hfit | trivial | exact ⟨hfit.1.keep hF1 fun k hk hx => hfit.2 k hk (Or.inr (Or.inl hx)), fun k hk hx => hfit.2 k hk (Or.inr (Or.inr (f2 k hx)))⟩
  refine (hQ.call op w1 s.2 h2 hg.2 hf2).mono ?_
  rintro e w2 ⟨rfl, hI2, hF2⟩
  obtain ⟨h3, f3⟩ := hP.keep hI1 hF2 fun k hk hk' => ap1 k hk hk'
  have hb2 := hF2.block hb1 fun x => h.n2 (f2 d x)
  refine ⟨rfl, rfl, ⟨hb2, h3, hI2, fun x => n11 (f3 d x), fun x => h.n2 (f2 d (hF2.foot d (lt_heap hb1) x)), fun k hk hk' => ?_⟩, hF2.os.trans hF1.os, hF2.tape.trans hF1.tape, hF2.output.trans hF1.output, Nat.le_trans hF1.size hF2.size, fun k hk hn => ?_, fun k hk hx => ?_⟩
  · have hp := f3 k hk
    exact ap1 k hp (hF2.foot k (hP.lt hI1 hp) hk')
  · exact (hF2.keep k (Nat.lt_of_lt_of_le hk hF1.size) fun x => hn (Or.inr (Or.inr (f2 k x)))).trans (hF1.keep k hk fun x => hn (Or.inr (Or.inl x)))
  · rcases hx with hx | hx | hx
    · exact Or.inl hx
    · exact Or.inr (Or.inl (hF1.foot k hk (f3 k hx)))
    · exact Or.inr (Or.inr (f2 k (hF2.foot k (Nat.lt_of_lt_of_le hk hF1.size) hx)))

theorem D_WriteMessageBegin (w : World) (s : S × S') (a : ByteArray) (t n : Int) (h : DupI P Q d w s) (hg : P.good s.1 (.msgBegin a t n) ∧ Q.good s.2 (.msgBegin a t n)) (hfit : (.msgBegin a t n : WOp).fits w ((protoD P Q d).F w)) :
    Calls Tryz.prog 285 ((.msgBegin a t n : WOp).args (.pointer (some ⟨d, 0, none⟩))) w (WR (protoD P Q d) w ((protoD P Q d).step s (.msgBegin a t n))) := by
  have hcore := D_core hP hQ (.msgBegin a t n) w s h hg hfit
  have c0 : w.cell? ⟨d, 0, none⟩ = some (.iface P.T P.recv) := by rw [cell_at h.box]; rfl
  have c1 : w.cell? ⟨d, 1, none⟩ = some (.iface Q.T Q.recv) := by rw [cell_at h.box]; rfl
  have m1 : ∀ w, (method 526 P.T P.recv "WriteMessageBegin").run Tryz.prog w = .ok (P.fn "WriteMessageBegin", P.recv) w := hP.meth (.msgBegin a t n)
  have a1 : ∀ w, (nilAhead 526 P.T P.recv "WriteMessageBegin").run Tryz.prog w = .ok (some false) w := hP.ahead (.msgBegin a t n)
  have e1 : ∀ xs w, (callFunc (P.fn "WriteMessageBegin") xs).run Tryz.prog w = .ok (.enter (P.fn "WriteMessageBegin") xs) w := hP.enter (.msgBegin a t n)
  have m2 : ∀ w, (method 526 Q.T Q.recv "WriteMessageBegin").run Tryz.prog w = .ok (Q.fn "WriteMessageBegin", Q.recv) w := hQ.meth (.msgBegin a t n)
  have a2 : ∀ w, (nilAhead 526 Q.T Q.recv "WriteMessageBegin").run Tryz.prog w = .ok (some false) w := hQ.ahead (.msgBegin a t n)
  have e2 : ∀ xs w, (callFunc (Q.fn "WriteMessageBegin") xs).run Tryz.prog w = .ok (.enter (Q.fn "WriteMessageBegin") xs) w := hQ.enter (.msgBegin a t n)
  have hcore2 : Calls Tryz.prog (P.fn "WriteMessageBegin") ((.msgBegin a t n : WOp).args P.recv) w (fun e w1 => e = .returned .nilIface ∧ w1.cell? ⟨d, 1, none⟩ = some (.iface Q.T Q.recv) ∧ Calls Tryz.prog (Q.fn "WriteMessageBegin") ((.msgBegin a t n : WOp).args Q.recv) w1 (fun e w2 => e = .returned .nilIface ∧ WR (protoD P Q d) w ((protoD P Q d).step s (.msgBegin a t n)) (.returned .nilIface) w2)) := hcore.mono fun e w1 ⟨h1, hx⟩ => by obtain ⟨h2, _, _, h3⟩ := hx w1 (Fr.refl noF w1); exact ⟨h1, h2, h3⟩
  obtain ⟨R, hR⟩ : ∃ R : World → Prop, R = fun w2 => WR (protoD P Q d) w ((protoD P Q d).step s (.msgBegin a t n)) (.returned .nilIface) w2 := ⟨_, rfl⟩
  have HF := Lib.hid (show ∀ w2, R w2 → WR (protoD P Q d) w ((protoD P Q d).step s (.msgBegin a t n)) (.returned .nilIface) w2 from fun w2 h => by rw [hR] at h; exact h)
  have hcore3 : Calls Tryz.prog (P.fn "WriteMessageBegin") ((.msgBegin a t n : WOp).args P.recv) w (fun e w1 => e = .returned .nilIface ∧ w1.cell? ⟨d, 1, none⟩ = some (.iface Q.T Q.recv) ∧ Calls Tryz.prog (Q.fn "WriteMessageBegin") ((.msgBegin a t n : WOp).args Q.recv) w1 (fun e w2 => e = .returned .nilIface ∧ R w2)) := by rw [hR]; exact hcore2
  obtain ⟨f, hf⟩ : ∃ f, f = P.fn "WriteMessageBegin" := ⟨_, rfl⟩
  obtain ⟨g, hgg⟩ : ∃ f, f = Q.fn "WriteMessageBegin" := ⟨_, rfl⟩
  obtain ⟨PT, hPT⟩ : ∃ f, f = P.T := ⟨_, rfl⟩
  obtain ⟨QT, hQT⟩ : ∃ f, f = Q.T := ⟨_, rfl⟩
  obtain ⟨r, hr⟩ : ∃ f, f = P.recv := ⟨_, rfl⟩
  obtain ⟨q, hq⟩ : ∃ f, f = Q.recv := ⟨_, rfl⟩
  rw [← hf, ← hgg, ← hr, ← hq, ← hQT] at hcore3
  rw [← hPT, ← hr] at c0 a1
  rw [← hQT, ← hq] at c1 a2
  rw [← hPT, ← hr, ← hf] at m1
  rw [← hQT, ← hq, ← hgg] at m2
  rw [← hf] at e1
  rw [← hgg] at e2
  simp only [WOp.args] at hcore3 ⊢
  have HC := Lib.hid hcore3
  clear hcore hcore2 hcore3 hf hgg hPT hQT hr hq hR hP hQ hg h hfit
  go_enter Tryz.func285, Tryz.ntmps285
  go_wp2_with fail
  (with_reducible refine HC.out.mono ?_)
  rintro e w1 ⟨rfl, c2, hx⟩
  have HX := Lib.hid hx
  clear hx c0 c1
  go_wp2_with fail
  (with_reducible refine HX.out.mono ?_)
  rintro e w2 ⟨rfl, hr⟩
  have HR := Lib.hid (HF.out w2 hr)
  clear hr c2
  go_wp2
  go_ret
  exact HR.out

theorem D_WriteMessageEnd (w : World) (s : S × S')  (h : DupI P Q d w s) (hg : P.good s.1 (.msgEnd) ∧ Q.good s.2 (.msgEnd)) (hfit : (.msgEnd : WOp).fits w ((protoD P Q d).F w)) :
    Calls Tryz.prog 286 ((.msgEnd : WOp).args (.pointer (some ⟨d, 0, none⟩))) w (WR (protoD P Q d) w ((protoD P Q d).step s (.msgEnd))) := by
  have hcore := D_core hP hQ (.msgEnd) w s h hg hfit
  have c0 : w.cell? ⟨d, 0, none⟩ = some (.iface P.T P.recv) := by rw [cell_at h.box]; rfl
  have c1 : w.cell? ⟨d, 1, none⟩ = some (.iface Q.T Q.recv) := by rw [cell_at h.box]; rfl
  have m1 : ∀ w, (method 526 P.T P.recv "WriteMessageEnd").run Tryz.prog w = .ok (P.fn "WriteMessageEnd", P.recv) w := hP.meth (.msgEnd)
  have a1 : ∀ w, (nilAhead 526 P.T P.recv "WriteMessageEnd").run Tryz.prog w = .ok (some false) w := hP.ahead (.msgEnd)
  have e1 : ∀ xs w, (callFunc (P.fn "WriteMessageEnd") xs).run Tryz.prog w = .ok (.enter (P.fn "WriteMessageEnd") xs) w := hP.enter (.msgEnd)
  have m2 : ∀ w, (method 526 Q.T Q.recv "WriteMessageEnd").run Tryz.prog w = .ok (Q.fn "WriteMessageEnd", Q.recv) w := hQ.meth (.msgEnd)
  have a2 : ∀ w, (nilAhead 526 Q.T Q.recv "WriteMessageEnd").run Tryz.prog w = .ok (some false) w := hQ.ahead (.msgEnd)
  have e2 : ∀ xs w, (callFunc (Q.fn "WriteMessageEnd") xs).run Tryz.prog w = .ok (.enter (Q.fn "WriteMessageEnd") xs) w := hQ.enter (.msgEnd)
  have hcore2 : Calls Tryz.prog (P.fn "WriteMessageEnd") ((.msgEnd : WOp).args P.recv) w (fun e w1 => e = .returned .nilIface ∧ w1.cell? ⟨d, 1, none⟩ = some (.iface Q.T Q.recv) ∧ Calls Tryz.prog (Q.fn "WriteMessageEnd") ((.msgEnd : WOp).args Q.recv) w1 (fun e w2 => e = .returned .nilIface ∧ WR (protoD P Q d) w ((protoD P Q d).step s (.msgEnd)) (.returned .nilIface) w2)) := hcore.mono fun e w1 ⟨h1, hx⟩ => by obtain ⟨h2, _, _, h3⟩ := hx w1 (Fr.refl noF w1); exact ⟨h1, h2, h3⟩
  obtain ⟨R, hR⟩ : ∃ R : World → Prop, R = fun w2 => WR (protoD P Q d) w ((protoD P Q d).step s (.msgEnd)) (.returned .nilIface) w2 := ⟨_, rfl⟩
  have HF := Lib.hid (show ∀ w2, R w2 → WR (protoD P Q d) w ((protoD P Q d).step s (.msgEnd)) (.returned .nilIface) w2 from fun w2 h => by rw [hR] at h; exact h)
  have hcore3 : Calls Tryz.prog (P.fn "WriteMessageEnd") ((.msgEnd : WOp).args P.recv) w (fun e w1 => e = .returned .nilIface ∧ w1.cell? ⟨d, 1, none⟩ = some (.iface Q.T Q.recv) ∧ Calls Tryz.prog (Q.fn "WriteMessageEnd") ((.msgEnd : WOp).args Q.recv) w1 (fun e w2 => e = .returned .nilIface ∧ R w2)) := by rw [hR]; exact hcore2
  obtain ⟨f, hf⟩ : ∃ f, f = P.fn "WriteMessageEnd" := ⟨_, rfl⟩
  obtain ⟨g, hgg⟩ : ∃ f, f = Q.fn "WriteMessageEnd" := ⟨_, rfl⟩
  obtain ⟨PT, hPT⟩ : ∃ f, f = P.T := ⟨_, rfl⟩
  obtain ⟨QT, hQT⟩ : ∃ f, f = Q.T := ⟨_, rfl⟩
  obtain ⟨r, hr⟩ : ∃ f, f = P.recv := ⟨_, rfl⟩
  obtain ⟨q, hq⟩ : ∃ f, f = Q.recv := ⟨_, rfl⟩
  rw [← hf, ← hgg, ← hr, ← hq, ← hQT] at hcore3
  rw [← hPT, ← hr] at c0 a1
  rw [← hQT, ← hq] at c1 a2
  rw [← hPT, ← hr, ← hf] at m1
  rw [← hQT, ← hq, ← hgg] at m2
  rw [← hf] at e1
  rw [← hgg] at e2
  simp only [WOp.args] at hcore3 ⊢
  have HC := Lib.hid hcore3
  clear hcore hcore2 hcore3 hf hgg hPT hQT hr hq hR hP hQ hg h hfit
  go_enter Tryz.func286, Tryz.ntmps286
  go_wp2_with fail
  (with_reducible refine HC.out.mono ?_)
  rintro e w1 ⟨rfl, c2, hx⟩
  have HX := Lib.hid hx
  clear hx c0 c1
  go_wp2_with fail
  (with_reducible refine HX.out.mono ?_)
  rintro e w2 ⟨rfl, hr⟩
  have HR := Lib.hid (HF.out w2 hr)
  clear hr c2
  go_wp2
  go_ret
  exact HR.out

theorem D_WriteStructBegin (w : World) (s : S × S')  (h : DupI P Q d w s) (hg : P.good s.1 (.structBegin) ∧ Q.good s.2 (.structBegin)) (hfit : (.structBegin : WOp).fits w ((protoD P Q d).F w)) :
    Calls Tryz.prog 290 ((.structBegin : WOp).args (.pointer (some ⟨d, 0, none⟩))) w (WR (protoD P Q d) w ((protoD P Q d).step s (.structBegin))) := by
  have hcore := D_core hP hQ (.structBegin) w s h hg hfit
  have c0 : w.cell? ⟨d, 0, none⟩ = some (.iface P.T P.recv) := by rw [cell_at h.box]; rfl
  have c1 : w.cell? ⟨d, 1, none⟩ = some (.iface Q.T Q.recv) := by rw [cell_at h.box]; rfl
  have m1 : ∀ w, (method 526 P.T P.recv "WriteStructBegin").run Tryz.prog w = .ok (P.fn "WriteStructBegin", P.recv) w := hP.meth (.structBegin)
  have a1 : ∀ w, (nilAhead 526 P.T P.recv "WriteStructBegin").run Tryz.prog w = .ok (some false) w := hP.ahead (.structBegin)
  have e1 : ∀ xs w, (callFunc (P.fn "WriteStructBegin") xs).run Tryz.prog w = .ok (.enter (P.fn "WriteStructBegin") xs) w := hP.enter (.structBegin)
  have m2 : ∀ w, (method 526 Q.T Q.recv "WriteStructBegin").run Tryz.prog w = .ok (Q.fn "WriteStructBegin", Q.recv) w := hQ.meth (.structBegin)
  have a2 : ∀ w, (nilAhead 526 Q.T Q.recv "WriteStructBegin").run Tryz.prog w = .ok (some false) w := hQ.ahead (.structBegin)
  have e2 : ∀ xs w, (callFunc (Q.fn "WriteStructBegin") xs).run Tryz.prog w = .ok (.enter (Q.fn "WriteStructBegin") xs) w := hQ.enter (.structBegin)
  have hcore2 : Calls Tryz.prog (P.fn "WriteStructBegin") ((.structBegin : WOp).args P.recv) w (fun e w1 => e = .returned .nilIface ∧ w1.cell? ⟨d, 1, none⟩ = some (.iface Q.T Q.recv) ∧ Calls Tryz.prog (Q.fn "WriteStructBegin") ((.structBegin : WOp).args Q.recv) w1 (fun e w2 => e = .returned .nilIface ∧ WR (protoD P Q d) w ((protoD P Q d).step s (.structBegin)) (.returned .nilIface) w2)) := hcore.mono fun e w1 ⟨h1, hx⟩ => by obtain ⟨h2, _, _, h3⟩ := hx w1 (Fr.refl noF w1); exact ⟨h1, h2, h3⟩
  obtain ⟨R, hR⟩ : ∃ R : World → Prop, R = fun w2 => WR (protoD P Q d) w ((protoD P Q d).step s (.structBegin)) (.returned .nilIface) w2 := ⟨_, rfl⟩
  have HF := Lib.hid (show ∀ w2, R w2 → WR (protoD P Q d) w ((protoD P Q d).step s (.structBegin)) (.returned .nilIface) w2 from fun w2 h => by rw [hR] at h; exact h)
  have hcore3 : Calls Tryz.prog (P.fn "WriteStructBegin") ((.structBegin : WOp).args P.recv) w (fun e w1 => e = .returned .nilIface ∧ w1.cell? ⟨d, 1, none⟩ = some (.iface Q.T Q.recv) ∧ Calls Tryz.prog (Q.fn "WriteStructBegin") ((.structBegin : WOp).args Q.recv) w1 (fun e w2 => e = .returned .nilIface ∧ R w2)) := by rw [hR]; exact hcore2
  obtain ⟨f, hf⟩ : ∃ f, f = P.fn "WriteStructBegin" := ⟨_, rfl⟩
  obtain ⟨g, hgg⟩ : ∃ f, f = Q.fn "WriteStructBegin" := ⟨_, rfl⟩
  obtain ⟨PT, hPT⟩ : ∃ f, f = P.T := ⟨_, rfl⟩
  obtain ⟨QT, hQT⟩ : ∃ f, f = Q.T := ⟨_, rfl⟩
  obtain ⟨r, hr⟩ : ∃ f, f = P.recv := ⟨_, rfl⟩
  obtain ⟨q, hq⟩ : ∃ f, f = Q.recv := ⟨_, rfl⟩
  rw [← hf, ← hgg, ← hr, ← hq, ← hQT] at hcore3
  rw [← hPT, ← hr] at c0 a1
  rw [← hQT, ← hq] at c1 a2
  rw [← hPT, ← hr, ← hf] at m1
  rw [← hQT, ← hq, ← hgg] at m2
  rw [← hf] at e1
  rw [← hgg] at e2
  simp only [WOp.args] at hcore3 ⊢
  have HC := Lib.hid hcore3
  clear hcore hcore2 hcore3 hf hgg hPT hQT hr hq hR hP hQ hg h hfit
  go_enter Tryz.func290, Tryz.ntmps290
  go_wp2_with fail
  (with_reducible refine HC.out.mono ?_)
  rintro e w1 ⟨rfl, c2, hx⟩
  have HX := Lib.hid hx
  clear hx c0 c1
  go_wp2_with fail
  (with_reducible refine HX.out.mono ?_)
  rintro e w2 ⟨rfl, hr⟩
  have HR := Lib.hid (HF.out w2 hr)
  clear hr c2
  go_wp2
  go_ret
  exact HR.out

theorem D_WriteStructEnd (w : World) (s : S × S')  (h : DupI P Q d w s) (hg : P.good s.1 (.structEnd) ∧ Q.good s.2 (.structEnd)) (hfit : (.structEnd : WOp).fits w ((protoD P Q d).F w)) :
    Calls Tryz.prog 291 ((.structEnd : WOp).args (.pointer (some ⟨d, 0, none⟩))) w (WR (protoD P Q d) w ((protoD P Q d).step s (.structEnd))) := by
  have hcore := D_core hP hQ (.structEnd) w s h hg hfit
  have c0 : w.cell? ⟨d, 0, none⟩ = some (.iface P.T P.recv) := by rw [cell_at h.box]; rfl
  have c1 : w.cell? ⟨d, 1, none⟩ = some (.iface Q.T Q.recv) := by rw [cell_at h.box]; rfl
  have m1 : ∀ w, (method 526 P.T P.recv "WriteStructEnd").run Tryz.prog w = .ok (P.fn "WriteStructEnd", P.recv) w := hP.meth (.structEnd)
  have a1 : ∀ w, (nilAhead 526 P.T P.recv "WriteStructEnd").run Tryz.prog w = .ok (some false) w := hP.ahead (.structEnd)
  have e1 : ∀ xs w, (callFunc (P.fn "WriteStructEnd") xs).run Tryz.prog w = .ok (.enter (P.fn "WriteStructEnd") xs) w := hP.enter (.structEnd)
  have m2 : ∀ w, (method 526 Q.T Q.recv "WriteStructEnd").run Tryz.prog w = .ok (Q.fn "WriteStructEnd", Q.recv) w := hQ.meth (.structEnd)
  have a2 : ∀ w, (nilAhead 526 Q.T Q.recv "WriteStructEnd").run Tryz.prog w = .ok (some false) w := hQ.ahead (.structEnd)
  have e2 : ∀ xs w, (callFunc (Q.fn "WriteStructEnd") xs).run Tryz.prog w = .ok (.enter (Q.fn "WriteStructEnd") xs) w := hQ.enter (.structEnd)
  have hcore2 : Calls Tryz.prog (P.fn "WriteStructEnd") ((.structEnd : WOp).args P.recv) w (fun e w1 => e = .returned .nilIface ∧ w1.cell? ⟨d, 1, none⟩ = some (.iface Q.T Q.recv) ∧ Calls Tryz.prog (Q.fn "WriteStructEnd") ((.structEnd : WOp).args Q.recv) w1 (fun e w2 => e = .returned .nilIface ∧ WR (protoD P Q d) w ((protoD P Q d).step s (.structEnd)) (.returned .nilIface) w2)) := hcore.mono fun e w1 ⟨h1, hx⟩ => by obtain ⟨h2, _, _, h3⟩ := hx w1 (Fr.refl noF w1); exact ⟨h1, h2, h3⟩
  obtain ⟨R, hR⟩ : ∃ R : World → Prop, R = fun w2 => WR (protoD P Q d) w ((protoD P Q d).step s (.structEnd)) (.returned .nilIface) w2 := ⟨_, rfl⟩
  have HF := Lib.hid (show ∀ w2, R w2 → WR (protoD P Q d) w ((protoD P Q d).step s (.structEnd)) (.returned .nilIface) w2 from fun w2 h => by rw [hR] at h; exact h)
  have hcore3 : Calls Tryz.prog (P.fn "WriteStructEnd") ((.structEnd : WOp).args P.recv) w (fun e w1 => e = .returned .nilIface ∧ w1.cell? ⟨d, 1, none⟩ = some (.iface Q.T Q.recv) ∧ Calls Tryz.prog (Q.fn "WriteStructEnd") ((.structEnd : WOp).args Q.recv) w1 (fun e w2 => e = .returned .nilIface ∧ R w2)) := by rw [hR]; exact hcore2
  obtain ⟨f, hf⟩ : ∃ f, f = P.fn "WriteStructEnd" := ⟨_, rfl⟩
  obtain ⟨g, hgg⟩ : ∃ f, f = Q.fn "WriteStructEnd" := ⟨_, rfl⟩
  obtain ⟨PT, hPT⟩ : ∃ f, f = P.T := ⟨_, rfl⟩
  obtain ⟨QT, hQT⟩ : ∃ f, f = Q.T := ⟨_, rfl⟩
  obtain ⟨r, hr⟩ : ∃ f, f = P.recv := ⟨_, rfl⟩
  obtain ⟨q, hq⟩ : ∃ f, f = Q.recv := ⟨_, rfl⟩
  rw [← hf, ← hgg, ← hr, ← hq, ← hQT] at hcore3
  rw [← hPT, ← hr] at c0 a1
  rw [← hQT, ← hq] at c1 a2
  rw [← hPT, ← hr, ← hf] at m1
  rw [← hQT, ← hq, ← hgg] at m2
  rw [← hf] at e1
  rw [← hgg] at e2
  simp only [WOp.args] at hcore3 ⊢
  have HC := Lib.hid hcore3
  clear hcore hcore2 hcore3 hf hgg hPT hQT hr hq hR hP hQ hg h hfit
  go_enter Tryz.func291, Tryz.ntmps291
  go_wp2_with fail
  (with_reducible refine HC.out.mono ?_)
  rintro e w1 ⟨rfl, c2, hx⟩
  have HX := Lib.hid hx
  clear hx c0 c1
  go_wp2_with fail
  (with_reducible refine HX.out.mono ?_)
  rintro e w2 ⟨rfl, hr⟩
  have HR := Lib.hid (HF.out w2 hr)
  clear hr c2
  go_wp2
  go_ret
  exact HR.out

theorem D_WriteFieldBegin (w : World) (s : S × S') (t i : Int) (h : DupI P Q d w s) (hg : P.good s.1 (.fieldBegin t i) ∧ Q.good s.2 (.fieldBegin t i)) (hfit : (.fieldBegin t i : WOp).fits w ((protoD P Q d).F w)) :
    Calls Tryz.prog 275 ((.fieldBegin t i : WOp).args (.pointer (some ⟨d, 0, none⟩))) w (WR (protoD P Q d) w ((protoD P Q d).step s (.fieldBegin t i))) := by
  have hcore := D_core hP hQ (.fieldBegin t i) w s h hg hfit
  have c0 : w.cell? ⟨d, 0, none⟩ = some (.iface P.T P.recv) := by rw [cell_at h.box]; rfl
  have c1 : w.cell? ⟨d, 1, none⟩ = some (.iface Q.T Q.recv) := by rw [cell_at h.box]; rfl
  have m1 : ∀ w, (method 526 P.T P.recv "WriteFieldBegin").run Tryz.prog w = .ok (P.fn "WriteFieldBegin", P.recv) w := hP.meth (.fieldBegin t i)
  have a1 : ∀ w, (nilAhead 526 P.T P.recv "WriteFieldBegin").run Tryz.prog w = .ok (some false) w := hP.ahead (.fieldBegin t i)
  have e1 : ∀ xs w, (callFunc (P.fn "WriteFieldBegin") xs).run Tryz.prog w = .ok (.enter (P.fn "WriteFieldBegin") xs) w := hP.enter (.fieldBegin t i)
  have m2 : ∀ w, (method 526 Q.T Q.recv "WriteFieldBegin").run Tryz.prog w = .ok (Q.fn "WriteFieldBegin", Q.recv) w := hQ.meth (.fieldBegin t i)
  have a2 : ∀ w, (nilAhead 526 Q.T Q.recv "WriteFieldBegin").run Tryz.prog w = .ok (some false) w := hQ.ahead (.fieldBegin t i)
  have e2 : ∀ xs w, (callFunc (Q.fn "WriteFieldBegin") xs).run Tryz.prog w = .ok (.enter (Q.fn "WriteFieldBegin") xs) w := hQ.enter (.fieldBegin t i)
  have hcore2 : Calls Tryz.prog (P.fn "WriteFieldBegin") ((.fieldBegin t i : WOp).args P.recv) w (fun e w1 => e = .returned .nilIface ∧ w1.cell? ⟨d, 1, none⟩ = some (.iface Q.T Q.recv) ∧ Calls Tryz.prog (Q.fn "WriteFieldBegin") ((.fieldBegin t i : WOp).args Q.recv) w1 (fun e w2 => e = .returned .nilIface ∧ WR (protoD P Q d) w ((protoD P Q d).step s (.fieldBegin t i)) (.returned .nilIface) w2)) := hcore.mono fun e w1 ⟨h1, hx⟩ => by obtain ⟨h2, _, _, h3⟩ := hx w1 (Fr.refl noF w1); exact ⟨h1, h2, h3⟩
  obtain ⟨R, hR⟩ : ∃ R : World → Prop, R = fun w2 => WR (protoD P Q d) w ((protoD P Q d).step s (.fieldBegin t i)) (.returned .nilIface) w2 := ⟨_, rfl⟩
  have HF := Lib.hid (show ∀ w2, R w2 → WR (protoD P Q d) w ((protoD P Q d).step s (.fieldBegin t i)) (.returned .nilIface) w2 from fun w2 h => by rw [hR] at h; exact h)
  have hcore3 : Calls Tryz.prog (P.fn "WriteFieldBegin") ((.fieldBegin t i : WOp).args P.recv) w (fun e w1 => e = .returned .nilIface ∧ w1.cell? ⟨d, 1, none⟩ = some (.iface Q.T Q.recv) ∧ Calls Tryz.prog (Q.fn "WriteFieldBegin") ((.fieldBegin t i : WOp).args Q.recv) w1 (fun e w2 => e = .returned .nilIface ∧ R w2)) := by rw [hR]; exact hcore2
  obtain ⟨f, hf⟩ : ∃ f, f = P.fn "WriteFieldBegin" := ⟨_, rfl⟩
  obtain ⟨g, hgg⟩ : ∃ f, f = Q.fn "WriteFieldBegin" := ⟨_, rfl⟩
  obtain ⟨PT, hPT⟩ : ∃ f, f = P.T := ⟨_, rfl⟩
  obtain ⟨QT, hQT⟩ : ∃ f, f = Q.T := ⟨_, rfl⟩
  obtain ⟨r, hr⟩ : ∃ f, f = P.recv := ⟨_, rfl⟩
  obtain ⟨q, hq⟩ : ∃ f, f = Q.recv := ⟨_, rfl⟩
  rw [← hf, ← hgg, ← hr, ← hq, ← hQT] at hcore3
  rw [← hPT, ← hr] at c0 a1
  rw [← hQT, ← hq] at c1 a2
  rw [← hPT, ← hr, ← hf] at m1
  rw [← hQT, ← hq, ← hgg] at m2
  rw [← hf] at e1
  rw [← hgg] at e2
  simp only [WOp.args] at hcore3 ⊢
  have HC := Lib.hid hcore3
  clear hcore hcore2 hcore3 hf hgg hPT hQT hr hq hR hP hQ hg h hfit
  go_enter Tryz.func275, Tryz.ntmps275
  go_wp2_with fail
  (with_reducible refine HC.out.mono ?_)
  rintro e w1 ⟨rfl, c2, hx⟩
  have HX := Lib.hid hx
  clear hx c0 c1
  go_wp2_with fail
  (with_reducible refine HX.out.mono ?_)
  rintro e w2 ⟨rfl, hr⟩
  have HR := Lib.hid (HF.out w2 hr)
  clear hr c2
  go_wp2
  go_ret
  exact HR.out

theorem D_WriteFieldEnd (w : World) (s : S × S')  (h : DupI P Q d w s) (hg : P.good s.1 (.fieldEnd) ∧ Q.good s.2 (.fieldEnd)) (hfit : (.fieldEnd : WOp).fits w ((protoD P Q d).F w)) :
    Calls Tryz.prog 276 ((.fieldEnd : WOp).args (.pointer (some ⟨d, 0, none⟩))) w (WR (protoD P Q d) w ((protoD P Q d).step s (.fieldEnd))) := by
  have hcore := D_core hP hQ (.fieldEnd) w s h hg hfit
  have c0 : w.cell? ⟨d, 0, none⟩ = some (.iface P.T P.recv) := by rw [cell_at h.box]; rfl
  have c1 : w.cell? ⟨d, 1, none⟩ = some (.iface Q.T Q.recv) := by rw [cell_at h.box]; rfl
  have m1 : ∀ w, (method 526 P.T P.recv "WriteFieldEnd").run Tryz.prog w = .ok (P.fn "WriteFieldEnd", P.recv) w := hP.meth (.fieldEnd)
  have a1 : ∀ w, (nilAhead 526 P.T P.recv "WriteFieldEnd").run Tryz.prog w = .ok (some false) w := hP.ahead (.fieldEnd)
  have e1 : ∀ xs w, (callFunc (P.fn "WriteFieldEnd") xs).run Tryz.prog w = .ok (.enter (P.fn "WriteFieldEnd") xs) w := hP.enter (.fieldEnd)
  have m2 : ∀ w, (method 526 Q.T Q.recv "WriteFieldEnd").run Tryz.prog w = .ok (Q.fn "WriteFieldEnd", Q.recv) w := hQ.meth (.fieldEnd)
  have a2 : ∀ w, (nilAhead 526 Q.T Q.recv "WriteFieldEnd").run Tryz.prog w = .ok (some false) w := hQ.ahead (.fieldEnd)
  have e2 : ∀ xs w, (callFunc (Q.fn "WriteFieldEnd") xs).run Tryz.prog w = .ok (.enter (Q.fn "WriteFieldEnd") xs) w := hQ.enter (.fieldEnd)
  have hcore2 : Calls Tryz.prog (P.fn "WriteFieldEnd") ((.fieldEnd : WOp).args P.recv) w (fun e w1 => e = .returned .nilIface ∧ w1.cell? ⟨d, 1, none⟩ = some (.iface Q.T Q.recv) ∧ Calls Tryz.prog (Q.fn "WriteFieldEnd") ((.fieldEnd : WOp).args Q.recv) w1 (fun e w2 => e = .returned .nilIface ∧ WR (protoD P Q d) w ((protoD P Q d).step s (.fieldEnd)) (.returned .nilIface) w2)) := hcore.mono fun e w1 ⟨h1, hx⟩ => by obtain ⟨h2, _, _, h3⟩ := hx w1 (Fr.refl noF w1); exact ⟨h1, h2, h3⟩
  obtain ⟨R, hR⟩ : ∃ R : World → Prop, R = fun w2 => WR (protoD P Q d) w ((protoD P Q d).step s (.fieldEnd)) (.returned .nilIface) w2 := ⟨_, rfl⟩
  have HF := Lib.hid (show ∀ w2, R w2 → WR (protoD P Q d) w ((protoD P Q d).step s (.fieldEnd)) (.returned .nilIface) w2 from fun w2 h => by rw [hR] at h; exact h)
  have hcore3 : Calls Tryz.prog (P.fn "WriteFieldEnd") ((.fieldEnd : WOp).args P.recv) w (fun e w1 => e = .returned .nilIface ∧ w1.cell? ⟨d, 1, none⟩ = some (.iface Q.T Q.recv) ∧ Calls Tryz.prog (Q.fn "WriteFieldEnd") ((.fieldEnd : WOp).args Q.recv) w1 (fun e w2 => e = .returned .nilIface ∧ R w2)) := by rw [hR]; exact hcore2
  obtain ⟨f, hf⟩ : ∃ f, f = P.fn "WriteFieldEnd" := ⟨_, rfl⟩
  obtain ⟨g, hgg⟩ : ∃ f, f = Q.fn "WriteFieldEnd" := ⟨_, rfl⟩
  obtain ⟨PT, hPT⟩ : ∃ f, f = P.T := ⟨_, rfl⟩
  obtain ⟨QT, hQT⟩ : ∃ f, f = Q.T := ⟨_, rfl⟩
  obtain ⟨r, hr⟩ : ∃ f, f = P.recv := ⟨_, rfl⟩
  obtain ⟨q, hq⟩ : ∃ f, f = Q.recv := ⟨_, rfl⟩
  rw [← hf, ← hgg, ← hr, ← hq, ← hQT] at hcore3
  rw [← hPT, ← hr] at c0 a1
  rw [← hQT, ← hq] at c1 a2
  rw [← hPT, ← hr, ← hf] at m1
  rw [← hQT, ← hq, ← hgg] at m2
  rw [← hf] at e1
  rw [← hgg] at e2
  simp only [WOp.args] at hcore3 ⊢
  have HC := Lib.hid hcore3
  clear hcore hcore2 hcore3 hf hgg hPT hQT hr hq hR hP hQ hg h hfit
  go_enter Tryz.func276, Tryz.ntmps276
  go_wp2_with fail
  (with_reducible refine HC.out.mono ?_)
  rintro e w1 ⟨rfl, c2, hx⟩
  have HX := Lib.hid hx
  clear hx c0 c1
  go_wp2_with fail
  (with_reducible refine HX.out.mono ?_)
  rintro e w2 ⟨rfl, hr⟩
  have HR := Lib.hid (HF.out w2 hr)
  clear hr c2
  go_wp2
  go_ret
  exact HR.out

theorem D_WriteFieldStop (w : World) (s : S × S')  (h : DupI P Q d w s) (hg : P.good s.1 (.fieldStop) ∧ Q.good s.2 (.fieldStop)) (hfit : (.fieldStop : WOp).fits w ((protoD P Q d).F w)) :
    Calls Tryz.prog 277 ((.fieldStop : WOp).args (.pointer (some ⟨d, 0, none⟩))) w (WR (protoD P Q d) w ((protoD P Q d).step s (.fieldStop))) := by
  have hcore := D_core hP hQ (.fieldStop) w s h hg hfit
  have c0 : w.cell? ⟨d, 0, none⟩ = some (.iface P.T P.recv) := by rw [cell_at h.box]; rfl
  have c1 : w.cell? ⟨d, 1, none⟩ = some (.iface Q.T Q.recv) := by rw [cell_at h.box]; rfl
  have m1 : ∀ w, (method 526 P.T P.recv "WriteFieldStop").run Tryz.prog w = .ok (P.fn "WriteFieldStop", P.recv) w := hP.meth (.fieldStop)
  have a1 : ∀ w, (nilAhead 526 P.T P.recv "WriteFieldStop").run Tryz.prog w = .ok (some false) w := hP.ahead (.fieldStop)
  have e1 : ∀ xs w, (callFunc (P.fn "WriteFieldStop") xs).run Tryz.prog w = .ok (.enter (P.fn "WriteFieldStop") xs) w := hP.enter (.fieldStop)
  have m2 : ∀ w, (method 526 Q.T Q.recv "WriteFieldStop").run Tryz.prog w = .ok (Q.fn "WriteFieldStop", Q.recv) w := hQ.meth (.fieldStop)
  have a2 : ∀ w, (nilAhead 526 Q.T Q.recv "WriteFieldStop").run Tryz.prog w = .ok (some false) w := hQ.ahead (.fieldStop)
  have e2 : ∀ xs w, (callFunc (Q.fn "WriteFieldStop") xs).run Tryz.prog w = .ok (.enter (Q.fn "WriteFieldStop") xs) w := hQ.enter (.fieldStop)
  have hcore2 : Calls Tryz.prog (P.fn "WriteFieldStop") ((.fieldStop : WOp).args P.recv) w (fun e w1 => e = .returned .nilIface ∧ w1.cell? ⟨d, 1, none⟩ = some (.iface Q.T Q.recv) ∧ Calls Tryz.prog (Q.fn "WriteFieldStop") ((.fieldStop : WOp).args Q.recv) w1 (fun e w2 => e = .returned .nilIface ∧ WR (protoD P Q d) w ((protoD P Q d).step s (.fieldStop)) (.returned .nilIface) w2)) := hcore.mono fun e w1 ⟨h1, hx⟩ => by obtain ⟨h2, _, _, h3⟩ := hx w1 (Fr.refl noF w1); exact ⟨h1, h2, h3⟩
  obtain ⟨R, hR⟩ : ∃ R : World → Prop, R = fun w2 => WR (protoD P Q d) w ((protoD P Q d).step s (.fieldStop)) (.returned .nilIface) w2 := ⟨_, rfl⟩
  have HF := Lib.hid (show ∀ w2, R w2 → WR (protoD P Q d) w ((protoD P Q d).step s (.fieldStop)) (.returned .nilIface) w2 from fun w2 h => by rw [hR] at h; exact h)
  have hcore3 : Calls Tryz.prog (P.fn "WriteFieldStop") ((.fieldStop : WOp).args P.recv) w (fun e w1 => e = .returned .nilIface ∧ w1.cell? ⟨d, 1, none⟩ = some (.iface Q.T Q.recv) ∧ Calls Tryz.prog (Q.fn "WriteFieldStop") ((.fieldStop : WOp).args Q.recv) w1 (fun e w2 => e = .returned .nilIface ∧ R w2)) := by rw [hR]; exact hcore2
  obtain ⟨f, hf⟩ : ∃ f, f = P.fn "WriteFieldStop" := ⟨_, rfl⟩
  obtain ⟨g, hgg⟩ : ∃ f, f = Q.fn "WriteFieldStop" := ⟨_, rfl⟩
  obtain ⟨PT, hPT⟩ : ∃ f, f = P.T := ⟨_, rfl⟩
  obtain ⟨QT, hQT⟩ : ∃ f, f = Q.T := ⟨_, rfl⟩
  obtain ⟨r, hr⟩ : ∃ f, f = P.recv := ⟨_, rfl⟩
  obtain ⟨q, hq⟩ : ∃ f, f = Q.recv := ⟨_, rfl⟩
  rw [← hf, ← hgg, ← hr, ← hq, ← hQT] at hcore3
  rw [← hPT, ← hr] at c0 a1
  rw [← hQT, ← hq] at c1 a2
  rw [← hPT, ← hr, ← hf] at m1
  rw [← hQT, ← hq, ← hgg] at m2
  rw [← hf] at e1
  rw [← hgg] at e2
  simp only [WOp.args] at hcore3 ⊢
  have HC := Lib.hid hcore3
  clear hcore hcore2 hcore3 hf hgg hPT hQT hr hq hR hP hQ hg h hfit
  go_enter Tryz.func277, Tryz.ntmps277
  go_wp2_with fail
  (with_reducible refine HC.out.mono ?_)
  rintro e w1 ⟨rfl, c2, hx⟩
  have HX := Lib.hid hx
  clear hx c0 c1
  go_wp2_with fail
  (with_reducible refine HX.out.mono ?_)
  rintro e w2 ⟨rfl, hr⟩
  have HR := Lib.hid (HF.out w2 hr)
  clear hr c2
  go_wp2
  go_ret
  exact HR.out

theorem D_WriteMapBegin (w : World) (s : S × S') (k t n : Int) (h : DupI P Q d w s) (hg : P.good s.1 (.mapBegin k t n) ∧ Q.good s.2 (.mapBegin k t n)) (hfit : (.mapBegin k t n : WOp).fits w ((protoD P Q d).F w)) :
    Calls Tryz.prog 283 ((.mapBegin k t n : WOp).args (.pointer (some ⟨d, 0, none⟩))) w (WR (protoD P Q d) w ((protoD P Q d).step s (.mapBegin k t n))) := by
  have hcore := D_core hP hQ (.mapBegin k t n) w s h hg hfit
  have c0 : w.cell? ⟨d, 0, none⟩ = some (.iface P.T P.recv) := by rw [cell_at h.box]; rfl
  have c1 : w.cell? ⟨d, 1, none⟩ = some (.iface Q.T Q.recv) := by rw [cell_at h.box]; rfl
  have m1 : ∀ w, (method 526 P.T P.recv "WriteMapBegin").run Tryz.prog w = .ok (P.fn "WriteMapBegin", P.recv) w := hP.meth (.mapBegin k t n)
  have a1 : ∀ w, (nilAhead 526 P.T P.recv "WriteMapBegin").run Tryz.prog w = .ok (some false) w := hP.ahead (.mapBegin k t n)
  have e1 : ∀ xs w, (callFunc (P.fn "WriteMapBegin") xs).run Tryz.prog w = .ok (.enter (P.fn "WriteMapBegin") xs) w := hP.enter (.mapBegin k t n)
  have m2 : ∀ w, (method 526 Q.T Q.recv "WriteMapBegin").run Tryz.prog w = .ok (Q.fn "WriteMapBegin", Q.recv) w := hQ.meth (.mapBegin k t n)
  have a2 : ∀ w, (nilAhead 526 Q.T Q.recv "WriteMapBegin").run Tryz.prog w = .ok (some false) w := hQ.ahead (.mapBegin k t n)
  have e2 : ∀ xs w, (callFunc (Q.fn "WriteMapBegin") xs).run Tryz.prog w = .ok (.enter (Q.fn "WriteMapBegin") xs) w := hQ.enter (.mapBegin k t n)
  have hcore2 : Calls Tryz.prog (P.fn "WriteMapBegin") ((.mapBegin k t n : WOp).args P.recv) w (fun e w1 => e = .returned .nilIface ∧ w1.cell? ⟨d, 1, none⟩ = some (.iface Q.T Q.recv) ∧ Calls Tryz.prog (Q.fn "WriteMapBegin") ((.mapBegin k t n : WOp).args Q.recv) w1 (fun e w2 => e = .returned .nilIface ∧ WR (protoD P Q d) w ((protoD P Q d).step s (.mapBegin k t n)) (.returned .nilIface) w2)) := hcore.mono fun e w1 ⟨h1, hx⟩ => by obtain ⟨h2, _, _, h3⟩ := hx w1 (Fr.refl noF w1); exact ⟨h1, h2, h3⟩
  obtain ⟨R, hR⟩ : ∃ R : World → Prop, R = fun w2 => WR (protoD P Q d) w ((protoD P Q d).step s (.mapBegin k t n)) (.returned .nilIface) w2 := ⟨_, rfl⟩
  have HF := Lib.hid (show ∀ w2, R w2 → WR (protoD P Q d) w ((protoD P Q d).step s (.mapBegin k t n)) (.returned .nilIface) w2 from fun w2 h => by rw [hR] at h; exact h)
  have hcore3 : Calls Tryz.prog (P.fn "WriteMapBegin") ((.mapBegin k t n : WOp).args P.recv) w (fun e w1 => e = .returned .nilIface ∧ w1.cell? ⟨d, 1, none⟩ = some (.iface Q.T Q.recv) ∧ Calls Tryz.prog (Q.fn "WriteMapBegin") ((.mapBegin k t n : WOp).args Q.recv) w1 (fun e w2 => e = .returned .nilIface ∧ R w2)) := by rw [hR]; exact hcore2
  obtain ⟨f, hf⟩ : ∃ f, f = P.fn "WriteMapBegin" := ⟨_, rfl⟩
  obtain ⟨g, hgg⟩ : ∃ f, f = Q.fn "WriteMapBegin" := ⟨_, rfl⟩
  obtain ⟨PT, hPT⟩ : ∃ f, f = P.T := ⟨_, rfl⟩
  obtain ⟨QT, hQT⟩ : ∃ f, f = Q.T := ⟨_, rfl⟩
  obtain ⟨r, hr⟩ : ∃ f, f = P.recv := ⟨_, rfl⟩
  obtain ⟨q, hq⟩ : ∃ f, f = Q.recv := ⟨_, rfl⟩
  rw [← hf, ← hgg, ← hr, ← hq, ← hQT] at hcore3
  rw [← hPT, ← hr] at c0 a1
  rw [← hQT, ← hq] at c1 a2
  rw [← hPT, ← hr, ← hf] at m1
  rw [← hQT, ← hq, ← hgg] at m2
  rw [← hf] at e1
  rw [← hgg] at e2
  simp only [WOp.args] at hcore3 ⊢
  have HC := Lib.hid hcore3
  clear hcore hcore2 hcore3 hf hgg hPT hQT hr hq hR hP hQ hg h hfit
  go_enter Tryz.func283, Tryz.ntmps283
  go_wp2_with fail
  (with_reducible refine HC.out.mono ?_)
  rintro e w1 ⟨rfl, c2, hx⟩
  have HX := Lib.hid hx
  clear hx c0 c1
  go_wp2_with fail
  (with_reducible refine HX.out.mono ?_)
  rintro e w2 ⟨rfl, hr⟩
  have HR := Lib.hid (HF.out w2 hr)
  clear hr c2
  go_wp2
  go_ret
  exact HR.out

theorem D_WriteMapEnd (w : World) (s : S × S')  (h : DupI P Q d w s) (hg : P.good s.1 (.mapEnd) ∧ Q.good s.2 (.mapEnd)) (hfit : (.mapEnd : WOp).fits w ((protoD P Q d).F w)) :
    Calls Tryz.prog 284 ((.mapEnd : WOp).args (.pointer (some ⟨d, 0, none⟩))) w (WR (protoD P Q d) w ((protoD P Q d).step s (.mapEnd))) := by
  have hcore := D_core hP hQ (.mapEnd) w s h hg hfit
  have c0 : w.cell? ⟨d, 0, none⟩ = some (.iface P.T P.recv) := by rw [cell_at h.box]; rfl
  have c1 : w.cell? ⟨d, 1, none⟩ = some (.iface Q.T Q.recv) := by rw [cell_at h.box]; rfl
  have m1 : ∀ w, (method 526 P.T P.recv "WriteMapEnd").run Tryz.prog w = .ok (P.fn "WriteMapEnd", P.recv) w := hP.meth (.mapEnd)
  have a1 : ∀ w, (nilAhead 526 P.T P.recv "WriteMapEnd").run Tryz.prog w = .ok (some false) w := hP.ahead (.mapEnd)
  have e1 : ∀ xs w, (callFunc (P.fn "WriteMapEnd") xs).run Tryz.prog w = .ok (.enter (P.fn "WriteMapEnd") xs) w := hP.enter (.mapEnd)
  have m2 : ∀ w, (method 526 Q.T Q.recv "WriteMapEnd").run Tryz.prog w = .ok (Q.fn "WriteMapEnd", Q.recv) w := hQ.meth (.mapEnd)
  have a2 : ∀ w, (nilAhead 526 Q.T Q.recv "WriteMapEnd").run Tryz.prog w = .ok (some false) w := hQ.ahead (.mapEnd)
  have e2 : ∀ xs w, (callFunc (Q.fn "WriteMapEnd") xs).run Tryz.prog w = .ok (.enter (Q.fn "WriteMapEnd") xs) w := hQ.enter (.mapEnd)
  have hcore2 : Calls Tryz.prog (P.fn "WriteMapEnd") ((.mapEnd : WOp).args P.recv) w (fun e w1 => e = .returned .nilIface ∧ w1.cell? ⟨d, 1, none⟩ = some (.iface Q.T Q.recv) ∧ Calls Tryz.prog (Q.fn "WriteMapEnd") ((.mapEnd : WOp).args Q.recv) w1 (fun e w2 => e = .returned .nilIface ∧ WR (protoD P Q d) w ((protoD P Q d).step s (.mapEnd)) (.returned .nilIface) w2)) := hcore.mono fun e w1 ⟨h1, hx⟩ => by obtain ⟨h2, _, _, h3⟩ := hx w1 (Fr.refl noF w1); exact ⟨h1, h2, h3⟩
  obtain ⟨R, hR⟩ : ∃ R : World → Prop, R = fun w2 => WR (protoD P Q d) w ((protoD P Q d).step s (.mapEnd)) (.returned .nilIface) w2 := ⟨_, rfl⟩
  have HF := Lib.hid (show ∀ w2, R w2 → WR (protoD P Q d) w ((protoD P Q d).step s (.mapEnd)) (.returned .nilIface) w2 from fun w2 h => by rw [hR] at h; exact h)
  have hcore3 : Calls Tryz.prog (P.fn "WriteMapEnd") ((.mapEnd : WOp).args P.recv) w (fun e w1 => e = .returned .nilIface ∧ w1.cell? ⟨d, 1, none⟩ = some (.iface Q.T Q.recv) ∧ Calls Tryz.prog (Q.fn "WriteMapEnd") ((.mapEnd : WOp).args Q.recv) w1 (fun e w2 => e = .returned .nilIface ∧ R w2)) := by rw [hR]; exact hcore2
  obtain ⟨f, hf⟩ : ∃ f, f = P.fn "WriteMapEnd" := ⟨_, rfl⟩
  obtain ⟨g, hgg⟩ : ∃ f, f = Q.fn "WriteMapEnd" := ⟨_, rfl⟩
  obtain ⟨PT, hPT⟩ : ∃ f, f = P.T := ⟨_, rfl⟩
  obtain ⟨QT, hQT⟩ : ∃ f, f = Q.T := ⟨_, rfl⟩
  obtain ⟨r, hr⟩ : ∃ f, f = P.recv := ⟨_, rfl⟩
  obtain ⟨q, hq⟩ : ∃ f, f = Q.recv := ⟨_, rfl⟩
  rw [← hf, ← hgg, ← hr, ← hq, ← hQT] at hcore3
  rw [← hPT, ← hr] at c0 a1
  rw [← hQT, ← hq] at c1 a2
  rw [← hPT, ← hr, ← hf] at m1
  rw [← hQT, ← hq, ← hgg] at m2
  rw [← hf] at e1
  rw [← hgg] at e2
  simp only [WOp.args] at hcore3 ⊢
  have HC := Lib.hid hcore3
  clear hcore hcore2 hcore3 hf hgg hPT hQT hr hq hR hP hQ hg h hfit
  go_enter Tryz.func284, Tryz.ntmps284
  go_wp2_with fail
  (with_reducible refine HC.out.mono ?_)
  rintro e w1 ⟨rfl, c2, hx⟩
  have HX := Lib.hid hx
  clear hx c0 c1
  go_wp2_with fail
  (with_reducible refine HX.out.mono ?_)
  rintro e w2 ⟨rfl, hr⟩
  have HR := Lib.hid (HF.out w2 hr)
  clear hr c2
  go_wp2
  go_ret
  exact HR.out

theorem D_WriteListBegin (w : World) (s : S × S') (t n : Int) (h : DupI P Q d w s) (hg : P.good s.1 (.listBegin t n) ∧ Q.good s.2 (.listBegin t n)) (hfit : (.listBegin t n : WOp).fits w ((protoD P Q d).F w)) :
    Calls Tryz.prog 281 ((.listBegin t n : WOp).args (.pointer (some ⟨d, 0, none⟩))) w (WR (protoD P Q d) w ((protoD P Q d).step s (.listBegin t n))) := by
  have hcore := D_core hP hQ (.listBegin t n) w s h hg hfit
  have c0 : w.cell? ⟨d, 0, none⟩ = some (.iface P.T P.recv) := by rw [cell_at h.box]; rfl
  have c1 : w.cell? ⟨d, 1, none⟩ = some (.iface Q.T Q.recv) := by rw [cell_at h.box]; rfl
  have m1 : ∀ w, (method 526 P.T P.recv "WriteListBegin").run Tryz.prog w = .ok (P.fn "WriteListBegin", P.recv) w := hP.meth (.listBegin t n)
  have a1 : ∀ w, (nilAhead 526 P.T P.recv "WriteListBegin").run Tryz.prog w = .ok (some false) w := hP.ahead (.listBegin t n)
  have e1 : ∀ xs w, (callFunc (P.fn "WriteListBegin") xs).run Tryz.prog w = .ok (.enter (P.fn "WriteListBegin") xs) w := hP.enter (.listBegin t n)
  have m2 : ∀ w, (method 526 Q.T Q.recv "WriteListBegin").run Tryz.prog w = .ok (Q.fn "WriteListBegin", Q.recv) w := hQ.meth (.listBegin t n)
  have a2 : ∀ w, (nilAhead 526 Q.T Q.recv "WriteListBegin").run Tryz.prog w = .ok (some false) w := hQ.ahead (.listBegin t n)
  have e2 : ∀ xs w, (callFunc (Q.fn "WriteListBegin") xs).run Tryz.prog w = .ok (.enter (Q.fn "WriteListBegin") xs) w := hQ.enter (.listBegin t n)
  have hcore2 : Calls Tryz.prog (P.fn "WriteListBegin") ((.listBegin t n : WOp).args P.recv) w (fun e w1 => e = .returned .nilIface ∧ w1.cell? ⟨d, 1, none⟩ = some (.iface Q.T Q.recv) ∧ Calls Tryz.prog (Q.fn "WriteListBegin") ((.listBegin t n : WOp).args Q.recv) w1 (fun e w2 => e = .returned .nilIface ∧ WR (protoD P Q d) w ((protoD P Q d).step s (.listBegin t n)) (.returned .nilIface) w2)) := hcore.mono fun e w1 ⟨h1, hx⟩ => by obtain ⟨h2, _, _, h3⟩ := hx w1 (Fr.refl noF w1); exact ⟨h1, h2, h3⟩
  obtain ⟨R, hR⟩ : ∃ R : World → Prop, R = fun w2 => WR (protoD P Q d) w ((protoD P Q d).step s (.listBegin t n)) (.returned .nilIface) w2 := ⟨_, rfl⟩
  have HF := Lib.hid (show ∀ w2, R w2 → WR (protoD P Q d) w ((protoD P Q d).step s (.listBegin t n)) (.returned .nilIface) w2 from fun w2 h => by rw [hR] at h; exact h)
  have hcore3 : Calls Tryz.prog (P.fn "WriteListBegin") ((.listBegin t n : WOp).args P.recv) w (fun e w1 => e = .returned .nilIface ∧ w1.cell? ⟨d, 1, none⟩ = some (.iface Q.T Q.recv) ∧ Calls Tryz.prog (Q.fn "WriteListBegin") ((.listBegin t n : WOp).args Q.recv) w1 (fun e w2 => e = .returned .nilIface ∧ R w2)) := by rw [hR]; exact hcore2
  obtain ⟨f, hf⟩ : ∃ f, f = P.fn "WriteListBegin" := ⟨_, rfl⟩
  obtain ⟨g, hgg⟩ : ∃ f, f = Q.fn "WriteListBegin" := ⟨_, rfl⟩
  obtain ⟨PT, hPT⟩ : ∃ f, f = P.T := ⟨_, rfl⟩
  obtain ⟨QT, hQT⟩ : ∃ f, f = Q.T := ⟨_, rfl⟩
  obtain ⟨r, hr⟩ : ∃ f, f = P.recv := ⟨_, rfl⟩
  obtain ⟨q, hq⟩ : ∃ f, f = Q.recv := ⟨_, rfl⟩
  rw [← hf, ← hgg, ← hr, ← hq, ← hQT] at hcore3
  rw [← hPT, ← hr] at c0 a1
  rw [← hQT, ← hq] at c1 a2
  rw [← hPT, ← hr, ← hf] at m1
  rw [← hQT, ← hq, ← hgg] at m2
  rw [← hf] at e1
  rw [← hgg] at e2
  simp only [WOp.args] at hcore3 ⊢
  have HC := Lib.hid hcore3
  clear hcore hcore2 hcore3 hf hgg hPT hQT hr hq hR hP hQ hg h hfit
  go_enter Tryz.func281, Tryz.ntmps281
  go_wp2_with fail
  (with_reducible refine HC.out.mono ?_)
  rintro e w1 ⟨rfl, c2, hx⟩
  have HX := Lib.hid hx
  clear hx c0 c1
  go_wp2_with fail
  (with_reducible refine HX.out.mono ?_)
  rintro e w2 ⟨rfl, hr⟩
  have HR := Lib.hid (HF.out w2 hr)
  clear hr c2
  go_wp2
  go_ret
  exact HR.out

theorem D_WriteListEnd (w : World) (s : S × S')  (h : DupI P Q d w s) (hg : P.good s.1 (.listEnd) ∧ Q.good s.2 (.listEnd)) (hfit : (.listEnd : WOp).fits w ((protoD P Q d).F w)) :
    Calls Tryz.prog 282 ((.listEnd : WOp).args (.pointer (some ⟨d, 0, none⟩))) w (WR (protoD P Q d) w ((protoD P Q d).step s (.listEnd))) := by
  have hcore := D_core hP hQ (.listEnd) w s h hg hfit
  have c0 : w.cell? ⟨d, 0, none⟩ = some (.iface P.T P.recv) := by rw [cell_at h.box]; rfl
  have c1 : w.cell? ⟨d, 1, none⟩ = some (.iface Q.T Q.recv) := by rw [cell_at h.box]; rfl
  have m1 : ∀ w, (method 526 P.T P.recv "WriteListEnd").run Tryz.prog w = .ok (P.fn "WriteListEnd", P.recv) w := hP.meth (.listEnd)
  have a1 : ∀ w, (nilAhead 526 P.T P.recv "WriteListEnd").run Tryz.prog w = .ok (some false) w := hP.ahead (.listEnd)
  have e1 : ∀ xs w, (callFunc (P.fn "WriteListEnd") xs).run Tryz.prog w = .ok (.enter (P.fn "WriteListEnd") xs) w := hP.enter (.listEnd)
  have m2 : ∀ w, (method 526 Q.T Q.recv "WriteListEnd").run Tryz.prog w = .ok (Q.fn "WriteListEnd", Q.recv) w := hQ.meth (.listEnd)
  have a2 : ∀ w, (nilAhead 526 Q.T Q.recv "WriteListEnd").run Tryz.prog w = .ok (some false) w := hQ.ahead (.listEnd)
  have e2 : ∀ xs w, (callFunc (Q.fn "WriteListEnd") xs).run Tryz.prog w = .ok (.enter (Q.fn "WriteListEnd") xs) w := hQ.enter (.listEnd)
  have hcore2 : Calls Tryz.prog (P.fn "WriteListEnd") ((.listEnd : WOp).args P.recv) w (fun e w1 => e = .returned .nilIface ∧ w1.cell? ⟨d, 1, none⟩ = some (.iface Q.T Q.recv) ∧ Calls Tryz.prog (Q.fn "WriteListEnd") ((.listEnd : WOp).args Q.recv) w1 (fun e w2 => e = .returned .nilIface ∧ WR (protoD P Q d) w ((protoD P Q d).step s (.listEnd)) (.returned .nilIface) w2)) := hcore.mono fun e w1 ⟨h1, hx⟩ => by obtain ⟨h2, _, _, h3⟩ := hx w1 (Fr.refl noF w1); exact ⟨h1, h2, h3⟩
  obtain ⟨R, hR⟩ : ∃ R : World → Prop, R = fun w2 => WR (protoD P Q d) w ((protoD P Q d).step s (.listEnd)) (.returned .nilIface) w2 := ⟨_, rfl⟩
  have HF := Lib.hid (show ∀ w2, R w2 → WR (protoD P Q d) w ((protoD P Q d).step s (.listEnd)) (.returned .nilIface) w2 from fun w2 h => by rw [hR] at h; exact h)
  have hcore3 : Calls Tryz.prog (P.fn "WriteListEnd") ((.listEnd : WOp).args P.recv) w (fun e w1 => e = .returned .nilIface ∧ w1.cell? ⟨d, 1, none⟩ = some (.iface Q.T Q.recv) ∧ Calls Tryz.prog (Q.fn "WriteListEnd") ((.listEnd : WOp).args Q.recv) w1 (fun e w2 => e = .returned .nilIface ∧ R w2)) := by rw [hR]; exact hcore2
  obtain ⟨f, hf⟩ : ∃ f, f = P.fn "WriteListEnd" := ⟨_, rfl⟩
  obtain ⟨g, hgg⟩ : ∃ f, f = Q.fn "WriteListEnd" := ⟨_, rfl⟩
  obtain ⟨PT, hPT⟩ : ∃ f, f = P.T := ⟨_, rfl⟩
  obtain ⟨QT, hQT⟩ : ∃ f, f = Q.T := ⟨_, rfl⟩
  obtain ⟨r, hr⟩ : ∃ f, f = P.recv := ⟨_, rfl⟩
  obtain ⟨q, hq⟩ : ∃ f, f = Q.recv := ⟨_, rfl⟩
  rw [← hf, ← hgg, ← hr, ← hq, ← hQT] at hcore3
  rw [← hPT, ← hr] at c0 a1
  rw [← hQT, ← hq] at c1 a2
  rw [← hPT, ← hr, ← hf] at m1
  rw [← hQT, ← hq, ← hgg] at m2
  rw [← hf] at e1
  rw [← hgg] at e2
  simp only [WOp.args] at hcore3 ⊢
  have HC := Lib.hid hcore3
  clear hcore hcore2 hcore3 hf hgg hPT hQT hr hq hR hP hQ hg h hfit
  go_enter Tryz.func282, Tryz.ntmps282
  go_wp2_with fail
  (with_reducible refine HC.out.mono ?_)
  rintro e w1 ⟨rfl, c2, hx⟩
  have HX := Lib.hid hx
  clear hx c0 c1
  go_wp2_with fail
  (with_reducible refine HX.out.mono ?_)
  rintro e w2 ⟨rfl, hr⟩
  have HR := Lib.hid (HF.out w2 hr)
  clear hr c2
  go_wp2
  go_ret
  exact HR.out

theorem D_WriteSetBegin (w : World) (s : S × S') (t n : Int) (h : DupI P Q d w s) (hg : P.good s.1 (.setBegin t n) ∧ Q.good s.2 (.setBegin t n)) (hfit : (.setBegin t n : WOp).fits w ((protoD P Q d).F w)) :
    Calls Tryz.prog 287 ((.setBegin t n : WOp).args (.pointer (some ⟨d, 0, none⟩))) w (WR (protoD P Q d) w ((protoD P Q d).step s (.setBegin t n))) := by
  have hcore := D_core hP hQ (.setBegin t n) w s h hg hfit
  have c0 : w.cell? ⟨d, 0, none⟩ = some (.iface P.T P.recv) := by rw [cell_at h.box]; rfl
  have c1 : w.cell? ⟨d, 1, none⟩ = some (.iface Q.T Q.recv) := by rw [cell_at h.box]; rfl
  have m1 : ∀ w, (method 526 P.T P.recv "WriteSetBegin").run Tryz.prog w = .ok (P.fn "WriteSetBegin", P.recv) w := hP.meth (.setBegin t n)
  have a1 : ∀ w, (nilAhead 526 P.T P.recv "WriteSetBegin").run Tryz.prog w = .ok (some false) w := hP.ahead (.setBegin t n)
  have e1 : ∀ xs w, (callFunc (P.fn "WriteSetBegin") xs).run Tryz.prog w = .ok (.enter (P.fn "WriteSetBegin") xs) w := hP.enter (.setBegin t n)
  have m2 : ∀ w, (method 526 Q.T Q.recv "WriteSetBegin").run Tryz.prog w = .ok (Q.fn "WriteSetBegin", Q.recv) w := hQ.meth (.setBegin t n)
  have a2 : ∀ w, (nilAhead 526 Q.T Q.recv "WriteSetBegin").run Tryz.prog w = .ok (some false) w := hQ.ahead (.setBegin t n)
  have e2 : ∀ xs w, (callFunc (Q.fn "WriteSetBegin") xs).run Tryz.prog w = .ok (.enter (Q.fn "WriteSetBegin") xs) w := hQ.enter (.setBegin t n)
  have hcore2 : Calls Tryz.prog (P.fn "WriteSetBegin") ((.setBegin t n : WOp).args P.recv) w (fun e w1 => e = .returned .nilIface ∧ w1.cell? ⟨d, 1, none⟩ = some (.iface Q.T Q.recv) ∧ Calls Tryz.prog (Q.fn "WriteSetBegin") ((.setBegin t n : WOp).args Q.recv) w1 (fun e w2 => e = .returned .nilIface ∧ WR (protoD P Q d) w ((protoD P Q d).step s (.setBegin t n)) (.returned .nilIface) w2)) := hcore.mono fun e w1 ⟨h1, hx⟩ => by obtain ⟨h2, _, _, h3⟩ := hx w1 (Fr.refl noF w1); exact ⟨h1, h2, h3⟩
  obtain ⟨R, hR⟩ : ∃ R : World → Prop, R = fun w2 => WR (protoD P Q d) w ((protoD P Q d).step s (.setBegin t n)) (.returned .nilIface) w2 := ⟨_, rfl⟩
  have HF := Lib.hid (show ∀ w2, R w2 → WR (protoD P Q d) w ((protoD P Q d).step s (.setBegin t n)) (.returned .nilIface) w2 from fun w2 h => by rw [hR] at h; exact h)
  have hcore3 : Calls Tryz.prog (P.fn "WriteSetBegin") ((.setBegin t n : WOp).args P.recv) w (fun e w1 => e = .returned .nilIface ∧ w1.cell? ⟨d, 1, none⟩ = some (.iface Q.T Q.recv) ∧ Calls Tryz.prog (Q.fn "WriteSetBegin") ((.setBegin t n : WOp).args Q.recv) w1 (fun e w2 => e = .returned .nilIface ∧ R w2)) := by rw [hR]; exact hcore2
  obtain ⟨f, hf⟩ : ∃ f, f = P.fn "WriteSetBegin" := ⟨_, rfl⟩
  obtain ⟨g, hgg⟩ : ∃ f, f = Q.fn "WriteSetBegin" := ⟨_, rfl⟩
  obtain ⟨PT, hPT⟩ : ∃ f, f = P.T := ⟨_, rfl⟩
  obtain ⟨QT, hQT⟩ : ∃ f, f = Q.T := ⟨_, rfl⟩
  obtain ⟨r, hr⟩ : ∃ f, f = P.recv := ⟨_, rfl⟩
  obtain ⟨q, hq⟩ : ∃ f, f = Q.recv := ⟨_, rfl⟩
  rw [← hf, ← hgg, ← hr, ← hq, ← hQT] at hcore3
  rw [← hPT, ← hr] at c0 a1
  rw [← hQT, ← hq] at c1 a2
  rw [← hPT, ← hr, ← hf] at m1
  rw [← hQT, ← hq, ← hgg] at m2
  rw [← hf] at e1
  rw [← hgg] at e2
  simp only [WOp.args] at hcore3 ⊢
  have HC := Lib.hid hcore3
  clear hcore hcore2 hcore3 hf hgg hPT hQT hr hq hR hP hQ hg h hfit
  go_enter Tryz.func287, Tryz.ntmps287
  go_wp2_with fail
  (with_reducible refine HC.out.mono ?_)
  rintro e w1 ⟨rfl, c2, hx⟩
  have HX := Lib.hid hx
  clear hx c0 c1
  go_wp2_with fail
  (with_reducible refine HX.out.mono ?_)
  rintro e w2 ⟨rfl, hr⟩
  have HR := Lib.hid (HF.out w2 hr)
  clear hr c2
  go_wp2
  go_ret
  exact HR.out

theorem D_WriteSetEnd (w : World) (s : S × S')  (h : DupI P Q d w s) (hg : P.good s.1 (.setEnd) ∧ Q.good s.2 (.setEnd)) (hfit : (.setEnd : WOp).fits w ((protoD P Q d).F w)) :
    Calls Tryz.prog 288 ((.setEnd : WOp).args (.pointer (some ⟨d, 0, none⟩))) w (WR (protoD P Q d) w ((protoD P Q d).step s (.setEnd))) := by
  have hcore := D_core hP hQ (.setEnd) w s h hg hfit
  have c0 : w.cell? ⟨d, 0, none⟩ = some (.iface P.T P.recv) := by rw [cell_at h.box]; rfl
  have c1 : w.cell? ⟨d, 1, none⟩ = some (.iface Q.T Q.recv) := by rw [cell_at h.box]; rfl
  have m1 : ∀ w, (method 526 P.T P.recv "WriteSetEnd").run Tryz.prog w = .ok (P.fn "WriteSetEnd", P.recv) w := hP.meth (.setEnd)
  have a1 : ∀ w, (nilAhead 526 P.T P.recv "WriteSetEnd").run Tryz.prog w = .ok (some false) w := hP.ahead (.setEnd)
  have e1 : ∀ xs w, (callFunc (P.fn "WriteSetEnd") xs).run Tryz.prog w = .ok (.enter (P.fn "WriteSetEnd") xs) w := hP.enter (.setEnd)
  have m2 : ∀ w, (method 526 Q.T Q.recv "WriteSetEnd").run Tryz.prog w = .ok (Q.fn "WriteSetEnd", Q.recv) w := hQ.meth (.setEnd)
  have a2 : ∀ w, (nilAhead 526 Q.T Q.recv "WriteSetEnd").run Tryz.prog w = .ok (some false) w := hQ.ahead (.setEnd)
  have e2 : ∀ xs w, (callFunc (Q.fn "WriteSetEnd") xs).run Tryz.prog w = .ok (.enter (Q.fn "WriteSetEnd") xs) w := hQ.enter (.setEnd)
  have hcore2 : Calls Tryz.prog (P.fn "WriteSetEnd") ((.setEnd : WOp).args P.recv) w (fun e w1 => e = .returned .nilIface ∧ w1.cell? ⟨d, 1, none⟩ = some (.iface Q.T Q.recv) ∧ Calls Tryz.prog (Q.fn "WriteSetEnd") ((.setEnd : WOp).args Q.recv) w1 (fun e w2 => e = .returned .nilIface ∧ WR (protoD P Q d) w ((protoD P Q d).step s (.setEnd)) (.returned .nilIface) w2)) := hcore.mono fun e w1 ⟨h1, hx⟩ => by obtain ⟨h2, _, _, h3⟩ := hx w1 (Fr.refl noF w1); exact ⟨h1, h2, h3⟩
  obtain ⟨R, hR⟩ : ∃ R : World → Prop, R = fun w2 => WR (protoD P Q d) w ((protoD P Q d).step s (.setEnd)) (.returned .nilIface) w2 := ⟨_, rfl⟩
  have HF := Lib.hid (show ∀ w2, R w2 → WR (protoD P Q d) w ((protoD P Q d).step s (.setEnd)) (.returned .nilIface) w2 from fun w2 h => by rw [hR] at h; exact h)
  have hcore3 : Calls Tryz.prog (P.fn "WriteSetEnd") ((.setEnd : WOp).args P.recv) w (fun e w1 => e = .returned .nilIface ∧ w1.cell? ⟨d, 1, none⟩ = some (.iface Q.T Q.recv) ∧ Calls Tryz.prog (Q.fn "WriteSetEnd") ((.setEnd : WOp).args Q.recv) w1 (fun e w2 => e = .returned .nilIface ∧ R w2)) := by rw [hR]; exact hcore2
  obtain ⟨f, hf⟩ : ∃ f, f = P.fn "WriteSetEnd" := ⟨_, rfl⟩
  obtain ⟨g, hgg⟩ : ∃ f, f = Q.fn "WriteSetEnd" := ⟨_, rfl⟩
  obtain ⟨PT, hPT⟩ : ∃ f, f = P.T := ⟨_, rfl⟩
  obtain ⟨QT, hQT⟩ : ∃ f, f = Q.T := ⟨_, rfl⟩
  obtain ⟨r, hr⟩ : ∃ f, f = P.recv := ⟨_, rfl⟩
  obtain ⟨q, hq⟩ : ∃ f, f = Q.recv := ⟨_, rfl⟩
  rw [← hf, ← hgg, ← hr, ← hq, ← hQT] at hcore3
  rw [← hPT, ← hr] at c0 a1
  rw [← hQT, ← hq] at c1 a2
  rw [← hPT, ← hr, ← hf] at m1
  rw [← hQT, ← hq, ← hgg] at m2
  rw [← hf] at e1
  rw [← hgg] at e2
  simp only [WOp.args] at hcore3 ⊢
  have HC := Lib.hid hcore3
  clear hcore hcore2 hcore3 hf hgg hPT hQT hr hq hR hP hQ hg h hfit
  go_enter Tryz.func288, Tryz.ntmps288
  go_wp2_with fail
  (with_reducible refine HC.out.mono ?_)
  rintro e w1 ⟨rfl, c2, hx⟩
  have HX := Lib.hid hx
  clear hx c0 c1
  go_wp2_with fail
  (with_reducible refine HX.out.mono ?_)
  rintro e w2 ⟨rfl, hr⟩
  have HR := Lib.hid (HF.out w2 hr)
  clear hr c2
  go_wp2
  go_ret
  exact HR.out

theorem D_WriteBool (w : World) (s : S × S') (v : Bool) (h : DupI P Q d w s) (hg : P.good s.1 (.bool v) ∧ Q.good s.2 (.bool v)) (hfit : (.bool v : WOp).fits w ((protoD P Q d).F w)) :
    Calls Tryz.prog 272 ((.bool v : WOp).args (.pointer (some ⟨d, 0, none⟩))) w (WR (protoD P Q d) w ((protoD P Q d).step s (.bool v))) := by
  have hcore := D_core hP hQ (.bool v) w s h hg hfit
  have c0 : w.cell? ⟨d, 0, none⟩ = some (.iface P.T P.recv) := by rw [cell_at h.box]; rfl
  have c1 : w.cell? ⟨d, 1, none⟩ = some (.iface Q.T Q.recv) := by rw [cell_at h.box]; rfl
  have m1 : ∀ w, (method 526 P.T P.recv "WriteBool").run Tryz.prog w = .ok (P.fn "WriteBool", P.recv) w := hP.meth (.bool v)
  have a1 : ∀ w, (nilAhead 526 P.T P.recv "WriteBool").run Tryz.prog w = .ok (some false) w := hP.ahead (.bool v)
  have e1 : ∀ xs w, (callFunc (P.fn "WriteBool") xs).run Tryz.prog w = .ok (.enter (P.fn "WriteBool") xs) w := hP.enter (.bool v)
  have m2 : ∀ w, (method 526 Q.T Q.recv "WriteBool").run Tryz.prog w = .ok (Q.fn "WriteBool", Q.recv) w := hQ.meth (.bool v)
  have a2 : ∀ w, (nilAhead 526 Q.T Q.recv "WriteBool").run Tryz.prog w = .ok (some false) w := hQ.ahead (.bool v)
  have e2 : ∀ xs w, (callFunc (Q.fn "WriteBool") xs).run Tryz.prog w = .ok (.enter (Q.fn "WriteBool") xs) w := hQ.enter (.bool v)
  have hcore2 : Calls Tryz.prog (P.fn "WriteBool") ((.bool v : WOp).args P.recv) w (fun e w1 => e = .returned .nilIface ∧ w1.cell? ⟨d, 1, none⟩ = some (.iface Q.T Q.recv) ∧ Calls Tryz.prog (Q.fn "WriteBool") ((.bool v : WOp).args Q.recv) w1 (fun e w2 => e = .returned .nilIface ∧ WR (protoD P Q d) w ((protoD P Q d).step s (.bool v)) (.returned .nilIface) w2)) := hcore.mono fun e w1 ⟨h1, hx⟩ => by obtain ⟨h2, _, _, h3⟩ := hx w1 (Fr.refl noF w1); exact ⟨h1, h2, h3⟩
  obtain ⟨R, hR⟩ : ∃ R : World → Prop, R = fun w2 => WR (protoD P Q d) w ((protoD P Q d).step s (.bool v)) (.returned .nilIface) w2 := ⟨_, rfl⟩
  have HF := Lib.hid (show ∀ w2, R w2 → WR (protoD P Q d) w ((protoD P Q d).step s (.bool v)) (.returned .nilIface) w2 from fun w2 h => by rw [hR] at h; exact h)
  have hcore3 : Calls Tryz.prog (P.fn "WriteBool") ((.bool v : WOp).args P.recv) w (fun e w1 => e = .returned .nilIface ∧ w1.cell? ⟨d, 1, none⟩ = some (.iface Q.T Q.recv) ∧ Calls Tryz.prog (Q.fn "WriteBool") ((.bool v : WOp).args Q.recv) w1 (fun e w2 => e = .returned .nilIface ∧ R w2)) := by rw [hR]; exact hcore2
  obtain ⟨f, hf⟩ : ∃ f, f = P.fn "WriteBool" := ⟨_, rfl⟩
  obtain ⟨g, hgg⟩ : ∃ f, f = Q.fn "WriteBool" := ⟨_, rfl⟩
  obtain ⟨PT, hPT⟩ : ∃ f, f = P.T := ⟨_, rfl⟩
  obtain ⟨QT, hQT⟩ : ∃ f, f = Q.T := ⟨_, rfl⟩
  obtain ⟨r, hr⟩ : ∃ f, f = P.recv := ⟨_, rfl⟩
  obtain ⟨q, hq⟩ : ∃ f, f = Q.recv := ⟨_, rfl⟩
  rw [← hf, ← hgg, ← hr, ← hq, ← hQT] at hcore3
  rw [← hPT, ← hr] at c0 a1
  rw [← hQT, ← hq] at c1 a2
  rw [← hPT, ← hr, ← hf] at m1
  rw [← hQT, ← hq, ← hgg] at m2
  rw [← hf] at e1
  rw [← hgg] at e2
  simp only [WOp.args] at hcore3 ⊢
  have HC := Lib.hid hcore3
  clear hcore hcore2 hcore3 hf hgg hPT hQT hr hq hR hP hQ hg h hfit
  go_enter Tryz.func272, Tryz.ntmps272
  go_wp2_with fail
  (with_reducible refine HC.out.mono ?_)
  rintro e w1 ⟨rfl, c2, hx⟩
  have HX := Lib.hid hx
  clear hx c0 c1
  go_wp2_with fail
  (with_reducible refine HX.out.mono ?_)
  rintro e w2 ⟨rfl, hr⟩
  have HR := Lib.hid (HF.out w2 hr)
  clear hr c2
  go_wp2
  go_ret
  exact HR.out

theorem D_WriteByte (w : World) (s : S × S') (n : Int) (h : DupI P Q d w s) (hg : P.good s.1 (.byte n) ∧ Q.good s.2 (.byte n)) (hfit : (.byte n : WOp).fits w ((protoD P Q d).F w)) :
    Calls Tryz.prog 273 ((.byte n : WOp).args (.pointer (some ⟨d, 0, none⟩))) w (WR (protoD P Q d) w ((protoD P Q d).step s (.byte n))) := by
  have hcore := D_core hP hQ (.byte n) w s h hg hfit
  have c0 : w.cell? ⟨d, 0, none⟩ = some (.iface P.T P.recv) := by rw [cell_at h.box]; rfl
  have c1 : w.cell? ⟨d, 1, none⟩ = some (.iface Q.T Q.recv) := by rw [cell_at h.box]; rfl
  have m1 : ∀ w, (method 526 P.T P.recv "WriteByte").run Tryz.prog w = .ok (P.fn "WriteByte", P.recv) w := hP.meth (.byte n)
  have a1 : ∀ w, (nilAhead 526 P.T P.recv "WriteByte").run Tryz.prog w = .ok (some false) w := hP.ahead (.byte n)
  have e1 : ∀ xs w, (callFunc (P.fn "WriteByte") xs).run Tryz.prog w = .ok (.enter (P.fn "WriteByte") xs) w := hP.enter (.byte n)
  have m2 : ∀ w, (method 526 Q.T Q.recv "WriteByte").run Tryz.prog w = .ok (Q.fn "WriteByte", Q.recv) w := hQ.meth (.byte n)
  have a2 : ∀ w, (nilAhead 526 Q.T Q.recv "WriteByte").run Tryz.prog w = .ok (some false) w := hQ.ahead (.byte n)
  have e2 : ∀ xs w, (callFunc (Q.fn "WriteByte") xs).run Tryz.prog w = .ok (.enter (Q.fn "WriteByte") xs) w := hQ.enter (.byte n)
  have hcore2 : Calls Tryz.prog (P.fn "WriteByte") ((.byte n : WOp).args P.recv) w (fun e w1 => e = .returned .nilIface ∧ w1.cell? ⟨d, 1, none⟩ = some (.iface Q.T Q.recv) ∧ Calls Tryz.prog (Q.fn "WriteByte") ((.byte n : WOp).args Q.recv) w1 (fun e w2 => e = .returned .nilIface ∧ WR (protoD P Q d) w ((protoD P Q d).step s (.byte n)) (.returned .nilIface) w2)) := hcore.mono fun e w1 ⟨h1, hx⟩ => by obtain ⟨h2, _, _, h3⟩ := hx w1 (Fr.refl noF w1); exact ⟨h1, h2, h3⟩
  obtain ⟨R, hR⟩ : ∃ R : World → Prop, R = fun w2 => WR (protoD P Q d) w ((protoD P Q d).step s (.byte n)) (.returned .nilIface) w2 := ⟨_, rfl⟩
  have HF := Lib.hid (show ∀ w2, R w2 → WR (protoD P Q d) w ((protoD P Q d).step s (.byte n)) (.returned .nilIface) w2 from fun w2 h => by rw [hR] at h; exact h)
  have hcore3 : Calls Tryz.prog (P.fn "WriteByte") ((.byte n : WOp).args P.recv) w (fun e w1 => e = .returned .nilIface ∧ w1.cell? ⟨d, 1, none⟩ = some (.iface Q.T Q.recv) ∧ Calls Tryz.prog (Q.fn "WriteByte") ((.byte n : WOp).args Q.recv) w1 (fun e w2 => e = .returned .nilIface ∧ R w2)) := by rw [hR]; exact hcore2
  obtain ⟨f, hf⟩ : ∃ f, f = P.fn "WriteByte" := ⟨_, rfl⟩
  obtain ⟨g, hgg⟩ : ∃ f, f = Q.fn "WriteByte" := ⟨_, rfl⟩
  obtain ⟨PT, hPT⟩ : ∃ f, f = P.T := ⟨_, rfl⟩
  obtain ⟨QT, hQT⟩ : ∃ f, f = Q.T := ⟨_, rfl⟩
  obtain ⟨r, hr⟩ : ∃ f, f = P.recv := ⟨_, rfl⟩
  obtain ⟨q, hq⟩ : ∃ f, f = Q.recv := ⟨_, rfl⟩
  rw [← hf, ← hgg, ← hr, ← hq, ← hQT] at hcore3
  rw [← hPT, ← hr] at c0 a1
  rw [← hQT, ← hq] at c1 a2
  rw [← hPT, ← hr, ← hf] at m1
  rw [← hQT, ← hq, ← hgg] at m2
  rw [← hf] at e1
  rw [← hgg] at e2
  simp only [WOp.args] at hcore3 ⊢
  have HC := Lib.hid hcore3
  clear hcore hcore2 hcore3 hf hgg hPT hQT hr hq hR hP hQ hg h hfit
  go_enter Tryz.func273, Tryz.ntmps273
  go_wp2_with fail
  (with_reducible refine HC.out.mono ?_)
  rintro e w1 ⟨rfl, c2, hx⟩
  have HX := Lib.hid hx
  clear hx c0 c1
  go_wp2_with fail
  (with_reducible refine HX.out.mono ?_)
  rintro e w2 ⟨rfl, hr⟩
  have HR := Lib.hid (HF.out w2 hr)
  clear hr c2
  go_wp2
  go_ret
  exact HR.out

theorem D_WriteI16 (w : World) (s : S × S') (n : Int) (h : DupI P Q d w s) (hg : P.good s.1 (.i16 n) ∧ Q.good s.2 (.i16 n)) (hfit : (.i16 n : WOp).fits w ((protoD P Q d).F w)) :
    Calls Tryz.prog 278 ((.i16 n : WOp).args (.pointer (some ⟨d, 0, none⟩))) w (WR (protoD P Q d) w ((protoD P Q d).step s (.i16 n))) := by
  have hcore := D_core hP hQ (.i16 n) w s h hg hfit
  have c0 : w.cell? ⟨d, 0, none⟩ = some (.iface P.T P.recv) := by rw [cell_at h.box]; rfl
  have c1 : w.cell? ⟨d, 1, none⟩ = some (.iface Q.T Q.recv) := by rw [cell_at h.box]; rfl
  have m1 : ∀ w, (method 526 P.T P.recv "WriteI16").run Tryz.prog w = .ok (P.fn "WriteI16", P.recv) w := hP.meth (.i16 n)
  have a1 : ∀ w, (nilAhead 526 P.T P.recv "WriteI16").run Tryz.prog w = .ok (some false) w := hP.ahead (.i16 n)
  have e1 : ∀ xs w, (callFunc (P.fn "WriteI16") xs).run Tryz.prog w = .ok (.enter (P.fn "WriteI16") xs) w := hP.enter (.i16 n)
  have m2 : ∀ w, (method 526 Q.T Q.recv "WriteI16").run Tryz.prog w = .ok (Q.fn "WriteI16", Q.recv) w := hQ.meth (.i16 n)
  have a2 : ∀ w, (nilAhead 526 Q.T Q.recv "WriteI16").run Tryz.prog w = .ok (some false) w := hQ.ahead (.i16 n)
  have e2 : ∀ xs w, (callFunc (Q.fn "WriteI16") xs).run Tryz.prog w = .ok (.enter (Q.fn "WriteI16") xs) w := hQ.enter (.i16 n)
  have hcore2 : Calls Tryz.prog (P.fn "WriteI16") ((.i16 n : WOp).args P.recv) w (fun e w1 => e = .returned .nilIface ∧ w1.cell? ⟨d, 1, none⟩ = some (.iface Q.T Q.recv) ∧ Calls Tryz.prog (Q.fn "WriteI16") ((.i16 n : WOp).args Q.recv) w1 (fun e w2 => e = .returned .nilIface ∧ WR (protoD P Q d) w ((protoD P Q d).step s (.i16 n)) (.returned .nilIface) w2)) := hcore.mono fun e w1 ⟨h1, hx⟩ => by obtain ⟨h2, _, _, h3⟩ := hx w1 (Fr.refl noF w1); exact ⟨h1, h2, h3⟩
  obtain ⟨R, hR⟩ : ∃ R : World → Prop, R = fun w2 => WR (protoD P Q d) w ((protoD P Q d).step s (.i16 n)) (.returned .nilIface) w2 := ⟨_, rfl⟩
  have HF := Lib.hid (show ∀ w2, R w2 → WR (protoD P Q d) w ((protoD P Q d).step s (.i16 n)) (.returned .nilIface) w2 from fun w2 h => by rw [hR] at h; exact h)
  have hcore3 : Calls Tryz.prog (P.fn "WriteI16") ((.i16 n : WOp).args P.recv) w (fun e w1 => e = .returned .nilIface ∧ w1.cell? ⟨d, 1, none⟩ = some (.iface Q.T Q.recv) ∧ Calls Tryz.prog (Q.fn "WriteI16") ((.i16 n : WOp).args Q.recv) w1 (fun e w2 => e = .returned .nilIface ∧ R w2)) := by rw [hR]; exact hcore2
  obtain ⟨f, hf⟩ : ∃ f, f = P.fn "WriteI16" := ⟨_, rfl⟩
  obtain ⟨g, hgg⟩ : ∃ f, f = Q.fn "WriteI16" := ⟨_, rfl⟩
  obtain ⟨PT, hPT⟩ : ∃ f, f = P.T := ⟨_, rfl⟩
  obtain ⟨QT, hQT⟩ : ∃ f, f = Q.T := ⟨_, rfl⟩
  obtain ⟨r, hr⟩ : ∃ f, f = P.recv := ⟨_, rfl⟩
  obtain ⟨q, hq⟩ : ∃ f, f = Q.recv := ⟨_, rfl⟩
  rw [← hf, ← hgg, ← hr, ← hq, ← hQT] at hcore3
  rw [← hPT, ← hr] at c0 a1
  rw [← hQT, ← hq] at c1 a2
  rw [← hPT, ← hr, ← hf] at m1
  rw [← hQT, ← hq, ← hgg] at m2
  rw [← hf] at e1
  rw [← hgg] at e2
  simp only [WOp.args] at hcore3 ⊢
  have HC := Lib.hid hcore3
  clear hcore hcore2 hcore3 hf hgg hPT hQT hr hq hR hP hQ hg h hfit
  go_enter Tryz.func278, Tryz.ntmps278
  go_wp2_with fail
  (with_reducible refine HC.out.mono ?_)
  rintro e w1 ⟨rfl, c2, hx⟩
  have HX := Lib.hid hx
  clear hx c0 c1
  go_wp2_with fail
  (with_reducible refine HX.out.mono ?_)
  rintro e w2 ⟨rfl, hr⟩
  have HR := Lib.hid (HF.out w2 hr)
  clear hr c2
  go_wp2
  go_ret
  exact HR.out

theorem D_WriteI32 (w : World) (s : S × S') (n : Int) (h : DupI P Q d w s) (hg : P.good s.1 (.i32 n) ∧ Q.good s.2 (.i32 n)) (hfit : (.i32 n : WOp).fits w ((protoD P Q d).F w)) :
    Calls Tryz.prog 279 ((.i32 n : WOp).args (.pointer (some ⟨d, 0, none⟩))) w (WR (protoD P Q d) w ((protoD P Q d).step s (.i32 n))) := by
  have hcore := D_core hP hQ (.i32 n) w s h hg hfit
  have c0 : w.cell? ⟨d, 0, none⟩ = some (.iface P.T P.recv) := by rw [cell_at h.box]; rfl
  have c1 : w.cell? ⟨d, 1, none⟩ = some (.iface Q.T Q.recv) := by rw [cell_at h.box]; rfl
  have m1 : ∀ w, (method 526 P.T P.recv "WriteI32").run Tryz.prog w = .ok (P.fn "WriteI32", P.recv) w := hP.meth (.i32 n)
  have a1 : ∀ w, (nilAhead 526 P.T P.recv "WriteI32").run Tryz.prog w = .ok (some false) w := hP.ahead (.i32 n)
  have e1 : ∀ xs w, (callFunc (P.fn "WriteI32") xs).run Tryz.prog w = .ok (.enter (P.fn "WriteI32") xs) w := hP.enter (.i32 n)
  have m2 : ∀ w, (method 526 Q.T Q.recv "WriteI32").run Tryz.prog w = .ok (Q.fn "WriteI32", Q.recv) w := hQ.meth (.i32 n)
  have a2 : ∀ w, (nilAhead 526 Q.T Q.recv "WriteI32").run Tryz.prog w = .ok (some false) w := hQ.ahead (.i32 n)
  have e2 : ∀ xs w, (callFunc (Q.fn "WriteI32") xs).run Tryz.prog w = .ok (.enter (Q.fn "WriteI32") xs) w := hQ.enter (.i32 n)
  have hcore2 : Calls Tryz.prog (P.fn "WriteI32") ((.i32 n : WOp).args P.recv) w (fun e w1 => e = .returned .nilIface ∧ w1.cell? ⟨d, 1, none⟩ = some (.iface Q.T Q.recv) ∧ Calls Tryz.prog (Q.fn "WriteI32") ((.i32 n : WOp).args Q.recv) w1 (fun e w2 => e = .returned .nilIface ∧ WR (protoD P Q d) w ((protoD P Q d).step s (.i32 n)) (.returned .nilIface) w2)) := hcore.mono fun e w1 ⟨h1, hx⟩ => by obtain ⟨h2, _, _, h3⟩ := hx w1 (Fr.refl noF w1); exact ⟨h1, h2, h3⟩
  obtain ⟨R, hR⟩ : ∃ R : World → Prop, R = fun w2 => WR (protoD P Q d) w ((protoD P Q d).step s (.i32 n)) (.returned .nilIface) w2 := ⟨_, rfl⟩
  have HF := Lib.hid (show ∀ w2, R w2 → WR (protoD P Q d) w ((protoD P Q d).step s (.i32 n)) (.returned .nilIface) w2 from fun w2 h => by rw [hR] at h; exact h)
  have hcore3 : Calls Tryz.prog (P.fn "WriteI32") ((.i32 n : WOp).args P.recv) w (fun e w1 => e = .returned .nilIface ∧ w1.cell? ⟨d, 1, none⟩ = some (.iface Q.T Q.recv) ∧ Calls Tryz.prog (Q.fn "WriteI32") ((.i32 n : WOp).args Q.recv) w1 (fun e w2 => e = .returned .nilIface ∧ R w2)) := by rw [hR]; exact hcore2
  obtain ⟨f, hf⟩ : ∃ f, f = P.fn "WriteI32" := ⟨_, rfl⟩
  obtain ⟨g, hgg⟩ : ∃ f, f = Q.fn "WriteI32" := ⟨_, rfl⟩
  obtain ⟨PT, hPT⟩ : ∃ f, f = P.T := ⟨_, rfl⟩
  obtain ⟨QT, hQT⟩ : ∃ f, f = Q.T := ⟨_, rfl⟩
  obtain ⟨r, hr⟩ : ∃ f, f = P.recv := ⟨_, rfl⟩
  obtain ⟨q, hq⟩ : ∃ f, f = Q.recv := ⟨_, rfl⟩
  rw [← hf, ← hgg, ← hr, ← hq, ← hQT] at hcore3
  rw [← hPT, ← hr] at c0 a1
  rw [← hQT, ← hq] at c1 a2
  rw [← hPT, ← hr, ← hf] at m1
  rw [← hQT, ← hq, ← hgg] at m2
  rw [← hf] at e1
  rw [← hgg] at e2
  simp only [WOp.args] at hcore3 ⊢
  have HC := Lib.hid hcore3
  clear hcore hcore2 hcore3 hf hgg hPT hQT hr hq hR hP hQ hg h hfit
  go_enter Tryz.func279, Tryz.ntmps279
  go_wp2_with fail
  (with_reducible refine HC.out.mono ?_)
  rintro e w1 ⟨rfl, c2, hx⟩
  have HX := Lib.hid hx
  clear hx c0 c1
  go_wp2_with fail
  (with_reducible refine HX.out.mono ?_)
  rintro e w2 ⟨rfl, hr⟩
  have HR := Lib.hid (HF.out w2 hr)
  clear hr c2
  go_wp2
  go_ret
  exact HR.out

theorem D_WriteI64 (w : World) (s : S × S') (n : Int) (h : DupI P Q d w s) (hg : P.good s.1 (.i64 n) ∧ Q.good s.2 (.i64 n)) (hfit : (.i64 n : WOp).fits w ((protoD P Q d).F w)) :
    Calls Tryz.prog 280 ((.i64 n : WOp).args (.pointer (some ⟨d, 0, none⟩))) w (WR (protoD P Q d) w ((protoD P Q d).step s (.i64 n))) := by
  have hcore := D_core hP hQ (.i64 n) w s h hg hfit
  have c0 : w.cell? ⟨d, 0, none⟩ = some (.iface P.T P.recv) := by rw [cell_at h.box]; rfl
  have c1 : w.cell? ⟨d, 1, none⟩ = some (.iface Q.T Q.recv) := by rw [cell_at h.box]; rfl
  have m1 : ∀ w, (method 526 P.T P.recv "WriteI64").run Tryz.prog w = .ok (P.fn "WriteI64", P.recv) w := hP.meth (.i64 n)
  have a1 : ∀ w, (nilAhead 526 P.T P.recv "WriteI64").run Tryz.prog w = .ok (some false) w := hP.ahead (.i64 n)
  have e1 : ∀ xs w, (callFunc (P.fn "WriteI64") xs).run Tryz.prog w = .ok (.enter (P.fn "WriteI64") xs) w := hP.enter (.i64 n)
  have m2 : ∀ w, (method 526 Q.T Q.recv "WriteI64").run Tryz.prog w = .ok (Q.fn "WriteI64", Q.recv) w := hQ.meth (.i64 n)
  have a2 : ∀ w, (nilAhead 526 Q.T Q.recv "WriteI64").run Tryz.prog w = .ok (some false) w := hQ.ahead (.i64 n)
  have e2 : ∀ xs w, (callFunc (Q.fn "WriteI64") xs).run Tryz.prog w = .ok (.enter (Q.fn "WriteI64") xs) w := hQ.enter (.i64 n)
  have hcore2 : Calls Tryz.prog (P.fn "WriteI64") ((.i64 n : WOp).args P.recv) w (fun e w1 => e = .returned .nilIface ∧ w1.cell? ⟨d, 1, none⟩ = some (.iface Q.T Q.recv) ∧ Calls Tryz.prog (Q.fn "WriteI64") ((.i64 n : WOp).args Q.recv) w1 (fun e w2 => e = .returned .nilIface ∧ WR (protoD P Q d) w ((protoD P Q d).step s (.i64 n)) (.returned .nilIface) w2)) := hcore.mono fun e w1 ⟨h1, hx⟩ => by obtain ⟨h2, _, _, h3⟩ := hx w1 (Fr.refl noF w1); exact ⟨h1, h2, h3⟩
  obtain ⟨R, hR⟩ : ∃ R : World → Prop, R = fun w2 => WR (protoD P Q d) w ((protoD P Q d).step s (.i64 n)) (.returned .nilIface) w2 := ⟨_, rfl⟩
  have HF := Lib.hid (show ∀ w2, R w2 → WR (protoD P Q d) w ((protoD P Q d).step s (.i64 n)) (.returned .nilIface) w2 from fun w2 h => by rw [hR] at h; exact h)
  have hcore3 : Calls Tryz.prog (P.fn "WriteI64") ((.i64 n : WOp).args P.recv) w (fun e w1 => e = .returned .nilIface ∧ w1.cell? ⟨d, 1, none⟩ = some (.iface Q.T Q.recv) ∧ Calls Tryz.prog (Q.fn "WriteI64") ((.i64 n : WOp).args Q.recv) w1 (fun e w2 => e = .returned .nilIface ∧ R w2)) := by rw [hR]; exact hcore2
  obtain ⟨f, hf⟩ : ∃ f, f = P.fn "WriteI64" := ⟨_, rfl⟩
  obtain ⟨g, hgg⟩ : ∃ f, f = Q.fn "WriteI64" := ⟨_, rfl⟩
  obtain ⟨PT, hPT⟩ : ∃ f, f = P.T := ⟨_, rfl⟩
  obtain ⟨QT, hQT⟩ : ∃ f, f = Q.T := ⟨_, rfl⟩
  obtain ⟨r, hr⟩ : ∃ f, f = P.recv := ⟨_, rfl⟩
  obtain ⟨q, hq⟩ : ∃ f, f = Q.recv := ⟨_, rfl⟩
  rw [← hf, ← hgg, ← hr, ← hq, ← hQT] at hcore3
  rw [← hPT, ← hr] at c0 a1
  rw [← hQT, ← hq] at c1 a2
  rw [← hPT, ← hr, ← hf] at m1
  rw [← hQT, ← hq, ← hgg] at m2
  rw [← hf] at e1
  rw [← hgg] at e2
  simp only [WOp.args] at hcore3 ⊢
  have HC := Lib.hid hcore3
  clear hcore hcore2 hcore3 hf hgg hPT hQT hr hq hR hP hQ hg h hfit
  go_enter Tryz.func280, Tryz.ntmps280
  go_wp2_with fail
  (with_reducible refine HC.out.mono ?_)
  rintro e w1 ⟨rfl, c2, hx⟩
  have HX := Lib.hid hx
  clear hx c0 c1
  go_wp2_with fail
  (with_reducible refine HX.out.mono ?_)
  rintro e w2 ⟨rfl, hr⟩
  have HR := Lib.hid (HF.out w2 hr)
  clear hr c2
  go_wp2
  go_ret
  exact HR.out

theorem D_WriteDouble (w : World) (s : S × S') (n : Nat) (h : DupI P Q d w s) (hg : P.good s.1 (.double n) ∧ Q.good s.2 (.double n)) (hfit : (.double n : WOp).fits w ((protoD P Q d).F w)) :
    Calls Tryz.prog 274 ((.double n : WOp).args (.pointer (some ⟨d, 0, none⟩))) w (WR (protoD P Q d) w ((protoD P Q d).step s (.double n))) := by
  have hcore := D_core hP hQ (.double n) w s h hg hfit
  have c0 : w.cell? ⟨d, 0, none⟩ = some (.iface P.T P.recv) := by rw [cell_at h.box]; rfl
  have c1 : w.cell? ⟨d, 1, none⟩ = some (.iface Q.T Q.recv) := by rw [cell_at h.box]; rfl
  have m1 : ∀ w, (method 526 P.T P.recv "WriteDouble").run Tryz.prog w = .ok (P.fn "WriteDouble", P.recv) w := hP.meth (.double n)
  have a1 : ∀ w, (nilAhead 526 P.T P.recv "WriteDouble").run Tryz.prog w = .ok (some false) w := hP.ahead (.double n)
  have e1 : ∀ xs w, (callFunc (P.fn "WriteDouble") xs).run Tryz.prog w = .ok (.enter (P.fn "WriteDouble") xs) w := hP.enter (.double n)
  have m2 : ∀ w, (method 526 Q.T Q.recv "WriteDouble").run Tryz.prog w = .ok (Q.fn "WriteDouble", Q.recv) w := hQ.meth (.double n)
  have a2 : ∀ w, (nilAhead 526 Q.T Q.recv "WriteDouble").run Tryz.prog w = .ok (some false) w := hQ.ahead (.double n)
  have e2 : ∀ xs w, (callFunc (Q.fn "WriteDouble") xs).run Tryz.prog w = .ok (.enter (Q.fn "WriteDouble") xs) w := hQ.enter (.double n)
  have hcore2 : Calls Tryz.prog (P.fn "WriteDouble") ((.double n : WOp).args P.recv) w (fun e w1 => e = .returned .nilIface ∧ w1.cell? ⟨d, 1, none⟩ = some (.iface Q.T Q.recv) ∧ Calls Tryz.prog (Q.fn "WriteDouble") ((.double n : WOp).args Q.recv) w1 (fun e w2 => e = .returned .nilIface ∧ WR (protoD P Q d) w ((protoD P Q d).step s (.double n)) (.returned .nilIface) w2)) := hcore.mono fun e w1 ⟨h1, hx⟩ => by obtain ⟨h2, _, _, h3⟩ := hx w1 (Fr.refl noF w1); exact ⟨h1, h2, h3⟩
  obtain ⟨R, hR⟩ : ∃ R : World → Prop, R = fun w2 => WR (protoD P Q d) w ((protoD P Q d).step s (.double n)) (.returned .nilIface) w2 := ⟨_, rfl⟩
  have HF := Lib.hid (show ∀ w2, R w2 → WR (protoD P Q d) w ((protoD P Q d).step s (.double n)) (.returned .nilIface) w2 from fun w2 h => by rw [hR] at h; exact h)
  have hcore3 : Calls Tryz.prog (P.fn "WriteDouble") ((.double n : WOp).args P.recv) w (fun e w1 => e = .returned .nilIface ∧ w1.cell? ⟨d, 1, none⟩ = some (.iface Q.T Q.recv) ∧ Calls Tryz.prog (Q.fn "WriteDouble") ((.double n : WOp).args Q.recv) w1 (fun e w2 => e = .returned .nilIface ∧ R w2)) := by rw [hR]; exact hcore2
  obtain ⟨f, hf⟩ : ∃ f, f = P.fn "WriteDouble" := ⟨_, rfl⟩
  obtain ⟨g, hgg⟩ : ∃ f, f = Q.fn "WriteDouble" := ⟨_, rfl⟩
  obtain ⟨PT, hPT⟩ : ∃ f, f = P.T := ⟨_, rfl⟩
  obtain ⟨QT, hQT⟩ : ∃ f, f = Q.T := ⟨_, rfl⟩
  obtain ⟨r, hr⟩ : ∃ f, f = P.recv := ⟨_, rfl⟩
  obtain ⟨q, hq⟩ : ∃ f, f = Q.recv := ⟨_, rfl⟩
  rw [← hf, ← hgg, ← hr, ← hq, ← hQT] at hcore3
  rw [← hPT, ← hr] at c0 a1
  rw [← hQT, ← hq] at c1 a2
  rw [← hPT, ← hr, ← hf] at m1
  rw [← hQT, ← hq, ← hgg] at m2
  rw [← hf] at e1
  rw [← hgg] at e2
  simp only [WOp.args] at hcore3 ⊢
  have HC := Lib.hid hcore3
  clear hcore hcore2 hcore3 hf hgg hPT hQT hr hq hR hP hQ hg h hfit
  go_enter Tryz.func274, Tryz.ntmps274
  go_wp2_with fail
  (with_reducible refine HC.out.mono ?_)
  rintro e w1 ⟨rfl, c2, hx⟩
  have HX := Lib.hid hx
  clear hx c0 c1
  go_wp2_with fail
  (with_reducible refine HX.out.mono ?_)
  rintro e w2 ⟨rfl, hr⟩
  have HR := Lib.hid (HF.out w2 hr)
  clear hr c2
  go_wp2
  go_ret
  exact HR.out

theorem D_WriteString (w : World) (s : S × S') (a : ByteArray) (h : DupI P Q d w s) (hg : P.good s.1 (.string a) ∧ Q.good s.2 (.string a)) (hfit : (.string a : WOp).fits w ((protoD P Q d).F w)) :
    Calls Tryz.prog 289 ((.string a : WOp).args (.pointer (some ⟨d, 0, none⟩))) w (WR (protoD P Q d) w ((protoD P Q d).step s (.string a))) := by
  have hcore := D_core hP hQ (.string a) w s h hg hfit
  have c0 : w.cell? ⟨d, 0, none⟩ = some (.iface P.T P.recv) := by rw [cell_at h.box]; rfl
  have c1 : w.cell? ⟨d, 1, none⟩ = some (.iface Q.T Q.recv) := by rw [cell_at h.box]; rfl
  have m1 : ∀ w, (method 526 P.T P.recv "WriteString").run Tryz.prog w = .ok (P.fn "WriteString", P.recv) w := hP.meth (.string a)
  have a1 : ∀ w, (nilAhead 526 P.T P.recv "WriteString").run Tryz.prog w = .ok (some false) w := hP.ahead (.string a)
  have e1 : ∀ xs w, (callFunc (P.fn "WriteString") xs).run Tryz.prog w = .ok (.enter (P.fn "WriteString") xs) w := hP.enter (.string a)
  have m2 : ∀ w, (method 526 Q.T Q.recv "WriteString").run Tryz.prog w = .ok (Q.fn "WriteString", Q.recv) w := hQ.meth (.string a)
  have a2 : ∀ w, (nilAhead 526 Q.T Q.recv "WriteString").run Tryz.prog w = .ok (some false) w := hQ.ahead (.string a)
  have e2 : ∀ xs w, (callFunc (Q.fn "WriteString") xs).run Tryz.prog w = .ok (.enter (Q.fn "WriteString") xs) w := hQ.enter (.string a)
  have hcore2 : Calls Tryz.prog (P.fn "WriteString") ((.string a : WOp).args P.recv) w (fun e w1 => e = .returned .nilIface ∧ w1.cell? ⟨d, 1, none⟩ = some (.iface Q.T Q.recv) ∧ Calls Tryz.prog (Q.fn "WriteString") ((.string a : WOp).args Q.recv) w1 (fun e w2 => e = .returned .nilIface ∧ WR (protoD P Q d) w ((protoD P Q d).step s (.string a)) (.returned .nilIface) w2)) := hcore.mono fun e w1 ⟨h1, hx⟩ => by obtain ⟨h2, _, _, h3⟩ := hx w1 (Fr.refl noF w1); exact ⟨h1, h2, h3⟩
  obtain ⟨R, hR⟩ : ∃ R : World → Prop, R = fun w2 => WR (protoD P Q d) w ((protoD P Q d).step s (.string a)) (.returned .nilIface) w2 := ⟨_, rfl⟩
  have HF := Lib.hid (show ∀ w2, R w2 → WR (protoD P Q d) w ((protoD P Q d).step s (.string a)) (.returned .nilIface) w2 from fun w2 h => by rw [hR] at h; exact h)
  have hcore3 : Calls Tryz.prog (P.fn "WriteString") ((.string a : WOp).args P.recv) w (fun e w1 => e = .returned .nilIface ∧ w1.cell? ⟨d, 1, none⟩ = some (.iface Q.T Q.recv) ∧ Calls Tryz.prog (Q.fn "WriteString") ((.string a : WOp).args Q.recv) w1 (fun e w2 => e = .returned .nilIface ∧ R w2)) := by rw [hR]; exact hcore2
  obtain ⟨f, hf⟩ : ∃ f, f = P.fn "WriteString" := ⟨_, rfl⟩
  obtain ⟨g, hgg⟩ : ∃ f, f = Q.fn "WriteString" := ⟨_, rfl⟩
  obtain ⟨PT, hPT⟩ : ∃ f, f = P.T := ⟨_, rfl⟩
  obtain ⟨QT, hQT⟩ : ∃ f, f = Q.T := ⟨_, rfl⟩
  obtain ⟨r, hr⟩ : ∃ f, f = P.recv := ⟨_, rfl⟩
  obtain ⟨q, hq⟩ : ∃ f, f = Q.recv := ⟨_, rfl⟩
  rw [← hf, ← hgg, ← hr, ← hq, ← hQT] at hcore3
  rw [← hPT, ← hr] at c0 a1
  rw [← hQT, ← hq] at c1 a2
  rw [← hPT, ← hr, ← hf] at m1
  rw [← hQT, ← hq, ← hgg] at m2
  rw [← hf] at e1
  rw [← hgg] at e2
  simp only [WOp.args] at hcore3 ⊢
  have HC := Lib.hid hcore3
  clear hcore hcore2 hcore3 hf hgg hPT hQT hr hq hR hP hQ hg h hfit
  go_enter Tryz.func289, Tryz.ntmps289
  go_wp2_with fail
  (with_reducible refine HC.out.mono ?_)
  rintro e w1 ⟨rfl, c2, hx⟩
  have HX := Lib.hid hx
  clear hx c0 c1
  go_wp2_with fail
  (with_reducible refine HX.out.mono ?_)
  rintro e w2 ⟨rfl, hr⟩
  have HR := Lib.hid (HF.out w2 hr)
  clear hr c2
  go_wp2
  go_ret
  exact HR.out

theorem D_WriteBinary (w : World) (s : S × S') (v : Value) (l : List UInt8) (h : DupI P Q d w s) (hg : P.good s.1 (.binary v l) ∧ Q.good s.2 (.binary v l)) (hfit : (.binary v l : WOp).fits w ((protoD P Q d).F w)) :
    Calls Tryz.prog 271 ((.binary v l : WOp).args (.pointer (some ⟨d, 0, none⟩))) w (WR (protoD P Q d) w ((protoD P Q d).step s (.binary v l))) := by
  have hcore := D_core hP hQ (.binary v l) w s h hg hfit
  have c0 : w.cell? ⟨d, 0, none⟩ = some (.iface P.T P.recv) := by rw [cell_at h.box]; rfl
  have c1 : w.cell? ⟨d, 1, none⟩ = some (.iface Q.T Q.recv) := by rw [cell_at h.box]; rfl
  have m1 : ∀ w, (method 526 P.T P.recv "WriteBinary").run Tryz.prog w = .ok (P.fn "WriteBinary", P.recv) w := hP.meth (.binary v l)
  have a1 : ∀ w, (nilAhead 526 P.T P.recv "WriteBinary").run Tryz.prog w = .ok (some false) w := hP.ahead (.binary v l)
  have e1 : ∀ xs w, (callFunc (P.fn "WriteBinary") xs).run Tryz.prog w = .ok (.enter (P.fn "WriteBinary") xs) w := hP.enter (.binary v l)
  have m2 : ∀ w, (method 526 Q.T Q.recv "WriteBinary").run Tryz.prog w = .ok (Q.fn "WriteBinary", Q.recv) w := hQ.meth (.binary v l)
  have a2 : ∀ w, (nilAhead 526 Q.T Q.recv "WriteBinary").run Tryz.prog w = .ok (some false) w := hQ.ahead (.binary v l)
  have e2 : ∀ xs w, (callFunc (Q.fn "WriteBinary") xs).run Tryz.prog w = .ok (.enter (Q.fn "WriteBinary") xs) w := hQ.enter (.binary v l)
  have hcore2 : Calls Tryz.prog (P.fn "WriteBinary") ((.binary v l : WOp).args P.recv) w (fun e w1 => e = .returned .nilIface ∧ w1.cell? ⟨d, 1, none⟩ = some (.iface Q.T Q.recv) ∧ Calls Tryz.prog (Q.fn "WriteBinary") ((.binary v l : WOp).args Q.recv) w1 (fun e w2 => e = .returned .nilIface ∧ WR (protoD P Q d) w ((protoD P Q d).step s (.binary v l)) (.returned .nilIface) w2)) := hcore.mono fun e w1 ⟨h1, hx⟩ => by obtain ⟨h2, _, _, h3⟩ := hx w1 (Fr.refl noF w1); exact ⟨h1, h2, h3⟩
  obtain ⟨R, hR⟩ : ∃ R : World → Prop, R = fun w2 => WR (protoD P Q d) w ((protoD P Q d).step s (.binary v l)) (.returned .nilIface) w2 := ⟨_, rfl⟩
  have HF := Lib.hid (show ∀ w2, R w2 → WR (protoD P Q d) w ((protoD P Q d).step s (.binary v l)) (.returned .nilIface) w2 from fun w2 h => by rw [hR] at h; exact h)
  have hcore3 : Calls Tryz.prog (P.fn "WriteBinary") ((.binary v l : WOp).args P.recv) w (fun e w1 => e = .returned .nilIface ∧ w1.cell? ⟨d, 1, none⟩ = some (.iface Q.T Q.recv) ∧ Calls Tryz.prog (Q.fn "WriteBinary") ((.binary v l : WOp).args Q.recv) w1 (fun e w2 => e = .returned .nilIface ∧ R w2)) := by rw [hR]; exact hcore2
  obtain ⟨f, hf⟩ : ∃ f, f = P.fn "WriteBinary" := ⟨_, rfl⟩
  obtain ⟨g, hgg⟩ : ∃ f, f = Q.fn "WriteBinary" := ⟨_, rfl⟩
  obtain ⟨PT, hPT⟩ : ∃ f, f = P.T := ⟨_, rfl⟩
  obtain ⟨QT, hQT⟩ : ∃ f, f = Q.T := ⟨_, rfl⟩
  obtain ⟨r, hr⟩ : ∃ f, f = P.recv := ⟨_, rfl⟩
  obtain ⟨q, hq⟩ : ∃ f, f = Q.recv := ⟨_, rfl⟩
  rw [← hf, ← hgg, ← hr, ← hq, ← hQT] at hcore3
  rw [← hPT, ← hr] at c0 a1
  rw [← hQT, ← hq] at c1 a2
  rw [← hPT, ← hr, ← hf] at m1
  rw [← hQT, ← hq, ← hgg] at m2
  rw [← hf] at e1
  rw [← hgg] at e2
  simp only [WOp.args] at hcore3 ⊢
  have HC := Lib.hid hcore3
  clear hcore hcore2 hcore3 hf hgg hPT hQT hr hq hR hP hQ hg h hfit
  go_enter Tryz.func271, Tryz.ntmps271
  go_wp2_with fail
  (with_reducible refine HC.out.mono ?_)
  rintro e w1 ⟨rfl, c2, hx⟩
  have HX := Lib.hid hx
  clear hx c0 c1
  go_wp2_with fail
  (with_reducible refine HX.out.mono ?_)
  rintro e w2 ⟨rfl, hr⟩
  have HR := Lib.hid (HF.out w2 hr)
  clear hr c2
  go_wp2
  go_ret
  exact HR.out

theorem D_WriteUUID (w : World) (s : S × S') (l : List UInt8) (h : DupI P Q d w s) (hg : P.good s.1 (.uuid l) ∧ Q.good s.2 (.uuid l)) (hfit : (.uuid l : WOp).fits w ((protoD P Q d).F w)) :
    Calls Tryz.prog 292 ((.uuid l : WOp).args (.pointer (some ⟨d, 0, none⟩))) w (WR (protoD P Q d) w ((protoD P Q d).step s (.uuid l))) := by
  have hl : l.length = 16 := hfit
  have hf0 : Fr noF noF w (w.alloc (.cells (Lib.byteCells l).toArray TU (0, 0))).drew := ((Fr.refl noF w).alloc _).drew
  obtain ⟨hDW, hFW⟩ := DupI.old hP hQ h hf0 fun _ _ x => x
  have hbox : (w.alloc (.cells (Lib.byteCells l).toArray TU (0, 0))).drew.heap[w.heap.size]? = _ := alloc_new w (.cells (Lib.byteCells l).toArray TU (0, 0))
  have hout : ¬ (protoD P Q d).F (w.alloc (.cells (Lib.byteCells l).toArray TU (0, 0))).drew w.heap.size := fun hx => by have := DupI.lt hP hQ h (hFW _ hx); omega
  have hcore := D_core hP hQ (.uuid l) (w.alloc (.cells (Lib.byteCells l).toArray TU (0, 0))).drew s hDW hg hfit
  have c0 : (w.alloc (.cells (Lib.byteCells l).toArray TU (0, 0))).cell? ⟨d, 0, none⟩ = some (.iface P.T P.recv) := by rw [cell_at (show (w.alloc (.cells (Lib.byteCells l).toArray TU (0, 0))).heap[d]? = _ from hDW.box)]; rfl
  have c1 : (w.alloc (.cells (Lib.byteCells l).toArray TU (0, 0))).cell? ⟨d, 1, none⟩ = some (.iface Q.T Q.recv) := by rw [cell_at (show (w.alloc (.cells (Lib.byteCells l).toArray TU (0, 0))).heap[d]? = _ from hDW.box)]; rfl
  have m1 : ∀ w, (method 526 P.T P.recv "WriteUUID").run Tryz.prog w = .ok (P.fn "WriteUUID", P.recv) w := hP.meth (.uuid l)
  have a1 : ∀ w, (nilAhead 526 P.T P.recv "WriteUUID").run Tryz.prog w = .ok (some false) w := hP.ahead (.uuid l)
  have e1 : ∀ xs w, (callFunc (P.fn "WriteUUID") xs).run Tryz.prog w = .ok (.enter (P.fn "WriteUUID") xs) w := hP.enter (.uuid l)
  have m2 : ∀ w, (method 526 Q.T Q.recv "WriteUUID").run Tryz.prog w = .ok (Q.fn "WriteUUID", Q.recv) w := hQ.meth (.uuid l)
  have a2 : ∀ w, (nilAhead 526 Q.T Q.recv "WriteUUID").run Tryz.prog w = .ok (some false) w := hQ.ahead (.uuid l)
  have e2 : ∀ xs w, (callFunc (Q.fn "WriteUUID") xs).run Tryz.prog w = .ok (.enter (Q.fn "WriteUUID") xs) w := hQ.enter (.uuid l)
  obtain ⟨R, hR⟩ : ∃ R : World → Prop, R = fun w2 => WR (protoD P Q d) w ((protoD P Q d).step s (.uuid l)) (.returned .nilIface) w2 := ⟨_, rfl⟩
  have HF := Lib.hid (show ∀ w2, R w2 → WR (protoD P Q d) w ((protoD P Q d).step s (.uuid l)) (.returned .nilIface) w2 from fun w2 h => by rw [hR] at h; exact h)
  have hcore3 : Calls Tryz.prog (P.fn "WriteUUID") #[P.recv, WOp.args.ctxW, uuidV l] (w.alloc (.cells (Lib.byteCells l).toArray TU (0, 0))).drew (fun e w1 => e = .returned .nilIface ∧ (w1.cell? ⟨d, 0, none⟩ = some (.iface P.T P.recv) ∧ w1.rangeAt w.heap.size 0 (Lib.byteCells l)) ∧ (w1.cell? ⟨d, 1, none⟩ = some (.iface Q.T Q.recv) ∧ w1.rangeAt w.heap.size 0 (Lib.byteCells l)) ∧ Calls Tryz.prog (Q.fn "WriteUUID") #[Q.recv, WOp.args.ctxW, uuidV l] w1.drew (fun e w2 => e = .returned .nilIface ∧ (w2.cell? ⟨d, 1, none⟩ = some (.iface Q.T Q.recv) ∧ w2.rangeAt w.heap.size 0 (Lib.byteCells l)) ∧ R w2)) := by
    rw [hR]
    refine hcore.mono fun e w1 ⟨h1, hx⟩ => ?_
    obtain ⟨h2, h20, h3, _⟩ := hx w1 (Fr.refl noF w1)
    obtain ⟨_, _, _, h4⟩ := hx w1.drew ((Fr.refl noF w1).drew)
    exact ⟨h1, ⟨h20, range_of (h3 _ _ hbox hout)⟩, ⟨h2, range_of (h3 _ _ hbox hout)⟩, h4.mono fun e w2 ⟨h5, h6, h7, h8⟩ => ⟨h5, ⟨by rw [cell_at h7.box]; rfl, range_of (h8.block (w := (w.alloc (.cells (Lib.byteCells l).toArray TU (0, 0))).drew) hbox hout)⟩, rfl, h7, ⟨h8.os.trans hf0.os, h8.tape.trans hf0.tape, h8.output.trans hf0.output, Nat.le_trans hf0.size h8.size, fun k hk hn => (h8.keep k (Nat.lt_of_lt_of_le hk hf0.size) fun hx => hn (hFW k hx)).trans (hf0.keep k hk fun x => x), fun k hk hx => hFW k (h8.foot k (Nat.lt_of_lt_of_le hk hf0.size) hx)⟩⟩⟩
  have r0 : (w.alloc (.cells (Lib.byteCells l).toArray TU (0, 0))).rangeAt w.heap.size 0 (Lib.byteCells l) := range_of (w := (w.alloc (.cells (Lib.byteCells l).toArray TU (0, 0)))) hbox
  have hun := Tryz.underlying223
  have hin : (Tryz.prog.info? TU).map (·.size) = some (Lib.byteCells l).length := by rw [info_TU, bcells_length, hl]
  obtain ⟨f, hf⟩ : ∃ f, f = P.fn "WriteUUID" := ⟨_, rfl⟩
  obtain ⟨g, hgg⟩ : ∃ f, f = Q.fn "WriteUUID" := ⟨_, rfl⟩
  obtain ⟨PT, hPT⟩ : ∃ f, f = P.T := ⟨_, rfl⟩
  obtain ⟨QT, hQT⟩ : ∃ f, f = Q.T := ⟨_, rfl⟩
  obtain ⟨r, hr⟩ : ∃ f, f = P.recv := ⟨_, rfl⟩
  obtain ⟨q, hq⟩ : ∃ f, f = Q.recv := ⟨_, rfl⟩
  rw [← hf, ← hgg, ← hr, ← hq, ← hQT, ← hPT] at hcore3
  rw [← hPT, ← hr] at c0 a1
  rw [← hQT, ← hq] at c1 a2
  rw [← hPT, ← hr, ← hf] at m1
  rw [← hQT, ← hq, ← hgg] at m2
  rw [← hf] at e1
  rw [← hgg] at e2
  simp only [WOp.args]
  have HC := Lib.hid hcore3
  clear hcore hcore3 hf hgg hPT hQT hr hq hR hP hQ hg h hfit hbox hout hDW hFW hf0 hl
  go_enter Tryz.func292, Tryz.ntmps292
  go_wp2_with fail
  go_region_held3 (fun w' => w'.cell? ⟨d, 0, none⟩ = some (.iface PT r) ∧ w'.rangeAt w.heap.size 0 (Lib.byteCells l)) (first | exact ⟨c0, r0⟩ | exact s1) (first | ((with_reducible refine HC.out.mono ?_); rintro e w1 ⟨rfl, s1, s2, hx⟩; have HX := Lib.hid hx; clear hx) | fail)
  clear c0 c1 r0 s1
  go_wp2_with fail
  go_region_held3 (fun w' => w'.cell? ⟨d, 1, none⟩ = some (.iface QT q) ∧ w'.rangeAt w.heap.size 0 (Lib.byteCells l)) (first | exact s2 | exact s3) (first | ((with_reducible refine HX.out.mono ?_); rintro e w2 ⟨rfl, s3, hr⟩; have HR := Lib.hid (HF.out w2 hr); clear hr) | fail)
  clear s2 s3
  go_wp2
  go_ret
  exact HR.out

theorem protoD_ok (P : WProto S) (Q : WProto S') (hP : P.Ok) (hQ : Q.Ok) (d : Nat) : (protoD P Q d).Ok where
  meth op w := by cases op <;> kernel_rfl
  ahead op w := by cases op <;> kernel_rfl
  enter op xs w := by cases op <;> kernel_rfl
  call op w s h hg hfit := by
    cases op with
    | msgBegin a t n => exact D_WriteMessageBegin hP hQ w s a t n h hg hfit
    | msgEnd => exact D_WriteMessageEnd hP hQ w s  h hg hfit
    | structBegin => exact D_WriteStructBegin hP hQ w s  h hg hfit
    | structEnd => exact D_WriteStructEnd hP hQ w s  h hg hfit
    | fieldBegin t i => exact D_WriteFieldBegin hP hQ w s t i h hg hfit
    | fieldEnd => exact D_WriteFieldEnd hP hQ w s  h hg hfit
    | fieldStop => exact D_WriteFieldStop hP hQ w s  h hg hfit
    | mapBegin k t n => exact D_WriteMapBegin hP hQ w s k t n h hg hfit
    | mapEnd => exact D_WriteMapEnd hP hQ w s  h hg hfit
    | listBegin t n => exact D_WriteListBegin hP hQ w s t n h hg hfit
    | listEnd => exact D_WriteListEnd hP hQ w s  h hg hfit
    | setBegin t n => exact D_WriteSetBegin hP hQ w s t n h hg hfit
    | setEnd => exact D_WriteSetEnd hP hQ w s  h hg hfit
    | bool v => exact D_WriteBool hP hQ w s v h hg hfit
    | byte n => exact D_WriteByte hP hQ w s n h hg hfit
    | i16 n => exact D_WriteI16 hP hQ w s n h hg hfit
    | i32 n => exact D_WriteI32 hP hQ w s n h hg hfit
    | i64 n => exact D_WriteI64 hP hQ w s n h hg hfit
    | double n => exact D_WriteDouble hP hQ w s n h hg hfit
    | string a => exact D_WriteString hP hQ w s a h hg hfit
    | binary v l => exact D_WriteBinary hP hQ w s v l h hg hfit
    | uuid l => exact D_WriteUUID hP hQ w s l h hg hfit
  keep h hf hn := DupI.old hP hQ h hf hn
  lt h hk := DupI.lt hP hQ h hk
end
end Go.Proofs.YtoikkjefaakchaaGreatDoor
