/- The compact protocol over a memory buffer, as a protocol that is written to; a protocol by whatever configuration. -/
import Derived.Test.YtoikkjefaakchaaGreatDoorZEnc
import Derived.Test.YtoikkjefaakchaaGreatDoorZ3
set_option linter.all false
namespace Go.Proofs.YtoikkjefaakchaaGreatDoor
open Go Go.RowKit
set_option maxHeartbeats 1000000

theorem C_WriteMessageEnd (p c : Value) (w : World) : Calls Tryz.prog 204 #[p, c] w fun e w' => e = .returned .nilIface ∧ w = w' := by
  go_enter Tryz.func204, Tryz.ntmps204
  go_wp2
  go_ret
  exact ⟨rfl, rfl⟩
def CAll (w : World) (p m b : Nat) (cf : Value) (k : Nat) : Prop := CPF w p b k ∨ k = m ∨ CfF w cf k
theorem CP.notin {w : World} {p m b T : Nat} {cf : Value} {s : CSt} {z : Bool} {l : List UInt8} (h : CP w p m b cf s T z l) {k : Nat} {cs : Array Value} {t : TypeId} {f : Nat × Nat} (hk : w.heap[k]? = some (.cells cs t f)) (h1 : t ≠ TCP) (h2 : t ≠ TB) (h3 : t ≠ U8) (h4 : t ≠ TI) : ¬ CPF w p b k := fun hx => by
  obtain ⟨cs', t', h', ht⟩ := CPF.tag h hx
  rw [hk] at h'; injection h' with h'; injection h' with _ h' _
  subst h'
  rcases ht with rfl | rfl | rfl | rfl
  · exact h1 rfl
  · exact h2 rfl
  · exact h3 rfl
  · exact h4 rfl
theorem CP.old {w w' : World} {p m b T : Nat} {cf : Value} {s : CSt} {z : Bool} {l : List UInt8} {F F' : Nat → Prop} (h : CP w p m b cf s T z l) (hf : Fr F F' w w') (hm : ¬ F m) (hn : ∀ k, CPF w p b k → ¬ F k) : CP w' p m b cf s T z l ∧ (∀ k, CPF w' p b k → CPF w p b k) := by
  obtain ⟨⟨sv, bf, hbf, ha, ho⟩, ⟨sz, hM⟩, hB⟩ := h
  obtain ⟨h1, h2⟩ := hB.old hf fun k hk => hn k (Or.inr (Or.inl hk))
  have hp : w'.heap[p]? = w.heap[p]? := hf.keep p (lt_heap ha) (hn p (Or.inl rfl))
  refine ⟨⟨⟨sv, bf, hbf, hp.trans ha, owns_same ho fun g hg => ?_⟩, ⟨sz, hf.block hM hm⟩, h1⟩, fun k hk => ?_⟩
  · rcases ho.2 with ⟨rfl, _⟩ | ⟨g', cap, cur, rfl, _, hgg, _⟩
    · cases hg
    · injection hg with hg
      subst hg
      exact hf.keep _ (lt_heap hgg) (hn _ (Or.inr (Or.inr ⟨_, _, ha.head 3 _ rfl⟩)))
  · rcases hk with rfl | hk | hk
    · exact Or.inl rfl
    · exact Or.inr (Or.inl (h2 k hk))
    · exact Or.inr (Or.inr ((SF.of_same hp).1 hk))
theorem CP.all {w w' : World} {p m b T : Nat} {cf : Value} {c : ConfV} {s : CSt} {z : Bool} {l : List UInt8} (h : CP w p m b cf s T z l) (hc : Cfg w cf c) (hf : Fr (CPF w p b) (CPF w' p b) w w') :
    Cfg w' cf c ∧ Fr (CAll w p m b cf) (CAll w' p m b cf) w w' := by
  obtain ⟨h1, h2⟩ := hc.same (w' := w') fun k hk => by
    obtain ⟨cs, t, hb, ht⟩ := hc.tagged hk
    refine hf.keep k (lt_heap hb) (h.notin hb ?_ ?_ ?_ ?_) <;> rcases ht with rfl | rfl <;> decide
  refine ⟨h1, hf.os, hf.tape, hf.output, hf.size, fun k hk hn => hf.keep k hk fun x => hn (Or.inl x), fun k hk hx => ?_⟩
  rcases hx with hx | hx | hx
  · exact Or.inl (hf.foot k hk hx)
  · exact Or.inr (Or.inl hx)
  · exact Or.inr (Or.inr (h2 k hx))

theorem CP.mono {w : World} {p m b T T' : Nat} {cf : Value} {s : CSt} {z : Bool} {l : List UInt8} (h : CP w p m b cf s T z l) (hT : T ≤ T') : CP w p m b cf s T' z l := ⟨h.arr, h.mem, h.buf.mono hT⟩
theorem BP.mono {w : World} {p m b T T' : Nat} {cf : Value} {z : Bool} {l : List UInt8} (h : BP w p m b cf T z l) (hT : T ≤ T') : BP w p m b cf T' z l := ⟨h.arr, h.mem, h.buf.mono hT⟩
theorem Buf.tight {w : World} {b T : Nat} {l : List UInt8} (h : Buf w b T true l) : Buf w b l.length true l := by
  rcases h with h | ⟨lr, r, n, c, o, cur, h1, h2, h3, h4, h5, h6, h7, h8, h9⟩
  · exact Or.inl h
  · obtain rfl := h9 rfl
    have hl := congrArg List.length h8
    rw [bcells_length, List.length_drop, List.length_take, Array.length_toList] at hl
    exact Or.inr ⟨lr, r, n, c, 0, cur, h1, h2, h3, h4, h5, h6, by omega, h8, fun _ => rfl⟩
theorem nextC_len (st : CSt) (op : WOp) : (op.nextC st).stack.length ≤ st.stack.length + 1 := by
  cases op <;> simp only [WOp.nextC]
  case structBegin => simp
  case structEnd => rw [List.length_dropLast]; omega
  case fieldBegin => split <;> exact Nat.le_succ _
  case bool => split <;> exact Nat.le_succ _
  all_goals exact Nat.le_succ _
theorem most_pos (op : WOp) : 32 ≤ op.most := by cases op <;> simp only [WOp.most] <;> omega

/-- The state of a writing protocol over a memory buffer: how many bytes its buffer has held, which are unread, the compact protocol's own. -/
abbrev WSt : Type := Nat × List UInt8 × CSt

/-- The compact protocol. -/
def protoC (p m b : Nat) (cf : Value) (c : ConfV) : WProto WSt where
  T := PCP
  recv := .pointer (some ⟨p, 0, none⟩)
  fn n := match n with
    | "WriteMessageBegin" => 203 | "WriteMessageEnd" => 204 | "WriteStructBegin" => 208 | "WriteStructEnd" => 209
    | "WriteFieldBegin" => 193 | "WriteFieldEnd" => 194 | "WriteFieldStop" => 195
    | "WriteMapBegin" => 201 | "WriteMapEnd" => 202 | "WriteListBegin" => 199 | "WriteListEnd" => 200 | "WriteSetBegin" => 205 | "WriteSetEnd" => 206
    | "WriteBool" => 190 | "WriteByte" => 191 | "WriteI16" => 196 | "WriteI32" => 197 | "WriteI64" => 198 | "WriteDouble" => 192
    | "WriteString" => 207 | "WriteBinary" => 189 | "WriteUUID" => 210
    | _ => 0
  I w s := CP w p m b cf s.2.2 s.1 true s.2.1 ∧ Cfg w cf c ∧ s.2.2.ok ∧ s.2.2.stack.length ≤ s.1
  F w k := CAll w p m b cf k
  step s op := (s.1 + op.most, s.2.1 ++ op.comB s.2.2, op.nextC s.2.2)
  good s op := s.1 + op.most ≤ LIM ∧ op.rng ∧ (op = .structEnd → s.2.2.stack ≠ [])

theorem protoC_ok (p m b : Nat) (cf : Value) (c : ConfV) : (protoC p m b cf c).Ok where
  meth op w := by cases op <;> kernel_rfl
  ahead op w := by cases op <;> kernel_rfl
  enter op xs w := by cases op <;> kernel_rfl
  call op w s h hg hfit := by
    obtain ⟨T, l, st⟩ := s
    obtain ⟨hB, hC, hok, hst⟩ := h
    obtain ⟨hl, hr, hse⟩ := hg
    have hok' := hok.next op hr
    dsimp only at hB hC hok hl hse hok' hst
    have hcm := comB_most st hok op hr
    have hst' := nextC_len st op
    have hmp := most_pos op
    have fin : ∀ {e w'}, CW w p m b cf st (op.nextC st) T l (op.comB st) .nilIface e w' → WR (protoC p m b cf c) w ((protoC p m b cf c).step (T, l, st) op) e w' := fun {e w'} hw => by
      obtain ⟨h1, h2⟩ := hB.all hC hw.2.2
      exact ⟨hw.1, ⟨hw.2.1.mono (show T + (op.comB st).length ≤ T + op.most by omega), h1, hok', by show (op.nextC st).stack.length ≤ T + op.most; omega⟩, h2⟩
    have fin0 : ∀ {e w'}, op.comB st = [] → op.nextC st = st → (e = .returned .nilIface ∧ w = w') → WR (protoC p m b cf c) w ((protoC p m b cf c).step (T, l, st) op) e w' := fun {e w'} h0 h1 hw => by
      obtain ⟨rfl, rfl⟩ := hw
      exact fin (by rw [h0, h1]; exact CW.refl hB)
    cases op with
    | msgBegin a t n => exact (C_WriteMessageBegin p m b T cf _ st l a t n w hB (by simpa [WOp.most] using hl)).mono fun _ _ hw => fin hw
    | msgEnd => exact (C_WriteMessageEnd _ _ w).mono fun _ _ hw => fin0 rfl rfl hw
    | structBegin => exact (C_WriteStructBegin p m b T cf _ _ st l w hB (by omega)).mono fun _ _ hw => fin hw
    | structEnd => exact (C_WriteStructEnd p m b T cf _ st l w hB (hse rfl) (by omega)).mono fun _ _ hw => fin hw
    | fieldBegin t i => exact (C_WriteFieldBegin p m b T cf _ ⟨#[]⟩ st l t i w hB hok.1 hr (by simp [WOp.most] at hl; omega)).mono fun _ _ hw => fin hw
    | fieldEnd => exact (C_WriteFieldEnd _ _ w).mono fun _ _ hw => fin0 rfl rfl hw
    | fieldStop => exact (C_WriteFieldStop p m b T cf _ st l w hB (by simp [WOp.most] at hl; omega)).mono fun _ _ hw => fin hw
    | mapBegin k t n => exact (C_WriteMapBegin p m b T cf _ st l k t n hr.1 hr.2 w hB (by simp [WOp.most] at hl; omega)).mono fun _ _ hw => fin hw
    | mapEnd => exact (C_WriteMapEnd _ _ w).mono fun _ _ hw => fin0 rfl rfl hw
    | listBegin t n => exact (C_WriteListBegin p m b T cf _ st l t n hr.1 hr.2 w hB (by simp [WOp.most] at hl; omega)).mono fun _ _ hw => fin hw
    | listEnd => exact (C_WriteListEnd _ _ w).mono fun _ _ hw => fin0 rfl rfl hw
    | setBegin t n => exact (C_WriteSetBegin p m b T cf _ st l t n hr.1 hr.2 w hB (by simp [WOp.most] at hl; omega)).mono fun _ _ hw => fin hw
    | setEnd => exact (C_WriteSetEnd _ _ w).mono fun _ _ hw => fin0 rfl rfl hw
    | bool v => exact (C_WriteBool p m b T cf _ st l v w hB hok.1 hok.2.1 (by simp [WOp.most] at hl; omega)).mono fun _ _ hw => fin hw
    | byte n => exact (C_WriteByte p m b T cf _ st l n w hB (by simp [WOp.most] at hl; omega)).mono fun _ _ hw => fin hw
    | i16 n => exact (C_WriteI16 p m b T cf _ st l n hr.1 hr.2 w hB (by simp [WOp.most] at hl; omega)).mono fun _ _ hw => fin hw
    | i32 n => exact (C_WriteI32 p m b T cf _ st l n hr.1 hr.2 w hB (by simp [WOp.most] at hl; omega)).mono fun _ _ hw => fin hw
    | i64 n => exact (C_WriteI64 p m b T cf _ st l n hr.1 hr.2 w hB (by simp [WOp.most] at hl; omega)).mono fun _ _ hw => fin hw
    | double n => exact (C_WriteDouble p m b T cf _ st l n hr w hB (by simp [WOp.most] at hl; omega)).mono fun _ _ hw => fin hw
    | string a => exact (C_WriteString p m b T cf _ st l a w hB (by simp [WOp.most] at hl; omega)).mono fun _ _ hw => fin hw
    | binary v a =>
      refine (C_WriteBinary p m b T cf _ v st l a w hB (by simp [WOp.most] at hl; omega) hfit.1 fun k hk => ⟨fun hx => hfit.2 k hk (Or.inl hx), ?_⟩).mono fun _ _ hw => fin hw
      rcases hfit.1 with ⟨rfl, _⟩ | ⟨q, n, cc, rfl, hn, _, _, hs⟩
      · exact hk.elim
      · match n, hk with
        | n + 1, hk =>
          obtain ⟨u, hu⟩ : ∃ u, a[0]? = some u := ⟨_, List.getElem?_eq_getElem (by omega)⟩
          have := World.block_lt_of_cell? w _ (hs 0 u hu)
          rw [block_add'] at this
          exact hk ▸ this
    | uuid a => exact (C_WriteUUID p m b T cf _ st l a w hB (by simp [WOp.most] at hl; omega) hfit).mono fun _ _ hw => fin hw
  keep h hf hn := by
    obtain ⟨hB, hC, hok, hst⟩ := h
    obtain ⟨h1, h2⟩ := hB.old hf (hn _ (Or.inr (Or.inl rfl))) fun k hk => hn k (Or.inl hk)
    obtain ⟨h3, h4⟩ := hC.same fun k hk => by
      obtain ⟨cs, t, hb, _⟩ := hC.tagged hk
      exact hf.keep k (lt_heap hb) (hn k (Or.inr (Or.inr hk)))
    refine ⟨⟨h1, h3, hok, hst⟩, fun k hk => ?_⟩
    rcases hk with hk | hk | hk
    · exact Or.inl (h2 k hk)
    · exact Or.inr (Or.inl hk)
    · exact Or.inr (Or.inr (h4 k hk))
  lt h hk := by
    obtain ⟨hB, hC, _, _⟩ := h
    rcases hk with hk | rfl | hk
    · exact CPF.lt hB hk
    · obtain ⟨sz, hm⟩ := hB.mem; exact lt_heap hm
    · obtain ⟨cs, t, hb, _⟩ := hC.tagged hk; exact lt_heap hb

/-- The binary protocol, with a state of the same kind. -/
def protoB' (p m b : Nat) (cf : Value) (c : ConfV) : WProto WSt where
  T := PBP
  recv := .pointer (some ⟨p, 0, none⟩)
  fn := (protoB p m b cf c).fn
  I w s := (protoB p m b cf c).I w (s.1, s.2.1)
  F := (protoB p m b cf c).F
  step s op := (s.1 + op.most, s.2.1 ++ op.binB c.strictW, s.2.2)
  good s op := s.1 + op.most ≤ LIM
theorem protoB'_ok (p m b : Nat) (cf : Value) (c : ConfV) : (protoB' p m b cf c).Ok where
  meth := (protoB_ok p m b cf c).meth
  ahead := (protoB_ok p m b cf c).ahead
  enter := (protoB_ok p m b cf c).enter
  call op w s h hg hfit := by
    have hg : s.1 + op.most ≤ LIM := hg
    have hb := binB_most c.strictW op (fun l hl => by subst hl; exact hfit)
    exact ((protoB_ok p m b cf c).call op w (s.1, s.2.1) h (show s.1 + (op.binB c.strictW).length ≤ LIM by omega) hfit).mono fun e w' hw => ⟨hw.1, ⟨hw.2.1.1.mono (show s.1 + (op.binB c.strictW).length ≤ s.1 + op.most by omega), hw.2.1.2⟩, hw.2.2⟩
  keep h hf hn := (protoB_ok p m b cf c).keep h hf hn
  lt h hk := (protoB_ok p m b cf c).lt h hk

/-- A protocol over a memory buffer, made by a configuration. -/
structure Made (c : ConfV) (P : WProto WSt) (m b : Nat) : Prop where
  ok : P.Ok
  step : ∀ s op, P.step s op = (s.1 + op.most, s.2.1 ++ op.encP c s.2.2, op.nextP c s.2.2)
  good : ∀ s op, s.1 + op.most ≤ LIM → op.rng → (op = .structEnd → c.proto = 1 → s.2.2.stack ≠ []) → P.good s op
  mem : ∀ w s, P.I w s → w.cell? ⟨m, 0, none⟩ = some (.pointer (some ⟨b, 0, none⟩)) ∧ Buf w b s.1 true s.2.1
  foot : ∀ w k, BF w b k → P.F w k
theorem madeB (p m b : Nat) (cf : Value) (c : ConfV) (hc : c.proto ≠ 1) : Made c (protoB' p m b cf c) m b where
  ok := protoB'_ok p m b cf c
  step s op := by simp [WOp.encP, WOp.nextP, hc, protoB']
  good s op h _ _ := h
  mem w s h := ⟨h.1.mem.cell, h.1.buf⟩
  foot w k h := Or.inl (Or.inr h)
theorem madeC (p m b : Nat) (cf : Value) (c : ConfV) (hc : c.proto = 1) : Made c (protoC p m b cf c) m b where
  ok := protoC_ok p m b cf c
  step s op := by simp [WOp.encP, WOp.nextP, hc, protoC]
  good s op h h2 h3 := ⟨h, h2, fun e => h3 e hc⟩
  mem w s h := ⟨h.1.mem.cell, h.1.buf⟩
  foot w k h := Or.inl (Or.inr (Or.inl h))

/-- A protocol of the package's, whichever. -/
def protI (P : WProto WSt) : Value := .iface P.T P.recv
def ProtM (w : World) (m b : Nat) (c : ConfV) (e : Ending) (w' : World) : Prop :=
  ∃ P : WProto WSt, e = .returned (protI P) ∧ Made c P m b ∧ P.I w' (0, [], CSt.new) ∧ Fr (fun k => BF w b k ∨ k = m) (P.F w') w w'
theorem CSt.new_ok : CSt.new.ok := ⟨by decide, by decide, fun x hx => by simp at hx⟩
theorem Prot_any (m b : Nat) (c : ConfV) (w : World) (hm : Mem w m b) (hb : Buf w b 0 true []) : Calls Tryz.prog 54 #[c.val, memI m] w (ProtM w m b c) := by
  by_cases hc : c.proto = 1
  · refine (ProtC_raw m b 0 true [] c w hc hm hb).mono ?_
    rintro e w' ⟨p, cf, rfl, hcf, hP, hF, hp, hcn⟩
    refine ⟨protoC p m b cf c, rfl, madeC p m b cf c hc, ⟨hP, hcf, CSt.new_ok, Nat.le_refl _⟩, hF.os, hF.tape, hF.output, hF.size, fun k hk hn => hF.keep k hk fun x => hn (Or.inl x), fun k hk hx => ?_⟩
    rcases hx with hx | rfl | hx
    · exact Or.inl (hF.foot k hk hx)
    · exact Or.inr rfl
    · have := hcn k hx; omega
  · refine (ProtB_raw m b 0 true [] c w hc hm hb).mono ?_
    rintro e w' ⟨p, cf, rfl, hcf, hP, hF, hp, hcn⟩
    refine ⟨protoB' p m b cf c, rfl, madeB p m b cf c hc, ⟨hP, hcf⟩, hF.os, hF.tape, hF.output, hF.size, fun k hk hn => hF.keep k hk fun x => hn (Or.inl x), fun k hk hx => ?_⟩
    rcases hx with hx | rfl | hx
    · exact Or.inl (hF.foot k hk hx)
    · exact Or.inr rfl
    · have := hcn k hx; omega
end Go.Proofs.YtoikkjefaakchaaGreatDoor
