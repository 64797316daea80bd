/- A protocol that is read from, whatever it is: what the thin package's reading needs of one. -/
import Derived.Test.YtkfkieebcahiiaaGreatDoorZ3
import Derived.Test.YtkfkieebcahiiaaGreatDoorZ5
import Derived.Test.YtkfkieebcahiiaaGreatDoorZ1
set_option linter.all false
namespace Go.Proofs.YtkfkieebcahiiaaGreatDoor
open Go Go.RowKit

/-- A call of a protocol's reading methods. -/
inductive ROp
  | msgBegin | msgEnd | structBegin | structEnd | fieldBegin | fieldEnd | mapBegin | mapEnd | listBegin | listEnd | setBegin | setEnd
  | bool | byte | i16 | i32 | i64 | double | string | binary | uuid

def ROp.name : ROp → String
  | .msgBegin => "ReadMessageBegin" | .msgEnd => "ReadMessageEnd" | .structBegin => "ReadStructBegin" | .structEnd => "ReadStructEnd"
  | .fieldBegin => "ReadFieldBegin" | .fieldEnd => "ReadFieldEnd" | .mapBegin => "ReadMapBegin" | .mapEnd => "ReadMapEnd"
  | .listBegin => "ReadListBegin" | .listEnd => "ReadListEnd" | .setBegin => "ReadSetBegin" | .setEnd => "ReadSetEnd"
  | .bool => "ReadBool" | .byte => "ReadByte" | .i16 => "ReadI16" | .i32 => "ReadI32" | .i64 => "ReadI64" | .double => "ReadDouble"
  | .string => "ReadString" | .binary => "ReadBinary" | .uuid => "ReadUUID"

/-- What is read: types, a size, an id, a number, a bool, a double's bits, bytes. -/
structure RVal where
  t : Int := 0
  k : Int := 0
  sz : Int := 0
  id : Int := 0
  n : Int := 0
  b : Bool := false
  f : Nat := 0
  s : List UInt8 := []

/-- What a method returns, with the slice v and the error ev. -/
def ROp.ret (x : RVal) (v ev : Value) : ROp → Value
  | .msgBegin => .tuple #[.string ⟨x.s.toArray⟩, .int .i32 x.t, .int .i32 x.n, ev]
  | .structBegin => .tuple #[.string ⟨x.s.toArray⟩, ev]
  | .fieldBegin => .tuple #[.string ⟨x.s.toArray⟩, .int .u8 x.t, .int .i16 x.id, ev]
  | .mapBegin => .tuple #[.int .u8 x.k, .int .u8 x.t, .int .i64 x.sz, ev]
  | .listBegin => .tuple #[.int .u8 x.t, .int .i64 x.sz, ev]
  | .setBegin => .tuple #[.int .u8 x.t, .int .i64 x.sz, ev]
  | .bool => .tuple #[.bool x.b, ev]
  | .byte => .tuple #[.int .i8 x.n, ev]
  | .i16 => .tuple #[.int .i16 x.n, ev]
  | .i32 => .tuple #[.int .i32 x.n, ev]
  | .i64 => .tuple #[.int .i64 x.n, ev]
  | .double => .tuple #[.float .f64 x.f, ev]
  | .string => .tuple #[.string ⟨x.s.toArray⟩, ev]
  | .binary => .tuple #[v, ev]
  | .uuid => .tuple #[uuidV x.s, ev]
  | _ => ev
/-- .. and what is known of the slice, and of a uuid. -/
def ROp.fits (w : World) (x : RVal) (v : Value) : ROp → Prop
  | .binary => Rd w v x.s
  | .uuid => x.s.length = 16
  | _ => True

abbrev PPE : TypeId := 286
abbrev TPE : TypeId := 289
/-- An error of a kind. -/
def ErrV (w : World) (ev : Value) (k : Int) : Prop :=
  (ev = .nilIface ∧ k = 0) ∨
  (∃ b t er ms, ev = .iface PPE (.pointer (some ⟨b, 0, none⟩)) ∧ w.heap[b]? = some (.cells #[.int .i64 t, er, .string ms] TPE (0, 0)) ∧ k = 10 + t ∧ 0 ≤ t ∧ t ≤ 6)
theorem ErrV.nil (w : World) : ErrV w .nilIface 0 := Or.inl ⟨rfl, rfl⟩
theorem ErrV.zero {w : World} {ev : Value} (h : ErrV w ev 0) : ev = .nilIface := by
  rcases h with ⟨h, _⟩ | ⟨b, t, er, ms, _, _, hk, h0, h6⟩
  · exact h
  · omega
theorem ErrV.keep {w w' : World} {ev : Value} {k : Int} {F F' : Nat → Prop} (h : ErrV w ev k) (hf : Fr F F' w w') (hn : ∀ b cs, w.heap[b]? = some (.cells cs TPE (0, 0)) → ¬ F b) : ErrV w' ev k := by
  rcases h with h | ⟨b, t, er, ms, h1, h2, h3⟩
  · exact Or.inl h
  · exact Or.inr ⟨b, t, er, ms, h1, hf.block h2 (hn b _ h2), h3⟩
theorem ErrV.iface {w : World} {ev : Value} {k : Int} (h : ErrV w ev k) : ev = .nilIface ∨ ∃ b, ev = .iface PPE (.pointer (some ⟨b, 0, none⟩)) := by
  rcases h with h | ⟨b, t, er, ms, h1, _⟩
  · exact Or.inl h.1
  · exact Or.inr ⟨b, h1⟩

/-- A protocol in a state S: what a call tells (the kind of its error, what is read, the state behind), where it is known. -/
structure RProto (S : Type) where
  T : TypeId
  recv : Value
  fn : String → FuncId
  I : World → S → Prop
  F : World → Nat → Prop
  next : S → ROp → Option (Int × RVal × S)

/-- What a reading call has told, and what stands. -/
structure RX {S : Type} (P : RProto S) (w : World) (r : Int × RVal × S) (op : ROp) (x : RVal) (v ev : Value) (s' : S) (w' : World) : Prop where
  val : r.1 = 0 → x = r.2.1 ∧ s' = r.2.2
  err : ErrV w' ev r.1
  I : P.I w' s'
  fr : Fr (P.F w) (P.F w') w w'
  len : x.s.length ≤ 1000000000
  fits : op.fits w' x v

structure RProto.Ok {S : Type} (P : RProto S) : Prop where
  meth : ∀ (op : ROp) w, (method 512 P.T P.recv op.name).run Tryz.prog w = .ok (P.fn op.name, P.recv) w
  ahead : ∀ (op : ROp) w, (nilAhead 512 P.T P.recv op.name).run Tryz.prog w = .ok (some false) w
  enter : ∀ (op : ROp) (xs : Array Value) w, (callFunc (P.fn op.name) xs).run Tryz.prog w = .ok (.enter (P.fn op.name) xs) w
  call : ∀ (op : ROp) w s r, P.I w s → P.next s op = some r → Calls Tryz.prog (P.fn op.name) #[P.recv, ctxV] w (fun e w' => ∃ x v ev s', e = .returned (op.ret x v ev) ∧ RX P w r op x v ev s' w')
  keep : ∀ {w w' s G G'}, P.I w s → Fr G G' w w' → (∀ k, P.F w k → ¬ G k) → P.I w' s ∧ (∀ k, P.F w' k → P.F w k)
  lt : ∀ {w s k}, P.I w s → P.F w k → k < w.heap.size

theorem RProto.Ok.quiet {S : Type} {P : RProto S} (hP : P.Ok) {w w' : World} {s : S} (h : P.I w s) (hf : Fr noF noF w w') : P.I w' s ∧ (∀ k, P.F w' k → P.F w k) ∧ Fr (P.F w) (P.F w') w w' := by
  obtain ⟨h1, h2⟩ := hP.keep h hf fun _ _ x => x
  exact ⟨h1, h2, hf.os, hf.tape, hf.output, hf.size, fun k hk _ => hf.keep k hk (fun x => x), fun k _ hk => h2 k hk⟩

/-- A call made while something new lies beside. -/
theorem RProto.Ok.beside {S : Type} {P : RProto S} (hP : P.Ok) {w W : World} {s : S} {r : Int × RVal × S} (op : ROp) (h : P.I w s) (hf : Fr noF noF w W) (hr : P.next s op = some r) :
    Calls Tryz.prog (P.fn op.name) #[P.recv, ctxV] W (fun e w' => ∃ x v ev s', e = .returned (op.ret x v ev) ∧ RX P w r op x v ev s' w' ∧ (∀ k, w.heap.size ≤ k → k < W.heap.size → ¬ P.F w' k) ∧ (∀ k o, w.heap.size ≤ k → W.heap[k]? = some o → w'.heap[k]? = some o)) := by
  obtain ⟨h1, h2, h3⟩ := hP.quiet h hf
  refine (hP.call op W s r h1 hr).mono ?_
  rintro e w' ⟨x, v, ev, s', he, hx⟩
  exact ⟨x, v, ev, s', he, ⟨hx.val, hx.err, hx.I, h3.trans hx.fr, hx.len, hx.fits⟩, fun k hk hl hF => by have := hP.lt h (h2 k (hx.fr.foot k hl hF)); omega, fun k o hk ho => hx.fr.block ho fun hF => by have := hP.lt h (h2 k hF); omega⟩

/-- What the thin package has read: the cells of a Got, its bytes, the error. -/
def GR {S : Type} (P : RProto S) (w : World) (r : Int × RVal × S) (cells : RVal → Value → Array Value) (bytes : RVal → List UInt8) (e : Ending) (w' : World) : Prop :=
  ∃ x vS ev s', (r.1 = 0 → x = r.2.1 ∧ s' = r.2.2) ∧ e = .returned (.tuple #[.agg (cells x vS), ev]) ∧ ErrV w' ev r.1 ∧ P.I w' s' ∧ Fr (P.F w) (P.F w') w w' ∧ Rd w' vS (bytes x) ∧ (∀ j, vblk vS j → w.heap.size ≤ j ∧ ¬ P.F w' j)

theorem noF_fr {w w' : World} {G : Nat → Prop} (hf : Fr G G w w') (h : ∀ k, k < w.heap.size → ¬ G k) : Fr noF noF w w' :=
  ⟨hf.os, hf.tape, hf.output, hf.size, fun k hk _ => hf.keep k hk (h k hk), fun _ _ x => x⟩

/-- Bytes of a text, in new memory. -/
theorem conv_ex (w : World) (s : List UInt8) (hs : s.length ≤ maxLen) : ∃ a n c X, (convert 9 24 (.string ⟨s.toArray⟩)).run Tryz.prog w = .ok (.slice a n c) X ∧ Rd X (.slice a n c) s ∧ (∀ k, vblk (.slice a n c) k → k = w.heap.size) ∧ Fr noF noF w X := by
  have h1 := run_conv ⟨s.toArray⟩ w
  have h2 := conv_rd w ⟨s.toArray⟩ (by simpa [ByteArray.size] using hs)
  obtain ⟨a, n, c, hv, hn⟩ := h2.len
  rw [hv] at h1 h2
  refine ⟨a, n, c, _, h1, h2, fun k hk => conv_blk (hv ▸ hk), conv_fr (Fr.refl noF w) _⟩

/-- The cells of a new Got. -/
abbrev gotZ : Array Value := #[.int .i64 0, .int .i64 0, .int .i64 0, .int .i64 0, .int .i64 0, .int .i64 0, .slice none 0 0]
abbrev TGot : TypeId := 71
/-- Boxes of the call's own are written behind a call. -/
theorem RX.after {S : Type} {P : RProto S} (hP : P.Ok) {w w2 Z : World} {r : Int × RVal × S} {op : ROp} {x : RVal} {v ev : Value} {s' : S} {G : Nat → Prop} (hx : RX P w r op x v ev s' w2) (hf : Fr G G w2 Z)
    (hG : ∀ k, G k → w.heap.size ≤ k ∧ ¬ P.F w2 k ∧ ∀ cs, w2.heap[k]? ≠ some (.cells cs TPE (0, 0))) : ErrV Z ev r.1 ∧ P.I Z s' ∧ Fr (P.F w) (P.F Z) w Z ∧ (∀ k, P.F Z k → P.F w2 k) := by
  obtain ⟨h3, h4⟩ := hP.keep hx.I hf fun k hk hg => (hG k hg).2.1 hk
  refine ⟨hx.err.keep hf fun b cs hb hg => (hG b hg).2.2 cs hb, h3, ?_, h4⟩
  have e := hx.fr
  refine ⟨hf.os.trans e.os, hf.tape.trans e.tape, hf.output.trans e.output, Nat.le_trans e.size hf.size, fun k hk hn' => (hf.keep k (Nat.lt_of_lt_of_le hk e.size) fun hg => ?_).trans (e.keep k hk hn'), fun k hk hx => e.foot k hk (h4 k hx)⟩
  have := (hG k hg).1
  omega
theorem Fr.wide {G : Nat → Prop} {w w' : World} (h : Fr noF noF w w') : Fr G G w w' := ⟨h.os, h.tape, h.output, h.size, fun k hk _ => h.keep k hk fun x => x, fun _ _ x => x⟩
theorem tag_got {w : World} {k : Nat} {a : Array Value} (h : w.heap[k]? = some (.cells a TGot (0, 0))) : ∀ cs, w.heap[k]? ≠ some (.cells cs TPE (0, 0)) := fun cs e => by
  rw [h] at e; injection e with e; injection e with _ e _; revert e; decide
theorem new3g (w : World) (o0 o1 o2 : Obj) : (((w.alloc o0).alloc o1).alloc o2).heap[w.heap.size + 1]? = some o1 ∧ (((w.alloc o0).alloc o1).alloc o2).heap[w.heap.size + 2]? = some o2 := by
  have h2 := alloc_new (w.alloc o0) o1
  have h3 := alloc_new ((w.alloc o0).alloc o1) o2
  simp only [size_alloc] at h2 h3
  exact ⟨alloc_at h2, h3⟩
/-- Fresh bytes beside a protocol's blocks. -/
theorem RX.fresh {S : Type} {P : RProto S} (hP : P.Ok) {w w2 Z : World} {r : Int × RVal × S} {op : ROp} {x : RVal} {v ev vS : Value} {s' : S} (hx : RX P w r op x v ev s' w2) (hZ : ∀ k, P.F Z k → P.F w2 k) (hv : ∀ k, vblk vS k → w2.heap.size ≤ k) : ∀ j, vblk vS j → w.heap.size ≤ j ∧ ¬ P.F Z j := fun j hj => by
  have h1 := hv j hj
  have h2 := hx.fr.size
  exact ⟨by omega, fun hk => by have := hP.lt hx.I (hZ j hk); omega⟩
end Go.Proofs.YtkfkieebcahiiaaGreatDoor
