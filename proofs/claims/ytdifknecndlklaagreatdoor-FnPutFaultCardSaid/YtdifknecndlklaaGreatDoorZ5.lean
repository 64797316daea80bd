/- A protocol that is written to, whatever it is: what the thin package's writing needs of one. impl.uuid. Steps as values. -/
import Derived.Test.YtdifknecndlklaaGreatDoorZ3
import Derived.Test.YtdifknecndlklaaGreatDoorZ4
import Derived.Test.YtdifknecndlklaaGreatDoorZ1
set_option linter.all false
namespace Go.Proofs.YtdifknecndlklaaGreatDoor
open Go Go.RowKit

/-- A call of a protocol's writing methods. -/
inductive WOp
  | msgBegin (name : ByteArray) (t n : Int) | msgEnd | structBegin | structEnd
  | fieldBegin (t id : Int) | fieldEnd | fieldStop
  | mapBegin (k t n : Int) | mapEnd | listBegin (t n : Int) | listEnd | setBegin (t n : Int) | setEnd
  | bool (b : Bool) | byte (n : Int) | i16 (n : Int) | i32 (n : Int) | i64 (n : Int) | double (n : Nat)
  | string (s : ByteArray) | binary (v : Value) (l : List UInt8) | uuid (l : List UInt8)

def WOp.name : WOp → String
  | .msgBegin .. => "WriteMessageBegin" | .msgEnd => "WriteMessageEnd" | .structBegin => "WriteStructBegin" | .structEnd => "WriteStructEnd"
  | .fieldBegin .. => "WriteFieldBegin" | .fieldEnd => "WriteFieldEnd" | .fieldStop => "WriteFieldStop"
  | .mapBegin .. => "WriteMapBegin" | .mapEnd => "WriteMapEnd" | .listBegin .. => "WriteListBegin" | .listEnd => "WriteListEnd" | .setBegin .. => "WriteSetBegin" | .setEnd => "WriteSetEnd"
  | .bool _ => "WriteBool" | .byte _ => "WriteByte" | .i16 _ => "WriteI16" | .i32 _ => "WriteI32" | .i64 _ => "WriteI64" | .double _ => "WriteDouble"
  | .string _ => "WriteString" | .binary .. => "WriteBinary" | .uuid _ => "WriteUUID"

/-- What is handed over behind the receiver and the context. -/
def WOp.args (r : Value) : WOp → Array Value
  | .msgBegin s t n => #[r, ctxW, .string s, .int .i32 t, .int .i32 n]
  | .structBegin => #[r, ctxW, .string ⟨#[]⟩]
  | .fieldBegin t i => #[r, ctxW, .string ⟨#[]⟩, .int .u8 t, .int .i16 i]
  | .mapBegin k t n => #[r, ctxW, .int .u8 k, .int .u8 t, .int .i64 n]
  | .listBegin t n => #[r, ctxW, .int .u8 t, .int .i64 n]
  | .setBegin t n => #[r, ctxW, .int .u8 t, .int .i64 n]
  | .bool b => #[r, ctxW, .bool b] | .byte n => #[r, ctxW, .int .i8 n] | .i16 n => #[r, ctxW, .int .i16 n] | .i32 n => #[r, ctxW, .int .i32 n] | .i64 n => #[r, ctxW, .int .i64 n]
  | .double n => #[r, ctxW, .float .f64 n] | .string s => #[r, ctxW, .string s] | .binary v _ => #[r, ctxW, v] | .uuid l => #[r, ctxW, uuidV l]
  | .msgEnd | .structEnd | .fieldEnd | .fieldStop | .mapEnd | .listEnd | .setEnd => #[r, ctxW]
where ctxW : Value := .iface 221 (.agg #[])

/-- What must stand ahead of a call: the bytes that are handed over lie where none of the protocol's do. -/
def WOp.fits (w : World) (F : Nat → Prop) : WOp → Prop
  | .binary v l => Rd w v l ∧ ∀ k, vblk v k → ¬ F k
  | .uuid l => l.length = 16
  | .msgBegin s _ _ | .string s => s.size ≤ maxLen
  | _ => True

/-- A protocol in a state S: its type, its receiver, the functions of its methods, what stands, its blocks, how a call turns its state, and which calls are taken. -/
structure WProto (S : Type) where
  T : TypeId
  recv : Value
  fn : String → FuncId
  I : World → S → Prop
  F : World → Nat → Prop
  step : S → WOp → S
  good : S → WOp → Prop

/-- What a writing call leaves. -/
def WR {S : Type} (P : WProto S) (w : World) (s' : S) (e : Ending) (w' : World) : Prop := e = .returned .nilIface ∧ P.I w' s' ∧ Fr (P.F w) (P.F w') w w'

structure WProto.Ok {S : Type} (P : WProto S) : Prop where
  meth : ∀ (op : WOp) w, (method 498 P.T P.recv op.name).run Tryz.prog w = .ok (P.fn op.name, P.recv) w
  ahead : ∀ (op : WOp) w, (nilAhead 498 P.T P.recv op.name).run Tryz.prog w = .ok (some false) w
  enter : ∀ (op : WOp) (xs : Array Value) w, (callFunc (P.fn op.name) xs).run Tryz.prog w = .ok (.enter (P.fn op.name) xs) w
  call : ∀ (op : WOp) w s, P.I w s → P.good s op → op.fits w (P.F w) → Calls Tryz.prog (P.fn op.name) (op.args P.recv) w (WR P w (P.step s op))
  keep : ∀ {w w' s G G'}, P.I w s → Fr G G' w w' → (∀ k, P.F w k → ¬ G k) → P.I w' s ∧ (∀ k, P.F w' k → P.F w k)
  lt : ∀ {w s k}, P.I w s → P.F w k → k < w.heap.size

theorem WProto.Ok.quiet {S : Type} {P : WProto S} (hP : P.Ok) {w w' : World} {s : S} (h : P.I w s) (hf : Fr noF noF w w') : P.I w' s ∧ (∀ k, P.F w' k → P.F w k) ∧ Fr (P.F w) (P.F w') w w' := by
  obtain ⟨h1, h2⟩ := hP.keep h hf fun _ _ x => x
  exact ⟨h1, h2, hf.os, hf.tape, hf.output, hf.size, fun k hk _ => hf.keep k hk (fun x => x), fun k _ hk => h2 k hk⟩

/-- A call made while something new lies beside. -/
theorem WProto.Ok.beside {S : Type} {P : WProto S} (hP : P.Ok) {w W : World} {s : S} (op : WOp) (h : P.I w s) (hf : Fr noF noF w W) (hg : P.good s op) (hfit : op.fits W (P.F W)) :
    Calls Tryz.prog (P.fn op.name) (op.args P.recv) W (fun e w' => e = .returned .nilIface ∧ WR P w (P.step s op) e w' ∧ (∀ k o, w.heap.size ≤ k → W.heap[k]? = some o → w'.heap[k]? = some o)) := by
  obtain ⟨h1, h2, h3⟩ := hP.quiet h hf
  refine (hP.call op W s h1 hg hfit).mono ?_
  rintro e w' ⟨rfl, hI, hF⟩
  exact ⟨rfl, ⟨rfl, hI, h3.trans hF⟩, fun k o hk ho => hF.block ho fun hx => by have := hP.lt h (h2 k hx); omega⟩
end Go.Proofs.YtdifknecndlklaaGreatDoor
namespace Go.Proofs.YtdifknecndlklaaGreatDoor
open Go Go.RowKit Go.Lib
set_option maxHeartbeats 2000000
set_option maxRecDepth 100000

/-- What stands when the array has been laid. -/
theorem laid_agg {w w1 : World} {cs : Array Value} (hf : Fr noF noF w w1) (hc : cs.size = 16) :
    let W := w1.alloc (.cells zL.toArray TU (0, 0))
    W.there w1.heap.size 0 cs.size ∧ (W.setCells w1.heap.size 0 cs.toList).rangeAt w1.heap.size 0 cs.toList ∧ Fr noF noF w (W.setCells w1.heap.size 0 cs.toList) := by
  intro W
  have hb : W.heap[w1.heap.size]? = some (.cells zL.toArray TU (0, 0)) := alloc_new w1 _
  have ht : W.there w1.heap.size 0 cs.size := there_of hb (by rw [hc]; exact Nat.le_refl _)
  exact ⟨ht, World.rangeAt_setCells_same W _ 0 cs.toList (by simpa using ht), fr_cells (hf.alloc _) hf.size hb _ _⟩
theorem rd_range {w : World} {b : Nat} {d : List UInt8} (h : w.rangeAt b 0 (Lib.byteCells d)) (hd : d.length = 16) : Rd w (.slice (some ⟨b, 0, none⟩) 16 16) d :=
  Or.inr ⟨_, 16, 16, rfl, hd, Nat.le_refl _, by decide, fun j u hj => by
    rw [Lib.addr_add]
    exact h j _ (by simp [Lib.byteCells, hj])⟩

theorem res_cell1 {fn : Func} {p : Tmp} {ty : TypeId} (h : fn.results = #[.cell p ty]) (tmps : Array Value) (w : World) (b : Nat) (cs : Array Value) (hp : tmps.getD p undef = .pointer (some ⟨b, 0, none⟩))
    (hv : (loadVar ty ⟨b, 0, none⟩).run Tryz.prog w = .ok (.agg cs) w) : (results fn tmps).run Tryz.prog w = .ok (.agg cs) w := by
  rw [Array.getD_eq_getD_getElem?] at hp
  unfold results
  simp [h, hp, asAddr, hv, Result.andThen]

/-- impl.uuid: sixteen bytes of some. -/
theorem I_uuid (v : Value) (l : List UInt8) (w : World) (h : Rd w v l) : Calls Tryz.prog 69 #[v] w fun e w' => e = .returned (.agg (Lib.byteCells (pad16 l)).toArray) ∧ Fr noF noF w w' := by
  -- the array that is copied into: block w.heap.size + 1; the result's: block w.heap.size
  have hb0 := new2 w (.cells zL.toArray TU (0, 0)) (.cells zL.toArray TU (0, 0))
  obtain ⟨W, hW⟩ : ∃ W, W = (w.alloc (.cells zL.toArray TU (0, 0))).alloc (.cells zL.toArray TU (0, 0)) := ⟨_, rfl⟩
  have hfr : Fr noF noF w W := by rw [hW]; exact ((Fr.refl noF w).alloc _).alloc _
  have hcopy : ∃ Z W', (Builtin.copy_ #[24, 24] 3 #[.slice (some ⟨w.heap.size + 1, 0, none⟩) 16 16, v]).run Tryz.prog W = .ok Z W' ∧
      W'.heap[w.heap.size + 1]? = some (.cells (Lib.byteCells (pad16 l)).toArray TU (0, 0)) ∧ W'.heap[w.heap.size]? = some (.cells zL.toArray TU (0, 0)) ∧ Fr noF noF w W' := by
    rw [← hW] at hb0
    rcases h.keep (F := noF) hfr fun _ _ x => x with ⟨rfl, rfl⟩ | ⟨a, n, c, rfl, hn, hc, hm, hs⟩
    · exact ⟨_, W, run_copy_none W 24 24 3 5 _ none 16 16 0 0 Tryz.underlying24 hinfo rfl, hb0.2, hb0.1, hfr⟩
    · have hl : (Lib.byteCells (l.take 16)).length = Nat.min n 16 := by
        rw [bcells_length, List.length_take, hn]
        exact Nat.min_comm _ _
      have hcp := run_copy_row (P := Tryz.prog) W 24 24 3 5 (w.heap.size + 1) 0 16 16 a n c zL.toArray TU (Lib.byteCells (l.take 16)) Tryz.underlying24 hinfo hb0.2 hl
        (fun j u hj => by
          obtain ⟨x, h1, rfl⟩ := bcells_get hj
          exact hs j x (by rw [List.getElem?_take] at h1; split at h1; exact h1; cases h1))
        (by rw [hl]; show 0 + min n 16 ≤ 16; omega) (Lib.byteCells_one _)
      refine ⟨_, _, hcp, ?_, setRow_ne hb0.1 (by omega) _, hfr.setRow (Or.inr (by omega)) _⟩
      have hr := setRow_heap W (w.heap.size + 1) _ (zL.toArray.toList.take 0 ++ Lib.byteCells (l.take 16) ++ zL.toArray.toList.drop (0 + (Lib.byteCells (l.take 16)).length)).toArray _ _ hb0.2
      rw [hr]
      congr 2
      apply Array.ext'
      simp only [List.toList_toArray, List.take_zero, List.nil_append, pad16, bcells_append, bcells_length, Nat.zero_add]
      congr 1
      rw [List.length_take]
      have hz : zL = List.replicate 16 (Value.int .u8 0) := rfl
      rw [hz, List.drop_replicate, show 16 - min 16 l.length = 16 - l.length by omega]
      simp [Lib.byteCells]
  obtain ⟨Z, W', hcp, e1, e2, e3⟩ := hcopy
  obtain ⟨a, n, c, rfl, hn⟩ := h.len
  have hl16 : (Lib.byteCells (pad16 l)).length = 16 := by rw [bcells_length, pad16_len]
  have ho : (Lib.byteCells (pad16 l)).toArray.all (·.oneCell') = true := all_oneCell_toArray fun v hv => by simp only [Lib.byteCells, List.mem_map] at hv; obtain ⟨x, _, rfl⟩ := hv; rfl
  have hld : (loadVar TU ⟨w.heap.size, 0, none⟩).run Tryz.prog (W'.setCells w.heap.size 0 (Lib.byteCells (pad16 l))) = .ok (.agg (Lib.byteCells (pad16 l)).toArray) (W'.setCells w.heap.size 0 (Lib.byteCells (pad16 l))) := load_cells e2 rfl hl16
  have HR := Lib.hid (And.intro (range_of e1) (And.intro (show (Tryz.prog.info? TU).map (·.size) = some (Lib.byteCells (pad16 l)).length by rw [info_TU, hl16]) (And.intro (there_of (n := (Lib.byteCells (pad16 l)).toArray.size) e2 (by simp [hl16])) (And.intro (show (Tryz.prog.info? TU).map (·.size) = some (Lib.byteCells (pad16 l)).toArray.size by rw [info_TU]; simp [hl16]) ho))))
  have HX := Lib.hid (And.intro hld (fr_cells e3 (Nat.le_refl _) e2 (Lib.byteCells (pad16 l)) 0))
  have u1 := Tryz.underlying182
  rw [hW] at hcp
  clear e1 e2 e3 ho hld h hn hl16 hb0 hfr hW
  go_enter Tryz.func69, Tryz.ntmps69
  go_wp2_with (first | (refine wpList_load_mid rfl TU _ rfl (w.heap.size + 1) 0 rfl (Lib.byteCells (pad16 l)) _ HR.out.1 u1 rfl HR.out.2.1 ?_) | (refine wpList_store_mid rfl TU _ _ rfl w.heap.size 0 (Lib.byteCells (pad16 l)).toArray rfl rfl HR.out.2.2.1 HR.out.2.2.2.1 HR.out.2.2.2.2 ?_))
  exact bodyPost_ret (res_cell1 rfl _ _ w.heap.size (Lib.byteCells (pad16 l)).toArray rfl HX.out.1) rfl ⟨rfl, HX.out.2⟩

end Go.Proofs.YtdifknecndlklaaGreatDoor
namespace Go.Proofs.YtdifknecndlklaaGreatDoor
open Go Go.RowKit
/-- A step's cells. -/
abbrev stepA (op t k sz id n : Int) (v : Value) : Array Value := #[.int .i64 op, .int .i64 t, .int .i64 k, .int .i64 sz, .int .i64 id, .int .i64 n, v]
/-- The bytes of a slice as a string. -/
abbrev strOf (l : List UInt8) : ByteArray := ⟨l.toArray⟩
end Go.Proofs.YtdifknecndlklaaGreatDoor
