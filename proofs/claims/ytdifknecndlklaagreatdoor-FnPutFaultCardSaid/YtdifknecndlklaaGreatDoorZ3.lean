/- New memory buffers, new protocols over them. Numbers put by the thin package: what known() needs. The thin package puts: a new buffer, a protocol, the value, the bytes. bytes.Buffer: reading. Reads of whole pieces: io.ReadAtLeast, io.ReadFull over a memory buffer that holds enough. Numbers read of an array's head. The thin package gets: what known() needs. The thin package gets a number: what known() needs. The thin package: bytes handed to a buffer, a number got. The laws' comparison of bytes. known(): what every law asks besides. -/
import Derived.Stop.Asserts
import Derived.Deep.RegionHeld3
import Derived.BigQuiet
import Derived.Laws.CopyRow
import Derived.Lib.Endian
import Derived.Lib.EndianBits
import Derived.Laws.ResultCell
import Derived.Test.YtdifknecndlklaaGreatDoorZ2
set_option linter.all false
namespace Go.Proofs.YtdifknecndlklaaGreatDoor
open Go Go.RowKit
set_option maxHeartbeats 1000000
set_option maxRecDepth 100000

/-- A new memory buffer. -/
def NewM (w : World) (e : Ending) (w' : World) : Prop := ∃ m b, e = .returned (.pointer (some ⟨m, 0, none⟩)) ∧ Mem w' m b ∧ Buf w' b 0 true [] ∧ Fr noF (BF w' b) w w' ∧ w.heap.size ≤ m

theorem new2 (w : World) (o0 o1 : Obj) : ((w.alloc o0).alloc o1).heap[w.heap.size]? = some o0 ∧ ((w.alloc o0).alloc o1).heap[w.heap.size + 1]? = some o1 := by
  have h1 := alloc_new (w.alloc o0) o1
  simp only [size_alloc] at h1
  exact ⟨alloc_at (alloc_new w o0), h1⟩

theorem NewTMemoryBuffer_raw (w : World) : Calls Tryz.prog 36 #[] w (NewM w) := by
  go_enter Tryz.func36, Tryz.ntmps36
  go_wp2
  go_ret
  obtain ⟨h1, h2⟩ := new2 w (.cells #[.slice none 0 0, .int .i64 0, .int .i8 0] TB (0, 0)) (.cells #[.pointer (some ⟨w.heap.size, 0, none⟩), .int .i64 0] TM (0, 0))
  refine ⟨_, w.heap.size, rfl, ⟨0, h2⟩, Or.inl ⟨rfl, 0, h1⟩, (((Fr.refl noF w).alloc _).alloc _).conv fun k hk hx => ?_, by omega⟩
  rcases hx with rfl | ⟨n, c, x, y, hx⟩
  · exact absurd hk (by omega)
  · rw [h1] at hx
    simp at hx

theorem I_ctx (w : World) : Calls Tryz.prog 38 #[] w fun e w' => e = .returned (.iface 221 (.agg #[])) ∧ w = w' := by
  have hB : Calls Tryz.prog 59 #[] w fun e w' => e = .returned (.iface 221 (.agg #[])) ∧ w = w' := by
    go_enter Tryz.func59, Tryz.ntmps59
    go_wp2
    go_ret
    exact ⟨rfl, rfl⟩
  have H := Lib.hid hB
  clear hB
  go_enter Tryz.func38, Tryz.ntmps38
  go_wp2_with (go_at_call 59; refine H.out.mono ?_; rintro e w' ⟨rfl, rfl⟩)
  go_ret
  exact ⟨rfl, rfl⟩

theorem noSetter (v : Value) (xT : TypeId) (w : World) : (Instr.typeAssert (.iface PM v) xT 255 true).run Tryz.prog w = .ok (.tuple #[.nilIface, .bool false]) w :=
  run_typeAssert_lacksB Tryz.underlying255 (by kernel_rfl) (by kernel_rfl) v xT w
theorem isRich (v : Value) (xT : TypeId) (w : World) : (Instr.typeAssert (.iface PM v) xT 224 true).run Tryz.prog w = .ok (.tuple #[.iface PM v, .bool true]) w :=
  run_typeAssert_hasB Tryz.underlying224 (by kernel_rfl) v xT w

theorem Propagate (m : Nat) (cf : Value) (c : ConfV) (w : World) (h : Cfg w cf c) : Calls Tryz.prog 80 #[memI m, cf] w fun e w' => e = .returned (.tuple #[]) ∧ w = w' := by
  rcases h with ⟨_, rfl⟩ | ⟨_, k, r, s, rfl, h2, h3, h4⟩
  · go_enter Tryz.func80, Tryz.ntmps80
    go_wp2
    refine bodyPost_ret (results_none rfl _ _ _) rfl ?_
    exact ⟨rfl, rfl⟩
  · have c0 := cell_at h2 5
    simp at c0
    have hs := noSetter
    clear h2 h3 h4
    go_enter Tryz.func80, Tryz.ntmps80
    go_wp2
    go_end0
    exact ⟨rfl, rfl⟩

def NewB (w : World) (m b : Nat) (cf : Value) (T : Nat) (z : Bool) (l : List UInt8) (e : Ending) (w' : World) : Prop :=
  ∃ p, e = .returned (.pointer (some ⟨p, 0, none⟩)) ∧ BP w' p m b cf T z l ∧ Fr (BF w b) (BPF w' p b) w w' ∧ w.heap.size ≤ p
def NewC (w : World) (m b : Nat) (cf : Value) (T : Nat) (z : Bool) (l : List UInt8) (e : Ending) (w' : World) : Prop :=
  ∃ p, e = .returned (.pointer (some ⟨p, 0, none⟩)) ∧ CP w' p m b cf ⟨[], 0, false, 0, .empty, false, false⟩ T z l ∧ Fr (BF w b) (CPF w' p b) w w' ∧ w.heap.size ≤ p

theorem Cfg.ptr {w : World} {cf : Value} {c : ConfV} (h : Cfg w cf c) : ∃ q, cf = .pointer q := by
  rcases h with ⟨_, rfl⟩ | ⟨_, k, r, s, rfl, _⟩
  · exact ⟨_, rfl⟩
  · exact ⟨_, rfl⟩

theorem NewB_raw (m b T : Nat) (z : Bool) (l : List UInt8) (cf : Value) (c : ConfV) (w : World) (h : Cfg w cf c) (hm : Mem w m b) (hb : Buf w b T z l) : Calls Tryz.prog 62 #[memI m, cf] w (NewB w m b cf T z l) := by
  have hp := Propagate m cf c w h
  obtain ⟨q, rfl⟩ := h.ptr
  have hs := isRich
  have hfin : NewB w m b (.pointer q) T z l (.returned (.pointer (some ⟨w.heap.size, 0, none⟩))) (w.alloc (.cells ([memI m, memI m, .pointer q] ++ Lib.byteCells (List.replicate 64 0)).toArray TBP (0, 0))) := by
    have hf : Fr (BF w b) (BF w b) w (w.alloc (.cells ([memI m, memI m, .pointer q] ++ Lib.byteCells (List.replicate 64 0)).toArray TBP (0, 0))) := (Fr.refl _ w).alloc _
    have hbb := Below.heap_alloc w (.cells ([memI m, memI m, .pointer q] ++ Lib.byteCells (List.replicate 64 0)).toArray TBP (0, 0)) b hb.lt
    obtain ⟨sz, hm⟩ := hm
    refine ⟨_, rfl, ⟨⟨List.replicate 64 0, rfl, alloc_new w _⟩, ⟨sz, alloc_at hm⟩, hb.same fun k hk => Below.heap_alloc w _ k (hb.foot_lt hk)⟩, hf.conv fun k hk hx => ?_, Nat.le_refl _⟩
    rcases hx with rfl | hx
    · exact absurd hk (Nat.lt_irrefl _)
    · exact (BF.of_same hbb).1 hx
  have H := Lib.hid hp
  have HF := Lib.hid hfin
  clear hp h hm hb hfin
  go_enter Tryz.func62, Tryz.ntmps62
  go_wp2_with (go_at_call 80; refine H.out.mono ?_; rintro e w' ⟨rfl, rfl⟩)
  go_ret
  exact HF.out

theorem NewC_raw (m b T : Nat) (z : Bool) (l : List UInt8) (cf : Value) (c : ConfV) (w : World) (h : Cfg w cf c) (hm : Mem w m b) (hb : Buf w b T z l) : Calls Tryz.prog 60 #[memI m, cf] w (NewC w m b cf T z l) := by
  have hp := Propagate m cf c w h
  obtain ⟨q, rfl⟩ := h.ptr
  have hs := isRich
  have hfin : NewC w m b (.pointer q) T z l (.returned (.pointer (some ⟨w.heap.size, 0, none⟩))) (w.alloc (.cells (hdC m (.pointer q) (.slice none 0 0) ⟨[], 0, false, 0, .empty, false, false⟩ ++ Lib.byteCells (List.replicate 64 0)).toArray TCP (0, 0))) := by
    have hf : Fr (BF w b) (BF w b) w (w.alloc (.cells (hdC m (.pointer q) (.slice none 0 0) ⟨[], 0, false, 0, .empty, false, false⟩ ++ Lib.byteCells (List.replicate 64 0)).toArray TCP (0, 0))) := (Fr.refl _ w).alloc _
    have hbb := Below.heap_alloc w (.cells (hdC m (.pointer q) (.slice none 0 0) ⟨[], 0, false, 0, .empty, false, false⟩ ++ Lib.byteCells (List.replicate 64 0)).toArray TCP (0, 0)) b hb.lt
    obtain ⟨sz, hm⟩ := hm
    refine ⟨_, rfl, ⟨⟨.slice none 0 0, List.replicate 64 0, rfl, alloc_new w _, ⟨by simp, Or.inl ⟨rfl, rfl⟩⟩⟩, ⟨sz, alloc_at hm⟩, hb.same fun k hk => Below.heap_alloc w _ k (hb.foot_lt hk)⟩, hf.conv fun k hk hx => ?_, Nat.le_refl _⟩
    rcases hx with rfl | hx | ⟨n, c, hx⟩
    · exact absurd hk (Nat.lt_irrefl _)
    · exact (BF.of_same hbb).1 hx
    · have := cell_at (alloc_new w (.cells (hdC m (.pointer q) (.slice none 0 0) ⟨[], 0, false, 0, .empty, false, false⟩ ++ Lib.byteCells (List.replicate 64 0)).toArray TCP (0, 0))) 3
      rw [this] at hx
      simp [hdC] at hx
  have H := Lib.hid hp
  have HF := Lib.hid hfin
  clear hp h hm hb hfin
  go_enter Tryz.func60, Tryz.ntmps60
  go_wp2_with (go_at_call 80; refine H.out.mono ?_; rintro e w' ⟨rfl, rfl⟩)
  go_ret
  exact HF.out

abbrev PBP : TypeId := 140
abbrev PCP : TypeId := 136
abbrev binI (p : Nat) : Value := .iface PBP (.pointer (some ⟨p, 0, none⟩))
abbrev comI (p : Nat) : Value := .iface PCP (.pointer (some ⟨p, 0, none⟩))
abbrev CSt.new : CSt := ⟨[], 0, false, 0, .empty, false, false⟩
/-- A protocol over a memory buffer, with its configuration. -/
def ProtB (w : World) (m b : Nat) (c : ConfV) (T : Nat) (z : Bool) (l : List UInt8) (e : Ending) (w' : World) : Prop :=
  ∃ p cf, e = .returned (binI p) ∧ Cfg w' cf c ∧ BP w' p m b cf T z l ∧ Fr (BF w b) (BPF w' p b) w w' ∧ w.heap.size ≤ p ∧ ∀ k, CfF w' cf k → w.heap.size ≤ k
def ProtC (w : World) (m b : Nat) (c : ConfV) (T : Nat) (z : Bool) (l : List UInt8) (e : Ending) (w' : World) : Prop :=
  ∃ p cf, e = .returned (comI p) ∧ Cfg w' cf c ∧ CP w' p m b cf CSt.new T z l ∧ Fr (BF w b) (CPF w' p b) w w' ∧ w.heap.size ≤ p ∧ ∀ k, CfF w' cf k → w.heap.size ≤ k

theorem BF_tag_cfg {w : World} {b T : Nat} {z : Bool} {l : List UInt8} (h : Buf w b T z l) : ∀ k cs t, w.heap[k]? = some (.cells cs t (0, 0)) → t = 233 ∨ t = 4 → ¬ BF w b k := fun k cs t hk ht =>
  h.other hk (by rcases ht with rfl | rfl <;> decide) (by rcases ht with rfl | rfl <;> decide)

theorem ProtB_raw (m b T : Nat) (z : Bool) (l : List UInt8) (c : ConfV) (w : World) (hc : c.proto ≠ 1) (hm : Mem w m b) (hb : Buf w b T z l) : Calls Tryz.prog 39 #[c.val, memI m] w (ProtB w m b c T z l) := by
  have h1 := I_config c (w.alloc (.cells #[.int .i64 c.proto, .bool c.plain, .bool c.sr, .bool c.sw, .int .i32 c.msg, .int .i32 c.con, .int .i32 c.fra] 23 (0, 0)))
  have h2 : ∀ w1 cf, Cfg w1 cf c → (∀ k, CfF w1 cf k → w.heap.size ≤ k) → Fr noF noF (w.alloc (.cells #[.int .i64 c.proto, .bool c.plain, .bool c.sr, .bool c.sw, .int .i32 c.msg, .int .i32 c.con, .int .i32 c.fra] 23 (0, 0))) w1 →
      Calls Tryz.prog 62 #[memI m, cf] w1 (fun e w' => ∃ p, e = .returned (.pointer (some ⟨p, 0, none⟩)) ∧ ProtB w m b c T z l (.returned (binI p)) w') := fun w1 cf hcf hnw hf => by
    have hf' : Fr noF noF w w1 := ((Fr.refl noF w).alloc _).trans hf
    obtain ⟨sz, hm⟩ := hm
    have hb1 : Buf w1 b T z l := hb.keep hf' fun _ _ x => x
    refine (NewB_raw m b T z l cf c w1 hcf ⟨sz, hf'.block hm (fun x => x)⟩ hb1).mono ?_
    rintro e w2 ⟨p, rfl, hB, hF, hp⟩
    have hbb : w1.heap[b]? = w.heap[b]? := hf'.keep b hb.lt (fun x => x)
    have hf2 : Fr (BF w b) (BF w1 b) w w1 := ⟨hf'.os, hf'.tape, hf'.output, hf'.size, fun k hk _ => hf'.keep k hk (fun x => x), fun k _ hx => (BF.of_same hbb).1 hx⟩
    exact ⟨p, rfl, p, cf, rfl, hcf.keep hF (BF_tag_cfg hb1), hB, hf2.trans hF, Nat.le_trans hf'.size hp, fun k hk => hnw k ((hcf.same fun j hj => by
      obtain ⟨cs, t, hb, ht⟩ := hcf.tagged hj
      exact hF.keep j (lt_heap hb) (BF_tag_cfg hb1 j cs t hb ht)).2 k hk)⟩
  obtain ⟨pr, pl, sr, sw, ms, co, fr⟩ := c
  have hpr : (pr == 1) = false := by simpa using hc
  have H1 := Lib.hid h1
  have H2 := Lib.hid h2
  clear h1 h2 hm hb hc
  go_enter Tryz.func39, Tryz.ntmps39
  go_wp2_with (go_at_call 61; refine H1.out.mono ?_; rintro e w1 ⟨cf, rfl, hcf, hF, hnw⟩; have H3 := Lib.hid (H2.out w1 cf hcf (fun k hk => Nat.le_trans (by simp) (hnw k hk)) hF); clear hcf hF hnw)
  refine H3.out.mono ?_
  rintro e w2 ⟨p, rfl, hx⟩
  have HX := Lib.hid hx
  clear hx
  go_wp2
  go_ret
  exact HX.out
theorem ProtC_raw (m b T : Nat) (z : Bool) (l : List UInt8) (c : ConfV) (w : World) (hc : c.proto = 1) (hm : Mem w m b) (hb : Buf w b T z l) : Calls Tryz.prog 39 #[c.val, memI m] w (ProtC w m b c T z l) := by
  have h1 := I_config c (w.alloc (.cells #[.int .i64 c.proto, .bool c.plain, .bool c.sr, .bool c.sw, .int .i32 c.msg, .int .i32 c.con, .int .i32 c.fra] 23 (0, 0)))
  have h2 : ∀ w1 cf, Cfg w1 cf c → (∀ k, CfF w1 cf k → w.heap.size ≤ k) → Fr noF noF (w.alloc (.cells #[.int .i64 c.proto, .bool c.plain, .bool c.sr, .bool c.sw, .int .i32 c.msg, .int .i32 c.con, .int .i32 c.fra] 23 (0, 0))) w1 →
      Calls Tryz.prog 60 #[memI m, cf] w1 (fun e w' => ∃ p, e = .returned (.pointer (some ⟨p, 0, none⟩)) ∧ ProtC w m b c T z l (.returned (comI p)) w') := fun w1 cf hcf hnw hf => by
    have hf' : Fr noF noF w w1 := ((Fr.refl noF w).alloc _).trans hf
    obtain ⟨sz, hm⟩ := hm
    have hb1 : Buf w1 b T z l := hb.keep hf' fun _ _ x => x
    refine (NewC_raw m b T z l cf c w1 hcf ⟨sz, hf'.block hm (fun x => x)⟩ hb1).mono ?_
    rintro e w2 ⟨p, rfl, hB, hF, hp⟩
    have hbb : w1.heap[b]? = w.heap[b]? := hf'.keep b hb.lt (fun x => x)
    have hf2 : Fr (BF w b) (BF w1 b) w w1 := ⟨hf'.os, hf'.tape, hf'.output, hf'.size, fun k hk _ => hf'.keep k hk (fun x => x), fun k _ hx => (BF.of_same hbb).1 hx⟩
    exact ⟨p, rfl, p, cf, rfl, hcf.keep hF (BF_tag_cfg hb1), hB, hf2.trans hF, Nat.le_trans hf'.size hp, fun k hk => hnw k ((hcf.same fun j hj => by
      obtain ⟨cs, t, hb, ht⟩ := hcf.tagged hj
      exact hF.keep j (lt_heap hb) (BF_tag_cfg hb1 j cs t hb ht)).2 k hk)⟩
  obtain ⟨pr, pl, sr, sw, ms, co, fr⟩ := c
  have hpr : (pr == 1) = true := by simpa using hc
  have H1 := Lib.hid h1
  have H2 := Lib.hid h2
  clear h1 h2 hm hb hc
  go_enter Tryz.func39, Tryz.ntmps39
  go_wp2_with (go_at_call 61; refine H1.out.mono ?_; rintro e w1 ⟨cf, rfl, hcf, hF, hnw⟩; have H3 := Lib.hid (H2.out w1 cf hcf (fun k hk => Nat.le_trans (by simp) (hnw k hk)) hF); clear hcf hF hnw)
  refine H3.out.mono ?_
  rintro e w2 ⟨p, rfl, hx⟩
  have HX := Lib.hid hx
  clear hx
  go_wp2
  go_ret
  exact HX.out
end Go.Proofs.YtdifknecndlklaaGreatDoor
namespace Go.Proofs.YtdifknecndlklaaGreatDoor
open Go Go.RowKit
set_option maxHeartbeats 1000000
set_option maxRecDepth 100000

theorem I_typ (n : Int) (w : World) : Calls Tryz.prog 57 #[.int .i64 n] w fun e w' => e = .returned (.int .u8 (n % 256)) ∧ w = w' := by
  go_enter Tryz.func57, Tryz.ntmps57
  go_wp2
  go_ret
  exact ⟨rfl, rfl⟩

theorem methB_WriteI32 (a : Addr) (w : World) : (method 498 PBP (.pointer (some a)) "WriteI32").run Tryz.prog w = .ok (256, .pointer (some a)) w := by kernel_rfl
theorem methC_WriteI32 (a : Addr) (w : World) : (method 498 PCP (.pointer (some a)) "WriteI32").run Tryz.prog w = .ok (177, .pointer (some a)) w := by kernel_rfl
theorem aheadB_WriteI32 (a : Addr) (w : World) : (nilAhead 498 PBP (.pointer (some a)) "WriteI32").run Tryz.prog w = .ok (some false) w := by kernel_rfl
theorem aheadC_WriteI32 (a : Addr) (w : World) : (nilAhead 498 PCP (.pointer (some a)) "WriteI32").run Tryz.prog w = .ok (some false) w := by kernel_rfl
theorem be4_wrapK (n : Int) : be4 (IntKind.i32.wrap n) = be4 n := by
  unfold be4
  rw [wrap_i32']
  congr 2
  omega

/-- A method of the protocol's, called while a value's copy lies in a new box. -/
theorem BW.boxed {w : World} {p m b T : Nat} {cf : Value} {l news : List UInt8} {f : FuncId} {args : Array Value} {cs : Array Value} (h : BP w p m b cf T true l)
    (hw : Calls Tryz.prog f args (w.alloc (.cells cs 46 (0, 0))).drew (BW (w.alloc (.cells cs 46 (0, 0))).drew p m b cf T l news)) :
    Calls Tryz.prog f args (w.alloc (.cells cs 46 (0, 0))).drew (fun e w2 => BW w p m b cf T l news e w2 ∧ w2.cell? ⟨w.heap.size, 1, none⟩ = cs[1]?) := by
  refine hw.mono fun e w2 hx => ⟨⟨hx.1, hx.2.1, (h.alloc _).2.drew.trans hx.2.2⟩, ?_⟩
  have hn : ¬ BPF (w.alloc (.cells cs 46 (0, 0))).drew p b w.heap.size := fun hk => by
    have h1 : BP (w.alloc (.cells cs 46 (0, 0))).drew p m b cf T true l := (h.alloc _).1.drew
    rcases hk with hk | hk
    · obtain ⟨bf, _, ha⟩ := h1.arr
      exact tag_ne (alloc_new w _) ha (by decide) hk
    · exact h1.buf.other (alloc_new w _) (by decide) (by decide) hk
  exact cell_at (hx.2.2.block (alloc_new w _) hn) 1
theorem CW.boxed {w : World} {p m b T : Nat} {cf v : Value} {s s' : CSt} {l news : List UInt8} {f : FuncId} {args : Array Value} {cs : Array Value} (h : CP w p m b cf s T true l)
    (hw : Calls Tryz.prog f args (w.alloc (.cells cs 46 (0, 0))).drew (CW (w.alloc (.cells cs 46 (0, 0))).drew p m b cf s s' T l news v)) :
    Calls Tryz.prog f args (w.alloc (.cells cs 46 (0, 0))).drew (fun e w2 => CW w p m b cf s s' T l news v e w2 ∧ w2.cell? ⟨w.heap.size, 1, none⟩ = cs[1]?) := by
  refine hw.mono fun e w2 hx => ⟨⟨hx.1, hx.2.1, (h.alloc _).2.drew.trans hx.2.2⟩, ?_⟩
  have hn : ¬ CPF (w.alloc (.cells cs 46 (0, 0))).drew p b w.heap.size := fun hk => by
    have h1 : CP (w.alloc (.cells cs 46 (0, 0))).drew p m b cf s T true l := (h.alloc _).1.drew
    obtain ⟨cs', t, h2, ht⟩ := CPF.tag h1 hk
    have h3 : (w.alloc (.cells cs 46 (0, 0))).drew.heap[w.heap.size]? = some (.cells cs 46 (0, 0)) := alloc_new w _
    rw [h3] at h2
    injection h2 with h2
    injection h2 with _ h2 _
    subst h2
    revert ht
    decide
  exact cell_at (hx.2.2.block (alloc_new w _) hn) 1

theorem put_I32_B (p m b T : Nat) (cf : Value) (l : List UInt8) (n : Int) (S K E I L : Value) (w : World) (h : BP w p m b cf T true l) (hlim : T + 4 ≤ LIM) :
    Calls Tryz.prog 49 #[binI p, .agg #[.int .i64 8, .int .i64 n, S, K, E, I, L]] w (BW w p m b cf T l (be4 n)) := by
  have hT := I_typ 8
  have hC := I_ctx
  have hr := wrap_i32' n
  have hw := BW.boxed h (B_WriteI32 p m b T cf (.iface 221 (.agg #[])) l (IntKind.i32.wrap n) (w.alloc (.cells #[.int .i64 8, .int .i64 n, S, K, E, I, L] 46 (0, 0))).drew (h.alloc _).1.drew hlim)
  rw [be4_wrapK] at hw
  have HW := Lib.hid hw
  have HT := Lib.hid hT
  have HC := Lib.hid hC
  have hm := methB_WriteI32
  have ha := aheadB_WriteI32
  have c0 : (w.alloc (.cells #[.int .i64 8, .int .i64 n, S, K, E, I, L] 46 (0, 0))).cell? ⟨w.heap.size, 1, none⟩ = some (.int .i64 n) := by rw [cell_at (alloc_new w _)]; rfl
  clear hT hC h hlim hw hr
  go_enter Tryz.func49, Tryz.ntmps49
  go_wp2_with (go_at_call 57; refine (HT.out _).mono ?_; rintro e w1 ⟨rfl, rfl⟩)
  go_region_held3 (fun w' => w'.cell? ⟨w.heap.size, 1, none⟩ = some (.int .i64 n)) (first | exact c0 | exact d0) (first | (go_at_call 38; refine (HC.out _).mono ?_; rintro e w1 ⟨rfl, rfl⟩) | (go_at_call 256; refine HW.out.mono ?_; rintro e w2 ⟨hw, d0⟩; obtain rfl := hw.1; have HX := Lib.hid hw; clear hw))
  all_goals go_wp2
  all_goals go_ret
  all_goals exact HX.out

theorem put_I32_C (p m b T : Nat) (cf : Value) (s : CSt) (l : List UInt8) (n : Int) (S K E I L : Value) (w : World) (h : CP w p m b cf s T true l) (hlim : T + 5 ≤ LIM) :
    Calls Tryz.prog 49 #[comI p, .agg #[.int .i64 8, .int .i64 n, S, K, E, I, L]] w (CW w p m b cf s s T l (vint (zig (IntKind.i32.wrap n)).toNat) .nilIface) := by
  have hT := I_typ 8
  have hC := I_ctx
  have hr := wrap_i32' n
  have hw := CW.boxed h (C_WriteI32 p m b T cf (.iface 221 (.agg #[])) s l (IntKind.i32.wrap n) (by omega) (by omega) (w.alloc (.cells #[.int .i64 8, .int .i64 n, S, K, E, I, L] 46 (0, 0))).drew (h.alloc _).1.drew hlim)
  have HW := Lib.hid hw
  have HT := Lib.hid hT
  have HC := Lib.hid hC
  have hm := methC_WriteI32
  have ha := aheadC_WriteI32
  have c0 : (w.alloc (.cells #[.int .i64 8, .int .i64 n, S, K, E, I, L] 46 (0, 0))).cell? ⟨w.heap.size, 1, none⟩ = some (.int .i64 n) := by rw [cell_at (alloc_new w _)]; rfl
  clear hT hC h hlim hw hr
  go_enter Tryz.func49, Tryz.ntmps49
  go_wp2_with (go_at_call 57; refine (HT.out _).mono ?_; rintro e w1 ⟨rfl, rfl⟩)
  go_region_held3 (fun w' => w'.cell? ⟨w.heap.size, 1, none⟩ = some (.int .i64 n)) (first | exact c0 | exact d0) (first | (go_at_call 38; refine (HC.out _).mono ?_; rintro e w1 ⟨rfl, rfl⟩) | (go_at_call 177; refine HW.out.mono ?_; rintro e w2 ⟨hw, d0⟩; obtain rfl := hw.1; have HX := Lib.hid hw; clear hw))
  all_goals go_wp2
  all_goals go_ret
  all_goals exact HX.out

end Go.Proofs.YtdifknecndlklaaGreatDoor
namespace Go.Proofs.YtdifknecndlklaaGreatDoor
open Go Go.RowKit
set_option maxHeartbeats 1000000
set_option maxRecDepth 100000

/-- What is read: the value's blocks lie in F. -/
def BytesP (w : World) (b : Nat) (l : List UInt8) (e : Ending) (w' : World) : Prop := ∃ v q, e = .returned v ∧ w' = w.drewN q ∧ Rd w' v l ∧ (∀ k, vblk v k → BF w b k)

theorem Buf_Bytes (b T : Nat) (z : Bool) (l : List UInt8) (w : World) (h : Buf w b T z l) : Calls Tryz.prog 40 #[.pointer (some ⟨b, 0, none⟩)] w (BytesP w b l) := by
  rcases h with ⟨rfl, lr, h⟩ | ⟨lr, r, n, c, o, cur, h, hr, hc, hm, ho, hn, hT, hl, hz⟩
  · have c0 := cell_at h 0
    have c1 := cell_at h 1
    simp at c0 c1
    have hfin : ∀ nq, BytesP w b [] (.returned (.slice none 0 0)) (w.drewN nq) := fun nq => ⟨_, nq, rfl, rfl, Or.inl ⟨rfl, rfl⟩, fun k hk => hk.elim⟩
    have HF := Lib.hid hfin
    clear h hfin
    go_enter Tryz.func40, Tryz.ntmps40
    go_wp2
    go_quiet (fail)
    go_wp2
    go_ret
    exact HF.out _
  · have c0 := cell_at h 0
    have c1 := cell_at h 1
    simp at c0 c1
    have hlen : l.length = n - o := by
      have := congrArg List.length hl
      rw [bcells_length, List.length_drop, List.length_take, Array.length_toList] at this
      omega
    have hf1 : ∀ nq, c = o → BytesP w b l (.returned (.slice (some ⟨r, 0, none⟩) (n - o) 0)) (w.drewN nq) := fun nq hco => by
      have h0 : n - o = 0 := by omega
      rw [h0] at hlen ⊢
      obtain rfl := List.eq_nil_of_length_eq_zero hlen
      refine ⟨_, nq, rfl, rfl, Or.inr ⟨_, 0, 0, rfl, rfl, Nat.le_refl _, Nat.zero_le _, fun j u hj => by simp at hj⟩, fun k hk => hk.elim⟩
    have hf2 : ∀ nq, BytesP w b l (.returned (.slice (some ⟨r, o, none⟩) (n - o) (c - o))) (w.drewN nq) := fun nq => by
      refine ⟨_, nq, rfl, rfl, Or.inr ⟨_, n - o, c - o, rfl, hlen, by omega, by omega, fun j u hj => ?_⟩, fun k hk => ?_⟩
      · have hg : (Lib.byteCells l)[j]? = some (.int .u8 u.toNat) := by simp [Lib.byteCells, hj]
        rw [← hl, List.getElem?_drop] at hg
        have hlt : o + j < n := by have := (List.getElem?_eq_some_iff.1 hj).1; omega
        rw [List.getElem?_take_of_lt hlt] at hg
        rw [Lib.addr_add, show (w.drewN nq).cell? ⟨r, o + j, none⟩ = w.cell? ⟨r, o + j, none⟩ from rfl, cell_at hr]
        simpa using hg
      · rcases hno : n - o with _ | y
        · rw [hno] at hk; exact hk.elim
        · rw [hno] at hk
          exact hk ▸ BF_row h
    have H1 := Lib.hid hf1
    have H2 := Lib.hid hf2
    have hon : (o : Int) ≤ n := by omega
    have hnc : (n : Int) ≤ c := by omega
    clear hf1 hf2 hl hlen hr hT hz hc h
    go_enter Tryz.func40, Tryz.ntmps40
    go_wp2
    go_quiet (fail)
    go_wp2
    · go_ret
      exact H1.out _ h
    · go_ret
      exact H2.out _

/-- A configuration's copy and a value's, in boxes side by side. -/
def Boxes (w' : World) (n : Nat) (pr : Int) (pl sr sw : Bool) (ms co fr : Int) (v0 v1 v2 v3 v4 v5 v6 : Value) : Prop :=
  w'.cell? ⟨n, 0, none⟩ = some (.int .i64 pr) ∧ w'.cell? ⟨n, 1, none⟩ = some (.bool pl) ∧ w'.cell? ⟨n, 2, none⟩ = some (.bool sr) ∧ w'.cell? ⟨n, 3, none⟩ = some (.bool sw) ∧ w'.cell? ⟨n, 4, none⟩ = some (.int .i32 ms) ∧ w'.cell? ⟨n, 5, none⟩ = some (.int .i32 co) ∧ w'.cell? ⟨n, 6, none⟩ = some (.int .i32 fr) ∧ w'.cell? ⟨n + 1, 0, none⟩ = some v0 ∧ w'.cell? ⟨n + 1, 1, none⟩ = some v1 ∧ w'.cell? ⟨n + 1, 2, none⟩ = some v2 ∧ w'.cell? ⟨n + 1, 3, none⟩ = some v3 ∧ w'.cell? ⟨n + 1, 4, none⟩ = some v4 ∧ w'.cell? ⟨n + 1, 5, none⟩ = some v5 ∧ w'.cell? ⟨n + 1, 6, none⟩ = some v6
theorem boxes {w : World} {n : Nat} {pr : Int} {pl sr sw : Bool} {ms co fr : Int} {v0 v1 v2 v3 v4 v5 v6 : Value} {t t' : TypeId} (h : w.heap[n]? = some (.cells #[.int .i64 pr, .bool pl, .bool sr, .bool sw, .int .i32 ms, .int .i32 co, .int .i32 fr] t (0, 0)))
    (h' : w.heap[n + 1]? = some (.cells #[v0, v1, v2, v3, v4, v5, v6] t' (0, 0))) : Boxes w n pr pl sr sw ms co fr v0 v1 v2 v3 v4 v5 v6 :=
  ⟨cell_at h 0, cell_at h 1, cell_at h 2, cell_at h 3, cell_at h 4, cell_at h 5, cell_at h 6, cell_at h' 0, cell_at h' 1, cell_at h' 2, cell_at h' 3, cell_at h' 4, cell_at h' 5, cell_at h' 6⟩

/-- What was put. -/
def PutR (w : World) (news : List UInt8) (e : Ending) (w' : World) : Prop :=
  ∃ v, e = .returned (.tuple #[v, .int .i64 0]) ∧ Rd w' v news ∧ (∀ k, vblk v k → w.heap.size ≤ k) ∧ Fr noF noF w w'

theorem kind_nil (w : World) : Calls Tryz.prog 41 #[.nilIface] w fun e w' => e = .returned (.int .i64 0) ∧ w = w' := by
  go_enter Tryz.func41, Tryz.ntmps41
  go_wp2
  go_ret
  exact ⟨rfl, rfl⟩

/-- What stands when all is put: the memory buffer m holds the bytes. -/
def PutEnd (w w3 : World) (m b : Nat) (news : List UInt8) : Prop := w3.cell? ⟨m, 0, none⟩ = some (.pointer (some ⟨b, 0, none⟩)) ∧ Buf w3 b news.length true news ∧ Fr noF (BF w3 b) w w3


theorem put_end {w w3 : World} {m b : Nat} {news : List UInt8} {v : Value} (h : PutEnd w w3 m b news) (q : Nat) (hR : Rd (w3.drewN q) v news) (hv : ∀ k, vblk v k → BF w3 b k) : PutR w news (.returned (.tuple #[v, .int .i64 0])) (w3.drewN q) :=
  ⟨v, rfl, hR, fun k hk => by
    rcases Nat.lt_or_ge k w.heap.size with hlt | hge
    · exact (h.2.2.foot k hlt (hv k hk)).elim
    · exact hge, (h.2.2.drewN q).conv fun _ _ x => x.elim⟩
theorem put_prep_B (pr : Int) (pl sr sw : Bool) (ms co fr : Int) (hc : pr ≠ 1) (v0 v1 v2 v3 v4 v5 v6 : Value) (news : List UInt8) (w : World)
    (hput : ∀ p m b cf w1, Fr noF (BPF w1 p b) w w1 → Cfg w1 cf ⟨pr, pl, sr, sw, ms, co, fr⟩ → BP w1 p m b cf 0 true [] → Calls Tryz.prog 49 #[binI p, .agg #[v0, v1, v2, v3, v4, v5, v6]] w1 (BW w1 p m b cf 0 [] news))
    (m b : Nat) (w1 : World) (hm : Mem w1 m b) (hb : Buf w1 b 0 true []) (hf : Fr noF (BF w1 b) ((w.alloc (.cells #[.int .i64 pr, .bool pl, .bool sr, .bool sw, .int .i32 ms, .int .i32 co, .int .i32 fr] 23 (0, 0))).alloc (.cells #[v0, v1, v2, v3, v4, v5, v6] 46 (0, 0))) w1) :
    Calls Tryz.prog 39 #[.agg #[.int .i64 pr, .bool pl, .bool sr, .bool sw, .int .i32 ms, .int .i32 co, .int .i32 fr], memI m] w1.drew (fun e w2 => ∃ p, e = .returned (binI p) ∧ Boxes w2 w.heap.size pr pl sr sw ms co fr v0 v1 v2 v3 v4 v5 v6 ∧
      Calls Tryz.prog 49 #[binI p, .agg #[v0, v1, v2, v3, v4, v5, v6]] w2 (fun e w3 => e = .returned .nilIface ∧ Boxes w3 w.heap.size pr pl sr sw ms co fr v0 v1 v2 v3 v4 v5 v6 ∧ PutEnd w w3 m b news)) := by
  have hm' : Mem w1.drew m b := hm
  have hb' : Buf w1.drew b 0 true [] := hb
  have hf0 : Fr noF (BF w1 b) w w1.drew := (((Fr.refl noF w).alloc _).alloc _).trans hf.drew
  have n1 := hf.block (new2 w _ _).1 fun x => x
  have n2 := hf.block (new2 w _ _).2 fun x => x
  refine (ProtB_raw m b 0 true [] ⟨pr, pl, sr, sw, ms, co, fr⟩ w1.drew hc hm' hb').mono ?_
  rintro e w2 ⟨p, cf, rfl, hcf, hP, hF, hp⟩
  have k1 := hF.block (w := w1.drew) n1 (hb'.other n1 (by decide) (by decide))
  have k2 := hF.block (w := w1.drew) n2 (hb'.other n2 (by decide) (by decide))
  refine ⟨p, rfl, boxes k1 k2, (hput p m b cf w2 (hf0.trans hF) hcf hP).mono ?_⟩
  intro e w3 hw
  have j1 := hw.2.2.block k1 (fun hk => hk.elim (fun e => by obtain ⟨bf, _, ha⟩ := hP.arr; exact tag_ne k1 ha (by decide) e) (hP.buf.other k1 (by decide) (by decide)))
  have j2 := hw.2.2.block k2 (fun hk => hk.elim (fun e => by obtain ⟨bf, _, ha⟩ := hP.arr; exact tag_ne k2 ha (by decide) e) (hP.buf.other k2 (by decide) (by decide)))
  refine ⟨hw.1, boxes j1 j2, ?_⟩
  have hq := hw.2.1
  rw [Nat.zero_add, List.nil_append] at hq
  exact ⟨hq.mem.cell, hq.buf, ((hf0.trans hF).trans hw.2.2).conv fun k _ hk => Or.inr hk⟩

theorem I_Put_B (pr : Int) (pl sr sw : Bool) (ms co fr : Int) (hc : pr ≠ 1) (v0 v1 v2 v3 v4 v5 v6 : Value) (news : List UInt8) (w : World)
    (hput : ∀ p m b cf w1, Fr noF (BPF w1 p b) w w1 → Cfg w1 cf ⟨pr, pl, sr, sw, ms, co, fr⟩ → BP w1 p m b cf 0 true [] → Calls Tryz.prog 49 #[binI p, .agg #[v0, v1, v2, v3, v4, v5, v6]] w1 (BW w1 p m b cf 0 [] news)) :
    Calls Tryz.prog 22 #[.agg #[.int .i64 pr, .bool pl, .bool sr, .bool sw, .int .i32 ms, .int .i32 co, .int .i32 fr], .agg #[v0, v1, v2, v3, v4, v5, v6]] w (PutR w news) := by
  have h1 := NewTMemoryBuffer_raw ((w.alloc (.cells #[.int .i64 pr, .bool pl, .bool sr, .bool sw, .int .i32 ms, .int .i32 co, .int .i32 fr] 23 (0, 0))).alloc (.cells #[v0, v1, v2, v3, v4, v5, v6] 46 (0, 0)))
  have h2 := put_prep_B pr pl sr sw ms co fr hc v0 v1 v2 v3 v4 v5 v6 news w hput
  have H1 := Lib.hid h1
  have H2 := Lib.hid h2
  clear h1 h2 hput hc
  go_enter Tryz.func22, Tryz.ntmps22
  go_wp2_with fail
  refine H1.out.mono ?_
  rintro e w1 ⟨m, b, rfl, hm, hb, hf, hmn⟩
  have c0 : Boxes w1 w.heap.size pr pl sr sw ms co fr v0 v1 v2 v3 v4 v5 v6 := boxes (hf.block (new2 w _ _).1 fun x => x) (hf.block (new2 w _ _).2 fun x => x)
  have HP := Lib.hid (H2.out m b w1 hm hb hf)
  clear hm hb hf hmn
  go_wp2_with fail
  go_region_held3 (fun w' => w'.cell? ⟨w.heap.size, 0, none⟩ = some (.int .i64 pr) ∧ w'.cell? ⟨w.heap.size, 1, none⟩ = some (.bool pl) ∧ w'.cell? ⟨w.heap.size, 2, none⟩ = some (.bool sr) ∧ w'.cell? ⟨w.heap.size, 3, none⟩ = some (.bool sw) ∧ w'.cell? ⟨w.heap.size, 4, none⟩ = some (.int .i32 ms) ∧ w'.cell? ⟨w.heap.size, 5, none⟩ = some (.int .i32 co) ∧ w'.cell? ⟨w.heap.size, 6, none⟩ = some (.int .i32 fr) ∧ w'.cell? ⟨w.heap.size + 1, 0, none⟩ = some v0 ∧ w'.cell? ⟨w.heap.size + 1, 1, none⟩ = some v1 ∧ w'.cell? ⟨w.heap.size + 1, 2, none⟩ = some v2 ∧ w'.cell? ⟨w.heap.size + 1, 3, none⟩ = some v3 ∧ w'.cell? ⟨w.heap.size + 1, 4, none⟩ = some v4 ∧ w'.cell? ⟨w.heap.size + 1, 5, none⟩ = some v5 ∧ w'.cell? ⟨w.heap.size + 1, 6, none⟩ = some v6) (first | exact c0 | exact d0 | exact e0)
    (first | (go_at_call 39; refine HP.out.mono ?_; rintro e w2 ⟨p, rfl, d0, hcall⟩; have HC := Lib.hid hcall; clear hcall) | (go_at_call 49; refine HC.out.mono ?_; rintro e w3 ⟨rfl, e0, hend⟩; have HE := Lib.hid hend; clear hend))
  all_goals (have m0 := HE.out.1; clear e0 d0 c0)
  all_goals go_wp2_with fail
  all_goals (refine (Buf_Bytes b _ true news w3 HE.out.2.1).mono ?_; rintro e w4 ⟨v, q, rfl, rfl, hR, hblk⟩; have HR := Lib.hid (put_end HE.out q hR hblk); clear hR hblk)
  all_goals go_wp2_with (go_at_call 41; refine (kind_nil _).mono ?_; rintro e w' ⟨rfl, rfl⟩)
  all_goals go_ret2
  all_goals exact HR.out


theorem put_prep_C (pr : Int) (pl sr sw : Bool) (ms co fr : Int) (hc : pr = 1) (v0 v1 v2 v3 v4 v5 v6 : Value) (news : List UInt8) (w : World)
    (hput : ∀ p m b cf w1, Fr noF (CPF w1 p b) w w1 → Cfg w1 cf ⟨pr, pl, sr, sw, ms, co, fr⟩ → CP w1 p m b cf CSt.new 0 true [] → Calls Tryz.prog 49 #[comI p, .agg #[v0, v1, v2, v3, v4, v5, v6]] w1 (CW w1 p m b cf CSt.new CSt.new 0 [] news .nilIface))
    (m b : Nat) (w1 : World) (hm : Mem w1 m b) (hb : Buf w1 b 0 true []) (hf : Fr noF (BF w1 b) ((w.alloc (.cells #[.int .i64 pr, .bool pl, .bool sr, .bool sw, .int .i32 ms, .int .i32 co, .int .i32 fr] 23 (0, 0))).alloc (.cells #[v0, v1, v2, v3, v4, v5, v6] 46 (0, 0))) w1) :
    Calls Tryz.prog 39 #[.agg #[.int .i64 pr, .bool pl, .bool sr, .bool sw, .int .i32 ms, .int .i32 co, .int .i32 fr], memI m] w1.drew (fun e w2 => ∃ p, e = .returned (comI p) ∧ Boxes w2 w.heap.size pr pl sr sw ms co fr v0 v1 v2 v3 v4 v5 v6 ∧
      Calls Tryz.prog 49 #[comI p, .agg #[v0, v1, v2, v3, v4, v5, v6]] w2 (fun e w3 => e = .returned .nilIface ∧ Boxes w3 w.heap.size pr pl sr sw ms co fr v0 v1 v2 v3 v4 v5 v6 ∧ PutEnd w w3 m b news)) := by
  have hm' : Mem w1.drew m b := hm
  have hb' : Buf w1.drew b 0 true [] := hb
  have hf0 : Fr noF (BF w1 b) w w1.drew := (((Fr.refl noF w).alloc _).alloc _).trans hf.drew
  have n1 := hf.block (new2 w _ _).1 fun x => x
  have n2 := hf.block (new2 w _ _).2 fun x => x
  refine (ProtC_raw m b 0 true [] ⟨pr, pl, sr, sw, ms, co, fr⟩ w1.drew hc hm' hb').mono ?_
  rintro e w2 ⟨p, cf, rfl, hcf, hP, hF, hp⟩
  have k1 := hF.block (w := w1.drew) n1 (hb'.other n1 (by decide) (by decide))
  have k2 := hF.block (w := w1.drew) n2 (hb'.other n2 (by decide) (by decide))
  refine ⟨p, rfl, boxes k1 k2, (hput p m b cf w2 (hf0.trans hF) hcf hP).mono ?_⟩
  intro e w3 hw
  have j1 := hw.2.2.block k1 (fun hk => by obtain ⟨cs', t, h2, ht⟩ := CPF.tag hP hk; rw [k1] at h2; injection h2 with h2; injection h2 with _ h2 _; subst h2; revert ht; decide)
  have j2 := hw.2.2.block k2 (fun hk => by obtain ⟨cs', t, h2, ht⟩ := CPF.tag hP hk; rw [k2] at h2; injection h2 with h2; injection h2 with _ h2 _; subst h2; revert ht; decide)
  refine ⟨hw.1, boxes j1 j2, ?_⟩
  have hq := hw.2.1
  rw [Nat.zero_add, List.nil_append] at hq
  exact ⟨hq.mem.cell, hq.buf, ((hf0.trans hF).trans hw.2.2).conv fun k _ hk => Or.inr (Or.inl hk)⟩

theorem I_Put_C (pr : Int) (pl sr sw : Bool) (ms co fr : Int) (hc : pr = 1) (v0 v1 v2 v3 v4 v5 v6 : Value) (news : List UInt8) (w : World)
    (hput : ∀ p m b cf w1, Fr noF (CPF w1 p b) w w1 → Cfg w1 cf ⟨pr, pl, sr, sw, ms, co, fr⟩ → CP w1 p m b cf CSt.new 0 true [] → Calls Tryz.prog 49 #[comI p, .agg #[v0, v1, v2, v3, v4, v5, v6]] w1 (CW w1 p m b cf CSt.new CSt.new 0 [] news .nilIface)) :
    Calls Tryz.prog 22 #[.agg #[.int .i64 pr, .bool pl, .bool sr, .bool sw, .int .i32 ms, .int .i32 co, .int .i32 fr], .agg #[v0, v1, v2, v3, v4, v5, v6]] w (PutR w news) := by
  have h1 := NewTMemoryBuffer_raw ((w.alloc (.cells #[.int .i64 pr, .bool pl, .bool sr, .bool sw, .int .i32 ms, .int .i32 co, .int .i32 fr] 23 (0, 0))).alloc (.cells #[v0, v1, v2, v3, v4, v5, v6] 46 (0, 0)))
  have h2 := put_prep_C pr pl sr sw ms co fr hc v0 v1 v2 v3 v4 v5 v6 news w hput
  have H1 := Lib.hid h1
  have H2 := Lib.hid h2
  clear h1 h2 hput hc
  go_enter Tryz.func22, Tryz.ntmps22
  go_wp2_with fail
  refine H1.out.mono ?_
  rintro e w1 ⟨m, b, rfl, hm, hb, hf, hmn⟩
  have c0 : Boxes w1 w.heap.size pr pl sr sw ms co fr v0 v1 v2 v3 v4 v5 v6 := boxes (hf.block (new2 w _ _).1 fun x => x) (hf.block (new2 w _ _).2 fun x => x)
  have HP := Lib.hid (H2.out m b w1 hm hb hf)
  clear hm hb hf hmn
  go_wp2_with fail
  go_region_held3 (fun w' => w'.cell? ⟨w.heap.size, 0, none⟩ = some (.int .i64 pr) ∧ w'.cell? ⟨w.heap.size, 1, none⟩ = some (.bool pl) ∧ w'.cell? ⟨w.heap.size, 2, none⟩ = some (.bool sr) ∧ w'.cell? ⟨w.heap.size, 3, none⟩ = some (.bool sw) ∧ w'.cell? ⟨w.heap.size, 4, none⟩ = some (.int .i32 ms) ∧ w'.cell? ⟨w.heap.size, 5, none⟩ = some (.int .i32 co) ∧ w'.cell? ⟨w.heap.size, 6, none⟩ = some (.int .i32 fr) ∧ w'.cell? ⟨w.heap.size + 1, 0, none⟩ = some v0 ∧ w'.cell? ⟨w.heap.size + 1, 1, none⟩ = some v1 ∧ w'.cell? ⟨w.heap.size + 1, 2, none⟩ = some v2 ∧ w'.cell? ⟨w.heap.size + 1, 3, none⟩ = some v3 ∧ w'.cell? ⟨w.heap.size + 1, 4, none⟩ = some v4 ∧ w'.cell? ⟨w.heap.size + 1, 5, none⟩ = some v5 ∧ w'.cell? ⟨w.heap.size + 1, 6, none⟩ = some v6) (first | exact c0 | exact d0 | exact e0)
    (first | (go_at_call 39; refine HP.out.mono ?_; rintro e w2 ⟨p, rfl, d0, hcall⟩; have HC := Lib.hid hcall; clear hcall) | (go_at_call 49; refine HC.out.mono ?_; rintro e w3 ⟨rfl, e0, hend⟩; have HE := Lib.hid hend; clear hend))
  all_goals (have m0 := HE.out.1; clear e0 d0 c0)
  all_goals go_wp2_with fail
  all_goals (refine (Buf_Bytes b _ true news w3 HE.out.2.1).mono ?_; rintro e w4 ⟨v, q, rfl, rfl, hR, hblk⟩; have HR := Lib.hid (put_end HE.out q hR hblk); clear hR hblk)
  all_goals go_wp2_with (go_at_call 41; refine (kind_nil _).mono ?_; rintro e w' ⟨rfl, rfl⟩)
  all_goals go_ret2
  all_goals exact HR.out
end Go.Proofs.YtdifknecndlklaaGreatDoor
namespace Go.Proofs.YtdifknecndlklaaGreatDoor
open Go Go.RowKit
set_option maxHeartbeats 1000000
set_option maxRecDepth 100000

theorem Buf_empty (b T : Nat) (z : Bool) (l : List UInt8) (w : World) (h : Buf w b T z l) : Calls Tryz.prog 130 #[.pointer (some ⟨b, 0, none⟩)] w fun e w' => e = .returned (.bool l.isEmpty) ∧ ∃ q, w.drewN q = w' := by
  rcases h with ⟨rfl, lr, h⟩ | ⟨lr, r, n, c, o, cur, h, hr, hc, hm, ho, hn, hT, hl, hz⟩
  · have c0 := cell_at h 0
    have c1 := cell_at h 1
    simp at c0 c1
    clear h
    go_enter Tryz.func130, Tryz.ntmps130
    go_wp2
    go_quiet (fail)
    go_wp2
    go_ret
    exact ⟨rfl, _, rfl⟩
  · have c0 := cell_at h 0
    have c1 := cell_at h 1
    simp at c0 c1
    have he : l.isEmpty = decide (n ≤ o) := by
      have := congrArg List.length hl
      rw [bcells_length, List.length_drop, List.length_take, Array.length_toList] at this
      rw [Bool.eq_iff_iff, List.isEmpty_iff, decide_eq_true_eq, ← List.length_eq_zero_iff]
      omega
    rw [he]
    clear h hr hl hz he
    go_enter Tryz.func130, Tryz.ntmps130
    go_wp2
    go_quiet (fail)
    go_wp2
    go_ret
    exact ⟨rfl, _, rfl⟩

/-- The row of a block's cells, from place o on, is overwritten by bytes. -/
def laid (cs : Array Value) (o : Nat) (l : List UInt8) : Array Value := (cs.toList.take o ++ Lib.byteCells l ++ cs.toList.drop (o + l.length)).toArray

/-- What is read: n bytes of l into block g at o. -/
def ReadP (w : World) (b T : Nat) (l : List UInt8) (g : Nat) (Tg : TypeId) (cs : Array Value) (o n : Nat) (e : Ending) (w' : World) : Prop :=
  e = .returned (.tuple #[.int .i64 n, .nilIface]) ∧ Buf w' b T false (l.drop n) ∧ w'.heap[g]? = some (.cells (laid cs o (l.take n)) Tg (0, 0)) ∧ Fr (fun k => BF w b k ∨ k = g) (fun k => BF w' b k ∨ k = g) w w'

/-- What the copy in Read does, and what stands behind it. -/
structure RCopy (w W : World) (b T : Nat) (l : List UInt8) (g : Nat) (Tg : TypeId) (cs : Array Value) (o k cap N : Nat) (r n c ob : Nat) (Y : Array Value) : Prop where
  c0 : W.cell? ⟨b, 0, none⟩ = some (.slice (some ⟨r, 0, none⟩) n c)
  c1 : W.cell? ⟨b, 1, none⟩ = some (.int .i64 ((ob : Nat) : Int))
  lt : ob < n
  le : n ≤ c
  mx : c ≤ maxLen
  run : (Builtin.copy_ #[24, 24] 3 #[.slice (some ⟨g, o, none⟩) k cap, .slice (some ⟨r, ob, none⟩) (n - ob) (c - ob)]).run Tryz.prog W = .ok (goInt (N : Int)) (W.setRow g Y)
  d0 : (W.setRow g Y).cell? ⟨b, 0, none⟩ = some (.slice (some ⟨r, 0, none⟩) n c)
  d1 : (W.setRow g Y).cell? ⟨b, 1, none⟩ = some (.int .i64 ((ob : Nat) : Int))
  d2 : ∃ x, (W.setRow g Y).cell? ⟨b, 2, none⟩ = some x
  f1 : (W.setRow g Y).frozen? ⟨b, 1, none⟩ = false
  f2 : (W.setRow g Y).frozen? ⟨b, 2, none⟩ = false
  fit : ob + N ≤ n
  fin : ReadP w b T l g Tg cs o N (.returned (.tuple #[.int .i64 (N : Int), .nilIface])) (((W.setRow g Y).setCell ⟨b, 1, none⟩ (.int .i64 ((ob : Nat) + N : Int))).setCell ⟨b, 2, none⟩ (.int .i8 (-1)))

theorem rcopy {w W : World} {b T : Nat} {z : Bool} {l : List UInt8} {g : Nat} {Tg : TypeId} {cs : Array Value} {o k : Nat} (cap N : Nat) (hN : N = min l.length k) (h : Buf W b T z l) (hf : Fr (BF w b) (BF W b) w W) (hl0 : l ≠ []) (hg : w.heap[g]? = some (.cells cs Tg (0, 0))) (hfit : o + k ≤ cs.size) (hfar : ¬ BF w b g) :
    ∃ r n c ob Y, RCopy w W b T l g Tg cs o k cap N r n c ob Y := by
  have hgW : W.heap[g]? = some (.cells cs Tg (0, 0)) := hf.block hg hfar
  have hgF : ¬ BF W b g := fun hx => hfar (hf.foot g (lt_heap hg) hx)
  rcases h with ⟨h0, _⟩ | ⟨lr, r, n, c, ob, cur, hb, hr, hcs, hc, hon, hnc, hT, hl, hz⟩
  · exact absurd h0 hl0
  have hlen : l.length = n - ob := by
    have := congrArg List.length hl
    rw [bcells_length, List.length_drop, List.length_take, Array.length_toList] at this
    omega
  have hpos : 0 < l.length := List.length_pos_iff.2 hl0
  have hbg : b ≠ g := fun e => hgF (e ▸ Or.inl rfl)
  have hrg : r ≠ g := fun e => hgF (e ▸ BF_row hb)
  have htk : (l.take N).length = N := by rw [List.length_take]; omega
  have hsrc : ∀ j v, (Lib.byteCells (l.take N))[j]? = some v → W.cell? (Addr.add ⟨r, ob, none⟩ j) = some v := by
    intro j v hj
    have hj' : (Lib.byteCells l)[j]? = some v := by
      unfold Lib.byteCells at hj ⊢
      rw [List.getElem?_map] at hj ⊢
      have hjl : j < N := by
        have := List.getElem?_eq_some_iff.1 (Option.map_eq_some_iff.1 hj).choose_spec.1
        have := this.1
        omega
      rwa [List.getElem?_take_of_lt hjl] at hj
    have hjl : j < l.length := by have := (List.getElem?_eq_some_iff.1 hj').1; rwa [bcells_length] at this
    rw [← hl, List.getElem?_drop, List.getElem?_take_of_lt (by omega)] at hj'
    rw [Lib.addr_add, cell_at hr]
    simpa using hj'
  have hcp := run_copy_row (P := Tryz.prog) W 24 24 3 5 g o k cap ⟨r, ob, none⟩ (n - ob) (c - ob) cs Tg (Lib.byteCells (l.take N)) Tryz.underlying24 hinfo hgW (by rw [bcells_length, htk, hN, hlen]) hsrc (by rw [bcells_length, htk]; omega) (Lib.byteCells_one _)
  rw [bcells_length, htk] at hcp
  have hY : laid cs o (l.take N) = (cs.toList.take o ++ Lib.byteCells (l.take N) ++ cs.toList.drop (o + N)).toArray := by unfold laid; rw [htk]
  rw [← hY] at hcp
  have hb' : (W.setRow g (laid cs o (l.take N))).heap[b]? = _ := setRow_ne hb hbg _
  have hr' : (W.setRow g (laid cs o (l.take N))).heap[r]? = _ := setRow_ne hr hrg _
  have hg' : (W.setRow g (laid cs o (l.take N))).heap[g]? = _ := setRow_heap W g cs (laid cs o (l.take N)) Tg (0, 0) hgW
  refine ⟨r, n, c, ob, _, ⟨by rw [cell_at hb]; rfl, by rw [cell_at hb]; rfl, by omega, hnc, hc, hcp, by rw [cell_at hb']; rfl, by rw [cell_at hb']; rfl, ⟨_, by rw [cell_at hb']; rfl⟩, free_at hb' 1, free_at hb' 2, by omega, rfl, ?_, ?_, ?_⟩⟩
  · have k1 := setCell_at (i := 1) hb' (.int .i64 ((ob : Nat) + N : Int))
    have k2 := setCell_at (i := 2) k1 (.int .i8 (-1))
    have hrb : r ≠ b := tag_ne hr hb (by decide)
    refine Or.inr ⟨-1, r, n, c, ob + N, cur, k2, setCell_ne (setCell_ne hr' hrb _) hrb _, hcs, hc, by omega, hnc, hT, ?_, fun hz => by cases hz⟩
    rw [← List.drop_drop, hl]
    simp [Lib.byteCells, List.map_drop]
  · exact setCell_ne (setCell_ne hg' (Ne.symm hbg) _) (Ne.symm hbg) _
  · have k1 := setCell_at (i := 1) hb' (.int .i64 ((ob : Nat) + N : Int))
    have k2 := setCell_at (i := 2) k1 (.int .i8 (-1))
    have hfw : Fr (fun k => BF w b k ∨ k = g) (fun k => BF W b k ∨ k = g) w W := hf.beside (fun k => k = g)
    refine (((hfw.setRow (g := g) (Or.inl (Or.inr rfl)) _).setCell (p := ⟨b, 1, none⟩) (Or.inl (Or.inl (Or.inl rfl))) _).setCell (p := ⟨b, 2, none⟩) (Or.inl (Or.inl (Or.inl rfl))) _).conv fun k _ hk => ?_
    rcases hk with hk | hk
    · rcases BF_of k2 hk with rfl | rfl
      · exact Or.inl (Or.inl rfl)
      · exact Or.inl (BF_row hb)
    · exact Or.inr hk

theorem Buf_Read_some (b T : Nat) (z : Bool) (l : List UInt8) (g : Nat) (Tg : TypeId) (cs : Array Value) (o k cap N : Nat) (hN : N = min l.length k) (w : World) (h : Buf w b T z l) (hl0 : l ≠ []) (hg : w.heap[g]? = some (.cells cs Tg (0, 0))) (hfit : o + k ≤ cs.size) (hk : 0 < k) (hfar : ¬ BF w b g) :
    Calls Tryz.prog 328 #[.pointer (some ⟨b, 0, none⟩), .slice (some ⟨g, o, none⟩) k cap] w (ReadP w b T l g Tg cs o N) := by
  have hE : ∀ w', Buf w' b T z l → Calls Tryz.prog 130 #[.pointer (some ⟨b, 0, none⟩)] w' fun e w'' => e = .returned (.bool false) ∧ ∃ q, w'.drewN q = w'' := fun w' hw' => by
    have := Buf_empty b T z l w' hw'
    rwa [show l.isEmpty = false by cases l <;> simp_all] at this
  obtain ⟨h1, fr1⟩ := h.setLast 0
  have hE1 := hE _ h1
  have f2 : w.frozen? ⟨b, 2, none⟩ = false := by
    rcases h with ⟨_, lr, h⟩ | ⟨lr, r, n, c, o, cur, h, _⟩ <;> exact free_at h 2
  have c2 : ∃ x, w.cell? ⟨b, 2, none⟩ = some x := by
    rcases h with ⟨_, lr, h⟩ | ⟨lr, r, n, c, o, cur, h, _⟩ <;> exact ⟨_, cell_at h 2⟩
  obtain ⟨x2, c2⟩ := c2
  have hrc : ∀ q, ∃ r n c ob Y, RCopy w ((w.setCell ⟨b, 2, none⟩ (.int .i8 0)).drewN (q + 1)) b T l g Tg cs o k cap N r n c ob Y := fun q =>
    rcopy cap N hN (W := ((w.setCell ⟨b, 2, none⟩ (.int .i8 0)).drewN (q + 1))) h1 (fr1.drewN (q + 1)) hl0 hg hfit hfar
  have H1 := Lib.hid hE1
  have HR := Lib.hid hrc
  have hpos : 0 < N := by have := List.length_pos_iff.2 hl0; omega
  clear hE hE1 h hrc h1 fr1 hg hfit hfar hl0 hN
  go_enter Tryz.func328, Tryz.ntmps328
  go_wp2_with (go_at_call 130; refine H1.out.mono ?_)
  rintro e W ⟨rfl, q, rfl⟩
  go_wp2_with fail
  obtain ⟨r, n, c, ob, Y, hC⟩ := HR.out q
  have c0 := hC.c0
  have c1 := hC.c1
  have d0 := hC.d0
  have d1 := hC.d1
  have hlt := hC.lt
  have hle := hC.le
  have hmx := hC.mx
  have hrun := hC.run
  have HC := Lib.hid hC
  clear hC c2 f2
  have i1 : (0 : Int) ≤ (ob : Int) := by omega
  have i2 : (ob : Int) ≤ (n : Int) := by omega
  have i3 : ¬ c = ob := by omega
  go_region_held3 (fun w' => w'.cell? ⟨b, 0, none⟩ = some (.slice (some ⟨r, 0, none⟩) n c) ∧ w'.cell? ⟨b, 1, none⟩ = some (.int .i64 ((ob : Nat) : Int))) (first | exact ⟨c0, c1⟩ | exact ⟨d0, d1⟩) (fail)
  have f1 := HC.out.f1
  have f2 := HC.out.f2
  obtain ⟨x3, d2⟩ := HC.out.d2
  have hfit := HC.out.fit
  have hpos2 : (0 : Int) < (N : Int) := by omega
  have HF := Lib.hid HC.out.fin
  have hsum : (ob : Int) + (N : Int) ≤ 9223372036854775807 := by unfold maxLen at hmx; omega
  clear HC hrun c0 c1
  unfold maxLen at hmx
  go_wp2
  go_ret2
  exact HF.out
end Go.Proofs.YtdifknecndlklaaGreatDoor
namespace Go.Proofs.YtdifknecndlklaaGreatDoor
open Go Go.RowKit
set_option maxHeartbeats 1000000
set_option maxRecDepth 100000

theorem ReadP.drew {w w2 : World} {b T : Nat} {l : List UInt8} {g : Nat} {Tg : TypeId} {cs : Array Value} {o n : Nat} {e : Ending} (h : ReadP w.drew b T l g Tg cs o n e w2) : ReadP w b T l g Tg cs o n e w2 :=
  ⟨h.1, h.2.1, h.2.2.1, (Fr.refl _ w).drew.trans h.2.2.2⟩

theorem RAL_full (m b T : Nat) (z : Bool) (l : List UInt8) (g : Nat) (Tg : TypeId) (cs : Array Value) (o k cap : Nat) (w : World) (hm : w.cell? ⟨m, 0, none⟩ = some (.pointer (some ⟨b, 0, none⟩))) (hmb : ¬ BF w b m) (hmg : m ≠ g) (h : Buf w b T z l) (hkl : k ≤ l.length) (hg : w.heap[g]? = some (.cells cs Tg (0, 0))) (hfit : o + k ≤ cs.size) (hk : 0 < k) (hcap : k ≤ cap) (hcap2 : cap ≤ maxLen) (hfar : ¬ BF w b g) :
    Calls Tryz.prog 217 #[memI m, .slice (some ⟨g, o, none⟩) k cap, .int .i64 k] w (ReadP w b T l g Tg cs o k) := by
  have hl0 : l ≠ [] := fun e => by subst e; simp at hkl; omega
  have hR := Buf_Read_some b T z l g Tg cs o k cap k (by omega) w.drew h hl0 hg hfit hk hfar
  have hme : (method 498 PM (.pointer (some ⟨m, 0, none⟩)) "Read").run Tryz.prog w.drew = .ok (328, .pointer (some ⟨b, 0, none⟩)) w.drew := meth_Read hm
  have ha := ahead_Read
  have HR := Lib.hid hR
  have hc0 : cap ≠ 0 := by omega
  have hk3 : (0 : Int) ≤ (k : Int) := by omega
  have hk5 : (k : Int) ≤ cap := by omega
  have hk4 : (0 : Int) < (k : Int) := by omega
  have hmm : ∀ w2, ReadP w.drew b T l g Tg cs o k (.returned (.tuple #[.int .i64 k, .nilIface])) w2 → w2.cell? ⟨m, 0, none⟩ = some (.pointer (some ⟨b, 0, none⟩)) := fun w2 hw => hw.2.2.2.cell (w := w.drew) hm (fun hx => hx.elim hmb hmg)
  have HM := Lib.hid hmm
  have hk6 : (k : Int) ≤ 9223372036854775807 := by unfold maxLen at hcap2; omega
  clear hR h hg hfit hfar hmb hmg hmm hl0 hkl
  go_enter Tryz.func217, Tryz.ntmps217
  go_wp2_with fail
  go_loopw [6, 7, 8] (fun n e x wr => e = .nilIface ∧ ((n = .int .i64 0 ∧ wr = w) ∨ (n = .int .i64 k ∧ Hid (ReadP w b T l g Tg cs o k (.returned (.tuple #[.int .i64 k, .nilIface])) wr)))) (fun n _ _ _ => k - (intOf n).toNat)
  case atStart => exact ⟨rfl, Or.inl ⟨rfl, rfl⟩⟩
  case round =>
    obtain ⟨rfl, ⟨rfl, rfl⟩ | ⟨rfl, hF⟩⟩ := hrel
    · go_wp2_with fail
      go_region_held3 (fun w' => w'.cell? ⟨m, 0, none⟩ = some (.pointer (some ⟨b, 0, none⟩))) (first | exact hm | exact d0) (first | (go_at_call 328; refine HR.out.mono ?_; rintro e w2 hw; obtain rfl := hw.1; have d0 := HM.out w2 hw; have HX := Lib.hid hw; clear hw))
      all_goals go_wp2
      all_goals refine ⟨⟨rfl, Or.inr ⟨rfl, Lib.hid HX.out.drew⟩⟩, ?_⟩
      all_goals (show k - (k : Int).toNat < k - (0 : Int).toNat; omega)
    · go_wp2
      go_ret2
      exact hF.out
end Go.Proofs.YtdifknecndlklaaGreatDoor
namespace Go.Proofs.YtdifknecndlklaaGreatDoor
open Go Go.RowKit
set_option maxHeartbeats 2000000
set_option maxRecDepth 100000

theorem GetBE4 (g o : Nat) (b0 b1 b2 b3 : UInt8) (rest : List UInt8) (hd : List Value) (T : TypeId) (w : World) (h : Arr w g T hd (b0 :: b1 :: b2 :: b3 :: rest)) (ho : hd.length = o) :
    Calls Tryz.prog 273 #[.agg #[], .slice (some ⟨g, o, none⟩) 4 64] w fun e w' => e = .returned (.int .u32 (Lib.beNat [b0, b1, b2, b3])) ∧ ∃ q, (w.alloc (.cells #[] 354)).drewN q = w' := by
  subst ho
  have h' : Arr (w.alloc (.cells #[] 354)) g T hd (b0 :: b1 :: b2 :: b3 :: rest) := alloc_at h
  have d0 : (w.alloc (.cells #[] 354)).cell? ⟨g, hd.length, none⟩ = some (.int .u8 b0.toNat) := h'.cell 0 (by simp)
  have d1 : (w.alloc (.cells #[] 354)).cell? ⟨g, hd.length + 1, none⟩ = some (.int .u8 b1.toNat) := h'.cell 1 (by simp)
  have d2 : (w.alloc (.cells #[] 354)).cell? ⟨g, hd.length + 2, none⟩ = some (.int .u8 b2.toNat) := h'.cell 2 (by simp)
  have d3 : (w.alloc (.cells #[] 354)).cell? ⟨g, hd.length + 3, none⟩ = some (.int .u8 b3.toNat) := h'.cell 3 (by simp)
  have h0 : b0.toNat < 256 := b0.toNat_lt
  have h1 : b1.toNat < 256 := b1.toNat_lt
  have h2 : b2.toNat < 256 := b2.toNat_lt
  have h3 : b3.toNat < 256 := b3.toNat_lt
  have hv : ((Lib.beNat [b0, b1, b2, b3] : Nat) : Int) = (b3.toNat : Int) + (b2.toNat : Int) * 256 + (b1.toNat : Int) * 65536 + (b0.toNat : Int) * 16777216 := by
    simp only [Lib.beNat, Lib.beFrom]
    push_cast
    omega
  have HV := Lib.hid hv
  clear hv h h'
  go_enter Tryz.func273, Tryz.ntmps273
  go_wp2
  go_quiet (fail)
  go_wp2
  go_ret
  refine ⟨?_, _, rfl⟩
  simp (disch := omega) only [u32_or8, u32_or16, u32_or24]
  rw [HV.out]
  rfl

theorem laid_arr (hd : List Value) (buf x : List UInt8) (o : Nat) (ho : hd.length = o) : laid (hd ++ Lib.byteCells buf).toArray o x = (hd ++ Lib.byteCells (x ++ buf.drop x.length)).toArray := by
  subst ho
  unfold laid
  congr 1
  simp [Lib.byteCells, List.drop_append, List.append_assoc]

/-- What a reading of a whole piece leaves, whatever it tells. -/
def ReadQ (w : World) (b T : Nat) (l : List UInt8) (g : Nat) (Tg : TypeId) (cs : Array Value) (o n : Nat) (w' : World) : Prop :=
  Buf w' b T false (l.drop n) ∧ w'.heap[g]? = some (.cells (laid cs o (l.take n)) Tg (0, 0)) ∧ Fr (fun k => BF w b k ∨ k = g) (fun k => BF w' b k ∨ k = g) w w'

theorem ReadFull_full (m b T : Nat) (z : Bool) (l : List UInt8) (g : Nat) (Tg : TypeId) (cs : Array Value) (o k cap : Nat) (w : World) (hm : w.cell? ⟨m, 0, none⟩ = some (.pointer (some ⟨b, 0, none⟩))) (hmb : ¬ BF w b m) (hmg : m ≠ g) (h : Buf w b T z l) (hkl : k ≤ l.length) (hg : w.heap[g]? = some (.cells cs Tg (0, 0))) (hfit : o + k ≤ cs.size) (hk : 0 < k) (hcap : k ≤ cap) (hcap2 : cap ≤ maxLen) (hfar : ¬ BF w b g) :
    Calls Tryz.prog 197 #[memI m, .slice (some ⟨g, o, none⟩) k cap] w (ReadP w b T l g Tg cs o k) := by
  have H := Lib.hid (RAL_full m b T z l g Tg cs o k cap w hm hmb hmg h hkl hg hfit hk hcap hcap2 hfar)
  clear h hg hfit hfar hmb hmg hm hkl
  go_enter Tryz.func197, Tryz.ntmps197
  go_wp2_with fail
  refine H.out.mono ?_
  rintro e w2 ⟨rfl, hx⟩
  have HX := Lib.hid hx
  clear hx
  go_wp2
  go_ret2
  exact ⟨rfl, HX.out⟩

theorem meth_Deadline (w : World) : (method 498 221 (.agg #[]) "Deadline").run Tryz.prog w = .ok (283, .agg #[]) w := by kernel_rfl
theorem X_Deadline (w : World) : Calls Tryz.prog 283 #[.agg #[]] w fun e w' => e = .returned (.tuple #[.agg #[], .bool false]) ∧ Fr noF noF w w' := by
  go_enter Tryz.func283, Tryz.ntmps283
  go_wp2
  refine bodyPost_ret (v := .tuple #[.agg #[], .bool false]) ?_ rfl ⟨rfl, ((Fr.refl _ w).alloc _).alloc _⟩
  simp [results, Tryz.results283, go_sem]

abbrev ctxV : Value := .iface 221 (.agg #[])
theorem B_readAll_full (p m b T : Nat) (z : Bool) (l : List UInt8) (g : Nat) (Tg : TypeId) (cs : Array Value) (o k cap : Nat) (w : World) (hp : w.cell? ⟨p, 0, none⟩ = some (memI m)) (hm : w.cell? ⟨m, 0, none⟩ = some (.pointer (some ⟨b, 0, none⟩))) (hmb : ¬ BF w b m) (hmg : m ≠ g) (h : Buf w b T z l) (hkl : k ≤ l.length) (hg : w.heap[g]? = some (.cells cs Tg (0, 0))) (hfit : o + k ≤ cs.size) (hk : 0 < k) (hcap : k ≤ cap) (hcap2 : cap ≤ maxLen) (hfar : ¬ BF w b g) :
    Calls Tryz.prog 270 #[.pointer (some ⟨p, 0, none⟩), ctxV, .slice (some ⟨g, o, none⟩) k cap] w (fun e w' => e = .returned .nilIface ∧ ReadQ w b T l g Tg cs o k w') := by
  have hF : ∀ w1, Fr noF noF w w1 → Calls Tryz.prog 197 #[memI m, .slice (some ⟨g, o, none⟩) k cap] w1 (fun e w' => e = .returned (.tuple #[.int .i64 k, .nilIface]) ∧ ReadQ w b T l g Tg cs o k w') ∧ w1.cell? ⟨p, 0, none⟩ = some (memI m) := fun w1 hf => by
    have hbb : w1.heap[b]? = w.heap[b]? := hf.keep b h.lt (fun x => x)
    refine ⟨(ReadFull_full m b T z l g Tg cs o k cap w1 (hf.cell hm (fun x => x)) (fun hx => hmb ((BF.of_same hbb).1 hx)) hmg (h.keep hf fun _ _ x => x) hkl (hf.block hg fun x => x) hfit hk hcap hcap2 (fun hx => hfar ((BF.of_same hbb).1 hx))).mono ?_, hf.cell hp fun x => x⟩
    rintro e w2 ⟨rfl, h1, h2, h3⟩
    refine ⟨rfl, h1, h2, ?_⟩
    have hf2 : Fr (fun k => BF w b k ∨ k = g) (fun k => BF w1 b k ∨ k = g) w w1 := ⟨hf.os, hf.tape, hf.output, hf.size, fun k hk _ => hf.keep k hk (fun x => x), fun k _ hx => hx.imp (BF.of_same hbb).1 id⟩
    exact hf2.trans h3
  have HF := Lib.hid hF
  have hme := meth_Deadline
  clear hF hp hm hmb hmg h hkl hg hfit hfar
  go_enter Tryz.func270, Tryz.ntmps270
  go_wp2_with (go_at_call 283; refine (X_Deadline _).mono ?_; rintro e w1 ⟨rfl, hf⟩; have HD := Lib.hid hf; clear hf)
  have hW : Fr noF noF w (w1.alloc (.cells #[] 324)) := HD.out.alloc _
  generalize (w1.alloc (.cells #[] 324)) = W at hW ⊢
  obtain ⟨hcall, c0⟩ := HF.out W hW
  have HC := Lib.hid hcall
  clear hcall hW
  go_loopw [6, 7] (fun a x wr => wr = W) (fun _ _ _ => 0)
  case atStart => rfl
  case round =>
    subst hrel
    go_wp2_with (go_at_call 197; refine HC.out.mono ?_; rintro e w2 ⟨rfl, hx⟩; have HX := Lib.hid hx; clear hx)
    go_wp2_with (go_at_call 192; refine (exc_nil _).mono ?_; rintro e w' ⟨rfl, rfl⟩)
    go_ret
    exact ⟨rfl, HX.out⟩

/-- What a method that reads leaves: n bytes less, and what it tells. -/
def BR (w : World) (p m b : Nat) (cf : Value) (T : Nat) (l : List UInt8) (n : Nat) (v : Value) (e : Ending) (w' : World) : Prop :=
  e = .returned (.tuple #[v, .nilIface]) ∧ BP w' p m b cf T false (l.drop n) ∧ Fr (BPF w p b) (BPF w' p b) w w'

/-- A piece is read into the scratch array. -/
theorem B_read (p m b T k : Nat) (cf : Value) (z : Bool) (l : List UInt8) (w : World) (h : BP w p m b cf T z l) (hk : 0 < k) (hk2 : k ≤ 64) (hkl : k ≤ l.length) :
    Calls Tryz.prog 270 #[.pointer (some ⟨p, 0, none⟩), ctxV, .slice (some ⟨p, 3, none⟩) k 64] w (fun e w' => e = .returned .nilIface ∧ BP w' p m b cf T false (l.drop k) ∧ (∃ rest, Arr w' p TBP [memI m, memI m, cf] (l.take k ++ rest)) ∧ Fr (BPF w p b) (BPF w' p b) w w') := by
  obtain ⟨bf, hbf, ha⟩ := h.arr
  obtain ⟨sz, hm⟩ := h.mem
  have hmp : m ≠ p := tag_ne hm ha (by decide)
  refine (B_readAll_full p m b T z l p TBP _ 3 k 64 w h.trans h.mem.cell (h.buf.other hm (by decide) (by decide)) hmp h.buf hkl ha ?_ hk hk2 (by unfold maxLen; omega) (h.buf.other ha (by decide) (by decide))).mono ?_
  · simp [Lib.byteCells, hbf]; omega
  rintro e w' ⟨rfl, h1, h2, h3⟩
  rw [laid_arr _ _ _ 3 rfl] at h2
  have hlen : (l.take k).length = k := by rw [List.length_take]; omega
  have hF : Fr (BPF w p b) (BPF w' p b) w w' := ⟨h3.os, h3.tape, h3.output, h3.size, fun k hk hn => h3.keep k hk (fun x => hn (x.elim Or.inr Or.inl)), fun k hk hx => (h3.foot k hk (hx.elim Or.inr Or.inl)).elim Or.inr Or.inl⟩
  have hmn : ¬ (BF w b m ∨ m = p) := fun x => x.elim (h.buf.other hm (by decide) (by decide)) hmp
  exact ⟨rfl, ⟨⟨_, by rw [List.length_append, List.length_drop, hlen, hbf]; omega, h2⟩, ⟨sz, h3.block hm hmn⟩, h1⟩, ⟨_, h2⟩, hF⟩

theorem four (l : List UInt8) (h : 4 ≤ l.length) : ∃ a b c d rest, l = a :: b :: c :: d :: rest := by
  match l, h with
  | a :: b :: c :: d :: rest, _ => exact ⟨a, b, c, d, rest, rfl⟩

theorem B_ReadI32 (p m b T : Nat) (cf : Value) (z : Bool) (l : List UInt8) (w : World) (h : BP w p m b cf T z l) (hl : 4 ≤ l.length) :
    Calls Tryz.prog 231 #[.pointer (some ⟨p, 0, none⟩), ctxV] w (BR w p m b cf T l 4 (.int .i32 (wrap32 (Lib.beNat (l.take 4))))) := by
  have hr := B_read p m b T 4 cf z l w h (by omega) (by omega) hl
  obtain ⟨b0, b1, b2, b3, rest, rfl⟩ := four l hl
  have H := Lib.hid hr
  clear hr h hl
  go_enter Tryz.func231, Tryz.ntmps231
  go_wp2_with fail
  refine H.out.mono ?_
  rintro e w1 ⟨rfl, hP, ⟨rs, hA⟩, hF⟩
  have hG := GetBE4 p 3 b0 b1 b2 b3 rs [memI m, memI m, cf] TBP w1 hA rfl
  have hfin : ∀ q, BR w p m b cf T (b0 :: b1 :: b2 :: b3 :: rest) 4 (.int .i32 (wrap32 (Lib.beNat [b0, b1, b2, b3]))) (.returned (.tuple #[.int .i32 (wrap32 (Lib.beNat [b0, b1, b2, b3])), .nilIface])) ((w1.alloc (.cells #[] 354)).drewN q) := fun q =>
    ⟨rfl, (hP.alloc _).1.drewN q, hF.trans ((hP.alloc _).2.drewN q)⟩
  have HG := Lib.hid hG
  have HF := Lib.hid hfin
  clear hP hA hF hG hfin
  go_wp2_with (go_at_call 273; refine HG.out.mono ?_; rintro e w2 ⟨rfl, q, rfl⟩)
  go_ret2
  exact HF.out q
end Go.Proofs.YtdifknecndlklaaGreatDoor
namespace Go.Proofs.YtdifknecndlklaaGreatDoor
open Go Go.RowKit
set_option maxHeartbeats 1000000
set_option maxRecDepth 100000

theorem methB_ReadI32 (a : Addr) (w : World) : (method 498 PBP (.pointer (some a)) "ReadI32").run Tryz.prog w = .ok (231, .pointer (some a)) w := by kernel_rfl
theorem aheadB_ReadI32 (a : Addr) (w : World) : (nilAhead 498 PBP (.pointer (some a)) "ReadI32").run Tryz.prog w = .ok (some false) w := by kernel_rfl

abbrev gotV (n : Int) (s : Value) : Value := .agg #[.int .i64 0, .int .i64 0, .int .i64 0, .int .i64 0, .int .i64 0, .int .i64 n, s]
abbrev stepV (op : Int) : Value := .agg #[.int .i64 op, .int .i64 0, .int .i64 0, .int .i64 0, .int .i64 0, .int .i64 0, .slice none 0 0]

/-- Seven cells of a block are written. -/
abbrev store7 (w : World) (k : Nat) (v0 v1 v2 v3 v4 v5 v6 : Value) : World := (((((((w.setCell ⟨k, 0, none⟩ v0).setCell ⟨k, 1, none⟩ v1).setCell ⟨k, 2, none⟩ v2).setCell ⟨k, 3, none⟩ v3).setCell ⟨k, 4, none⟩ v4).setCell ⟨k, 5, none⟩ v5).setCell ⟨k, 6, none⟩ v6)
theorem store7_at {w : World} {k : Nat} {a0 a1 a2 a3 a4 a5 a6 : Value} {t : TypeId} (h : w.heap[k]? = some (.cells #[a0, a1, a2, a3, a4, a5, a6] t (0, 0))) (v0 v1 v2 v3 v4 v5 v6 : Value) :
    (store7 w k v0 v1 v2 v3 v4 v5 v6).heap[k]? = some (.cells #[v0, v1, v2, v3, v4, v5, v6] t (0, 0)) := by
  have h1 := setCell_at (i := 0) h v0
  have h2 := setCell_at (i := 1) h1 v1
  have h3 := setCell_at (i := 2) h2 v2
  have h4 := setCell_at (i := 3) h3 v3
  have h5 := setCell_at (i := 4) h4 v4
  have h6 := setCell_at (i := 5) h5 v5
  exact setCell_at (i := 6) h6 v6
theorem store7_fr {w0 w : World} {F F' : Nat → Prop} {k : Nat} (h : Fr F F' w0 w) (hk : F' k ∨ w0.heap.size ≤ k) (v0 v1 v2 v3 v4 v5 v6 : Value) : Fr F F' w0 (store7 w k v0 v1 v2 v3 v4 v5 v6) :=
  ((((((h.setCell (p := ⟨k, 0, none⟩) hk _).setCell (p := ⟨k, 1, none⟩) hk _).setCell (p := ⟨k, 2, none⟩) hk _).setCell (p := ⟨k, 3, none⟩) hk _).setCell (p := ⟨k, 4, none⟩) hk _).setCell (p := ⟨k, 5, none⟩) hk _).setCell (p := ⟨k, 6, none⟩) hk _
theorem Buf.old {w w' : World} {b T : Nat} {z : Bool} {l : List UInt8} {F F' : Nat → Prop} (h : Buf w b T z l) (hf : Fr F F' w w') (hn : ∀ k, BF w b k → ¬ F k) : Buf w' b T z l ∧ (∀ k, BF w' b k → BF w b k) :=
  ⟨h.keep hf hn, fun _ hk => (BF.of_same (hf.keep b h.lt (hn b (Or.inl rfl)))).1 hk⟩
/-- Something besides has turned: the protocol stands. -/
theorem BP.old {w w' : World} {p m b T : Nat} {cf : Value} {z : Bool} {l : List UInt8} {F F' : Nat → Prop} (h : BP w p m b cf T z l) (hf : Fr F F' w w') (hm : ¬ F m) (hn : ∀ k, BPF w p b k → ¬ F k) : BP w' p m b cf T z l ∧ (∀ k, BPF w' p b k → BPF w p b k) := by
  obtain ⟨⟨bf, hbf, ha⟩, ⟨sz, hM⟩, hB⟩ := h
  obtain ⟨h1, h2⟩ := hB.old hf fun k hk => hn k (Or.inr hk)
  exact ⟨⟨⟨bf, hbf, hf.block ha (hn p (Or.inl rfl))⟩, ⟨sz, hf.block hM hm⟩, h1⟩, fun k hk => hk.imp id (h2 k)⟩

theorem BP.alloc2 {w : World} {p m b T : Nat} {cf : Value} {z : Bool} {l : List UInt8} (h : BP w p m b cf T z l) (o o' : Obj) : BP ((w.alloc o).alloc o').drew p m b cf T z l ∧ Fr (BPF w p b) (BPF ((w.alloc o).alloc o').drew p b) w ((w.alloc o).alloc o').drew :=
  ⟨((h.alloc o).1.alloc o').1.drew, ((h.alloc o).2.trans ((h.alloc o).1.alloc o').2).drew⟩
theorem BP.notin {w : World} {p m b T : Nat} {cf : Value} {z : Bool} {l : List UInt8} (h : BP w p m b cf T z l) {k : Nat} {cs : Array Value} {t : TypeId} {f : Nat × Nat} (hk : w.heap[k]? = some (.cells cs t f)) (h1 : t ≠ TBP) (h2 : t ≠ TB) (h3 : t ≠ U8) : ¬ BPF w p b k := fun hx => by
  rcases hx with hx | hx
  · obtain ⟨bf, _, ha⟩ := h.arr
    exact tag_ne hk ha h1 hx
  · exact h.buf.other hk h2 h3 hx

/-- What is read lies in the new box of a Got. -/
theorem read_box {w w2 : World} {p m b T n : Nat} {cf : Value} {z : Bool} {l : List UInt8} {o : Obj} {a0 a1 a2 a3 a4 a5 a6 : Value} (h : BP w p m b cf T z l) (hP : BP w2 p m b cf T false (l.drop n)) (hF : Fr (BPF ((w.alloc o).alloc (.cells #[a0, a1, a2, a3, a4, a5, a6] 63 (0, 0))).drew p b) (BPF w2 p b) ((w.alloc o).alloc (.cells #[a0, a1, a2, a3, a4, a5, a6] 63 (0, 0))).drew w2)
    (hg : w2.heap[w.heap.size + 1]? = some (.cells #[a0, a1, a2, a3, a4, a5, a6] 63 (0, 0))) (v0 v1 v2 v3 v4 v5 v6 : Value) :
    (∀ i, (store7 w2 (w.heap.size + 1) v0 v1 v2 v3 v4 v5 v6).cell? ⟨w.heap.size + 1, i, none⟩ = (#[v0, v1, v2, v3, v4, v5, v6] : Array Value)[i]?) ∧
    BP (store7 w2 (w.heap.size + 1) v0 v1 v2 v3 v4 v5 v6) p m b cf T false (l.drop n) ∧ Fr (BPF w p b) (BPF (store7 w2 (w.heap.size + 1) v0 v1 v2 v3 v4 v5 v6) p b) w (store7 w2 (w.heap.size + 1) v0 v1 v2 v3 v4 v5 v6) := by
  have hn : ¬ BPF w2 p b (w.heap.size + 1) := hP.notin hg (by decide) (by decide) (by decide)
  obtain ⟨sz, hM⟩ := hP.mem
  have hs := store7_fr (Fr.refl (fun k => k = w.heap.size + 1) w2) (Or.inl rfl) v0 v1 v2 v3 v4 v5 v6
  obtain ⟨h1, h2⟩ := hP.old hs (tag_ne hM hg (by decide)) fun k hk he => hn (he ▸ hk)
  exact ⟨cell_at (store7_at hg v0 v1 v2 v3 v4 v5 v6), h1, (store7_fr ((h.alloc2 _ _).2.trans hF) (Or.inr (by omega)) v0 v1 v2 v3 v4 v5 v6).conv fun k _ hk => h2 k hk⟩

theorem read_I32_B (p m b T : Nat) (cf : Value) (z : Bool) (l : List UInt8) (w : World) (h : BP w p m b cf T z l) (hl : 4 ≤ l.length) :
    Calls Tryz.prog 74 #[binI p, stepV 16] w (BR w p m b cf T l 4 (gotV (wrap32 (Lib.beNat (l.take 4))) (.slice none 0 0))) := by
  have HC := Lib.hid I_ctx
  have hm := methB_ReadI32
  have ha := aheadB_ReadI32
  have hb := fun w' h' => B_ReadI32 p m b T cf z l w' h' hl
  have HB := Lib.hid hb
  have HH := Lib.hid h
  have hw64 : Hid (wrap64 (wrap32 (Lib.beNat (l.take 4))) = wrap32 (Lib.beNat (l.take 4))) := Lib.hid (by unfold wrap64 wrap32; omega)
  clear hb h
  go_enter Tryz.func74, Tryz.ntmps74
  go_wp2_with fail
  go_region_held3 (fun _ => True) (exact True.intro) (first | (go_at_call 38; refine (HC.out _).mono ?_; rintro e w1 ⟨rfl, rfl⟩) | (go_at_call 231; refine (HB.out _ (HH.out.alloc2 _ _).1).mono ?_; rintro e w2 ⟨rfl, hP, hF⟩; have hg := hF.block (new2 w _ _).2 ((HH.out.alloc2 _ _).1.notin (new2 w _ _).2 (by decide) (by decide) (by decide)); have HX := Lib.hid hP; have HG := Lib.hid hg; have HY := Lib.hid hF; clear hP hF hg))
  all_goals (have c0 := cell_at HG.out 0; have c1 := cell_at HG.out 1; have c2 := cell_at HG.out 2; have c3 := cell_at HG.out 3; have c4 := cell_at HG.out 4; have c5 := cell_at HG.out 5; have c6 := cell_at HG.out 6; have ff := free_at HG.out)
  all_goals simp only [List.getElem?_toArray, List.getElem?_cons_zero, List.getElem?_cons_succ] at c0 c1 c2 c3 c4 c5 c6
  all_goals go_wp2
  all_goals (obtain ⟨d, hq, hfr⟩ := read_box HH.out HX.out HY.out HG.out (.int .i64 0) (.int .i64 0) (.int .i64 0) (.int .i64 0) (.int .i64 0) (.int .i64 (wrap64 (wrap32 (Lib.beNat (l.take 4))))) (.slice none 0 0))
  all_goals (have d0 := d 0; have d1 := d 1; have d2 := d 2; have d3 := d 3; have d4 := d 4; have d5 := d 5; have d6 := d 6)
  all_goals simp only [List.getElem?_toArray, List.getElem?_cons_zero, List.getElem?_cons_succ] at d0 d1 d2 d3 d4 d5 d6
  all_goals clear d c0 c1 c2 c3 c4 c5 c6 ff
  all_goals refine bodyPost_ret (v := .tuple #[gotV (wrap64 (wrap32 (Lib.beNat (l.take 4)))) (.slice none 0 0), .nilIface]) ?_ rfl ⟨?_, hq, hfr⟩
  all_goals first
    | (rw [results_cell_tmp rfl]; clear hq hfr HG HX HY HB HC HH hm ha; go_simp; done)
    | (rw [hw64.out]; done)
end Go.Proofs.YtdifknecndlklaaGreatDoor
namespace Go.Proofs.YtdifknecndlklaaGreatDoor
open Go Go.RowKit
set_option maxHeartbeats 1000000
set_option maxRecDepth 100000

abbrev valN (t n : Int) : Value := .agg #[.int .i64 t, .int .i64 n, .slice none 0 0, .int .i64 0, .int .i64 0, .slice none 0 0, .slice none 0 0]

theorem new3 (w : World) (o0 o1 o2 : Obj) : (((w.alloc o0).alloc o1).alloc o2).heap[w.heap.size]? = some o0 ∧ (((w.alloc o0).alloc o1).alloc o2).heap[w.heap.size + 1]? = some o1 ∧ (((w.alloc o0).alloc o1).alloc o2).heap[w.heap.size + 1 + 1]? = some o2 := by
  have h1 := alloc_new (w.alloc o0) o1
  have h2 := alloc_new ((w.alloc o0).alloc o1) o2
  simp only [size_alloc] at h1 h2
  exact ⟨alloc_at (alloc_at (alloc_new w o0)), alloc_at h1, h2⟩
theorem BP.alloc3 {w : World} {p m b T : Nat} {cf : Value} {z : Bool} {l : List UInt8} (h : BP w p m b cf T z l) (o o' o'' : Obj) : BP (((w.alloc o).alloc o').alloc o'') p m b cf T z l ∧ Fr (BPF w p b) (BPF (((w.alloc o).alloc o').alloc o'') p b) w (((w.alloc o).alloc o').alloc o'') :=
  ⟨(((h.alloc o).1.alloc o').1.alloc o'').1, (h.alloc o).2.trans (((h.alloc o).1.alloc o').2.trans (((h.alloc o).1.alloc o').1.alloc o'').2)⟩

/-- Seven cells, told one by one. -/
def Cells7 (w : World) (k : Nat) (v0 v1 v2 v3 v4 v5 v6 : Value) : Prop :=
  w.cell? ⟨k, 0, none⟩ = some v0 ∧ w.cell? ⟨k, 1, none⟩ = some v1 ∧ w.cell? ⟨k, 2, none⟩ = some v2 ∧ w.cell? ⟨k, 3, none⟩ = some v3 ∧ w.cell? ⟨k, 4, none⟩ = some v4 ∧ w.cell? ⟨k, 5, none⟩ = some v5 ∧ w.cell? ⟨k, 6, none⟩ = some v6
theorem cells7 {w : World} {k : Nat} {v0 v1 v2 v3 v4 v5 v6 : Value} {t : TypeId} (h : w.heap[k]? = some (.cells #[v0, v1, v2, v3, v4, v5, v6] t (0, 0))) : Cells7 w k v0 v1 v2 v3 v4 v5 v6 ∧ ∀ i, w.frozen? ⟨k, i, none⟩ = false :=
  ⟨⟨cell_at h 0, cell_at h 1, cell_at h 2, cell_at h 3, cell_at h 4, cell_at h 5, cell_at h 6⟩, free_at h⟩

theorem keep3 {w w2 : World} {p m b T : Nat} {cf : Value} {z : Bool} {l : List UInt8} {x y u : Array Value} {F' : Nat → Prop} (h : BP w p m b cf T z l)
    (hF : Fr (BPF (((w.alloc (.cells x 46 (0, 0))).alloc (.cells y 46 (0, 0))).alloc (.cells u 63 (0, 0))) p b) F' (((w.alloc (.cells x 46 (0, 0))).alloc (.cells y 46 (0, 0))).alloc (.cells u 63 (0, 0))) w2) :
    w2.heap[w.heap.size]? = some (.cells x 46 (0, 0)) ∧ w2.heap[w.heap.size + 1]? = some (.cells y 46 (0, 0)) ∧ w2.heap[w.heap.size + 1 + 1]? = some (.cells u 63 (0, 0)) := by
  have h3 := (h.alloc3 (.cells x 46 (0, 0)) (.cells y 46 (0, 0)) (.cells u 63 (0, 0))).1
  obtain ⟨n1, n2, n3⟩ := new3 w (.cells x 46 (0, 0)) (.cells y 46 (0, 0)) (.cells u 63 (0, 0))
  exact ⟨hF.block n1 (h3.notin n1 (by decide) (by decide) (by decide)), hF.block n2 (h3.notin n2 (by decide) (by decide) (by decide)), hF.block n3 (h3.notin n3 (by decide) (by decide) (by decide))⟩

theorem cell_other {w : World} {b j k i : Nat} {v x : Value} (h : w.cell? ⟨b, j, none⟩ = some x) (hne : b ≠ k) : (w.setCell ⟨k, i, none⟩ v).cell? ⟨b, j, none⟩ = some x :=
  (World.cell?_of_block (a := ⟨b, j, none⟩) (Below.heap_setCell w ⟨k, i, none⟩ v b hne)).trans h
theorem got_in {w w2 : World} {p m b T n : Nat} {cf : Value} {z : Bool} {l : List UInt8} {x y : Array Value} {u0 u1 u2 u3 u4 u5 u6 : Value}
    (hg : w2.heap[w.heap.size]? = some (.cells x 46 (0, 0)) ∧ w2.heap[w.heap.size + 1]? = some (.cells y 46 (0, 0)) ∧ w2.heap[w.heap.size + 1 + 1]? = some (.cells #[u0, u1, u2, u3, u4, u5, u6] 63 (0, 0)))
    (hP : BP w2 p m b cf T false (l.drop n)) (hF : Fr (BPF (((w.alloc (.cells x 46 (0, 0))).alloc (.cells y 46 (0, 0))).alloc (.cells #[u0, u1, u2, u3, u4, u5, u6] 63 (0, 0))) p b) (BPF w2 p b) (((w.alloc (.cells x 46 (0, 0))).alloc (.cells y 46 (0, 0))).alloc (.cells #[u0, u1, u2, u3, u4, u5, u6] 63 (0, 0))) w2)
    (h : BP w p m b cf T z l) (v0 v1 v2 v3 v4 v5 v6 : Value) :
    ((store7 w2 (w.heap.size + 1 + 1) v0 v1 v2 v3 v4 v5 v6).heap[w.heap.size]? = some (.cells x 46 (0, 0)) ∧ (store7 w2 (w.heap.size + 1 + 1) v0 v1 v2 v3 v4 v5 v6).heap[w.heap.size + 1]? = some (.cells y 46 (0, 0)) ∧
      (store7 w2 (w.heap.size + 1 + 1) v0 v1 v2 v3 v4 v5 v6).heap[w.heap.size + 1 + 1]? = some (.cells #[v0, v1, v2, v3, v4, v5, v6] 63 (0, 0))) ∧
    BP (store7 w2 (w.heap.size + 1 + 1) v0 v1 v2 v3 v4 v5 v6) p m b cf T false (l.drop n) ∧ Fr (BPF w p b) (BPF (store7 w2 (w.heap.size + 1 + 1) v0 v1 v2 v3 v4 v5 v6) p b) w (store7 w2 (w.heap.size + 1 + 1) v0 v1 v2 v3 v4 v5 v6) := by
  obtain ⟨h1, h2, h3⟩ := hg
  have hs := store7_fr (Fr.refl (fun k => k = w.heap.size + 1 + 1) w2) (Or.inl rfl) v0 v1 v2 v3 v4 v5 v6
  have hn : ¬ BPF w2 p b (w.heap.size + 1 + 1) := hP.notin h3 (by decide) (by decide) (by decide)
  obtain ⟨sz, hM⟩ := hP.mem
  obtain ⟨q1, q2⟩ := hP.old hs (tag_ne hM h3 (by decide)) fun k hk he => hn (he ▸ hk)
  exact ⟨⟨hs.block h1 (by omega), hs.block h2 (by omega), store7_at h3 v0 v1 v2 v3 v4 v5 v6⟩, q1, (store7_fr ((h.alloc3 _ _ _).2.trans hF) (Or.inr (by omega)) v0 v1 v2 v3 v4 v5 v6).conv fun k _ hk => q2 k hk⟩

theorem val_in {w W : World} {p m b T n : Nat} {cf : Value} {l : List UInt8} {x u : Array Value} {v0 v1 v2 v3 v4 v5 v6 : Value} 
    (hg : W.heap[w.heap.size]? = some (.cells x 46 (0, 0)) ∧ W.heap[w.heap.size + 1]? = some (.cells #[v0, v1, v2, v3, v4, v5, v6] 46 (0, 0)) ∧ W.heap[w.heap.size + 1 + 1]? = some (.cells u 63 (0, 0)))
    (hP : BP W p m b cf T false (l.drop n)) (hF : Fr (BPF w p b) (BPF W p b) w W) (n1 n2 : Value) :
    ((W.setCell ⟨w.heap.size + 1, 1, none⟩ n1).setCell ⟨w.heap.size + 1, 2, none⟩ n2).drew.heap[w.heap.size]? = some (.cells x 46 (0, 0)) ∧
    ((W.setCell ⟨w.heap.size + 1, 1, none⟩ n1).setCell ⟨w.heap.size + 1, 2, none⟩ n2).drew.heap[w.heap.size + 1]? = some (.cells #[v0, n1, n2, v3, v4, v5, v6] 46 (0, 0)) ∧
    BP ((W.setCell ⟨w.heap.size + 1, 1, none⟩ n1).setCell ⟨w.heap.size + 1, 2, none⟩ n2).drew p m b cf T false (l.drop n) ∧
    Fr (BPF w p b) (BPF ((W.setCell ⟨w.heap.size + 1, 1, none⟩ n1).setCell ⟨w.heap.size + 1, 2, none⟩ n2).drew p b) w ((W.setCell ⟨w.heap.size + 1, 1, none⟩ n1).setCell ⟨w.heap.size + 1, 2, none⟩ n2).drew := by
  obtain ⟨h1, h2, h3⟩ := hg
  have hs : Fr (fun k => k = w.heap.size + 1) (fun k => k = w.heap.size + 1) W ((W.setCell ⟨w.heap.size + 1, 1, none⟩ n1).setCell ⟨w.heap.size + 1, 2, none⟩ n2) :=
    ((Fr.refl (fun k => k = w.heap.size + 1) W).setCell (p := ⟨w.heap.size + 1, 1, none⟩) (Or.inl rfl) _).setCell (p := ⟨w.heap.size + 1, 2, none⟩) (Or.inl rfl) _
  have hn : ¬ BPF W p b (w.heap.size + 1) := hP.notin h2 (by decide) (by decide) (by decide)
  obtain ⟨sz, hM⟩ := hP.mem
  obtain ⟨q1, q2⟩ := hP.old hs (tag_ne hM h2 (by decide)) fun k hk he => hn (he ▸ hk)
  have k1 := setCell_at (i := 1) h2 n1
  have k2 := setCell_at (i := 2) k1 n2
  exact ⟨hs.block h1 (by omega), k2, q1.drew, ((hF.setCell (p := ⟨w.heap.size + 1, 1, none⟩) (Or.inr (by simp)) _).setCell (p := ⟨w.heap.size + 1, 2, none⟩) (Or.inr (by simp)) _).drew.conv fun k _ hk => q2 k hk⟩
theorem val_out {w V : World} {p m b T n : Nat} {cf : Value} {l : List UInt8} {a0 a1 a2 a3 a4 a5 a6 : Value} (h : V.heap[w.heap.size]? = some (.cells #[a0, a1, a2, a3, a4, a5, a6] 46 (0, 0)))
    (hP : BP V p m b cf T false (l.drop n)) (hF : Fr (BPF w p b) (BPF V p b) w V) (v0 v1 v2 v3 v4 v5 v6 : Value) :
    Cells7 (store7 V w.heap.size v0 v1 v2 v3 v4 v5 v6) w.heap.size v0 v1 v2 v3 v4 v5 v6 ∧ BP (store7 V w.heap.size v0 v1 v2 v3 v4 v5 v6) p m b cf T false (l.drop n) ∧ Fr (BPF w p b) (BPF (store7 V w.heap.size v0 v1 v2 v3 v4 v5 v6) p b) w (store7 V w.heap.size v0 v1 v2 v3 v4 v5 v6) := by
  have hs := store7_fr (Fr.refl (fun k => k = w.heap.size) V) (Or.inl rfl) v0 v1 v2 v3 v4 v5 v6
  have hn : ¬ BPF V p b w.heap.size := hP.notin h (by decide) (by decide) (by decide)
  obtain ⟨sz, hM⟩ := hP.mem
  obtain ⟨q1, q2⟩ := hP.old hs (tag_ne hM h (by decide)) fun k hk he => hn (he ▸ hk)
  exact ⟨(cells7 (store7_at h v0 v1 v2 v3 v4 v5 v6)).1, q1, (store7_fr hF (Or.inr (Nat.le_refl _)) v0 v1 v2 v3 v4 v5 v6).conv fun k _ hk => q2 k hk⟩

theorem get_I32_B (p m b T : Nat) (cf : Value) (z : Bool) (l : List UInt8) (w : World) (h : BP w p m b cf T z l) (hl : 4 ≤ l.length) :
    Calls Tryz.prog 56 #[binI p, .int .u8 8, .int .i64 1] w (BR w p m b cf T l 4 (valN 8 (wrap32 (Lib.beNat (l.take 4))))) := by
  have hb := fun w' h' => read_I32_B p m b T cf z l w' h' hl
  have HB := Lib.hid hb
  have HH := Lib.hid h
  clear hb h
  go_enter Tryz.func56, Tryz.ntmps56
  go_wp2_with fail
  refine (HB.out _ (HH.out.alloc3 _ _ _).1).mono ?_
  rintro e w2 ⟨rfl, hP, hF⟩
  obtain ⟨hg0, hg1, hg2⟩ := keep3 HH.out hF
  obtain ⟨⟨a0, a1, a2, a3, a4, a5, a6⟩, fa⟩ := cells7 hg0
  obtain ⟨⟨b0, b1, b2, b3, b4, b5, b6⟩, fb⟩ := cells7 hg1
  obtain ⟨⟨c0, c1, c2, c3, c4, c5, c6⟩, fc⟩ := cells7 hg2
  have HP := Lib.hid hP
  have HF := Lib.hid hF
  have HG := Lib.hid (And.intro hg0 (And.intro hg1 hg2))
  clear hg0 hg1 hg2 hP hF
  go_wp2_with fail
  have hW := got_in HG.out HP.out HF.out HH.out (.int .i64 0) (.int .i64 0) (.int .i64 0) (.int .i64 0) (.int .i64 0) (.int .i64 (wrap32 (Lib.beNat (l.take 4)))) (.slice none 0 0)
  unfold store7 at hW
  obtain ⟨W, hWe⟩ : ∃ W, W = (World.setCell (World.setCell (World.setCell (World.setCell (World.setCell (World.setCell (World.setCell w2 ⟨(w.heap.size + 1 + 1), 0, none⟩ (.int .i64 0)) ⟨(w.heap.size + 1 + 1), 1, none⟩ (.int .i64 0)) ⟨(w.heap.size + 1 + 1), 2, none⟩ (.int .i64 0)) ⟨(w.heap.size + 1 + 1), 3, none⟩ (.int .i64 0)) ⟨(w.heap.size + 1 + 1), 4, none⟩ (.int .i64 0)) ⟨(w.heap.size + 1 + 1), 5, none⟩ (.int .i64 (wrap32 (Lib.beNat (l.take 4))))) ⟨(w.heap.size + 1 + 1), 6, none⟩ (.slice none 0 0)) := ⟨_, rfl⟩
  rw [← hWe] at hW ⊢
  clear hWe
  obtain ⟨⟨hg0, hg1, hg2⟩, hq, hfr⟩ := hW
  clear a0 a1 a2 a3 a4 a5 a6 fa b0 b1 b2 b3 b4 b5 b6 fb c0 c1 c2 c3 c4 c5 c6 fc HP HF HG
  obtain ⟨⟨b0, b1, b2, b3, b4, b5, b6⟩, fb⟩ := cells7 hg1
  obtain ⟨⟨c0, c1, c2, c3, c4, c5, c6⟩, fc⟩ := cells7 hg2
  have HP := Lib.hid hq
  have HF := Lib.hid hfr
  have HG := Lib.hid (And.intro hg0 (And.intro hg1 hg2))
  clear hg0 hg1 hg2 hq hfr
  go_region
  have hV := val_in HG.out HP.out HF.out (.int .i64 (wrap32 (Lib.beNat (l.take 4)))) (.slice none 0 0)
  obtain ⟨V, hVe⟩ : ∃ V, V = ((W.setCell ⟨w.heap.size + 1, 1, none⟩ (.int .i64 (wrap32 (Lib.beNat (l.take 4))))).setCell ⟨w.heap.size + 1, 2, none⟩ (.slice none 0 0)).drew := ⟨_, rfl⟩
  rw [← hVe] at hV ⊢
  clear hVe b0 b1 b2 b3 b4 b5 b6 fb c0 c1 c2 c3 c4 c5 c6 fc HP HF HG
  obtain ⟨hg0, hg1, hq, hfr⟩ := hV
  obtain ⟨⟨a0, a1, a2, a3, a4, a5, a6⟩, fa⟩ := cells7 hg0
  obtain ⟨⟨b0, b1, b2, b3, b4, b5, b6⟩, fb⟩ := cells7 hg1
  have HX := Lib.hid (val_out hg0 hq hfr (.int .i64 8) (.int .i64 (wrap32 (Lib.beNat (l.take 4)))) (.slice none 0 0) (.int .i64 0) (.int .i64 0) (.slice none 0 0) (.slice none 0 0))
  clear hg0 hg1 hq hfr
  go_wp2
  obtain ⟨Z, hZe⟩ : ∃ Z, Z = (World.setCell (World.setCell (World.setCell (World.setCell (World.setCell (World.setCell (World.setCell V ⟨w.heap.size, 0, none⟩ (.int .i64 8)) ⟨w.heap.size, 1, none⟩ (.int .i64 (wrap32 (Lib.beNat (l.take 4))))) ⟨w.heap.size, 2, none⟩ (.slice none 0 0)) ⟨w.heap.size, 3, none⟩ (.int .i64 0)) ⟨w.heap.size, 4, none⟩ (.int .i64 0)) ⟨w.heap.size, 5, none⟩ (.slice none 0 0)) ⟨w.heap.size, 6, none⟩ (.slice none 0 0)) := ⟨_, rfl⟩
  have HY := HX.out
  unfold store7 at HY
  rw [← hZe] at HY ⊢
  clear hZe HX a0 a1 a2 a3 a4 a5 a6 b0 b1 b2 b3 b4 b5 b6 fa fb
  obtain ⟨⟨d0, d1, d2, d3, d4, d5, d6⟩, hq, hfr⟩ := HY
  refine bodyPost_ret (v := .tuple #[valN 8 (wrap32 (Lib.beNat (l.take 4))), .nilIface]) ?_ rfl ⟨rfl, hq, hfr⟩
  clear hq hfr HH HB
  rw [results_cell_tmp rfl]
  go_simp
end Go.Proofs.YtdifknecndlklaaGreatDoor
namespace Go.Proofs.YtdifknecndlklaaGreatDoor
open Go Go.RowKit
set_option maxHeartbeats 1000000
set_option maxRecDepth 100000

def HoldP (w : World) (l : List UInt8) (e : Ending) (w' : World) : Prop := ∃ m b, e = .returned (.pointer (some ⟨m, 0, none⟩)) ∧ Mem w' m b ∧ Buf w' b l.length true l ∧ Fr noF (BF w' b) w w' ∧ w.heap.size ≤ m

theorem I_holding (v : Value) (l : List UInt8) (w : World) (hv : Rd w v l) (hb : ∀ k, vblk v k → k < w.heap.size) (hl : l.length ≤ LIM) : Calls Tryz.prog 53 #[v] w (HoldP w l) := by
  have h1 : ∀ w1 m b, Mem w1 m b → Buf w1 b 0 true [] → Fr noF (BF w1 b) w w1 → w.heap.size ≤ m → Calls Tryz.prog 73 #[.pointer (some ⟨b, 0, none⟩), v] w1 (fun e w2 => e = .returned (.tuple #[.int .i64 (l.length : Nat), .nilIface]) ∧ HoldP w l (.returned (.pointer (some ⟨m, 0, none⟩))) w2) := by
    intro w1 m b hm hB hF hmn
    have hv1 : Rd w1 v l := hv.keep hF fun _ _ x => x
    refine (Buf_Write b 0 [] l v w1 hB (by omega) hv1 (fun k hk hx => hF.foot k (hb k hk) hx)).mono ?_
    rintro e w2 ⟨rfl, hB2, hF2⟩
    obtain ⟨sz, hm⟩ := hm
    rw [Nat.zero_add, List.nil_append] at hB2
    exact ⟨rfl, m, b, rfl, ⟨sz, hF2.block hm (hB.other hm (by decide) (by decide))⟩, hB2, hF.trans hF2, hmn⟩
  have H1 := Lib.hid h1
  have HN := Lib.hid NewTMemoryBuffer_raw
  clear h1 hv hb hl
  go_enter Tryz.func53, Tryz.ntmps53
  go_wp2_with fail
  refine (HN.out w).mono ?_
  rintro e w1 ⟨m, b, rfl, hm, hB, hF, hmn⟩
  have c0 := hm.cell
  have HX := Lib.hid (H1.out w1 m b hm hB hF hmn)
  clear hm hB hF hmn
  go_wp2_with fail
  refine HX.out.mono ?_
  rintro e w2 ⟨rfl, hx⟩
  have HY := Lib.hid hx
  clear hx
  go_wp2
  go_ret
  exact HY.out

/-- What is got: a value, how it ended, how many bytes are left. -/
def GetR (w : World) (v : Value) (kind left : Int) (e : Ending) (w' : World) : Prop := e = .returned (.tuple #[v, .int .i64 kind, .int .i64 left]) ∧ Fr noF noF w w'

/-- What stands when a number is got. -/
structure GotS (w w3 : World) (m b T : Nat) (l : List UInt8) : Prop where
  box : w3.heap[w.heap.size + 1]? = some (.cells #[.int .i64 0, .int .i64 0, .slice none 0 0, .int .i64 0, .int .i64 0, .slice none 0 0, .slice none 0 0] 46 (0, 0))
  mem : w3.cell? ⟨m, 0, none⟩ = some (.pointer (some ⟨b, 0, none⟩))
  buf : Buf w3 b T false l
  fr : Fr noF (BF w3 b) w w3
  mlt : m < w3.heap.size
  mne : m ≠ w.heap.size + 1
  nlt : w.heap.size + 1 < w3.heap.size

/-- What the end of Get reads: the value's box K, the memory buffer's pointer. -/
def EndS (w' : World) (K m b : Nat) (N : Int) : Prop := w'.cell? ⟨K, 0, none⟩ = some (.int .i64 8) ∧ w'.cell? ⟨K, 1, none⟩ = some (.int .i64 N) ∧ w'.cell? ⟨K, 2, none⟩ = some (.slice none 0 0) ∧ w'.cell? ⟨K, 3, none⟩ = some (.int .i64 0) ∧ w'.cell? ⟨K, 4, none⟩ = some (.int .i64 0) ∧ w'.cell? ⟨K, 5, none⟩ = some (.slice none 0 0) ∧ w'.cell? ⟨K, 6, none⟩ = some (.slice none 0 0) ∧ w'.cell? ⟨m, 0, none⟩ = some (.pointer (some ⟨b, 0, none⟩))
theorem EndS.drewN {W : World} {K m b : Nat} {N : Int} (h : EndS W K m b N) (q : Nat) : EndS (W.drewN q) K m b N := h
structure GotT (w W : World) (K m b T : Nat) (l : List UInt8) (N : Int) : Prop where
  box : W.heap[w.heap.size + 1]? = some (.cells #[.int .i64 0, .int .i64 0, .slice none 0 0, .int .i64 0, .int .i64 0, .slice none 0 0, .slice none 0 0] 46 (0, 0))
  s0 : EndS W K m b N
  s1 : ∀ X, Fr noF noF W X → EndS (store7 X (w.heap.size + 1) (.int .i64 8) (.int .i64 N) (.slice none 0 0) (.int .i64 0) (.int .i64 0) (.slice none 0 0) (.slice none 0 0)) K m b N
  b0 : Buf W b T false l
  b1 : ∀ X, Fr noF noF W X → Buf (store7 X (w.heap.size + 1) (.int .i64 8) (.int .i64 N) (.slice none 0 0) (.int .i64 0) (.int .i64 0) (.slice none 0 0) (.slice none 0 0)) b T false l
  fin : ∀ X, Fr noF noF W X → Cells7 (store7 X (w.heap.size + 1) (.int .i64 8) (.int .i64 N) (.slice none 0 0) (.int .i64 0) (.int .i64 0) (.slice none 0 0) (.slice none 0 0)) (w.heap.size + 1) (.int .i64 8) (.int .i64 N) (.slice none 0 0) (.int .i64 0) (.int .i64 0) (.slice none 0 0) (.slice none 0 0) ∧ Fr noF noF w (store7 X (w.heap.size + 1) (.int .i64 8) (.int .i64 N) (.slice none 0 0) (.int .i64 0) (.int .i64 0) (.slice none 0 0) (.slice none 0 0))

theorem endS {w' : World} {K m b : Nat} {N : Int} (h1 : w'.heap[K]? = some (.cells #[.int .i64 8, .int .i64 N, .slice none 0 0, .int .i64 0, .int .i64 0, .slice none 0 0, .slice none 0 0] 46 (0, 0))) (h2 : w'.cell? ⟨m, 0, none⟩ = some (.pointer (some ⟨b, 0, none⟩))) : EndS w' K m b N := by
  obtain ⟨⟨c0, c1, c2, c3, c4, c5, c6⟩, _⟩ := cells7 h1
  exact ⟨c0, c1, c2, c3, c4, c5, c6, h2⟩
/-- The seven cells of a box are written: what stands. -/
theorem store7_keep (w W : World) (n : Nat) (hn : n = w.heap.size + 1) (v0 v1 v2 v3 v4 v5 v6 : Value) (hfr : Fr noF noF w W) : ∃ X, X = store7 W n v0 v1 v2 v3 v4 v5 v6 ∧ Fr (fun k => k = n) (fun k => k = n) W X ∧ Fr noF noF w X :=
  ⟨_, rfl, store7_fr (Fr.refl (fun k => k = n) W) (Or.inl rfl) v0 v1 v2 v3 v4 v5 v6, store7_fr hfr (Or.inr (by omega)) v0 v1 v2 v3 v4 v5 v6⟩
theorem gotT {w W : World} {K m b T : Nat} {l : List UInt8} {N : Int} (hbox : W.heap[w.heap.size + 1]? = some (.cells #[.int .i64 0, .int .i64 0, .slice none 0 0, .int .i64 0, .int .i64 0, .slice none 0 0, .slice none 0 0] 46 (0, 0))) (hnew : W.heap[K]? = some (.cells #[.int .i64 8, .int .i64 N, .slice none 0 0, .int .i64 0, .int .i64 0, .slice none 0 0, .slice none 0 0] 46 (0, 0)))
    (hmem : W.cell? ⟨m, 0, none⟩ = some (.pointer (some ⟨b, 0, none⟩))) (hb : Buf W b T false l) (hfr : Fr noF noF w W) (hne : m ≠ w.heap.size + 1) (hK : K ≠ w.heap.size + 1) : GotT w W K m b T l N := by
  have hnb : ∀ k, BF W b k → ¬ k = w.heap.size + 1 := fun k hk he => hb.other hbox (by decide) (by decide) (he ▸ hk)
  refine ⟨hbox, endS hnew hmem, fun Y hY => ?_, hb, fun Y hY => ?_, fun Y hY => ?_⟩
  · obtain ⟨X, hX, h1, h2⟩ := store7_keep w Y _ rfl (.int .i64 8) (.int .i64 N) (.slice none 0 0) (.int .i64 0) (.int .i64 0) (.slice none 0 0) (.slice none 0 0) (hfr.trans hY)
    rw [← hX]
    exact endS (h1.block (hY.block hnew fun x => x) hK) (h1.cell (hY.cell hmem fun x => x) hne)
  · obtain ⟨X, hX, h1, h2⟩ := store7_keep w Y _ rfl (.int .i64 8) (.int .i64 N) (.slice none 0 0) (.int .i64 0) (.int .i64 0) (.slice none 0 0) (.slice none 0 0) (hfr.trans hY)
    rw [← hX]
    exact (hb.keep hY fun _ _ x => x).keep h1 fun k hk he => hnb k ((BF.of_same (hY.keep b hb.lt fun x => x)).1 hk) he
  · have h3 := (cells7 (store7_at (w := Y) (hY.block hbox fun x => x) (.int .i64 8) (.int .i64 N) (.slice none 0 0) (.int .i64 0) (.int .i64 0) (.slice none 0 0) (.slice none 0 0))).1
    obtain ⟨X, hX, h1, h2⟩ := store7_keep w Y _ rfl (.int .i64 8) (.int .i64 N) (.slice none 0 0) (.int .i64 0) (.int .i64 0) (.slice none 0 0) (.slice none 0 0) (hfr.trans hY)
    rw [← hX] at h3 ⊢
    exact ⟨h3, h2⟩
theorem GotS.next {w w3 : World} {m b T : Nat} {l : List UInt8} (h : GotS w w3 m b T l) (N : Int) :
    GotT w (w3.alloc (.cells #[.int .i64 8, .int .i64 N, .slice none 0 0, .int .i64 0, .int .i64 0, .slice none 0 0, .slice none 0 0] 46 (0, 0))) w3.heap.size m b T l N :=
  have hf : Fr noF noF w3 (w3.alloc (.cells #[.int .i64 8, .int .i64 N, .slice none 0 0, .int .i64 0, .int .i64 0, .slice none 0 0, .slice none 0 0] 46 (0, 0))) := (Fr.refl noF w3).alloc _
  gotT (alloc_at h.box) (alloc_new w3 _) (hf.cell h.mem fun x => x) (h.buf.keep hf fun _ _ x => x) ((h.fr.conv fun _ _ x => x.elim).trans hf) h.mne (by have := h.nlt; omega)

theorem res_Get (w : World) (tmps : Array Value) (k : Nat) (v0 v1 v2 v3 v4 v5 v6 a c : Value) (h8 : tmps.getD 8 undef = .pointer (some ⟨k, 0, none⟩)) (h9 : tmps.getD 9 undef = a) (h10 : tmps.getD 10 undef = c) (hc : Cells7 w k v0 v1 v2 v3 v4 v5 v6) :
    (results Tryz.f33 tmps).run Tryz.prog w = .ok (.tuple #[.agg #[v0, v1, v2, v3, v4, v5, v6], a, c]) w := by
  obtain ⟨c0, c1, c2, c3, c4, c5, c6⟩ := hc
  have h8' : tmps[8]?.getD undef = .pointer (some ⟨k, 0, none⟩) := by simpa using h8
  have h9' : tmps[9]?.getD undef = a := by simpa using h9
  have h10' : tmps[10]?.getD undef = c := by simpa using h10
  clear h8 h9 h10
  simp [results, Tryz.results33, go_sem, *]
  done

theorem I_Get_I32_B (pr : Int) (pl sr sw : Bool) (ms co fr : Int) (hc : pr ≠ 1) (v : Value) (l : List UInt8) (w : World) (hv : Rd w v l) (hb : ∀ k, vblk v k → k < w.heap.size) (hl : l.length ≤ LIM) (h4 : 4 ≤ l.length) :
    Calls Tryz.prog 33 #[.agg #[.int .i64 pr, .bool pl, .bool sr, .bool sw, .int .i32 ms, .int .i32 co, .int .i32 fr], .int .i64 8, v, .int .i64 1] w (GetR w (valN 8 (wrap32 (Lib.beNat (l.take 4)))) 0 ((l.drop 4).length : Nat)) := by
  have hv2 : Rd ((w.alloc (.cells #[.int .i64 pr, .bool pl, .bool sr, .bool sw, .int .i32 ms, .int .i32 co, .int .i32 fr] 23 (0, 0))).alloc (.cells #[.int .i64 0, .int .i64 0, .slice none 0 0, .int .i64 0, .int .i64 0, .slice none 0 0, .slice none 0 0] 46 (0, 0))) v l :=
    hv.keep (F := noF) (((Fr.refl noF w).alloc _).alloc _) fun _ _ x => x
  have h1 := I_holding v l _ hv2 (fun k hk => by have := hb k hk; simp; omega) hl
  have h2 : ∀ w1 m b, Mem w1 m b → Buf w1 b l.length true l → Fr noF (BF w1 b) ((w.alloc (.cells #[.int .i64 pr, .bool pl, .bool sr, .bool sw, .int .i32 ms, .int .i32 co, .int .i32 fr] 23 (0, 0))).alloc (.cells #[.int .i64 0, .int .i64 0, .slice none 0 0, .int .i64 0, .int .i64 0, .slice none 0 0, .slice none 0 0] 46 (0, 0))) w1 →
      (Calls Tryz.prog 39 #[.agg #[.int .i64 pr, .bool pl, .bool sr, .bool sw, .int .i32 ms, .int .i32 co, .int .i32 fr], memI m] w1 (fun e w2 => ∃ p, e = .returned (binI p) ∧
        Calls Tryz.prog 56 #[binI p, .int .u8 8, .int .i64 1] w2 (fun e w3 => e = .returned (.tuple #[valN 8 (wrap32 (Lib.beNat (l.take 4))), .nilIface]) ∧ GotS w w3 m b l.length (l.drop 4)))) := by
    intro w1 m b hm hB hF
    have hf0 : Fr noF (BF w1 b) w w1 := (((Fr.refl noF w).alloc _).alloc _).trans hF
    have n2 := hF.block (new2 w _ _).2 fun x => x
    refine (ProtB_raw m b l.length true l ⟨pr, pl, sr, sw, ms, co, fr⟩ w1 hc hm hB).mono ?_
    rintro e w2 ⟨p, cf, rfl, hcf, hP, hF2, hp⟩
    have k2 := hF2.block n2 (hB.other n2 (by decide) (by decide))
    refine ⟨p, rfl, (get_I32_B p m b l.length cf true l w2 hP h4).mono ?_⟩
    rintro e w3 ⟨rfl, hP3, hF3⟩
    have k3 := hF3.block k2 (hP.notin k2 (by decide) (by decide) (by decide))
    obtain ⟨sz, hM⟩ := hP3.mem
    exact ⟨rfl, k3, hP3.mem.cell, hP3.buf, ((hf0.trans hF2).trans hF3).conv fun k _ hk => Or.inr hk, lt_heap hM, tag_ne hM k3 (by decide), lt_heap k3⟩
  have HT := Lib.hid (I_typ 8)
  have H1 := Lib.hid h1
  have H2 := Lib.hid h2
  clear h1 h2 hv hv2 hb hl h4 hc
  go_enter Tryz.func33, Tryz.ntmps33
  go_wp2_with fail
  refine H1.out.mono ?_
  rintro e w1 ⟨m, b, rfl, hm, hB, hF, hmn⟩
  have n1 := hF.block (new2 w _ _).1 fun x => x
  obtain ⟨⟨c0, c1, c2, c3, c4, c5, c6⟩, fc⟩ := cells7 n1
  have HX := Lib.hid (H2.out w1 m b hm hB hF)
  clear hm hB hF hmn n1
  go_wp2_with fail
  refine HX.out.mono ?_
  rintro e w2 ⟨p, rfl, hx⟩
  have HY := Lib.hid hx
  clear hx c0 c1 c2 c3 c4 c5 c6 fc HX
  go_wp2_with (go_at_call 57; refine (HT.out _).mono ?_; rintro e w' ⟨rfl, rfl⟩)
  refine HY.out.mono ?_
  rintro e w3 ⟨rfl, hS⟩
  obtain ⟨⟨c0, c1, c2, c3, c4, c5, c6⟩, fc⟩ := cells7 hS.box
  have s0 := hS.mem
  have hne := hS.mne
  have hlt := hS.mlt
  have hnlt := hS.nlt
  have HS := Lib.hid hS
  clear hS HY
  go_wp2_with fail
  obtain ⟨N, hN⟩ : ∃ N, N = wrap32 (Lib.beNat (l.take 4)) := ⟨_, rfl⟩
  rw [← hN]
  have hT := HS.out.next N
  obtain ⟨K, hK⟩ : ∃ K, K = w3.heap.size := ⟨_, rfl⟩
  obtain ⟨W, hW⟩ : ∃ W, W = w3.alloc (.cells #[.int .i64 8, .int .i64 N, .slice none 0 0, .int .i64 0, .int .i64 0, .slice none 0 0, .slice none 0 0] 46 (0, 0)) := ⟨_, rfl⟩
  rw [← hW] at hT ⊢
  rw [← hK] at hT ⊢
  have HN := Lib.hid hN
  clear hW hK hN HS c0 c1 c2 c3 c4 c5 c6 fc s0 hne hlt hnlt
  obtain ⟨⟨c0, c1, c2, c3, c4, c5, c6⟩, fc⟩ := cells7 hT.box
  have s0 := hT.s0
  have fd : Fr noF noF W W.drew := (Fr.refl noF W).drew
  have fn : ∀ q, Fr noF noF W (W.drewN q) := fun q => (Fr.refl noF W).drewN q
  have s1 : EndS W.drew K m b N := s0
  have s2 : ∀ q, EndS (W.drewN q) K m b N := fun _ => s0
  have s4 : ∀ q, EndS (store7 (W.drewN q) (w.heap.size + 1) (.int .i64 8) (.int .i64 N) (.slice none 0 0) (.int .i64 0) (.int .i64 0) (.slice none 0 0) (.slice none 0 0)) K m b N := fun q => hT.s1 _ (fn q)
  have s5 : EndS (store7 W.drew (w.heap.size + 1) (.int .i64 8) (.int .i64 N) (.slice none 0 0) (.int .i64 0) (.int .i64 0) (.slice none 0 0) (.slice none 0 0)) K m b N := hT.s1 _ fd
  have s6 : ∀ q, EndS ((store7 W.drew (w.heap.size + 1) (.int .i64 8) (.int .i64 N) (.slice none 0 0) (.int .i64 0) (.int .i64 0) (.slice none 0 0) (.slice none 0 0)).drewN q) K m b N := fun q => (hT.s1 _ fd).drewN q
  have h0 := hT.b0
  have h1 := hT.b1
  have hl0 : Calls Tryz.prog 55 #[.pointer (some ⟨b, 0, none⟩)] W.drew fun e w' => e = .returned (.int .i64 ((l.drop 4).length : Int)) ∧ ∃ q', W.drew.drewN q' = w' := Buf_Len b _ false (l.drop 4) _ h0
  have HL0 := Lib.hid hl0
  clear hl0
  have hl1 : ∀ q, Calls Tryz.prog 55 #[.pointer (some ⟨b, 0, none⟩)] (W.drewN q) fun e w' => e = .returned (.int .i64 ((l.drop 4).length : Int)) ∧ ∃ q', (W.drewN q).drewN q' = w' := fun q => Buf_Len b _ false (l.drop 4) _ h0
  have HL1 := Lib.hid hl1
  clear hl1
  have hl2 : Calls Tryz.prog 55 #[.pointer (some ⟨b, 0, none⟩)] (store7 W.drew (w.heap.size + 1) (.int .i64 8) (.int .i64 N) (.slice none 0 0) (.int .i64 0) (.int .i64 0) (.slice none 0 0) (.slice none 0 0)) fun e w' => e = .returned (.int .i64 ((l.drop 4).length : Int)) ∧ ∃ q', (store7 W.drew (w.heap.size + 1) (.int .i64 8) (.int .i64 N) (.slice none 0 0) (.int .i64 0) (.int .i64 0) (.slice none 0 0) (.slice none 0 0)).drewN q' = w' := Buf_Len b _ false (l.drop 4) _ (h1 _ fd)
  have HL2 := Lib.hid hl2
  clear hl2
  have hl3 : ∀ q, Calls Tryz.prog 55 #[.pointer (some ⟨b, 0, none⟩)] (store7 (W.drewN q) (w.heap.size + 1) (.int .i64 8) (.int .i64 N) (.slice none 0 0) (.int .i64 0) (.int .i64 0) (.slice none 0 0) (.slice none 0 0)) fun e w' => e = .returned (.int .i64 ((l.drop 4).length : Int)) ∧ ∃ q', (store7 (W.drewN q) (w.heap.size + 1) (.int .i64 8) (.int .i64 N) (.slice none 0 0) (.int .i64 0) (.int .i64 0) (.slice none 0 0) (.slice none 0 0)).drewN q' = w' := fun q => Buf_Len b _ false (l.drop 4) _ (h1 _ (fn q))
  have HL3 := Lib.hid hl3
  clear hl3
  have HF := Lib.hid hT.fin
  clear hT h0 h1
  go_region_held3 (fun w' => w'.cell? ⟨K, 0, none⟩ = some (.int .i64 8) ∧ w'.cell? ⟨K, 1, none⟩ = some (.int .i64 N) ∧ w'.cell? ⟨K, 2, none⟩ = some (.slice none 0 0) ∧ w'.cell? ⟨K, 3, none⟩ = some (.int .i64 0) ∧ w'.cell? ⟨K, 4, none⟩ = some (.int .i64 0) ∧ w'.cell? ⟨K, 5, none⟩ = some (.slice none 0 0) ∧ w'.cell? ⟨K, 6, none⟩ = some (.slice none 0 0) ∧ w'.cell? ⟨m, 0, none⟩ = some (.pointer (some ⟨b, 0, none⟩))) ((show EndS _ K m b N; first | with_reducible exact s0 | with_reducible exact s1 | with_reducible exact s2 _ | with_reducible exact s4 _ | with_reducible exact s5 | with_reducible exact s6 _))
    (first | (go_at_call 41; refine (kind_nil _).mono ?_; rintro e w' ⟨rfl, rfl⟩) | (go_at_call 55; with_reducible refine (HL0.out).mono ?_; rintro e w' ⟨rfl, q, rfl⟩) | (go_at_call 55; with_reducible refine (HL1.out _).mono ?_; rintro e w' ⟨rfl, q, rfl⟩) | (go_at_call 55; with_reducible refine (HL2.out).mono ?_; rintro e w' ⟨rfl, q, rfl⟩) | (go_at_call 55; with_reducible refine (HL3.out _).mono ?_; rintro e w' ⟨rfl, q, rfl⟩))
  all_goals go_wp2
  all_goals refine bodyPost_ret (res_Get _ _ _ _ _ _ _ _ _ _ _ _ rfl rfl rfl (HF.out _ (fn _)).1) rfl ⟨?_, (HF.out _ (fn _)).2⟩
  all_goals (have he : (l.drop 4).length = l.length - 4 := by simp)
  all_goals (rw [he]; first | rfl | (rw [← HN.out]; rfl))
end Go.Proofs.YtdifknecndlklaaGreatDoor
namespace Go.Proofs.YtdifknecndlklaaGreatDoor
open Go Go.RowKit
set_option maxHeartbeats 1000000
set_option maxRecDepth 100000

theorem Rd.len {w : World} {v : Value} {l : List UInt8} (h : Rd w v l) : ∃ a n c, v = .slice a n c ∧ l.length = n := by
  rcases h with ⟨rfl, rfl⟩ | ⟨a, n, c, rfl, hl, _⟩
  · exact ⟨none, 0, 0, rfl, rfl⟩
  · exact ⟨_, _, _, rfl, hl⟩

theorem L_equal (v1 v2 : Value) (l1 l2 : List UInt8) (w : World) (h1 : Rd w v1 l1) (h2 : Rd w v2 l2) : Calls Tryz.prog 14 #[v1, v2] w fun e w' => e = .returned (.bool (decide (l1 = l2))) ∧ ∃ q, w.drewN q = w' := by
  obtain ⟨a1, n1, c1, rfl, e1⟩ := h1.len
  obtain ⟨a2, n2, c2, rfl, e2⟩ := h2.len
  by_cases hne : n1 = n2
  · subst hne
    have hb : (n1 : Int) ≤ 9223372036854775807 := by
      rcases h1 with ⟨h, _⟩ | ⟨a, n, c, h, _, hc, hm, _⟩
      · injection h with _ h _; omega
      · injection h with _ h _; unfold maxLen at hm; omega
    have H1 := Lib.hid h1
    have H2 := Lib.hid h2
    clear h1 h2
    go_enter Tryz.func14, Tryz.ntmps14
    go_wp2_with fail
    go_loopw [5] (fun i wr => ∃ (k q : Nat), i = .int .i64 k ∧ k ≤ n1 ∧ l1.take k = l2.take k ∧ wr = w.drewN q) (fun i _ => n1 - (intOf i).toNat)
    case atStart => exact ⟨0, 0, rfl, by omega, rfl, rfl⟩
    case round =>
      obtain ⟨k, q, rfl, hk, htk, rfl⟩ := hrel
      rcases Nat.lt_or_ge k n1 with hlt | hge
      · have hk0 : (0 : Int) ≤ (k : Int) := by omega
        have hk1 : (k : Int) < (n1 : Int) := by omega
        obtain ⟨u1, hu1⟩ : ∃ u, l1[k]? = some u := ⟨_, List.getElem?_eq_getElem (by omega)⟩
        obtain ⟨u2, hu2⟩ : ∃ u, l2[k]? = some u := ⟨_, List.getElem?_eq_getElem (by omega)⟩
        have p1 : ∃ b1, a1 = some b1 ∧ w.cell? (b1.add k) = some (.int .u8 u1.toNat) := by
          rcases H1.out with ⟨h, rfl⟩ | ⟨a, n, c, h, _, _, _, hs⟩
          · simp at hu1
          · injection h with h _ _; exact ⟨a, h, hs k u1 hu1⟩
        have p2 : ∃ b1, a2 = some b1 ∧ w.cell? (b1.add k) = some (.int .u8 u2.toNat) := by
          rcases H2.out with ⟨h, rfl⟩ | ⟨a, n, c, h, _, _, _, hs⟩
          · simp at hu2
          · injection h with h _ _; exact ⟨a, h, hs k u2 hu2⟩
        obtain ⟨b1, rfl, d1⟩ := p1
        obtain ⟨b2, rfl, d2⟩ := p2
        by_cases hu : u1 = u2
        · subst hu
          have hst : l1.take (k + 1) = l2.take (k + 1) := by rw [List.take_add_one, List.take_add_one, htk, hu1, hu2]
          have HS := Lib.hid hst
          have hbb : (((u1.toNat : Nat) : Int) != ((u1.toNat : Nat) : Int)) = false := by simp
          have hk2 : (k : Int) + 1 ≤ 9223372036854775807 := by omega
          clear hst htk hu1 hu2
          go_wp2_with fail
          go_quiet (fail)
          go_wp2
          refine ⟨⟨k + 1, q + nq, rfl, by omega, HS.out, ?_⟩, ?_⟩
          · first | rfl | (simp [World.drewN]; omega)
          · show n1 - ((k : Int) + 1).toNat < n1 - (k : Int).toNat
            omega
        · have hd : decide (l1 = l2) = false := decide_eq_false (fun e => hu (by rw [e, hu2] at hu1; exact (Option.some.inj hu1).symm))
          have HD := Lib.hid hd
          have hbb : (((u1.toNat : Nat) : Int) != ((u2.toNat : Nat) : Int)) = true := by
            simp only [bne_iff_ne, ne_eq, Int.ofNat_inj]
            exact fun e => hu (UInt8.toNat_inj.1 e)
          clear hd htk hu1 hu2
          go_wp2_with fail
          go_quiet (fail)
          go_wp2
          go_ret
          exact ⟨by rw [HD.out]; rfl, q + nq, by first | rfl | (simp [World.drewN]; omega)⟩
      · obtain rfl : k = n1 := by omega
        have hd : decide (l1 = l2) = true := by
          rw [List.take_of_length_le (by omega), List.take_of_length_le (by omega)] at htk
          exact decide_eq_true htk
        have HD := Lib.hid hd
        clear hd htk
        go_wp2
        go_ret
        exact ⟨by rw [HD.out]; rfl, _, rfl⟩
  · have hd : decide (l1 = l2) = false := decide_eq_false (fun e => hne (by rw [← e1, ← e2, e]))
    have hnn : ¬ (n1 : Int) = n2 := by omega
    rw [hd]
    clear h1 h2
    go_enter Tryz.func14, Tryz.ntmps14
    go_wp2
    go_ret
    exact ⟨rfl, 0, rfl⟩
end Go.Proofs.YtdifknecndlklaaGreatDoor
namespace Go.Proofs.YtdifknecndlklaaGreatDoor
open Go Go.RowKit
set_option maxHeartbeats 1000000
set_option maxRecDepth 100000

theorem known_put (w : World) : Calls Tryz.prog 22 #[.agg #[.int .i64 0, .bool true, .bool false, .bool false, .int .i32 0, .int .i32 0, .int .i32 0], valN 8 258] w (PutR w [0, 0, 1, 2]) :=
  I_Put_B 0 true false false 0 0 0 (by decide) _ _ _ _ _ _ _ [0, 0, 1, 2] w fun p m b cf w1 _ _ hP => put_I32_B p m b 0 cf [] 258 _ _ _ _ _ w1 hP (by decide)
theorem vint5 : vint (zig (IntKind.i32.wrap (-3))).toNat = [5] := by
  rw [show (zig (IntKind.i32.wrap (-3))).toNat = 5 by decide, vint_small (by decide)]
  rfl
theorem known_put2 (w : World) : Calls Tryz.prog 22 #[.agg #[.int .i64 1, .bool true, .bool false, .bool false, .int .i32 0, .int .i32 0, .int .i32 0], valN 8 (-3)] w (PutR w [5]) :=
  I_Put_C 1 true false false 0 0 0 rfl _ _ _ _ _ _ _ [5] w fun p m b cf w1 _ _ hP => by
    have h := put_I32_C p m b 0 cf CSt.new [] (-3) (.slice none 0 0) (.int .i64 0) (.int .i64 0) (.slice none 0 0) (.slice none 0 0) w1 hP (by decide)
    rw [vint5] at h
    exact h
theorem known_get (w : World) (g : Nat) (hg : w.heap[g]? = some (.cells (Lib.byteCells [0, 0, 1, 2, 9]).toArray U8 (0, 0))) : Calls Tryz.prog 33 #[.agg #[.int .i64 0, .bool true, .bool false, .bool false, .int .i32 0, .int .i32 0, .int .i32 0], .int .i64 8, .slice (some ⟨g, 0, none⟩) 5 5, .int .i64 1] w (GetR w (valN 8 258) 0 1) := by
  have hv : Rd w (.slice (some ⟨g, 0, none⟩) 5 5) [0, 0, 1, 2, 9] := Or.inr ⟨_, 5, 5, rfl, rfl, Nat.le_refl _, by unfold maxLen; omega, fun j u hj => by
    rw [Lib.addr_add, cell_at hg]
    simp only [Lib.byteCells, List.getElem?_toArray, Nat.zero_add, List.getElem?_map, hj, Option.map_some]⟩
  have e : wrap32 (Lib.beNat (List.take 4 [0, 0, 1, 2, 9])) = 258 := by simp [Lib.beNat, Lib.beFrom, wrap32]
  have h := I_Get_I32_B 0 true false false 0 0 0 (by decide) _ [0, 0, 1, 2, 9] w hv (fun k hk => by cases hk; exact lt_heap hg) (by decide) (by decide)
  rw [e] at h
  exact h

theorem Rd_new (W : World) (l : List UInt8) (hl : l.length ≤ 100) : Rd (W.alloc (.cells (Lib.byteCells l).toArray U8 (0, 0))) (.slice (some ⟨W.heap.size, 0, none⟩) l.length l.length) l :=
  Or.inr ⟨_, l.length, l.length, rfl, rfl, Nat.le_refl _, by unfold maxLen; omega, fun j u hj => by
    rw [Lib.addr_add, cell_at (alloc_new W _)]
    simp only [Lib.byteCells, List.getElem?_toArray, Nat.zero_add, List.getElem?_map, hj, Option.map_some]⟩

def KnownP (w : World) (e : Ending) (w' : World) : Prop := e = .returned (.bool true) ∧ Fr noF noF w w'
theorem eqP {v : Value} {l : List UInt8} {w1 W : World} (HE : ∀ (v1 v2 : Value) (l1 l2 : List UInt8) (w : World), Rd w v1 l1 → Rd w v2 l2 → Calls Tryz.prog 14 #[v1, v2] w fun e w' => e = .returned (.bool (decide (l1 = l2))) ∧ ∃ q, w.drewN q = w')
    (h : Rd w1 v l) (hf : Fr noF noF w1 W) (m : List UInt8) (hm : m.length ≤ 100) (N : Nat) (hN : W.heap.size = N) :
    Calls Tryz.prog 14 #[v, .slice (some ⟨N, 0, none⟩) m.length m.length] (W.alloc (.cells (Lib.byteCells m).toArray U8 (0, 0))) fun e w' => e = .returned (.bool (decide (l = m))) ∧ ∃ q, (W.alloc (.cells (Lib.byteCells m).toArray U8 (0, 0))).drewN q = w' := by
  subst hN
  exact HE v _ l m _ (h.keep (F := noF) (hf.alloc _) fun _ _ x => x) (Rd_new W m hm)

theorem L_known (w : World) : Calls Tryz.prog 10 #[] w (KnownP w) := by
  have HP := Lib.hid known_put
  have HQ := Lib.hid known_put2
  have HG := Lib.hid known_get
  have HE := Lib.hid L_equal
  go_enter Tryz.func10, Tryz.ntmps10
  go_wp2_with fail
  refine (HP.out _).mono ?_
  rintro e w1 ⟨v1, rfl, hr1, hb1, hf1⟩
  have R1 := Lib.hid (And.intro hr1 (And.intro hb1 hf1))
  clear hr1 hb1 hf1
  go_wp2_with fail
  refine (HQ.out _).mono ?_
  rintro e w2 ⟨v2, rfl, hr2, hb2, hf2⟩
  have R2 := Lib.hid (And.intro hr2 (And.intro hb2 hf2))
  clear hr2 hb2 hf2
  go_wp2_with fail
  refine (HG.out _ _ (alloc_new w2 _)).mono ?_
  rintro e w3 ⟨rfl, hf3⟩
  have R3 := Lib.hid hf3
  clear hf3
  go_wp2_with fail
  have hF : Fr noF noF w1 w3 := (R2.out.2.2.alloc _).trans R3.out
  have hW : Fr noF noF w w3 := R1.out.2.2.trans hF
  have hF2 : Fr noF noF w2 w3 := ((Fr.refl noF w2).alloc _).trans R3.out
  have HF2 := Lib.hid hF2
  have HW := Lib.hid hW
  have q1 := eqP HE.out R1.out.1 (hF.alloc (.cells #[.int .i64 8, .int .i64 258, .slice none 0 0, .int .i64 0, .int .i64 0, .slice none 0 0, .slice none 0 0] 46 (0, 0))) [0, 0, 1, 2] (by decide) (w3.heap.size + 1) (by simp)
  have Q1 := Lib.hid q1
  clear q1 hF hW hF2
  refine Q1.out.mono ?_
  rintro e w4 ⟨rfl, q, rfl⟩
  clear Q1
  go_wp2_with fail
  have q2 := eqP HE.out R2.out.1 (((HF2.out.alloc (.cells #[.int .i64 8, .int .i64 258, .slice none 0 0, .int .i64 0, .int .i64 0, .slice none 0 0, .slice none 0 0] 46 (0, 0))).alloc (.cells (Lib.byteCells [0, 0, 1, 2]).toArray U8 (0, 0))).drewN q) [5] (by decide) (w3.heap.size + 1 + 1) (by simp)
  have hfin : Fr noF noF w ((((w3.alloc (.cells #[.int .i64 8, .int .i64 258, .slice none 0 0, .int .i64 0, .int .i64 0, .slice none 0 0, .slice none 0 0] 46 (0, 0))).alloc (.cells (Lib.byteCells [0, 0, 1, 2]).toArray U8 (0, 0))).drewN q).alloc (.cells (Lib.byteCells [5]).toArray U8 (0, 0))) := (((HW.out.alloc _).alloc _).drewN q).alloc _
  have hcell : ((((w3.alloc (.cells #[.int .i64 8, .int .i64 258, .slice none 0 0, .int .i64 0, .int .i64 0, .slice none 0 0, .slice none 0 0] 46 (0, 0))).alloc (.cells (Lib.byteCells [0, 0, 1, 2]).toArray U8 (0, 0))).drewN q).alloc (.cells (Lib.byteCells [5]).toArray U8 (0, 0))).cell? ⟨w3.heap.size, 1, none⟩ = some (.int .i64 258) := by
    have h1 := alloc_at (o := .cells (Lib.byteCells [5]).toArray U8 (0, 0)) (w := ((w3.alloc (.cells #[.int .i64 8, .int .i64 258, .slice none 0 0, .int .i64 0, .int .i64 0, .slice none 0 0, .slice none 0 0] 46 (0, 0))).alloc (.cells (Lib.byteCells [0, 0, 1, 2]).toArray U8 (0, 0))).drewN q) (alloc_at (o := .cells (Lib.byteCells [0, 0, 1, 2]).toArray U8 (0, 0)) (alloc_new w3 (.cells #[.int .i64 8, .int .i64 258, .slice none 0 0, .int .i64 0, .int .i64 0, .slice none 0 0, .slice none 0 0] 46 (0, 0))))
    rw [cell_at h1]
    rfl
  obtain ⟨Z, hZ⟩ : ∃ Z, Z = ((((w3.alloc (.cells #[.int .i64 8, .int .i64 258, .slice none 0 0, .int .i64 0, .int .i64 0, .slice none 0 0, .slice none 0 0] 46 (0, 0))).alloc (.cells (Lib.byteCells [0, 0, 1, 2]).toArray U8 (0, 0))).drewN q).alloc (.cells (Lib.byteCells [5]).toArray U8 (0, 0))) := ⟨_, rfl⟩
  rw [← hZ] at q2 hfin hcell
  have Q2 := Lib.hid q2
  have HZ := Lib.hid hfin
  change Calls Tryz.prog 14 #[v2, _] ((((w3.alloc (.cells #[.int .i64 8, .int .i64 258, .slice none 0 0, .int .i64 0, .int .i64 0, .slice none 0 0, .slice none 0 0] 46 (0, 0))).alloc (.cells (Lib.byteCells [0, 0, 1, 2]).toArray U8 (0, 0))).drewN q).alloc (.cells (Lib.byteCells [5]).toArray U8 (0, 0))) _
  rw [← hZ]
  clear hZ q2 hfin HF2 HW R1 R2 R3
  refine Q2.out.mono ?_
  rintro e w5 ⟨rfl, q', rfl⟩
  clear Q2
  go_wp2
  go_ret
  exact ⟨rfl, HZ.out.drewN q'⟩
end Go.Proofs.YtdifknecndlklaaGreatDoor
