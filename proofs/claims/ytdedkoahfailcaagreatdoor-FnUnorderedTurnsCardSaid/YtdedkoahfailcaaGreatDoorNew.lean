/- New memory buffers, new protocols over them. -/
import Derived.Test.YtdedkoahfailcaaGreatDoorCfg
import Derived.Stop.Asserts
namespace Go.Proofs.YtdedkoahfailcaaGreatDoor
open Go Go.RowKit
set_option maxHeartbeats 1000000
set_option maxRecDepth 100000

/-- A new memory buffer. -/
def NewM (w : World) (e : Ending) (w' : World) : Prop := ∃ m b, e = .returned (.pointer (some ⟨m, 0, none⟩)) ∧ Mem w' m b ∧ Buf w' b 0 true [] ∧ Fr noF (BF w' b) w w' ∧ w.heap.size ≤ m

theorem new2 (w : World) (o0 o1 : Obj) : ((w.alloc o0).alloc o1).heap[w.heap.size]? = some o0 ∧ ((w.alloc o0).alloc o1).heap[w.heap.size + 1]? = some o1 := by
  have h1 := alloc_new (w.alloc o0) o1
  simp only [size_alloc] at h1
  exact ⟨alloc_at (alloc_new w o0), h1⟩

theorem NewTMemoryBuffer_raw (w : World) : Calls Tryz.prog 51 #[] w (NewM w) := by
  go_enter Tryz.func51, Tryz.ntmps51
  go_wp2
  go_ret
  obtain ⟨h1, h2⟩ := new2 w (.cells #[.slice none 0 0, .int .i64 0, .int .i8 0] TB (0, 0)) (.cells #[.pointer (some ⟨w.heap.size, 0, none⟩), .int .i64 0] TM (0, 0))
  refine ⟨_, w.heap.size, rfl, ⟨0, h2⟩, Or.inl ⟨rfl, 0, h1⟩, (((Fr.refl noF w).alloc _).alloc _).conv fun k hk hx => ?_, by omega⟩
  rcases hx with rfl | ⟨n, c, x, y, hx⟩
  · exact absurd hk (by omega)
  · rw [h1] at hx
    simp at hx

theorem I_ctx (w : World) : Calls Tryz.prog 73 #[] w fun e w' => e = .returned (.iface 220 (.agg #[])) ∧ w = w' := by
  have hB : Calls Tryz.prog 85 #[] w fun e w' => e = .returned (.iface 220 (.agg #[])) ∧ w = w' := by
    go_enter Tryz.func85, Tryz.ntmps85
    go_wp2
    go_ret
    exact ⟨rfl, rfl⟩
  have H := Lib.hid hB
  clear hB
  go_enter Tryz.func73, Tryz.ntmps73
  go_wp2_with (go_at_call 85; refine H.out.mono ?_; rintro e w' ⟨rfl, rfl⟩)
  go_ret
  exact ⟨rfl, rfl⟩

theorem noSetter (v : Value) (xT : TypeId) (w : World) : (Instr.typeAssert (.iface PM v) xT 183 true).run Tryz.prog w = .ok (.tuple #[.nilIface, .bool false]) w :=
  run_typeAssert_lacksB Tryz.underlying183 (by kernel_rfl) (by kernel_rfl) v xT w
theorem isRich (v : Value) (xT : TypeId) (w : World) : (Instr.typeAssert (.iface PM v) xT 122 true).run Tryz.prog w = .ok (.tuple #[.iface PM v, .bool true]) w :=
  run_typeAssert_hasB Tryz.underlying122 (by kernel_rfl) v xT w

theorem Propagate (m : Nat) (cf : Value) (c : ConfV) (w : World) (h : Cfg w cf c) : Calls Tryz.prog 68 #[memI m, cf] w fun e w' => e = .returned (.tuple #[]) ∧ w = w' := by
  rcases h with ⟨_, rfl⟩ | ⟨_, k, r, s, rfl, h2, h3, h4⟩
  · go_enter Tryz.func68, Tryz.ntmps68
    go_wp2
    refine bodyPost_ret (results_none rfl _ _ _) rfl ?_
    exact ⟨rfl, rfl⟩
  · have c0 := cell_at h2 5
    simp at c0
    have hs := noSetter
    clear h2 h3 h4
    go_enter Tryz.func68, Tryz.ntmps68
    go_wp2
    go_end0
    exact ⟨rfl, rfl⟩

def NewB (w : World) (m b : Nat) (cf : Value) (T : Nat) (z : Bool) (l : List UInt8) (e : Ending) (w' : World) : Prop :=
  ∃ p, e = .returned (.pointer (some ⟨p, 0, none⟩)) ∧ BP w' p m b cf T z l ∧ Fr (BF w b) (BPF w' p b) w w' ∧ w.heap.size ≤ p
def NewC (w : World) (m b : Nat) (cf : Value) (T : Nat) (z : Bool) (l : List UInt8) (e : Ending) (w' : World) : Prop :=
  ∃ p, e = .returned (.pointer (some ⟨p, 0, none⟩)) ∧ CP w' p m b cf ⟨[], 0, false, 0, .empty, false, false⟩ T z l ∧ Fr (BF w b) (CPF w' p b) w w' ∧ w.heap.size ≤ p

theorem Cfg.ptr {w : World} {cf : Value} {c : ConfV} (h : Cfg w cf c) : ∃ q, cf = .pointer q := by
  rcases h with ⟨_, rfl⟩ | ⟨_, k, r, s, rfl, _⟩
  · exact ⟨_, rfl⟩
  · exact ⟨_, rfl⟩

theorem NewB_raw (m b T : Nat) (z : Bool) (l : List UInt8) (cf : Value) (c : ConfV) (w : World) (h : Cfg w cf c) (hm : Mem w m b) (hb : Buf w b T z l) : Calls Tryz.prog 77 #[memI m, cf] w (NewB w m b cf T z l) := by
  have hp := Propagate m cf c w h
  obtain ⟨q, rfl⟩ := h.ptr
  have hs := isRich
  have hfin : NewB w m b (.pointer q) T z l (.returned (.pointer (some ⟨w.heap.size, 0, none⟩))) (w.alloc (.cells ([memI m, memI m, .pointer q] ++ Lib.byteCells (List.replicate 64 0)).toArray TBP (0, 0))) := by
    have hf : Fr (BF w b) (BF w b) w (w.alloc (.cells ([memI m, memI m, .pointer q] ++ Lib.byteCells (List.replicate 64 0)).toArray TBP (0, 0))) := (Fr.refl _ w).alloc _
    have hbb := Below.heap_alloc w (.cells ([memI m, memI m, .pointer q] ++ Lib.byteCells (List.replicate 64 0)).toArray TBP (0, 0)) b hb.lt
    obtain ⟨sz, hm⟩ := hm
    refine ⟨_, rfl, ⟨⟨List.replicate 64 0, rfl, alloc_new w _⟩, ⟨sz, alloc_at hm⟩, hb.same fun k hk => Below.heap_alloc w _ k (hb.foot_lt hk)⟩, hf.conv fun k hk hx => ?_, Nat.le_refl _⟩
    rcases hx with rfl | hx
    · exact absurd hk (Nat.lt_irrefl _)
    · exact (BF.of_same hbb).1 hx
  have H := Lib.hid hp
  have HF := Lib.hid hfin
  clear hp h hm hb hfin
  go_enter Tryz.func77, Tryz.ntmps77
  go_wp2_with (go_at_call 68; refine H.out.mono ?_; rintro e w' ⟨rfl, rfl⟩)
  go_ret
  exact HF.out

theorem NewC_raw (m b T : Nat) (z : Bool) (l : List UInt8) (cf : Value) (c : ConfV) (w : World) (h : Cfg w cf c) (hm : Mem w m b) (hb : Buf w b T z l) : Calls Tryz.prog 52 #[memI m, cf] w (NewC w m b cf T z l) := by
  have hp := Propagate m cf c w h
  obtain ⟨q, rfl⟩ := h.ptr
  have hs := isRich
  have hfin : NewC w m b (.pointer q) T z l (.returned (.pointer (some ⟨w.heap.size, 0, none⟩))) (w.alloc (.cells (hdC m (.pointer q) (.slice none 0 0) ⟨[], 0, false, 0, .empty, false, false⟩ ++ Lib.byteCells (List.replicate 64 0)).toArray TCP (0, 0))) := by
    have hf : Fr (BF w b) (BF w b) w (w.alloc (.cells (hdC m (.pointer q) (.slice none 0 0) ⟨[], 0, false, 0, .empty, false, false⟩ ++ Lib.byteCells (List.replicate 64 0)).toArray TCP (0, 0))) := (Fr.refl _ w).alloc _
    have hbb := Below.heap_alloc w (.cells (hdC m (.pointer q) (.slice none 0 0) ⟨[], 0, false, 0, .empty, false, false⟩ ++ Lib.byteCells (List.replicate 64 0)).toArray TCP (0, 0)) b hb.lt
    obtain ⟨sz, hm⟩ := hm
    refine ⟨_, rfl, ⟨⟨.slice none 0 0, List.replicate 64 0, rfl, alloc_new w _, ⟨by simp, Or.inl ⟨rfl, rfl⟩⟩⟩, ⟨sz, alloc_at hm⟩, hb.same fun k hk => Below.heap_alloc w _ k (hb.foot_lt hk)⟩, hf.conv fun k hk hx => ?_, Nat.le_refl _⟩
    rcases hx with rfl | hx | ⟨n, c, hx⟩
    · exact absurd hk (Nat.lt_irrefl _)
    · exact (BF.of_same hbb).1 hx
    · have := cell_at (alloc_new w (.cells (hdC m (.pointer q) (.slice none 0 0) ⟨[], 0, false, 0, .empty, false, false⟩ ++ Lib.byteCells (List.replicate 64 0)).toArray TCP (0, 0))) 3
      rw [this] at hx
      simp [hdC] at hx
  have H := Lib.hid hp
  have HF := Lib.hid hfin
  clear hp h hm hb hfin
  go_enter Tryz.func52, Tryz.ntmps52
  go_wp2_with (go_at_call 68; refine H.out.mono ?_; rintro e w' ⟨rfl, rfl⟩)
  go_ret
  exact HF.out

abbrev PBP : TypeId := 167
abbrev PCP : TypeId := 75
abbrev binI (p : Nat) : Value := .iface PBP (.pointer (some ⟨p, 0, none⟩))
abbrev comI (p : Nat) : Value := .iface PCP (.pointer (some ⟨p, 0, none⟩))
abbrev CSt.new : CSt := ⟨[], 0, false, 0, .empty, false, false⟩
/-- A protocol over a memory buffer, with its configuration. -/
def ProtB (w : World) (m b : Nat) (c : ConfV) (T : Nat) (z : Bool) (l : List UInt8) (e : Ending) (w' : World) : Prop :=
  ∃ p cf, e = .returned (binI p) ∧ Cfg w' cf c ∧ BP w' p m b cf T z l ∧ Fr (BF w b) (BPF w' p b) w w' ∧ w.heap.size ≤ p
def ProtC (w : World) (m b : Nat) (c : ConfV) (T : Nat) (z : Bool) (l : List UInt8) (e : Ending) (w' : World) : Prop :=
  ∃ p cf, e = .returned (comI p) ∧ Cfg w' cf c ∧ CP w' p m b cf CSt.new T z l ∧ Fr (BF w b) (CPF w' p b) w w' ∧ w.heap.size ≤ p

theorem BF_tag_cfg {w : World} {b T : Nat} {z : Bool} {l : List UInt8} (h : Buf w b T z l) : ∀ k cs t, w.heap[k]? = some (.cells cs t (0, 0)) → t = 95 ∨ t = 4 → ¬ BF w b k := fun k cs t hk ht =>
  h.other hk (by rcases ht with rfl | rfl <;> decide) (by rcases ht with rfl | rfl <;> decide)

theorem ProtB_raw (m b T : Nat) (z : Bool) (l : List UInt8) (c : ConfV) (w : World) (hc : c.proto ≠ 1) (hm : Mem w m b) (hb : Buf w b T z l) : Calls Tryz.prog 60 #[c.val, memI m] w (ProtB w m b c T z l) := by
  have h1 := I_config c (w.alloc (.cells #[.int .i64 c.proto, .bool c.plain, .bool c.sr, .bool c.sw, .int .i32 c.msg, .int .i32 c.con, .int .i32 c.fra] 23 (0, 0)))
  have h2 : ∀ w1 cf, Cfg w1 cf c → Fr noF noF (w.alloc (.cells #[.int .i64 c.proto, .bool c.plain, .bool c.sr, .bool c.sw, .int .i32 c.msg, .int .i32 c.con, .int .i32 c.fra] 23 (0, 0))) w1 →
      Calls Tryz.prog 77 #[memI m, cf] w1 (fun e w' => ∃ p, e = .returned (.pointer (some ⟨p, 0, none⟩)) ∧ ProtB w m b c T z l (.returned (binI p)) w') := fun w1 cf hcf hf => by
    have hf' : Fr noF noF w w1 := ((Fr.refl noF w).alloc _).trans hf
    obtain ⟨sz, hm⟩ := hm
    have hb1 : Buf w1 b T z l := hb.keep hf' fun _ _ x => x
    refine (NewB_raw m b T z l cf c w1 hcf ⟨sz, hf'.block hm (fun x => x)⟩ hb1).mono ?_
    rintro e w2 ⟨p, rfl, hB, hF, hp⟩
    have hbb : w1.heap[b]? = w.heap[b]? := hf'.keep b hb.lt (fun x => x)
    have hf2 : Fr (BF w b) (BF w1 b) w w1 := ⟨hf'.os, hf'.tape, hf'.output, hf'.size, fun k hk _ => hf'.keep k hk (fun x => x), fun k _ hx => (BF.of_same hbb).1 hx⟩
    exact ⟨p, rfl, p, cf, rfl, hcf.keep hF (BF_tag_cfg hb1), hB, hf2.trans hF, Nat.le_trans hf'.size hp⟩
  obtain ⟨pr, pl, sr, sw, ms, co, fr⟩ := c
  have hpr : (pr == 1) = false := by simpa using hc
  have H1 := Lib.hid h1
  have H2 := Lib.hid h2
  clear h1 h2 hm hb hc
  go_enter Tryz.func60, Tryz.ntmps60
  go_wp2_with (go_at_call 31; refine H1.out.mono ?_; rintro e w1 ⟨cf, rfl, hcf, hF⟩; have H3 := Lib.hid (H2.out w1 cf hcf hF); clear hcf hF)
  refine H3.out.mono ?_
  rintro e w2 ⟨p, rfl, hx⟩
  have HX := Lib.hid hx
  clear hx
  go_wp2
  go_ret
  exact HX.out
theorem ProtC_raw (m b T : Nat) (z : Bool) (l : List UInt8) (c : ConfV) (w : World) (hc : c.proto = 1) (hm : Mem w m b) (hb : Buf w b T z l) : Calls Tryz.prog 60 #[c.val, memI m] w (ProtC w m b c T z l) := by
  have h1 := I_config c (w.alloc (.cells #[.int .i64 c.proto, .bool c.plain, .bool c.sr, .bool c.sw, .int .i32 c.msg, .int .i32 c.con, .int .i32 c.fra] 23 (0, 0)))
  have h2 : ∀ w1 cf, Cfg w1 cf c → Fr noF noF (w.alloc (.cells #[.int .i64 c.proto, .bool c.plain, .bool c.sr, .bool c.sw, .int .i32 c.msg, .int .i32 c.con, .int .i32 c.fra] 23 (0, 0))) w1 →
      Calls Tryz.prog 52 #[memI m, cf] w1 (fun e w' => ∃ p, e = .returned (.pointer (some ⟨p, 0, none⟩)) ∧ ProtC w m b c T z l (.returned (comI p)) w') := fun w1 cf hcf hf => by
    have hf' : Fr noF noF w w1 := ((Fr.refl noF w).alloc _).trans hf
    obtain ⟨sz, hm⟩ := hm
    have hb1 : Buf w1 b T z l := hb.keep hf' fun _ _ x => x
    refine (NewC_raw m b T z l cf c w1 hcf ⟨sz, hf'.block hm (fun x => x)⟩ hb1).mono ?_
    rintro e w2 ⟨p, rfl, hB, hF, hp⟩
    have hbb : w1.heap[b]? = w.heap[b]? := hf'.keep b hb.lt (fun x => x)
    have hf2 : Fr (BF w b) (BF w1 b) w w1 := ⟨hf'.os, hf'.tape, hf'.output, hf'.size, fun k hk _ => hf'.keep k hk (fun x => x), fun k _ hx => (BF.of_same hbb).1 hx⟩
    exact ⟨p, rfl, p, cf, rfl, hcf.keep hF (BF_tag_cfg hb1), hB, hf2.trans hF, Nat.le_trans hf'.size hp⟩
  obtain ⟨pr, pl, sr, sw, ms, co, fr⟩ := c
  have hpr : (pr == 1) = true := by simpa using hc
  have H1 := Lib.hid h1
  have H2 := Lib.hid h2
  clear h1 h2 hm hb hc
  go_enter Tryz.func60, Tryz.ntmps60
  go_wp2_with (go_at_call 31; refine H1.out.mono ?_; rintro e w1 ⟨cf, rfl, hcf, hF⟩; have H3 := Lib.hid (H2.out w1 cf hcf hF); clear hcf hF)
  refine H3.out.mono ?_
  rintro e w2 ⟨p, rfl, hx⟩
  have HX := Lib.hid hx
  clear hx
  go_wp2
  go_ret
  exact HX.out
end Go.Proofs.YtdedkoahfailcaaGreatDoor
