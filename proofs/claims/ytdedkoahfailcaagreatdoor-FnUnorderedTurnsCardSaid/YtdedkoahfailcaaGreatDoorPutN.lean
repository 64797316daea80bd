/- Numbers put by the thin package: what known() needs. -/
import Derived.Test.YtdedkoahfailcaaGreatDoorNew
import Derived.Deep.RegionHeld3
namespace Go.Proofs.YtdedkoahfailcaaGreatDoor
open Go Go.RowKit
set_option maxHeartbeats 1000000
set_option maxRecDepth 100000

theorem I_typ (n : Int) (w : World) : Calls Tryz.prog 42 #[.int .i64 n] w fun e w' => e = .returned (.int .u8 (n % 256)) ∧ w = w' := by
  go_enter Tryz.func42, Tryz.ntmps42
  go_wp2
  go_ret
  exact ⟨rfl, rfl⟩

theorem methB_WriteI32 (a : Addr) (w : World) : (method 446 PBP (.pointer (some a)) "WriteI32").run Tryz.prog w = .ok (235, .pointer (some a)) w := by kernel_rfl
theorem methC_WriteI32 (a : Addr) (w : World) : (method 446 PCP (.pointer (some a)) "WriteI32").run Tryz.prog w = .ok (149, .pointer (some a)) w := by kernel_rfl
theorem aheadB_WriteI32 (a : Addr) (w : World) : (nilAhead 446 PBP (.pointer (some a)) "WriteI32").run Tryz.prog w = .ok (some false) w := by kernel_rfl
theorem aheadC_WriteI32 (a : Addr) (w : World) : (nilAhead 446 PCP (.pointer (some a)) "WriteI32").run Tryz.prog w = .ok (some false) w := by kernel_rfl
theorem be4_wrapK (n : Int) : be4 (IntKind.i32.wrap n) = be4 n := by
  unfold be4
  rw [wrap_i32']
  congr 2
  omega

/-- A method of the protocol's, called while a value's copy lies in a new box. -/
theorem BW.boxed {w : World} {p m b T : Nat} {cf : Value} {l news : List UInt8} {f : FuncId} {args : Array Value} {cs : Array Value} (h : BP w p m b cf T true l)
    (hw : Calls Tryz.prog f args (w.alloc (.cells cs 55 (0, 0))).drew (BW (w.alloc (.cells cs 55 (0, 0))).drew p m b cf T l news)) :
    Calls Tryz.prog f args (w.alloc (.cells cs 55 (0, 0))).drew (fun e w2 => BW w p m b cf T l news e w2 ∧ w2.cell? ⟨w.heap.size, 1, none⟩ = cs[1]?) := by
  refine hw.mono fun e w2 hx => ⟨⟨hx.1, hx.2.1, (h.alloc _).2.drew.trans hx.2.2⟩, ?_⟩
  have hn : ¬ BPF (w.alloc (.cells cs 55 (0, 0))).drew p b w.heap.size := fun hk => by
    have h1 : BP (w.alloc (.cells cs 55 (0, 0))).drew p m b cf T true l := (h.alloc _).1.drew
    rcases hk with hk | hk
    · obtain ⟨bf, _, ha⟩ := h1.arr
      exact tag_ne (alloc_new w _) ha (by decide) hk
    · exact h1.buf.other (alloc_new w _) (by decide) (by decide) hk
  exact cell_at (hx.2.2.block (alloc_new w _) hn) 1
theorem CW.boxed {w : World} {p m b T : Nat} {cf v : Value} {s s' : CSt} {l news : List UInt8} {f : FuncId} {args : Array Value} {cs : Array Value} (h : CP w p m b cf s T true l)
    (hw : Calls Tryz.prog f args (w.alloc (.cells cs 55 (0, 0))).drew (CW (w.alloc (.cells cs 55 (0, 0))).drew p m b cf s s' T l news v)) :
    Calls Tryz.prog f args (w.alloc (.cells cs 55 (0, 0))).drew (fun e w2 => CW w p m b cf s s' T l news v e w2 ∧ w2.cell? ⟨w.heap.size, 1, none⟩ = cs[1]?) := by
  refine hw.mono fun e w2 hx => ⟨⟨hx.1, hx.2.1, (h.alloc _).2.drew.trans hx.2.2⟩, ?_⟩
  have hn : ¬ CPF (w.alloc (.cells cs 55 (0, 0))).drew p b w.heap.size := fun hk => by
    have h1 : CP (w.alloc (.cells cs 55 (0, 0))).drew p m b cf s T true l := (h.alloc _).1.drew
    obtain ⟨cs', t, h2, ht⟩ := CPF.tag h1 hk
    have h3 : (w.alloc (.cells cs 55 (0, 0))).drew.heap[w.heap.size]? = some (.cells cs 55 (0, 0)) := alloc_new w _
    rw [h3] at h2
    injection h2 with h2
    injection h2 with _ h2 _
    subst h2
    revert ht
    decide
  exact cell_at (hx.2.2.block (alloc_new w _) hn) 1

theorem put_I32_B (p m b T : Nat) (cf : Value) (l : List UInt8) (n : Int) (S K E I L : Value) (w : World) (h : BP w p m b cf T true l) (hlim : T + 4 ≤ LIM) :
    Calls Tryz.prog 59 #[binI p, .agg #[.int .i64 8, .int .i64 n, S, K, E, I, L]] w (BW w p m b cf T l (be4 n)) := by
  have hT := I_typ 8
  have hC := I_ctx
  have hr := wrap_i32' n
  have hw := BW.boxed h (B_WriteI32 p m b T cf (.iface 220 (.agg #[])) l (IntKind.i32.wrap n) (w.alloc (.cells #[.int .i64 8, .int .i64 n, S, K, E, I, L] 55 (0, 0))).drew (h.alloc _).1.drew hlim)
  rw [be4_wrapK] at hw
  have HW := Lib.hid hw
  have HT := Lib.hid hT
  have HC := Lib.hid hC
  have hm := methB_WriteI32
  have ha := aheadB_WriteI32
  have c0 : (w.alloc (.cells #[.int .i64 8, .int .i64 n, S, K, E, I, L] 55 (0, 0))).cell? ⟨w.heap.size, 1, none⟩ = some (.int .i64 n) := by rw [cell_at (alloc_new w _)]; rfl
  clear hT hC h hlim hw hr
  go_enter Tryz.func59, Tryz.ntmps59
  go_wp2_with (go_at_call 42; refine (HT.out _).mono ?_; rintro e w1 ⟨rfl, rfl⟩)
  go_region_held3 (fun w' => w'.cell? ⟨w.heap.size, 1, none⟩ = some (.int .i64 n)) (first | exact c0 | exact d0) (first | (go_at_call 73; refine (HC.out _).mono ?_; rintro e w1 ⟨rfl, rfl⟩) | (go_at_call 235; refine HW.out.mono ?_; rintro e w2 ⟨hw, d0⟩; obtain rfl := hw.1; have HX := Lib.hid hw; clear hw))
  all_goals go_wp2
  all_goals go_ret
  all_goals exact HX.out

theorem put_I32_C (p m b T : Nat) (cf : Value) (s : CSt) (l : List UInt8) (n : Int) (S K E I L : Value) (w : World) (h : CP w p m b cf s T true l) (hlim : T + 5 ≤ LIM) :
    Calls Tryz.prog 59 #[comI p, .agg #[.int .i64 8, .int .i64 n, S, K, E, I, L]] w (CW w p m b cf s s T l (vint (zig (IntKind.i32.wrap n)).toNat) .nilIface) := by
  have hT := I_typ 8
  have hC := I_ctx
  have hr := wrap_i32' n
  have hw := CW.boxed h (C_WriteI32 p m b T cf (.iface 220 (.agg #[])) s l (IntKind.i32.wrap n) (by omega) (by omega) (w.alloc (.cells #[.int .i64 8, .int .i64 n, S, K, E, I, L] 55 (0, 0))).drew (h.alloc _).1.drew hlim)
  have HW := Lib.hid hw
  have HT := Lib.hid hT
  have HC := Lib.hid hC
  have hm := methC_WriteI32
  have ha := aheadC_WriteI32
  have c0 : (w.alloc (.cells #[.int .i64 8, .int .i64 n, S, K, E, I, L] 55 (0, 0))).cell? ⟨w.heap.size, 1, none⟩ = some (.int .i64 n) := by rw [cell_at (alloc_new w _)]; rfl
  clear hT hC h hlim hw hr
  go_enter Tryz.func59, Tryz.ntmps59
  go_wp2_with (go_at_call 42; refine (HT.out _).mono ?_; rintro e w1 ⟨rfl, rfl⟩)
  go_region_held3 (fun w' => w'.cell? ⟨w.heap.size, 1, none⟩ = some (.int .i64 n)) (first | exact c0 | exact d0) (first | (go_at_call 73; refine (HC.out _).mono ?_; rintro e w1 ⟨rfl, rfl⟩) | (go_at_call 149; refine HW.out.mono ?_; rintro e w2 ⟨hw, d0⟩; obtain rfl := hw.1; have HX := Lib.hid hw; clear hw))
  all_goals go_wp2
  all_goals go_ret
  all_goals exact HX.out

end Go.Proofs.YtdedkoahfailcaaGreatDoor
