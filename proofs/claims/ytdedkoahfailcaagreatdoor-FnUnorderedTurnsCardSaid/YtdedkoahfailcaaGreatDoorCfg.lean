/- Configurations: how one is made, and what it says. -/
import Derived.Test.YtdedkoahfailcaaGreatDoorCV2
namespace Go.Proofs.YtdedkoahfailcaaGreatDoor
open Go Go.RowKit

/-- A configuration as it is handed in. -/
structure ConfV where
  proto : Int
  plain : Bool
  sr : Bool
  sw : Bool
  msg : Int
  con : Int
  fra : Int
abbrev ConfV.val (c : ConfV) : Value := .agg #[.int .i64 c.proto, .bool c.plain, .bool c.sr, .bool c.sw, .int .i32 c.msg, .int .i32 c.con, .int .i32 c.fra]

/-- A configuration of the library, by its pointer. -/
def Cfg (w : World) (cf : Value) (c : ConfV) : Prop :=
  (c.plain = true ∧ cf = .pointer none) ∨
  (c.plain = false ∧ ∃ k r s, cf = .pointer (some ⟨k, 0, none⟩) ∧ w.heap[k]? = some (.cells #[.int .i32 c.msg, .int .i32 c.fra, .int .i32 c.con, .pointer (some ⟨r, 0, none⟩), .pointer (some ⟨s, 0, none⟩), .bool false] 95 (0, 0)) ∧
    w.heap[r]? = some (.cells #[.bool c.sr] 4 (0, 0)) ∧ w.heap[s]? = some (.cells #[.bool c.sw] 4 (0, 0)))

theorem Cfg.keep {w w' : World} {cf : Value} {c : ConfV} {F F' : Nat → Prop} (h : Cfg w cf c) (hf : Fr F F' w w') (ht : ∀ k cs t, w.heap[k]? = some (.cells cs t (0, 0)) → t = 95 ∨ t = 4 → ¬ F k) : Cfg w' cf c := by
  rcases h with h | ⟨h0, k, r, s, h1, h2, h3, h4⟩
  · exact Or.inl h
  · exact Or.inr ⟨h0, k, r, s, h1, hf.block h2 (ht k _ _ h2 (Or.inl rfl)), hf.block h3 (ht r _ _ h3 (Or.inr rfl)), hf.block h4 (ht s _ _ h4 (Or.inr rfl))⟩

theorem size_alloc (w : World) (o : Obj) : (w.alloc o).heap.size = w.heap.size + 1 := by simp
theorem new4 (w : World) (o0 o1 o2 o3 : Obj) : ((((w.alloc o0).alloc o1).alloc o2).alloc o3).heap[w.heap.size + 1]? = some o1 ∧ ((((w.alloc o0).alloc o1).alloc o2).alloc o3).heap[w.heap.size + 1 + 1]? = some o2 ∧ ((((w.alloc o0).alloc o1).alloc o2).alloc o3).heap[w.heap.size + 1 + 1 + 1]? = some o3 := by
  have h1 := alloc_new (w.alloc o0) o1
  have h2 := alloc_new ((w.alloc o0).alloc o1) o2
  have h3 := alloc_new (((w.alloc o0).alloc o1).alloc o2) o3
  simp only [size_alloc] at h1 h2 h3
  exact ⟨alloc_at (alloc_at h1), alloc_at h2, h3⟩
def CfgP (w : World) (c : ConfV) (e : Ending) (w' : World) : Prop := ∃ cf, e = .returned cf ∧ Cfg w' cf c ∧ Fr noF noF w w'

set_option maxHeartbeats 1000000 in
set_option maxRecDepth 100000 in
theorem I_config (c : ConfV) (w : World) : Calls Tryz.prog 31 #[c.val] w (CfgP w c) := by
  obtain ⟨pr, pl, sr, sw, ms, co, fr⟩ := c
  cases pl
  · go_enter Tryz.func31, Tryz.ntmps31
    go_wp2_with fail
    go_region
    · go_wp2
      go_ret
      obtain ⟨h1, h2, h3⟩ := new4 w _ _ _ _
      exact ⟨_, rfl, Or.inr ⟨rfl, _, _, _, rfl, h3, h1, h2⟩, ((((((Fr.refl _ w).alloc _).alloc _).alloc _).alloc _).drew)⟩
    · go_wp2
      go_ret
      obtain ⟨h1, h2, h3⟩ := new4 w _ _ _ _
      exact ⟨_, rfl, Or.inr ⟨rfl, _, _, _, rfl, h3, h2, h1⟩, ((((((Fr.refl _ w).alloc _).alloc _).alloc _).alloc _).drew)⟩
  · have hP : ∀ o, CfgP w ⟨pr, true, sr, sw, ms, co, fr⟩ (.returned (.pointer none)) (w.alloc o) := fun o => ⟨_, rfl, Or.inl ⟨rfl, rfl⟩, (Fr.refl _ w).alloc _⟩
    have HP := Lib.hid hP
    clear hP
    go_enter Tryz.func31, Tryz.ntmps31
    go_wp2
    go_ret
    exact HP.out _

/-- What a configuration says. -/
def ConfV.maxMsg (c : ConfV) : Int := if c.plain then 104857600 else if c.msg ≤ 0 then 104857600 else c.msg
def ConfV.maxFra (c : ConfV) : Int := if c.plain then 16384000 else (fun x => if c.maxMsg < x then c.maxMsg else x) (if c.fra ≤ 0 then 16384000 else c.fra)
def ConfV.maxCon (c : ConfV) : Int := if c.plain then 2147483647 else if c.con ≤ 0 then 2147483647 else c.con
def ConfV.strictR (c : ConfV) : Bool := if c.plain then false else c.sr
def ConfV.strictW (c : ConfV) : Bool := if c.plain then true else c.sw

theorem Cf_msg (cf : Value) (c : ConfV) (w : World) (h : Cfg w cf c) : Calls Tryz.prog 32 #[cf] w fun e w' => e = .returned (.int .i32 c.maxMsg) ∧ w = w' := by
  obtain ⟨pr, pl, sr, sw, ms, co, fr⟩ := c
  rcases h with ⟨rfl, rfl⟩ | ⟨rfl, k, r, s, rfl, h2, h3, h4⟩
  · go_enter Tryz.func32, Tryz.ntmps32
    go_wp2
    go_ret
    exact ⟨rfl, rfl⟩
  · have c0 := cell_at h2 0
    simp at c0
    clear h2 h3 h4
    rcases Int.lt_or_le 0 ms with hm | hm
    · have hd : decide (ms ≤ 0) = false := decide_eq_false (by omega)
      have hr : ConfV.maxMsg ⟨pr, false, sr, sw, ms, co, fr⟩ = ms := by
        simp only [ConfV.maxMsg, Bool.false_eq_true, if_false]
        exact if_neg (by omega)
      have HR := Lib.hid hr
      clear hr
      go_enter Tryz.func32, Tryz.ntmps32
      go_wp2
      go_ret
      refine ⟨?_, rfl⟩
      rw [HR.out]
      rfl
    · have hd : decide (ms ≤ 0) = true := decide_eq_true (by omega)
      have hr : ConfV.maxMsg ⟨pr, false, sr, sw, ms, co, fr⟩ = 104857600 := by
        simp only [ConfV.maxMsg, Bool.false_eq_true, if_false]
        exact if_pos hm
      have HR := Lib.hid hr
      clear hr
      go_enter Tryz.func32, Tryz.ntmps32
      go_wp2
      go_ret
      refine ⟨?_, rfl⟩
      rw [HR.out]
      rfl
theorem Cf_con (cf : Value) (c : ConfV) (w : World) (h : Cfg w cf c) : Calls Tryz.prog 34 #[cf] w fun e w' => e = .returned (.int .i32 c.maxCon) ∧ w = w' := by
  obtain ⟨pr, pl, sr, sw, ms, co, fr⟩ := c
  rcases h with ⟨rfl, rfl⟩ | ⟨rfl, k, r, s, rfl, h2, h3, h4⟩
  · go_enter Tryz.func34, Tryz.ntmps34
    go_wp2
    go_ret
    exact ⟨rfl, rfl⟩
  · have c0 := cell_at h2 2
    simp at c0
    clear h2 h3 h4
    rcases Int.lt_or_le 0 co with hm | hm
    · have hd : decide (co ≤ 0) = false := decide_eq_false (by omega)
      have hr : ConfV.maxCon ⟨pr, false, sr, sw, ms, co, fr⟩ = co := by
        simp only [ConfV.maxCon, Bool.false_eq_true, if_false]
        exact if_neg (by omega)
      have HR := Lib.hid hr
      clear hr
      go_enter Tryz.func34, Tryz.ntmps34
      go_wp2
      go_ret
      refine ⟨?_, rfl⟩
      rw [HR.out]
      rfl
    · have hd : decide (co ≤ 0) = true := decide_eq_true (by omega)
      have hr : ConfV.maxCon ⟨pr, false, sr, sw, ms, co, fr⟩ = 2147483647 := by
        simp only [ConfV.maxCon, Bool.false_eq_true, if_false]
        exact if_pos hm
      have HR := Lib.hid hr
      clear hr
      go_enter Tryz.func34, Tryz.ntmps34
      go_wp2
      go_ret
      refine ⟨?_, rfl⟩
      rw [HR.out]
      rfl
theorem Cf_read (cf : Value) (c : ConfV) (w : World) (h : Cfg w cf c) : Calls Tryz.prog 35 #[cf] w fun e w' => e = .returned (.bool c.strictR) ∧ w = w' := by
  obtain ⟨pr, pl, sr, sw, ms, co, fr⟩ := c
  rcases h with ⟨rfl, rfl⟩ | ⟨rfl, k, r, s, rfl, h2, h3, h4⟩
  · go_enter Tryz.func35, Tryz.ntmps35
    go_wp2
    go_ret
    exact ⟨rfl, rfl⟩
  · have c0 := cell_at h2 3
    have c1 := cell_at h3 0
    simp at c0 c1
    clear h2 h3 h4
    go_enter Tryz.func35, Tryz.ntmps35
    go_wp2
    go_ret
    exact ⟨rfl, rfl⟩
theorem Cf_write (cf : Value) (c : ConfV) (w : World) (h : Cfg w cf c) : Calls Tryz.prog 36 #[cf] w fun e w' => e = .returned (.bool c.strictW) ∧ w = w' := by
  obtain ⟨pr, pl, sr, sw, ms, co, fr⟩ := c
  rcases h with ⟨rfl, rfl⟩ | ⟨rfl, k, r, s, rfl, h2, h3, h4⟩
  · go_enter Tryz.func36, Tryz.ntmps36
    go_wp2
    go_ret
    exact ⟨rfl, rfl⟩
  · have c0 := cell_at h2 4
    have c1 := cell_at h4 0
    simp at c0 c1
    clear h2 h3 h4
    go_enter Tryz.func36, Tryz.ntmps36
    go_wp2
    go_ret
    exact ⟨rfl, rfl⟩

theorem Cf_fra (cf : Value) (c : ConfV) (w : World) (h : Cfg w cf c) : Calls Tryz.prog 33 #[cf] w fun e w' => e = .returned (.int .i32 c.maxFra) ∧ w = w' := by
  have hmsg := Cf_msg cf c w h
  obtain ⟨pr, pl, sr, sw, ms, co, fr⟩ := c
  rcases h with ⟨rfl, rfl⟩ | ⟨rfl, k, r, s, rfl, h2, h3, h4⟩
  · go_enter Tryz.func33, Tryz.ntmps33
    go_wp2
    go_ret
    exact ⟨rfl, rfl⟩
  · have c0 := cell_at h2 1
    simp at c0
    clear h2 h3 h4
    obtain ⟨M, hM⟩ : ∃ M, M = ConfV.maxMsg ⟨pr, false, sr, sw, ms, co, fr⟩ := ⟨_, rfl⟩
    have hr : ConfV.maxFra ⟨pr, false, sr, sw, ms, co, fr⟩ = (fun x => if M < x then M else x) (if fr ≤ 0 then 16384000 else fr) := by rw [hM]; rfl
    rw [← hM] at hmsg
    have HM := Lib.hid hmsg
    have HR := Lib.hid hr
    clear hmsg hr hM
    go_enter Tryz.func33, Tryz.ntmps33
    go_wp2_with (go_at_call 32; refine HM.out.mono ?_; rintro e w' ⟨rfl, rfl⟩)
    all_goals go_ret
    all_goals refine ⟨?_, rfl⟩
    all_goals rw [HR.out]
    all_goals (refine congrArg (fun x => Ending.returned (Value.int .i32 x)) ?_)
    all_goals ((repeat' split) <;> first | rfl | omega)
end Go.Proofs.YtdedkoahfailcaaGreatDoor
