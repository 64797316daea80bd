/- FnLimits, the row and its card. -/
import Derived.Test.YtdedkoahfailcaaGreatDoorPost2
import Derived.Test.YtdedkoahfailcaaGreatDoorLimits
namespace Go.Proofs.YtdedkoahfailcaaGreatDoor.fnLimits
set_option maxRecDepth 100000
open Go.ChangeShapes Go.WideShapes Go.ChangeAt Go.RowKit

theorem readable : ∀ t ∈ Tryz.f3.params.toList, Tryz.prog.readableRec t = true ∧ t < Tryz.prog.types.size := by
  rw [Tryz.params3]
  intro t ht
  simp only [List.mem_cons, List.not_mem_nil, or_false] at ht
  obtain rfl := ht
  exact ⟨by kernel_rfl, of_decide_eq_true (by kernel_rfl)⟩

theorem contract (H : Type) (enc : TypeId × Value → H) (W : World) (base : Nat) (args : Array Value) (ds gs : List (DataW H)) (before : List MemPlace)
    (hval : ∀ (j : Nat) t v, Tryz.f3.params[j]? = some t → args[j]? = some v → Value.okWide Tryz.prog W .any base t v)
    (hW : DataW.Whole enc Tryz.prog Tryz.f3.params.toList Rows.fnLimitsSpec.vars false W args.toList ds gs before) :
    Calls Tryz.prog 3 args W fun e W' => ∃ v, e = .returned v ∧ Rows.fnLimitsSpec.post enc Tryz.prog Tryz.f3 false true false false W args v W' := by
  obtain ⟨p, q, hA0, _, _, _, _⟩ := id hW
  have hA : DataW.TrodAll enc Tryz.prog W 0 (fun _ => true) true Tryz.f3.params.toList args.toList ds p := hA0
  clear hA0
  rw [Tryz.params3] at hA hval
  obtain ⟨v0, vs0, d0, ds0, p0, q0, hargs, rfl, _, h0, r0⟩ := trodAll_cons hA
  obtain ⟨rfl, rfl, _⟩ := trodAll_nil r0
  obtain rfl : args = #[v0] := by cases args; simp_all
  obtain ⟨c, rfl, c_p, c_m, c_c, c_f⟩ := open_conf (hval 0 23 v0 rfl rfl) h0
  refine (L_FnLimits c W).mono fun e W' ⟨he, hg⟩ => ?_
  subst he
  exact ⟨_, rfl, post_true readable hW rfl rfl (fun h => by subst h; rfl) hg⟩

theorem laid_met (os : Os) : laidMet Tryz.prog Rows.fnLimitsRow.laid ((laidWorld os).forCall (fun _ _ => 0) ⟨#[], #[.agg #[.int .i64 0, .bool false, .bool false, .bool false, .int .i32 0, .int .i32 0, .int .i32 0]], []⟩).memory :=
  laidMet_of_run' 8 (by kernel_rfl) (by kernel_rfl)
theorem reads (os : Os) {H : Type} (enc : TypeId × Value → H) : ∃ places, DataW.whole enc Tryz.prog ((laidWorld os).forCall (fun _ _ => 0) ⟨#[], #[.agg #[.int .i64 0, .bool false, .bool false, .bool false, .int .i32 0, .int .i32 0, .int .i32 0]], []⟩).memory Tryz.f3.params.toList Rows.fnLimitsSpec.vars false (#[.agg #[.int .i64 0, .bool false, .bool false, .bool false, .int .i32 0, .int .i32 0, .int .i32 0]] : Array Value).toList 8 = some ([.agg [.lit (.int .i64 0), .lit (.bool false), .lit (.bool false), .lit (.bool false), .lit (.int .i32 0), .lit (.int .i32 0), .lit (.int .i32 0)]], [], places) :=
  ⟨[], by kernel_rfl⟩

theorem lifted (os : Os) (started : os.Started) (H : Type) (enc : TypeId × Value → H) (F : Stop.Interp) :
    ReturnsInHanded {} Tryz.checked os 3 .any ((OpenSpec.ofChange Rows.fnLimitsSpec).preRow enc Tryz.prog Tryz.f3 Rows.fnLimitsRow.domain false Rows.fnLimitsRow.laid) (((OpenSpec.ofChange Rows.fnLimitsSpec).at F).post enc Tryz.prog Tryz.f3 false true false false) := by
  obtain ⟨places, hx⟩ := reads os enc
  refine returnsInHanded_of_row (C := Tryz.checked) (s := OpenSpec.ofChange Rows.fnLimitsSpec) own started (by kernel_rfl) Tryz.func3
    (witness_row_at (enc := enc) (C := Tryz.checked) false (laidWorld os) #[.agg #[.int .i64 0, .bool false, .bool false, .bool false, .int .i32 0, .int .i32 0, .int .i32 0]] rfl (by kernel_rfl) (by kernel_rfl) (by kernel_rfl)
      (OpenSpec.preRow_of_cond 8 hx (by kernel_rfl) (fun k hk => by cases hk) (by kernel_rfl) (laid_met os))) ?_
  intro W base args ds gs before hval hW _ _ _ hL _ _
  exact contract H enc W base args ds gs before hval hW

theorem said : Rows.FnLimitsSaid :=
  OpenClaim.holds_of_cond 3 Tryz.f3 rfl rfl rfl rfl rfl rfl rfl ⟨rfl, rfl, rfl, rfl, rfl⟩ rfl rfl rfl rfl rfl (by kernel_rfl) Tryz.func3 (by kernel_rfl)
    (of_decide_eq_true (by kernel_rfl)) (by unfold Func.isWrapper; first | (rw [if_pos (by decide +kernel)]; kernel_rfl) | (rw [if_neg (by decide +kernel)]; exact ⟨rfl, rfl⟩))
    (fun os started H enc _ F => by rw [OpenClaim.pre_eq_preRow]; exact lifted os started H enc F)

theorem plain (f : FuncId) (fn : Func) (hf : Tryz.pinned.checked.prog.funcNamed "pub-twineward/laws.FnLimits" = some f) (hfn : Tryz.pinned.checked.prog.funcs[f]? = some fn) :
    true = Tryz.pinned.checked.prog.looks [] ∧ ∀ (j : Nat) t, fn.params[j]? = some t → Tryz.pinned.checked.prog.wantsStandIn t = false := by
  obtain rfl : f = 3 := Option.some.inj ((show Tryz.prog.funcNamed "pub-twineward/laws.FnLimits" = some 3 by kernel_rfl).symm.trans hf) |>.symm
  obtain rfl : fn = Tryz.f3 := (Option.some.inj (Tryz.func3.symm.trans hfn)).symm
  refine ⟨by kernel_rfl, fun j t ht => ?_⟩
  rw [Tryz.params3] at ht
  have hm := Array.mem_of_getElem? ht
  simp only [List.mem_toArray, List.mem_cons, List.not_mem_nil, or_false] at hm
  obtain rfl := hm
  exact (show Tryz.prog.wantsStandIn 23 = false by kernel_rfl)

/-- THE CA.agg [.lit (.int .i64 0), .lit (.bool false), .lit (.bool false), .lit (.bool false), .lit (.int .i32 0), .lit (.int .i32 0), .lit (.int .i32 0)]. -/
theorem card : Rows.FnLimitsCardSaid :=
  Claim7.holds_tied_plain_at .later [] _ _ _ _ said (fun _ h => by cases h) (by kernel_rfl) (fun _ h => by cases h) fnLimits_row_tie rfl ⟨rfl, rfl⟩ (by kernel_rfl) rfl plain (by kernel_rfl)
end Go.Proofs.YtdedkoahfailcaaGreatDoor.fnLimits
