/- FnPutFault, the row and its card. -/
import Derived.Test.YtdifknecndlklaaGreatDoorZ4
import Derived.Test.YtdifknecndlklaaGreatDoorZFS
set_option linter.all false
namespace Go.Proofs.YtdifknecndlklaaGreatDoor.fnPutFault
set_option maxRecDepth 100000
open Go.ChangeShapes Go.WideShapes Go.ChangeAt Go.RowKit

theorem readable : ∀ t ∈ Tryz.f3.params.toList, Tryz.prog.readableRec t = true ∧ t < Tryz.prog.types.size := by
  rw [Tryz.params3]
  intro t ht
  simp only [List.mem_cons, List.not_mem_nil, or_false] at ht
  rcases ht with rfl | rfl | rfl
  · exact ⟨by kernel_rfl, of_decide_eq_true (by kernel_rfl)⟩
  · exact ⟨by kernel_rfl, of_decide_eq_true (by kernel_rfl)⟩
  · exact ⟨by kernel_rfl, of_decide_eq_true (by kernel_rfl)⟩

theorem contract (H : Type) (enc : TypeId × Value → H) (W : World) (base : Nat) (args : Array Value) (ds gs : List (DataW H)) (before : List MemPlace)
    (hval : ∀ (j : Nat) t v, Tryz.f3.params[j]? = some t → args[j]? = some v → Value.okWide Tryz.prog W .any base t v)
    (hW : DataW.Whole enc Tryz.prog Tryz.f3.params.toList Rows.fnPutFaultSpec.vars false W args.toList ds gs before) :
    Calls Tryz.prog 3 args W fun e W' => ∃ v, e = .returned v ∧ Rows.fnPutFaultSpec.post enc Tryz.prog Tryz.f3 false true false false W args v W' := by
  obtain ⟨p, q, hA0, _, _, _, _⟩ := id hW
  have hA : DataW.TrodAll enc Tryz.prog W 0 (fun _ => true) true Tryz.f3.params.toList args.toList ds p := hA0
  clear hA0
  rw [Tryz.params3] at hA hval
  obtain ⟨v0, vs0, d0, ds0, p0, q0, hargs, rfl, _, h0, r0⟩ := trodAll_cons hA
  obtain ⟨v1, vs1, d1, ds1, p1, q1, rfl, rfl, _, h1, r1⟩ := trodAll_cons r0
  obtain ⟨v2, vs2, d2, ds2, p2, q2, rfl, rfl, _, h2, r2⟩ := trodAll_cons r1
  obtain ⟨rfl, rfl, _⟩ := trodAll_nil r2
  obtain rfl : args = #[v0, v1, v2] := by cases args; simp_all
  obtain ⟨c, rfl, c_p, c_m, c_c, c_f⟩ := open_conf (hval 0 23 v0 rfl rfl) h0
  obtain ⟨kind, rfl, _, _, w_kind⟩ := open_int Tryz.underlying21 (hval 1 21 v1 rfl rfl) h1
  have b_kind := bounds_i32 w_kind
  obtain ⟨text_l, r_text⟩ := open_bytes (hval 2 24 v2 rfl rfl) h2
  refine (L_FnPutFault c kind v2 text_l W b_kind r_text).mono fun e W' ⟨he, hg⟩ => ?_
  subst he
  exact ⟨_, rfl, post_true readable hW rfl rfl (fun h => by subst h; rfl) hg⟩

theorem laid_met (os : Os) : laidMet Tryz.prog Rows.fnPutFaultRow.laid ((laidWorld os).forCall (fun _ _ => 0) ⟨#[], #[.agg #[.int .i64 0, .bool false, .bool false, .bool false, .int .i32 0, .int .i32 0, .int .i32 0], .int .i32 0, .slice none 0 0], []⟩).memory :=
  laidMet_of_run' 8 (by kernel_rfl) (by kernel_rfl)
theorem reads (os : Os) {H : Type} (enc : TypeId × Value → H) : ∃ places, DataW.whole enc Tryz.prog ((laidWorld os).forCall (fun _ _ => 0) ⟨#[], #[.agg #[.int .i64 0, .bool false, .bool false, .bool false, .int .i32 0, .int .i32 0, .int .i32 0], .int .i32 0, .slice none 0 0], []⟩).memory Tryz.f3.params.toList Rows.fnPutFaultSpec.vars false (#[.agg #[.int .i64 0, .bool false, .bool false, .bool false, .int .i32 0, .int .i32 0, .int .i32 0], .int .i32 0, .slice none 0 0] : Array Value).toList 8 = some ([.agg [.lit (.int .i64 0), .lit (.bool false), .lit (.bool false), .lit (.bool false), .lit (.int .i32 0), .lit (.int .i32 0), .lit (.int .i32 0)], .lit (.int .i32 0), .nil], [], places) :=
  ⟨[], by kernel_rfl⟩

theorem lifted (os : Os) (started : os.Started) (H : Type) (enc : TypeId × Value → H) (F : Stop.Interp) :
    ReturnsInHanded {} Tryz.checked os 3 .any ((OpenSpec.ofChange Rows.fnPutFaultSpec).preRow enc Tryz.prog Tryz.f3 Rows.fnPutFaultRow.domain false Rows.fnPutFaultRow.laid) (((OpenSpec.ofChange Rows.fnPutFaultSpec).at F).post enc Tryz.prog Tryz.f3 false true false false) := by
  obtain ⟨places, hx⟩ := reads os enc
  refine returnsInHanded_of_row (C := Tryz.checked) (s := OpenSpec.ofChange Rows.fnPutFaultSpec) own started (by kernel_rfl) Tryz.func3
    (witness_row_at (enc := enc) (C := Tryz.checked) false (laidWorld os) #[.agg #[.int .i64 0, .bool false, .bool false, .bool false, .int .i32 0, .int .i32 0, .int .i32 0], .int .i32 0, .slice none 0 0] rfl (by kernel_rfl) (by kernel_rfl) (by kernel_rfl)
      (OpenSpec.preRow_of_cond 8 hx (by kernel_rfl) (fun k hk => by cases hk) (by kernel_rfl) (laid_met os))) ?_
  intro W base args ds gs before hval hW _ _ _ hL _ _
  exact contract H enc W base args ds gs before hval hW

theorem nm : Tryz.f3.name = "pub-twineward/laws.FnPutFault" := by kernel_rfl
set_option maxHeartbeats 4000000 in
theorem said : Rows.FnPutFaultSaid := by
  refine OpenClaim.holds_of_cond 3 Tryz.f3 rfl rfl rfl rfl rfl rfl rfl ⟨rfl, rfl, rfl, rfl, rfl⟩ rfl rfl rfl rfl rfl ?a Tryz.func3 ?b ?c ?d
    (fun os started H enc _ F => by rw [OpenClaim.pre_eq_preRow]; exact lifted os started H enc F)
  case a => as_aux_lemma => kernel_rfl
  case b =>
    unfold joinedFacts
    simp only [Bool.and_eq_true]
    repeat' apply And.intro
    all_goals as_aux_lemma => kernel_rfl
  case c => as_aux_lemma => exact of_decide_eq_true (by kernel_rfl)
  case d => exact Eq.mpr (if_neg (show ¬ Check.packageOf Tryz.f3.name = "main" by rw [nm]; decide +kernel)) ⟨rfl, rfl⟩

theorem plain (f : FuncId) (fn : Func) (hf : Tryz.pinned.checked.prog.funcNamed "pub-twineward/laws.FnPutFault" = some f) (hfn : Tryz.pinned.checked.prog.funcs[f]? = some fn) :
    true = Tryz.pinned.checked.prog.looks [] ∧ ∀ (j : Nat) t, fn.params[j]? = some t → Tryz.pinned.checked.prog.wantsStandIn t = false := by
  obtain rfl : f = 3 := Option.some.inj ((show Tryz.prog.funcNamed "pub-twineward/laws.FnPutFault" = some 3 by kernel_rfl).symm.trans hf) |>.symm
  obtain rfl : fn = Tryz.f3 := (Option.some.inj (Tryz.func3.symm.trans hfn)).symm
  refine ⟨by kernel_rfl, fun j t ht => ?_⟩
  rw [Tryz.params3] at ht
  have hm := Array.mem_of_getElem? ht
  simp only [List.mem_toArray, List.mem_cons, List.not_mem_nil, or_false] at hm
  rcases hm with rfl | rfl | rfl
  · exact (show Tryz.prog.wantsStandIn 23 = false by kernel_rfl)
  · exact (show Tryz.prog.wantsStandIn 21 = false by kernel_rfl)
  · exact (show Tryz.prog.wantsStandIn 24 = false by kernel_rfl)

/-- THE CA.agg [.lit (.int .i64 0), .lit (.bool false), .lit (.bool false), .lit (.bool false), .lit (.int .i32 0), .lit (.int .i32 0), .lit (.int .i32 0)], .lit (.int .i32 0), .nil. -/
theorem card : Rows.FnPutFaultCardSaid :=
  Claim7.holds_tied_plain_at .later [] _ _ _ _ said (fun _ h => by cases h) (by kernel_rfl) (fun _ h => by cases h) fnPutFault_row_tie rfl ⟨rfl, rfl⟩ (by kernel_rfl) rfl plain (by kernel_rfl)
end Go.Proofs.YtdifknecndlklaaGreatDoor.fnPutFault
