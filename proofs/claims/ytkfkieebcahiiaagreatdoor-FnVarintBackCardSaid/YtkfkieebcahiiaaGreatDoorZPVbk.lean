/- FnVarintBack, the row and its card. -/
import Derived.Test.YtkfkieebcahiiaaGreatDoorZ4
import Derived.Test.YtkfkieebcahiiaaGreatDoorZVbk
set_option linter.all false
namespace Go.Proofs.YtkfkieebcahiiaaGreatDoor.fnVarintBack
set_option maxRecDepth 100000
open Go.ChangeShapes Go.WideShapes Go.ChangeAt Go.RowKit

theorem readable : ∀ t ∈ Tryz.f10.params.toList, Tryz.prog.readableRec t = true ∧ t < Tryz.prog.types.size := by
  rw [Tryz.params10]
  intro t ht
  simp only [List.mem_cons, List.not_mem_nil, or_false] at ht
  rcases ht with rfl | rfl | rfl
  · exact ⟨by kernel_rfl, of_decide_eq_true (by kernel_rfl)⟩
  · exact ⟨by kernel_rfl, of_decide_eq_true (by kernel_rfl)⟩
  · exact ⟨by kernel_rfl, of_decide_eq_true (by kernel_rfl)⟩

theorem contract (H : Type) (enc : TypeId × Value → H) (W : World) (base : Nat) (args : Array Value) (ds gs : List (DataW H)) (before : List MemPlace)
    (hval : ∀ (j : Nat) t v, Tryz.f10.params[j]? = some t → args[j]? = some v → Value.okWide Tryz.prog W .any base t v)
    (hW : DataW.Whole enc Tryz.prog Tryz.f10.params.toList Rows.fnVarintBackSpec.vars false W args.toList ds gs before)
    (hL : laidMet Tryz.prog Rows.fnVarintBackRow.laid W) :
    Calls Tryz.prog 10 args W fun e W' => ∃ v, e = .returned v ∧ Rows.fnVarintBackSpec.post enc Tryz.prog Tryz.f10 false true false false W args v W' := by
  obtain ⟨p, q, hA0, _, _, _, _⟩ := id hW
  have hA : DataW.TrodAll enc Tryz.prog W 0 (fun _ => true) true Tryz.f10.params.toList args.toList ds p := hA0
  clear hA0
  rw [Tryz.params10] at hA hval
  obtain ⟨v0, vs0, d0, ds0, p0, q0, hargs, rfl, _, h0, r0⟩ := trodAll_cons hA
  obtain ⟨v1, vs1, d1, ds1, p1, q1, rfl, rfl, _, h1, r1⟩ := trodAll_cons r0
  obtain ⟨v2, vs2, d2, ds2, p2, q2, rfl, rfl, _, h2, r2⟩ := trodAll_cons r1
  obtain ⟨rfl, rfl, _⟩ := trodAll_nil r2
  obtain rfl : args = #[v0, v1, v2] := by cases args; simp_all
  obtain ⟨n, rfl, _, _, w_n⟩ := open_int Tryz.underlying2 (hval 0 2 v0 rfl rfl) h0
  have b_n := bounds_i64 w_n
  obtain ⟨long, rfl, _, _⟩ := open_bool Tryz.underlying4 (hval 1 4 v1 rfl rfl) h1
  obtain ⟨tail_l, r_tail⟩ := open_bytes (hval 2 24 v2 rfl rfl) h2
  obtain ⟨a0, a1, hE⟩ := ends_of_laid hL
  refine (L_FnVarintBack n long v2 tail_l W b_n r_tail a0 a1 hE).mono fun e W' ⟨he, hg⟩ => ?_
  subst he
  exact ⟨_, rfl, post_true readable hW rfl rfl (fun h => by subst h; rfl) hg⟩

theorem laid_met (os : Os) : laidMet Tryz.prog Rows.fnVarintBackRow.laid ((laidWorld os).forCall (fun _ _ => 0) ⟨#[], #[.int .i64 0, .bool false, .slice none 0 0], []⟩).memory :=
  laidMet_of_run' 8 (by kernel_rfl) (by kernel_rfl)
theorem reads (os : Os) {H : Type} (enc : TypeId × Value → H) : ∃ places, DataW.whole enc Tryz.prog ((laidWorld os).forCall (fun _ _ => 0) ⟨#[], #[.int .i64 0, .bool false, .slice none 0 0], []⟩).memory Tryz.f10.params.toList Rows.fnVarintBackSpec.vars false (#[.int .i64 0, .bool false, .slice none 0 0] : Array Value).toList 8 = some ([.lit (.int .i64 0), .lit (.bool false), .nil], [], places) :=
  ⟨[], by kernel_rfl⟩

theorem lifted (os : Os) (started : os.Started) (H : Type) (enc : TypeId × Value → H) (F : Stop.Interp) :
    ReturnsInHanded {} Tryz.checked os 10 .any ((OpenSpec.ofChange Rows.fnVarintBackSpec).preRow enc Tryz.prog Tryz.f10 Rows.fnVarintBackRow.domain false Rows.fnVarintBackRow.laid) (((OpenSpec.ofChange Rows.fnVarintBackSpec).at F).post enc Tryz.prog Tryz.f10 false true false false) := by
  obtain ⟨places, hx⟩ := reads os enc
  refine returnsInHanded_of_row (C := Tryz.checked) (s := OpenSpec.ofChange Rows.fnVarintBackSpec) own started (by kernel_rfl) Tryz.func10
    (witness_row_at (enc := enc) (C := Tryz.checked) false (laidWorld os) #[.int .i64 0, .bool false, .slice none 0 0] rfl (by kernel_rfl) (by kernel_rfl) (by kernel_rfl)
      (OpenSpec.preRow_of_cond 8 hx (by kernel_rfl) (fun k hk => by cases hk) (by kernel_rfl) (laid_met os))) ?_
  intro W base args ds gs before hval hW _ _ _ hL _ _
  exact contract H enc W base args ds gs before hval hW hL

theorem nm : Tryz.f10.name = "pub-twineward/laws.FnVarintBack" := by kernel_rfl
set_option maxHeartbeats 4000000 in
theorem said : Rows.FnVarintBackSaid := by
  refine OpenClaim.holds_of_cond 10 Tryz.f10 rfl rfl rfl rfl rfl rfl rfl ⟨rfl, rfl, rfl, rfl, rfl⟩ rfl rfl rfl rfl rfl ?a Tryz.func10 ?b ?c ?d
    (fun os started H enc _ F => by rw [OpenClaim.pre_eq_preRow]; exact lifted os started H enc F)
  case a => as_aux_lemma => kernel_rfl
  case b =>
    unfold joinedFacts
    simp only [Bool.and_eq_true]
    repeat' apply And.intro
    all_goals as_aux_lemma => kernel_rfl
  case c => as_aux_lemma => exact of_decide_eq_true (by kernel_rfl)
  case d => exact Eq.mpr (if_neg (show ¬ Check.packageOf Tryz.f10.name = "main" by rw [nm]; decide +kernel)) ⟨rfl, rfl⟩

theorem plain (f : FuncId) (fn : Func) (hf : Tryz.pinned.checked.prog.funcNamed "pub-twineward/laws.FnVarintBack" = some f) (hfn : Tryz.pinned.checked.prog.funcs[f]? = some fn) :
    true = Tryz.pinned.checked.prog.looks [] ∧ ∀ (j : Nat) t, fn.params[j]? = some t → Tryz.pinned.checked.prog.wantsStandIn t = false := by
  obtain rfl : f = 10 := Option.some.inj ((show Tryz.prog.funcNamed "pub-twineward/laws.FnVarintBack" = some 10 by kernel_rfl).symm.trans hf) |>.symm
  obtain rfl : fn = Tryz.f10 := (Option.some.inj (Tryz.func10.symm.trans hfn)).symm
  refine ⟨by kernel_rfl, fun j t ht => ?_⟩
  rw [Tryz.params10] at ht
  have hm := Array.mem_of_getElem? ht
  simp only [List.mem_toArray, List.mem_cons, List.not_mem_nil, or_false] at hm
  rcases hm with rfl | rfl | rfl
  · exact (show Tryz.prog.wantsStandIn 2 = false by kernel_rfl)
  · exact (show Tryz.prog.wantsStandIn 4 = false by kernel_rfl)
  · exact (show Tryz.prog.wantsStandIn 24 = false by kernel_rfl)

/-- THE CA.lit (.int .i64 0), .lit (.bool false), .nil. -/
theorem card : Rows.FnVarintBackCardSaid :=
  Claim7.holds_tied_plain_at .later [] _ _ _ _ said (fun _ h => by cases h) (by kernel_rfl) (fun _ h => by cases h) fnVarintBack_row_tie rfl ⟨rfl, rfl⟩ (by kernel_rfl) rfl plain (by kernel_rfl)
end Go.Proofs.YtkfkieebcahiiaaGreatDoor.fnVarintBack
