/- The calls by which values are written: their numbers, how many bytes, how deep structs stand in each other. impl.Put of whatever value by whatever protocol. -/
import Derived.Test.YtdifknecndlklaaGreatDoorZE
import Derived.Test.YtdifknecndlklaaGreatDoorZWei
import Derived.Test.YtdifknecndlklaaGreatDoorZPutV
set_option linter.all false
namespace Go.Proofs.YtdifknecndlklaaGreatDoor
open Go Go.RowKit
set_option maxHeartbeats 4000000
set_option linter.all false

theorem VT.induct {motive : VT → Prop} (h : ∀ T N S K E ids L, (∀ x ∈ L, motive x) → motive (.mk T N S K E ids L)) (x : VT) : motive x := by
  have : ∀ (m : Nat) (x : VT), SizeOf.sizeOf x ≤ m → motive x := by
    intro m
    induction m with
    | zero =>
      intro x hx
      obtain ⟨T, N, Sb, K, E, ids, L⟩ := x
      simp at hx
    | succ m ih =>
      intro x hx
      obtain ⟨T, N, Sb, K, E, ids, L⟩ := x
      refine h _ _ _ _ _ _ _ fun x hj => ih x ?_
      have hlt := List.sizeOf_lt_of_mem hj
      simp at hx
      omega
  exact this _ x (Nat.le_refl _)

/-- At most so many bytes. -/
def mostAll (l : List WOp) : Nat := (l.map WOp.most).sum
theorem mostAll_append (a b : List WOp) : mostAll (a ++ b) = mostAll a + mostAll b := by simp [mostAll]
theorem mostAll_cons (op : WOp) (l : List WOp) : mostAll (op :: l) = op.most + mostAll l := by simp [mostAll]
theorem allW_most {L : List VT} (h : ∀ x ∈ L, mostAll x.wops ≤ 100 * x.weight) : ∀ n, mostAll (allW L n) ≤ 100 * weightL L := by
  induction L with
  | nil => intro n; cases n <;> simp [allW, mostAll, weightL]
  | cons x l ih =>
    intro n
    cases n with
    | zero => simp [allW, mostAll]
    | succ n =>
      rw [allW, mostAll_append, weightL]
      have h0 := h x (List.mem_cons_self ..)
      have h1 := ih (fun x hj => h x (List.mem_cons_of_mem _ hj)) n
      omega
theorem fieldsW_most {L : List VT} (h : ∀ x ∈ L, mostAll x.wops ≤ 100 * x.weight) : ∀ ids, mostAll (fieldsW L ids) ≤ 100 * weightL L := by
  induction L with
  | nil => intro ids; cases ids <;> simp [fieldsW, mostAll, weightL]
  | cons x l ih =>
    intro ids
    cases ids with
    | nil => simp [fieldsW, mostAll]
    | cons i ids =>
      rw [fieldsW, mostAll_cons, mostAll_append, mostAll_cons, weightL]
      have h0 := h x (List.mem_cons_self ..)
      have h1 := ih (fun x hj => h x (List.mem_cons_of_mem _ hj)) ids
      simp only [WOp.most]
      omega
theorem most_wops (x : VT) : mostAll x.wops ≤ 100 * x.weight := by
  induction x using VT.induct with
  | h T N S K E ids L ih =>
  have ha := allW_most ih
  have hf := fieldsW_most ih
  have e0 : mostAll [] = 0 := rfl
  rw [VT.weight]
  have hs : (strOf S).size = S.length := by simp [strOf, ByteArray.size]
  rw [VT.wops]
  by_cases t2 : T % 256 = 2
  · rw [if_pos t2]; (simp only [mostAll_cons, e0, WOp.most, hs] <;> omega)
  rw [if_neg t2]
  by_cases t3 : T % 256 = 3
  · rw [if_pos t3]; (simp only [mostAll_cons, e0, WOp.most, hs] <;> omega)
  rw [if_neg t3]
  by_cases t4 : T % 256 = 4
  · rw [if_pos t4]; (simp only [mostAll_cons, e0, WOp.most, hs] <;> omega)
  rw [if_neg t4]
  by_cases t6 : T % 256 = 6
  · rw [if_pos t6]; (simp only [mostAll_cons, e0, WOp.most, hs] <;> omega)
  rw [if_neg t6]
  by_cases t8 : T % 256 = 8
  · rw [if_pos t8]; (simp only [mostAll_cons, e0, WOp.most, hs] <;> omega)
  rw [if_neg t8]
  by_cases t10 : T % 256 = 10
  · rw [if_pos t10]; (simp only [mostAll_cons, e0, WOp.most, hs] <;> omega)
  rw [if_neg t10]
  by_cases t11 : T % 256 = 11
  · rw [if_pos t11]; (simp only [mostAll_cons, e0, WOp.most, hs] <;> omega)
  rw [if_neg t11]
  by_cases t16 : T % 256 = 16
  · rw [if_pos t16]; (simp only [mostAll_cons, e0, WOp.most, hs] <;> omega)
  rw [if_neg t16]
  by_cases t12 : T % 256 = 12
  · rw [if_pos t12]
    have := hf ids
    simp only [mostAll_cons, mostAll_append, e0, WOp.most]
    omega
  rw [if_neg t12]
  by_cases t13 : T % 256 = 13
  · rw [if_pos t13]
    have := ha (L.length / 2 * 2)
    simp only [mostAll_cons, mostAll_append, e0, WOp.most]
    omega
  rw [if_neg t13]
  by_cases t14 : T % 256 = 14
  · rw [if_pos t14]
    have := ha L.length
    simp only [mostAll_cons, mostAll_append, e0, WOp.most]
    omega
  rw [if_neg t14]
  by_cases t15 : T % 256 = 15
  · rw [if_pos t15]
    have := ha L.length
    simp only [mostAll_cons, mostAll_append, e0, WOp.most]
    omega
  rw [if_neg t15, e0]
  omega

def rngAll (l : List WOp) : Prop := ∀ op ∈ l, op.rng
theorem rngAll_append {a b : List WOp} : rngAll (a ++ b) ↔ rngAll a ∧ rngAll b := by simp [rngAll, or_imp, forall_and]
theorem rngAll_cons {op : WOp} {l : List WOp} : rngAll (op :: l) ↔ op.rng ∧ rngAll l := by simp [rngAll, or_imp, forall_and]
theorem rngAll_nil : rngAll [] := fun _ h => by simp at h
theorem allW_rng {L : List VT} (h : ∀ x ∈ L, rngAll x.wops) : ∀ n, rngAll (allW L n) := by
  induction L with
  | nil => intro n; cases n <;> (rw [allW]; exact rngAll_nil; intros; contradiction)
  | cons x l ih =>
    intro n
    cases n with
    | zero => simp [allW, rngAll]
    | succ n =>
      rw [allW, rngAll_append]
      exact ⟨h x (List.mem_cons_self ..), ih (fun x hj => h x (List.mem_cons_of_mem _ hj)) n⟩
theorem i16_rng (i : Int) : -32768 ≤ IntKind.i16.wrap i ∧ IntKind.i16.wrap i < 32768 := by rw [wrap_i16]; omega
theorem fieldsW_rng {L : List VT} (h : ∀ x ∈ L, rngAll x.wops) : ∀ ids, rngAll (fieldsW L ids) := by
  induction L with
  | nil => intro ids; cases ids <;> simp [fieldsW, rngAll]
  | cons x l ih =>
    intro ids
    cases ids with
    | nil => simp [fieldsW, rngAll]
    | cons i ids =>
      rw [fieldsW, rngAll_cons, rngAll_append, rngAll_cons]
      exact ⟨i16_rng i, h x (List.mem_cons_self ..), trivial, ih (fun x hj => h x (List.mem_cons_of_mem _ hj)) ids⟩
theorem VT.small.elems {T N : Int} {S : List UInt8} {K E : Int} {ids : List Int} {L : List VT} (h : (VT.mk T N S K E ids L).small) : L.length ≤ 1000000 ∧ ∀ x ∈ L, x.small := by
  cases h with
  | mk hS hI hL hEl => exact ⟨hL, fun x hx => by obtain ⟨j, hj⟩ := List.getElem?_of_mem hx; exact hEl j x hj⟩
theorem VT.rng.inv {T N : Int} {S : List UInt8} {K E : Int} {ids : List Int} {L : List VT} (h : (VT.mk T N S K E ids L).rng) : (-9223372036854775808 ≤ N ∧ N ≤ 9223372036854775807) ∧ ∀ x ∈ L, x.rng := by
  cases h with
  | mk hN hL => exact ⟨hN, hL⟩
theorem rng_wops (x : VT) : x.small → x.rng → rngAll x.wops := by
  induction x using VT.induct with
  | h T N S K E ids L ih =>
  intro hs hr
  obtain ⟨hl, hs⟩ := hs.elems
  obtain ⟨hN, hr⟩ := hr.inv
  have ih' : ∀ x ∈ L, rngAll x.wops := fun x hx => ih x hx (hs x hx) (hr x hx)
  have ha := allW_rng ih'
  have hf := fieldsW_rng ih'
  have h16 : (IntKind.i16.wrap N) < 32768 ∧ -32768 ≤ IntKind.i16.wrap N := ⟨(i16_rng N).2, (i16_rng N).1⟩
  have h32 : (IntKind.i32.wrap N) < 2147483648 ∧ -2147483648 ≤ IntKind.i32.wrap N := by rw [wrap_i32']; omega
  have h64 : (IntKind.u64.wrap N).toNat < 18446744073709551616 := by rw [IntKind.wrap_u64]; omega
  have hp := pad16_len S
  rw [VT.wops]
  by_cases t2 : T % 256 = 2
  · rw [if_pos t2]; (refine rngAll_cons.2 ⟨?_, rngAll_nil⟩ <;> first | trivial | (simp only [WOp.rng] <;> omega) | exact hp)
  rw [if_neg t2]
  by_cases t3 : T % 256 = 3
  · rw [if_pos t3]; (refine rngAll_cons.2 ⟨?_, rngAll_nil⟩ <;> first | trivial | (simp only [WOp.rng] <;> omega) | exact hp)
  rw [if_neg t3]
  by_cases t4 : T % 256 = 4
  · rw [if_pos t4]; (refine rngAll_cons.2 ⟨?_, rngAll_nil⟩ <;> first | trivial | (simp only [WOp.rng] <;> omega) | exact hp)
  rw [if_neg t4]
  by_cases t6 : T % 256 = 6
  · rw [if_pos t6]; (refine rngAll_cons.2 ⟨?_, rngAll_nil⟩ <;> first | trivial | (simp only [WOp.rng] <;> omega) | exact hp)
  rw [if_neg t6]
  by_cases t8 : T % 256 = 8
  · rw [if_pos t8]; (refine rngAll_cons.2 ⟨?_, rngAll_nil⟩ <;> first | trivial | (simp only [WOp.rng] <;> omega) | exact hp)
  rw [if_neg t8]
  by_cases t10 : T % 256 = 10
  · rw [if_pos t10]; (refine rngAll_cons.2 ⟨?_, rngAll_nil⟩ <;> first | trivial | (simp only [WOp.rng] <;> omega) | exact hp)
  rw [if_neg t10]
  by_cases t11 : T % 256 = 11
  · rw [if_pos t11]; (refine rngAll_cons.2 ⟨?_, rngAll_nil⟩ <;> first | trivial | (simp only [WOp.rng] <;> omega) | exact hp)
  rw [if_neg t11]
  by_cases t16 : T % 256 = 16
  · rw [if_pos t16]; (refine rngAll_cons.2 ⟨?_, rngAll_nil⟩ <;> first | trivial | (simp only [WOp.rng] <;> omega) | exact hp)
  rw [if_neg t16]
  by_cases t12 : T % 256 = 12
  · rw [if_pos t12]
    simp only [rngAll_cons, rngAll_append]
    exact ⟨trivial, hf ids, trivial, trivial, rngAll_nil⟩
  rw [if_neg t12]
  by_cases t13 : T % 256 = 13
  · rw [if_pos t13]
    simp only [rngAll_cons, rngAll_append]
    exact ⟨by simp only [WOp.rng]; omega, ha _, trivial, rngAll_nil⟩
  rw [if_neg t13]
  by_cases t14 : T % 256 = 14
  · rw [if_pos t14]
    simp only [rngAll_cons, rngAll_append]
    exact ⟨by simp only [WOp.rng]; omega, ha _, trivial, rngAll_nil⟩
  rw [if_neg t14]
  by_cases t15 : T % 256 = 15
  · rw [if_pos t15]
    simp only [rngAll_cons, rngAll_append]
    exact ⟨by simp only [WOp.rng]; omega, ha _, trivial, rngAll_nil⟩
  rw [if_neg t15]
  exact rngAll_nil

/-- How many structs stand open behind calls, none where one is ended that was not begun. -/
def dep : Nat → List WOp → Option Nat
  | d, [] => some d
  | d, .structBegin :: l => dep (d + 1) l
  | 0, .structEnd :: _ => none
  | d + 1, .structEnd :: l => dep d l
  | d, _ :: l => dep d l
theorem dep_other {op : WOp} (h1 : op ≠ .structBegin) (h2 : op ≠ .structEnd) (d : Nat) (l : List WOp) : dep d (op :: l) = dep d l := by
  cases op <;> first | exact absurd rfl h1 | exact absurd rfl h2 | (cases d <;> rfl)
theorem dep_append : ∀ (a : List WOp) (d : Nat) (b : List WOp), dep d (a ++ b) = (dep d a).bind (dep · b)
  | [], d, b => rfl
  | op :: a, d, b => by
    by_cases h1 : op = .structBegin
    · subst h1
      exact dep_append a (d + 1) b
    by_cases h2 : op = .structEnd
    · subst h2
      cases d with
      | zero => rfl
      | succ d => exact dep_append a d b
    rw [List.cons_append, dep_other h1 h2, dep_other h1 h2]
    exact dep_append a d b
theorem allW_dep {L : List VT} (h : ∀ x ∈ L, ∀ d, dep d x.wops = some d) : ∀ n d, dep d (allW L n) = some d := by
  induction L with
  | nil => intro n d; cases n <;> simp [allW, dep]
  | cons x l ih =>
    intro n d
    cases n with
    | zero => simp [allW, dep]
    | succ n =>
      rw [allW, dep_append, h x (List.mem_cons_self ..)]
      exact ih (fun x hj => h x (List.mem_cons_of_mem _ hj)) n d
theorem fieldsW_dep {L : List VT} (h : ∀ x ∈ L, ∀ d, dep d x.wops = some d) : ∀ ids d, dep d (fieldsW L ids) = some d := by
  induction L with
  | nil => intro ids d; cases ids <;> simp [fieldsW, dep]
  | cons x l ih =>
    intro ids d
    cases ids with
    | nil => simp [fieldsW, dep]
    | cons i ids =>
      rw [fieldsW, dep_other (by simp) (by simp), dep_append, h x (List.mem_cons_self ..)]
      show dep d (WOp.fieldEnd :: _) = _
      rw [dep_other (by simp) (by simp)]
      exact ih (fun x hj => h x (List.mem_cons_of_mem _ hj)) ids d
theorem dep_wops (x : VT) : ∀ d, dep d x.wops = some d := by
  induction x using VT.induct with
  | h T N S K E ids L ih =>
  intro d
  have ha := allW_dep ih
  have hf := fieldsW_dep ih
  rw [VT.wops]
  by_cases t2 : T % 256 = 2
  · rw [if_pos t2]; rfl
  rw [if_neg t2]
  by_cases t3 : T % 256 = 3
  · rw [if_pos t3]; rfl
  rw [if_neg t3]
  by_cases t4 : T % 256 = 4
  · rw [if_pos t4]; rfl
  rw [if_neg t4]
  by_cases t6 : T % 256 = 6
  · rw [if_pos t6]; rfl
  rw [if_neg t6]
  by_cases t8 : T % 256 = 8
  · rw [if_pos t8]; rfl
  rw [if_neg t8]
  by_cases t10 : T % 256 = 10
  · rw [if_pos t10]; rfl
  rw [if_neg t10]
  by_cases t11 : T % 256 = 11
  · rw [if_pos t11]; rfl
  rw [if_neg t11]
  by_cases t16 : T % 256 = 16
  · rw [if_pos t16]; rfl
  rw [if_neg t16]
  by_cases t12 : T % 256 = 12
  · rw [if_pos t12]
    show dep (d + 1) _ = _
    rw [dep_append, hf]
    show dep (d + 1) (WOp.fieldStop :: _) = _
    rw [dep_other (by simp) (by simp)]
    rfl
  rw [if_neg t12]
  by_cases t13 : T % 256 = 13
  · rw [if_pos t13, dep_other (by simp) (by simp), dep_append, ha]
    rfl
  rw [if_neg t13]
  by_cases t14 : T % 256 = 14
  · rw [if_pos t14, dep_other (by simp) (by simp), dep_append, ha]
    rfl
  rw [if_neg t14]
  by_cases t15 : T % 256 = 15
  · rw [if_pos t15, dep_other (by simp) (by simp), dep_append, ha]
    rfl
  rw [if_neg t15]
  rfl

theorem nextC_stack (st : CSt) (op : WOp) (l : List WOp) (h : dep st.stack.length (op :: l) ≠ none) : (op = .structEnd → st.stack ≠ []) ∧ dep (op.nextC st).stack.length l ≠ none := by
  by_cases h1 : op = .structBegin
  · subst h1
    exact ⟨fun e => (by cases e), by simpa [WOp.nextC, dep] using h⟩
  by_cases h2 : op = .structEnd
  · subst h2
    rcases hs : st.stack with _ | ⟨a, r⟩
    · rw [hs] at h; exact absurd rfl h
    · refine ⟨fun _ => by simp, ?_⟩
      simp only [WOp.nextC, hs, List.length_dropLast, List.length_cons, Nat.add_sub_cancel]
      rw [hs] at h
      simpa [dep] using h
  · rw [dep_other h1 h2] at h
    refine ⟨fun e => absurd e h2, ?_⟩
    have : (op.nextC st).stack = st.stack := by
      cases op <;> simp only [WOp.nextC]
      case structBegin => exact absurd rfl h1
      case structEnd => exact absurd rfl h2
      case fieldBegin => split <;> rfl
      case bool => split <;> rfl
    rw [this]
    exact h
/-- Calls that are good. -/
theorem Made.goods {c : ConfV} {P : WProto WSt} {m b : Nat} (h : Made c P m b) : ∀ (l : List WOp) (s : WSt), s.2.2.ok → s.1 + mostAll l ≤ LIM → rngAll l → (c.proto = 1 → dep s.2.2.stack.length l ≠ none) → P.goods s l
  | [], s, _, _, _, _ => trivial
  | op :: l, s, ho, hl, hr, hd => by
    rw [mostAll_cons] at hl
    rw [rngAll_cons] at hr
    refine ⟨h.good s op (by omega) hr.1 fun e hp => (nextC_stack s.2.2 op l (hd hp)).1 e, ?_⟩
    rw [h.step]
    refine Made.goods h l _ (ho.nextP op hr.1) ?_ hr.2 fun hp => ?_
    · show s.1 + op.most + mostAll l ≤ LIM
      omega
    · have := (nextC_stack s.2.2 op l (hd hp)).2
      simpa [WOp.nextP, hp] using this
theorem Made.steps {c : ConfV} {P : WProto WSt} {m b : Nat} (h : Made c P m b) : ∀ (l : List WOp) (s : WSt), P.steps s l = (s.1 + mostAll l, s.2.1 ++ encAll c s.2.2 l, nextAll c s.2.2 l)
  | [], s => by simp [WProto.steps, encAll, nextAll, mostAll]
  | op :: l, s => by
    show P.steps (P.step s op) l = _
    rw [Made.steps h l, h.step]
    simp [encAll, nextAll, mostAll, List.append_assoc, Nat.add_assoc]
theorem encAll_len (c : ConfV) : ∀ (l : List WOp) (st : CSt), st.ok → rngAll l → (encAll c st l).length ≤ mostAll l
  | [], st, _, _ => by simp [encAll]
  | op :: l, st, ho, hr => by
    rw [rngAll_cons] at hr
    rw [mostAll_cons, encAll, List.length_append]
    have h1 := encP_most c st ho op hr.1
    have h2 := encAll_len c l (op.nextP c st) (ho.nextP op hr.1) hr.2
    omega

/-! The specification's writer: what stands ahead of a step. -/
/-- Numbers within their kinds; sizes whatever. -/
def WOp.rngN : WOp → Prop
  | .fieldBegin _ i => -32768 ≤ i ∧ i < 32768
  | .mapBegin _ _ n => -9223372036854775808 ≤ n ∧ n < 9223372036854775808
  | .listBegin _ n => -9223372036854775808 ≤ n ∧ n < 9223372036854775808
  | .setBegin _ n => -9223372036854775808 ≤ n ∧ n < 9223372036854775808
  | .i16 n => -32768 ≤ n ∧ n < 32768
  | .i32 n => -2147483648 ≤ n ∧ n < 2147483648
  | .i64 n => -9223372036854775808 ≤ n ∧ n < 9223372036854775808
  | .double n => n < 18446744073709551616
  | .uuid l => l.length = 16
  | _ => True
theorem WOp.rng.toN {op : WOp} (h : op.rng) : op.rngN := by
  cases op <;> simp only [WOp.rng, WOp.rngN] at h ⊢ <;> omega
def SSt.okS (s : SSt) : Prop := (-32768 ≤ s.last ∧ s.last < 32768) ∧ (-32768 ≤ s.id ∧ s.id < 32768) ∧ ∀ x ∈ s.outer, -32768 ≤ x ∧ x < 32768
theorem SSt.okS.stepC {s : SSt} (h : s.okS) (op : WOp) (hr : op.rngN) : (sCs s op).1.okS := by
  obtain ⟨h1, h2, h3⟩ := h
  cases op <;> simp only [sCs]
  case structBegin => exact ⟨⟨show (-32768 : Int) ≤ 0 by decide, show (0 : Int) < 32768 by decide⟩, h2, fun x hx => by simp at hx; rcases hx with hx | rfl; exact h3 x hx; exact h1⟩
  case structEnd =>
    split
    · exact ⟨h1, h2, h3⟩
    · refine ⟨?_, h2, fun x hx => h3 x ((List.dropLast_sublist _).subset hx)⟩
      rcases hs : s.outer.getLast? with _ | y
      · simp [List.getLastD_eq_getLast?, hs]
      · have := h3 y (List.mem_of_getLast? hs)
        simpa [List.getLastD_eq_getLast?, hs] using this
  case fieldBegin t i =>
    split
    · exact ⟨h1, hr, h3⟩
    · split
      · exact ⟨h1, h2, h3⟩
      · exact ⟨hr, h2, h3⟩
  case bool v =>
    split
    · exact ⟨h2, h2, h3⟩
    · exact ⟨h1, h2, h3⟩
  case mapBegin => (repeat' split) <;> exact ⟨h1, h2, h3⟩
  case listBegin => (repeat' split) <;> exact ⟨h1, h2, h3⟩
  case setBegin => (repeat' split) <;> exact ⟨h1, h2, h3⟩
  all_goals exact ⟨h1, h2, h3⟩
theorem SSt.okS.step {s : SSt} (h : s.okS) (c : ConfV) (op : WOp) (hr : op.rng) : (sstep c s op).1.okS := by
  unfold sstep sC
  split
  · split
    · exact h
    · have := h.stepC op hr.toN
      exact this
  · exact h
theorem sCs_len (s : SSt) (op : WOp) (h : s.okS) (hr : op.rng) : (sCs s op).1.out.length ≤ s.out.length + op.most := by
  have hn : ∀ n : Int, (vint (n % 4294967296).toNat).length ≤ 5 := fun n => vint32_le _ (by omega)
  have hm : ∀ n : Nat, (vint (n % 4294967296)).length ≤ 5 := fun n => vint32_le _ (by omega)
  have hs : ∀ a : ByteArray, a.data.toList.length = a.size := fun a => by rw [Array.length_toList]; rfl
  have hle : ∀ (B : List UInt8) k, B.length ≤ k → (s.out ++ B).length ≤ s.out.length + k := fun B k hk => by rw [List.length_append]; omega
  have hmp : ∀ k t n, (mapC k t n).length ≤ 32 := fun k t n => by
    have := hn n
    unfold mapC
    split <;> simp only [List.length_cons, List.length_nil, List.length_append] <;> omega
  have hls : ∀ t n, (listC t n).length ≤ 32 := fun t n => by
    have := hn n
    unfold listC
    split <;> simp only [List.length_cons, List.length_nil] <;> omega
  cases op <;> simp only [sCs, WOp.most]
  case msgBegin a t n =>
    have := hn n; have := hm a.size; have := hs a
    refine hle _ _ ?_
    simp only [msgC, List.length_cons, List.length_append]
    omega
  case structEnd => split <;> exact Nat.le_add_right ..
  case fieldBegin t i =>
    split
    · exact Nat.le_add_right ..
    · split
      · exact Nat.le_add_right ..
      · exact hle _ _ (fieldC_le _ _ _ hr)
  case fieldStop => exact hle _ _ (by simp)
  case mapBegin k t n =>
    split
    · exact Nat.le_add_right ..
    · split
      · exact hle _ _ (by simp)
      · split
        · exact Nat.le_add_right ..
        · exact hle _ _ (hmp _ _ _)
  case listBegin t n =>
    split
    · exact Nat.le_add_right ..
    · split
      · exact Nat.le_add_right ..
      · exact hle _ _ (hls _ _)
  case setBegin t n =>
    split
    · exact Nat.le_add_right ..
    · split
      · exact Nat.le_add_right ..
      · exact hle _ _ (hls _ _)
  case bool v =>
    split
    · exact hle _ _ (fieldC_le _ _ _ h.2.1)
    · exact hle _ _ (by simp)
  case byte n => exact hle _ _ (by simp)
  case i16 n => exact hle _ _ (by have := vint32_le (zig n).toNat (by have := zig_nat n 32768 hr; omega); omega)
  case i32 n => exact hle _ _ (by have := vint32_le (zig n).toNat (by have := zig_nat n 2147483648 hr; omega); omega)
  case i64 n => exact hle _ _ (by have := vint64_le (zig n).toNat (by have := zig_nat n 9223372036854775808 hr; omega); omega)
  case double n => exact hle _ _ (by rw [le8_length]; omega)
  case string a => have := hm a.size; have := hs a; exact hle _ _ (by rw [List.length_append]; omega)
  case binary v l => have := hm l.length; exact hle _ _ (by rw [List.length_append]; omega)
  case uuid l => have : l.length = 16 := hr; exact hle _ _ (by omega)
  all_goals exact Nat.le_add_right ..
theorem sstep_len (c : ConfV) (s : SSt) (op : WOp) (h : s.okS) (hr : op.rng) : (sstep c s op).1.out.length ≤ s.out.length + op.most := by
  unfold sstep sC
  split
  · split
    · exact Nat.le_add_right ..
    · exact sCs_len s op h hr
  · show (s.out ++ _).length ≤ _
    have := binB_most c.strictW op fun l hl => by subst hl; exact hr
    rw [List.length_append]
    omega
end Go.Proofs.YtdifknecndlklaaGreatDoor
namespace Go.Proofs.YtdifknecndlklaaGreatDoor
open Go Go.RowKit
set_option maxHeartbeats 4000000
set_option maxRecDepth 100000
set_option linter.all false

theorem putp_prep (c : ConfV) (x : VT) (hx : x.small) (hr : x.rng) (v : Value) (w W0 : World) (hv : ValR w x v) (hl : mostAll x.wops ≤ LIM) (hf0 : Fr noF noF w W0)
    (m b : Nat) (w1 : World) (hm : Mem w1 m b) (hb : Buf w1 b 0 true []) (hf : Fr noF (BF w1 b) W0 w1) (hmn : W0.heap.size ≤ m) :
    Calls Tryz.prog 39 #[c.val, memI m] w1 (fun e w2 => ∃ PT r F, e = .returned (.iface PT r) ∧ Fr noF F W0 w2 ∧ Calls Tryz.prog 49 #[.iface PT r, v] w2 (fun e w3 => ∃ F', e = .returned .nilIface ∧ Fr noF F' W0 w3 ∧ PutEnd w w3 m b (encAll c CSt.new x.wops))) := by
  refine (Prot_any m b c w1 hm hb).mono ?_
  rintro e w2 ⟨P, rfl, hM, hI, hF⟩
  have hfA : Fr noF (P.F w2) W0 w2 := (hf.conv (F'' := fun k => BF w1 b k ∨ k = m) fun k hk hx => by
    rcases hx with hx | rfl
    · exact hx
    · omega).trans hF
  refine ⟨P.T, P.recv, _, rfl, hfA, (I_put_any P hM.ok x hx w v w2 (0, [], CSt.new) hv (hf0.trans hfA) hI (hM.goods x.wops _ CSt.new_ok (by rw [Nat.zero_add]; exact hl) (rng_wops x hx hr) fun _ => by rw [dep_wops]; simp)).mono ?_⟩
  rintro e w3 ⟨rfl, hI3, hfr⟩
  rw [hM.steps] at hI3
  simp only [Nat.zero_add, List.nil_append] at hI3
  obtain ⟨h1, h2⟩ := hM.mem _ _ hI3
  have hend := hfA.trans hfr
  exact ⟨_, rfl, hend, h1, h2.tight, (hf0.trans hend).conv fun k _ hk => hM.foot _ _ hk⟩

theorem I_Put_any (c : ConfV) (x : VT) (hx : x.small) (hr : x.rng) (v : Value) (w : World) (hv : ValR w x v) (hl : mostAll x.wops ≤ LIM) :
    Calls Tryz.prog 22 #[c.val, v] w (PutR w (encAll c CSt.new x.wops)) := by
  obtain ⟨sa, sn, sc, ia, il, ic, la, ll, lc, rfl⟩ := hv.sl
  obtain ⟨T, N, Sb, K, E, ids, L⟩ := x
  have h1 := NewTMemoryBuffer_raw ((w.alloc (.cells #[.int .i64 c.proto, .bool c.plain, .bool c.sr, .bool c.sw, .int .i32 c.msg, .int .i32 c.con, .int .i32 c.fra] 23 (0, 0))).alloc (.cells #[.int .i64 T, .int .i64 N, .slice sa sn sc, .int .i64 K, .int .i64 E, .slice ia il ic, .slice la ll lc] 46 (0, 0)))
  have h2 := fun m b w1 hm hb hf hmn => putp_prep c (VT.mk T N Sb K E ids L) hx hr _ w ((w.alloc (.cells #[.int .i64 c.proto, .bool c.plain, .bool c.sr, .bool c.sw, .int .i32 c.msg, .int .i32 c.con, .int .i32 c.fra] 23 (0, 0))).alloc (.cells #[.int .i64 T, .int .i64 N, .slice sa sn sc, .int .i64 K, .int .i64 E, .slice ia il ic, .slice la ll lc] 46 (0, 0))) hv hl (((Fr.refl noF w).alloc _).alloc _) m b w1 hm hb hf hmn
  obtain ⟨news, hnews⟩ : ∃ news, news = encAll c CSt.new (VT.mk T N Sb K E ids L).wops := ⟨_, rfl⟩
  rw [← hnews] at h2 ⊢
  obtain ⟨pr, pl, sr, sw, ms, co, fr⟩ := c
  have hbx : ∀ {F : Nat → Prop} (X : World), Fr noF F ((w.alloc (.cells #[.int .i64 pr, .bool pl, .bool sr, .bool sw, .int .i32 ms, .int .i32 co, .int .i32 fr] 23 (0, 0))).alloc (.cells #[.int .i64 T, .int .i64 N, .slice sa sn sc, .int .i64 K, .int .i64 E, .slice ia il ic, .slice la ll lc] 46 (0, 0))) X →
      Boxes X w.heap.size pr pl sr sw ms co fr (.int .i64 T) (.int .i64 N) (.slice sa sn sc) (.int .i64 K) (.int .i64 E) (.slice ia il ic) (.slice la ll lc) := fun X hX => boxes (hX.block (new2 w _ _).1 fun x => x) (hX.block (new2 w _ _).2 fun x => x)
  have h3 : ∀ m b w1, Mem w1 m b → Buf w1 b 0 true [] → Fr noF (BF w1 b) ((w.alloc (.cells #[.int .i64 pr, .bool pl, .bool sr, .bool sw, .int .i32 ms, .int .i32 co, .int .i32 fr] 23 (0, 0))).alloc (.cells #[.int .i64 T, .int .i64 N, .slice sa sn sc, .int .i64 K, .int .i64 E, .slice ia il ic, .slice la ll lc] 46 (0, 0))) w1 → w.heap.size + 1 + 1 ≤ m →
      Calls Tryz.prog 39 #[.agg #[.int .i64 pr, .bool pl, .bool sr, .bool sw, .int .i32 ms, .int .i32 co, .int .i32 fr], memI m] w1.drew (fun e w2 => ∃ PT r, e = .returned (.iface PT r) ∧ Boxes w2 w.heap.size pr pl sr sw ms co fr (.int .i64 T) (.int .i64 N) (.slice sa sn sc) (.int .i64 K) (.int .i64 E) (.slice ia il ic) (.slice la ll lc) ∧
        Calls Tryz.prog 49 #[.iface PT r, .agg #[.int .i64 T, .int .i64 N, .slice sa sn sc, .int .i64 K, .int .i64 E, .slice ia il ic, .slice la ll lc]] w2 (fun e w3 => e = .returned .nilIface ∧ Boxes w3 w.heap.size pr pl sr sw ms co fr (.int .i64 T) (.int .i64 N) (.slice sa sn sc) (.int .i64 K) (.int .i64 E) (.slice ia il ic) (.slice la ll lc) ∧ PutEnd w w3 m b news)) := fun m b w1 hm hb hf hmn =>
    (h2 m b w1.drew hm hb hf.drew (by simpa using hmn)).mono fun e w2 ⟨PT, r, F, he, hF, hc⟩ => ⟨PT, r, he, hbx w2 hF, hc.mono fun e w3 ⟨F', he, hF', hE⟩ => ⟨he, hbx w3 hF', hE⟩⟩
  have hs : ((w.alloc (.cells #[.int .i64 pr, .bool pl, .bool sr, .bool sw, .int .i32 ms, .int .i32 co, .int .i32 fr] 23 (0, 0))).alloc (.cells #[.int .i64 T, .int .i64 N, .slice sa sn sc, .int .i64 K, .int .i64 E, .slice ia il ic, .slice la ll lc] 46 (0, 0))).heap.size = w.heap.size + 1 + 1 := by simp
  have H1 := Lib.hid h1
  have H2 := Lib.hid h3
  have HS := Lib.hid hs
  have HBF : Hid (∀ (b : Nat) (X : World), Fr noF (BF X b) ((w.alloc (.cells #[.int .i64 pr, .bool pl, .bool sr, .bool sw, .int .i32 ms, .int .i32 co, .int .i32 fr] 23 (0, 0))).alloc (.cells #[.int .i64 T, .int .i64 N, .slice sa sn sc, .int .i64 K, .int .i64 E, .slice ia il ic, .slice la ll lc] 46 (0, 0))) X →
      Boxes X w.heap.size pr pl sr sw ms co fr (.int .i64 T) (.int .i64 N) (.slice sa sn sc) (.int .i64 K) (.int .i64 E) (.slice ia il ic) (.slice la ll lc)) := Lib.hid fun b X hX => hbx X hX
  clear h1 h2 h3 hbx hs hnews hv hx hl hr
  go_enter Tryz.func22, Tryz.ntmps22
  go_wp2_with fail
  refine H1.out.mono ?_
  rintro e w1 ⟨m, b, rfl, hm, hb, hf, hmn⟩
  have c0 := HBF.out b w1 hf
  have HP := Lib.hid (H2.out m b w1 hm hb hf (by have := HS.out; omega))
  clear hm hb hf hmn
  go_wp2_with fail
  go_region_held3 (fun w' => w'.cell? ⟨w.heap.size, 0, none⟩ = some (.int .i64 pr) ∧ w'.cell? ⟨w.heap.size, 1, none⟩ = some (.bool pl) ∧ w'.cell? ⟨w.heap.size, 2, none⟩ = some (.bool sr) ∧ w'.cell? ⟨w.heap.size, 3, none⟩ = some (.bool sw) ∧ w'.cell? ⟨w.heap.size, 4, none⟩ = some (.int .i32 ms) ∧ w'.cell? ⟨w.heap.size, 5, none⟩ = some (.int .i32 co) ∧ w'.cell? ⟨w.heap.size, 6, none⟩ = some (.int .i32 fr) ∧ w'.cell? ⟨w.heap.size + 1, 0, none⟩ = some (.int .i64 T) ∧ w'.cell? ⟨w.heap.size + 1, 1, none⟩ = some (.int .i64 N) ∧ w'.cell? ⟨w.heap.size + 1, 2, none⟩ = some (.slice sa sn sc) ∧ w'.cell? ⟨w.heap.size + 1, 3, none⟩ = some (.int .i64 K) ∧ w'.cell? ⟨w.heap.size + 1, 4, none⟩ = some (.int .i64 E) ∧ w'.cell? ⟨w.heap.size + 1, 5, none⟩ = some (.slice ia il ic) ∧ w'.cell? ⟨w.heap.size + 1, 6, none⟩ = some (.slice la ll lc)) (first | exact c0 | exact d0 | exact e0)
    (first | (go_at_call 39; refine HP.out.mono ?_; rintro e w2 ⟨PT, r, rfl, d0, hcall⟩; have HC := Lib.hid hcall; clear hcall) | (go_at_call 49; refine HC.out.mono ?_; rintro e w3 ⟨rfl, e0, hend⟩; have HE := Lib.hid hend; clear hend))
  all_goals (have m0 := HE.out.1; clear e0 d0 c0)
  all_goals go_wp2_with fail
  all_goals (refine (Buf_Bytes b _ true news w3 HE.out.2.1).mono ?_; rintro e w4 ⟨v, q, rfl, rfl, hR, hblk⟩; have HR := Lib.hid (put_end HE.out q hR hblk); clear hR hblk)
  all_goals go_wp2_with (go_at_call 41; refine (kind_nil _).mono ?_; rintro e w' ⟨rfl, rfl⟩)
  all_goals go_ret2
  all_goals exact HR.out
end Go.Proofs.YtdifknecndlklaaGreatDoor
