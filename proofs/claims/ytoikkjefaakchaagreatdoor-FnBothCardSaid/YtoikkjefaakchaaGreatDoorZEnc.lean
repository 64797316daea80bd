/- The calls of a writing protocol and their bytes, by whatever protocol: the package's, the specification's. -/
import Derived.Test.YtoikkjefaakchaaGreatDoorZCZ
import Derived.Test.YtoikkjefaakchaaGreatDoorZ6
import Derived.Test.YtoikkjefaakchaaGreatDoorZSw
import Derived.Test.YtoikkjefaakchaaGreatDoorZVal
set_option linter.all false
namespace Go.Proofs.YtoikkjefaakchaaGreatDoor
open Go Go.RowKit
set_option maxHeartbeats 1000000

/-- The bytes of a call by the compact protocol in a state, and the state behind. -/
def WOp.comB (st : CSt) : WOp → List UInt8
  | .msgBegin s t n => msgC s t n
  | .fieldBegin t i => if t = 2 then [] else fieldC st.last (ctype t) i
  | .fieldStop => [0]
  | .mapBegin k t n => mapC k t n
  | .listBegin t n => listC t n
  | .setBegin t n => listC t n
  | .bool v => if st.pend then fieldC st.last (if v then 1 else 2) st.pid else [if v then 1 else 2]
  | .byte n => [b8 n]
  | .i16 n => vint (zig n).toNat
  | .i32 n => vint (zig n).toNat
  | .i64 n => vint (zig n).toNat
  | .double n => le8 n
  | .string s => vint (s.size % 4294967296) ++ s.data.toList
  | .binary _ l => vint (l.length % 4294967296) ++ l
  | .uuid l => l
  | _ => []
def WOp.nextC (st : CSt) : WOp → CSt
  | .structBegin => { st with stack := st.stack ++ [st.last], last := 0 }
  | .structEnd => { st with stack := st.stack.dropLast, last := st.stack.getLastD 0 }
  | .fieldBegin t i => if t = 2 then { st with pend := true, pid := i, pnm := ⟨#[]⟩ } else { st with last := i }
  | .bool _ => if st.pend then { st with last := st.pid, pend := false } else st
  | _ => st
/-- Numbers within their kinds; sizes that are none below 0. -/
def WOp.rng : WOp → Prop
  | .fieldBegin _ i => -32768 ≤ i ∧ i < 32768
  | .mapBegin _ _ n => 0 ≤ n ∧ n < 2147483648
  | .listBegin _ n => 0 ≤ n ∧ n < 2147483648
  | .setBegin _ n => 0 ≤ n ∧ n < 2147483648
  | .i16 n => -32768 ≤ n ∧ n < 32768
  | .i32 n => -2147483648 ≤ n ∧ n < 2147483648
  | .i64 n => -9223372036854775808 ≤ n ∧ n < 9223372036854775808
  | .double n => n < 18446744073709551616
  | .uuid l => l.length = 16
  | _ => True
/-- At most so many bytes. -/
def WOp.most : WOp → Nat
  | .msgBegin s _ _ => 32 + s.size
  | .string s => 32 + s.size
  | .binary _ l => 32 + l.length
  | _ => 32
/-- The ids within their kind. -/
def CSt.ok (st : CSt) : Prop := (-32768 ≤ st.last ∧ st.last < 32768) ∧ (-32768 ≤ st.pid ∧ st.pid < 32768) ∧ ∀ x ∈ st.stack, -32768 ≤ x ∧ x < 32768
theorem CSt.ok.next {st : CSt} (h : st.ok) (op : WOp) (hr : op.rng) : (op.nextC st).ok := by
  obtain ⟨h1, h2, h3⟩ := h
  cases op <;> simp only [WOp.nextC]
  case structBegin => exact ⟨⟨show (-32768 : Int) ≤ 0 by decide, show (0 : Int) < 32768 by decide⟩, h2, fun x hx => by simp at hx; rcases hx with hx | rfl; exact h3 x hx; exact h1⟩
  case structEnd =>
    refine ⟨?_, h2, fun x hx => h3 x ((List.dropLast_sublist _).subset hx)⟩
    rcases hs : st.stack.getLast? with _ | y
    · simp [List.getLastD_eq_getLast?, hs]
    · have := h3 y (List.mem_of_getLast? hs)
      simpa [List.getLastD_eq_getLast?, hs] using this
  case fieldBegin t i =>
    split
    · exact ⟨h1, hr, h3⟩
    · exact ⟨hr, h2, h3⟩
  case bool v =>
    split
    · exact ⟨h2, h2, h3⟩
    · exact ⟨h1, h2, h3⟩
  all_goals exact ⟨h1, h2, h3⟩

/-- By whatever protocol. -/
def WOp.encP (c : ConfV) (st : CSt) (op : WOp) : List UInt8 := if c.proto = 1 then op.comB st else op.binB c.strictW
def WOp.nextP (c : ConfV) (st : CSt) (op : WOp) : CSt := if c.proto = 1 then op.nextC st else st
def encAll (c : ConfV) : CSt → List WOp → List UInt8
  | _, [] => []
  | st, op :: l => op.encP c st ++ encAll c (op.nextP c st) l
def nextAll (c : ConfV) : CSt → List WOp → CSt
  | st, [] => st
  | st, op :: l => nextAll c (op.nextP c st) l
theorem encAll_append (c : ConfV) : ∀ (a b : List WOp) (st : CSt), encAll c st (a ++ b) = encAll c st a ++ encAll c (nextAll c st a) b
  | [], b, st => rfl
  | op :: a, b, st => by simp [encAll, nextAll, encAll_append c a b]
theorem nextAll_append (c : ConfV) : ∀ (a b : List WOp) (st : CSt), nextAll c st (a ++ b) = nextAll c (nextAll c st a) b
  | [], b, st => rfl
  | op :: a, b, st => by simp [nextAll, nextAll_append c a b]

theorem msgB_le (strict : Bool) (s : ByteArray) (t n : Int) : (msgB strict s t n).length ≤ 32 + s.size := by
  have ha : s.data.toList.length = s.size := by rw [Array.length_toList]; rfl
  unfold msgB
  split <;> simp only [List.length_append, verB_length, be4_length, ha, List.length_singleton] <;> omega
theorem binB_most (strict : Bool) (op : WOp) (h : ∀ l, op = .uuid l → l.length = 16) : (op.binB strict).length ≤ op.most := by
  cases op <;> simp only [WOp.binB, WOp.most, List.length_cons, List.length_nil, List.length_append, be2_length, be4_length, be8_length]
  case msgBegin a t n => exact msgB_le strict a t n
  case string s => have ha : s.data.toList.length = s.size := by rw [Array.length_toList]; rfl
                   omega
  case uuid l => have := h l rfl; omega
  all_goals omega
theorem zig_nat (v : Int) (k : Int) (h : -k ≤ v ∧ v < k) : (zig v).toNat < 2 * k.toNat := by unfold zig; split <;> omega
theorem fieldC_le (last code id : Int) (h : -32768 ≤ id ∧ id < 32768) : (fieldC last code id).length ≤ 32 := by
  have := vint32_le (zig id).toNat (by have := zig_nat id 32768 h; omega)
  unfold fieldC
  split <;> simp only [List.length_cons, List.length_nil] <;> omega
theorem comB_most (st : CSt) (hst : st.ok) (op : WOp) (h : op.rng) : (op.comB st).length ≤ op.most := by
  have hn : ∀ n : Int, (vint (n % 4294967296).toNat).length ≤ 5 := fun n => vint32_le _ (by omega)
  have hm : ∀ n : Nat, (vint (n % 4294967296)).length ≤ 5 := fun n => vint32_le _ (by omega)
  have hs : ∀ a : ByteArray, a.data.toList.length = a.size := fun a => by rw [Array.length_toList]; rfl
  cases op <;> simp only [WOp.comB, WOp.most, List.length_nil, Nat.zero_le]
  case msgBegin a t n =>
    have := hn n; have := hm a.size; have := hs a
    simp only [msgC, List.length_cons, List.length_append]
    omega
  case fieldBegin t i => split; simp; exact fieldC_le _ _ _ h
  case fieldStop => simp
  case mapBegin k t n =>
    have := hn n
    unfold mapC
    split <;> simp only [List.length_cons, List.length_nil, List.length_append] <;> omega
  case listBegin t n =>
    have := hn n
    unfold listC
    split <;> simp only [List.length_cons, List.length_nil] <;> omega
  case setBegin t n =>
    have := hn n
    unfold listC
    split <;> simp only [List.length_cons, List.length_nil] <;> omega
  case bool v => split; exact fieldC_le _ _ _ hst.2.1; simp
  case byte n => simp
  case i16 n => have := vint32_le (zig n).toNat (by have := zig_nat n 32768 h; omega); omega
  case i32 n => have := vint32_le (zig n).toNat (by have := zig_nat n 2147483648 h; omega); omega
  case i64 n => have := vint64_le (zig n).toNat (by have := zig_nat n 9223372036854775808 h; omega); omega
  case double n => rw [le8_length]; omega
  case string a => have := hm a.size; have := hs a; rw [List.length_append]; omega
  case binary v l => have := hm l.length; rw [List.length_append]; omega
  case uuid l => have : l.length = 16 := h; omega
theorem encP_most (c : ConfV) (st : CSt) (hst : st.ok) (op : WOp) (h : op.rng) : (op.encP c st).length ≤ op.most := by
  unfold WOp.encP
  split
  · exact comB_most st hst op h
  · exact binB_most c.strictW op fun l hl => by subst hl; exact h
theorem CSt.ok.nextP {c : ConfV} {st : CSt} (h : st.ok) (op : WOp) (hr : op.rng) : (op.nextP c st).ok := by
  unfold WOp.nextP
  split
  · exact h.next op hr
  · exact h

/-! The specification's writer. -/
def SSt.field (s : SSt) (code id : Int) : SSt := { s with out := s.out ++ fieldC s.last code id, last := id }
def sCs (s : SSt) : WOp → SSt × Int
  | .structBegin => ({ s with outer := s.outer ++ [s.last], last := 0 }, 0)
  | .structEnd => if s.outer = [] then (s, -2) else ({ s with last := s.outer.getLastD 0, outer := s.outer.dropLast }, 0)
  | .fieldBegin t i => if t = 2 then ({ s with pb := true, id := i }, 0) else if ctype t = 0 then (s, -2) else (s.field (ctype t) i, 0)
  | .mapBegin k t n => if n < 0 ∨ 2147483647 < n then (s, -2) else if n = 0 then ({ s with out := s.out ++ [0] }, 0) else if ctype t = 0 ∨ ctype k = 0 then (s, -2) else ({ s with out := s.out ++ mapC k t n }, 0)
  | .listBegin t n => if n < 0 ∨ 2147483647 < n then (s, -2) else if ctype t = 0 then (s, -2) else ({ s with out := s.out ++ listC t n }, 0)
  | .setBegin t n => if n < 0 ∨ 2147483647 < n then (s, -2) else if ctype t = 0 then (s, -2) else ({ s with out := s.out ++ listC t n }, 0)
  | .bool v => if s.pb then (SSt.field { s with pb := false } (if v then 1 else 2) s.id, 0) else ({ s with out := s.out ++ [if v then 1 else 2] }, 0)
  | .fieldStop => ({ s with out := s.out ++ [0] }, 0)
  | .msgBegin a t n => ({ s with out := s.out ++ msgC a t n }, 0)
  | .byte n => ({ s with out := s.out ++ [b8 n] }, 0)
  | .i16 n => ({ s with out := s.out ++ vint (zig n).toNat }, 0)
  | .i32 n => ({ s with out := s.out ++ vint (zig n).toNat }, 0)
  | .i64 n => ({ s with out := s.out ++ vint (zig n).toNat }, 0)
  | .double n => ({ s with out := s.out ++ le8 n }, 0)
  | .string a => ({ s with out := s.out ++ (vint (a.size % 4294967296) ++ a.data.toList) }, 0)
  | .binary _ l => ({ s with out := s.out ++ (vint (l.length % 4294967296) ++ l) }, 0)
  | .uuid l => ({ s with out := s.out ++ l }, 0)
  | _ => (s, 0)
def WOp.isBool : WOp → Bool
  | .bool _ => true
  | _ => false
def sC (s : SSt) (op : WOp) : SSt × Int :=
  if s.lost = true ∨ (s.pb = true ∧ op.isBool = false) then ({ s with lost := true }, -2) else ({ (sCs s op).1 with lost := decide ((sCs s op).2 = -2) }, (sCs s op).2)
/-- A step of the specification's writer. -/
def sstep (c : ConfV) (s : SSt) (op : WOp) : SSt × Int := if c.proto = 1 then sC s op else ({ s with out := s.out ++ op.binB c.strictW }, 0)
/-- Steps, up to the first of which nothing is told. -/
def srun (c : ConfV) : SSt → List WOp → SSt × Int
  | s, [] => (s, 0)
  | s, op :: l => if (sstep c s op).2 = 0 then srun c (sstep c s op).1 l else sstep c s op
theorem srun_append (c : ConfV) : ∀ (a b : List WOp) (s : SSt), srun c s (a ++ b) = if (srun c s a).2 = 0 then srun c (srun c s a).1 b else srun c s a
  | [], b, s => by simp [srun]
  | op :: a, b, s => by
    simp only [List.cons_append, srun]
    split
    · exact srun_append c a b _
    · rename_i h; first | rfl | rw [if_neg h]

/-- The states belong together. -/
structure SRel (s : SSt) (st : CSt) : Prop where
  last : s.last = st.last
  outer : s.outer = st.stack
  pb : s.pb = st.pend
  id : s.pb = true → s.id = st.pid
theorem SRel.step (c : ConfV) {s : SSt} {st : CSt} (h : SRel s st) (op : WOp) (hk : (sstep c s op).2 = 0) : (sstep c s op).1.out = s.out ++ op.encP c st ∧ SRel (sstep c s op).1 (op.nextP c st) := by
  obtain ⟨h1, h2, h3, h4⟩ := h
  unfold sstep WOp.encP WOp.nextP at *
  by_cases hp : c.proto = 1
  · simp only [hp, if_true] at hk ⊢
    unfold sC at hk ⊢
    split at hk
    · simp at hk
    · rename_i hn
      rw [if_neg hn]
      have hk : (sCs s op).2 = 0 := hk
      cases op <;> simp only [sCs, WOp.comB, WOp.nextC] at hk ⊢
      case structBegin => exact ⟨by simp, ⟨rfl, by simp [h1, h2], h3, h4⟩⟩
      case structEnd =>
        split at hk
        · simp at hk
        · rename_i ho
          simp only [if_neg ho]
          exact ⟨by simp, ⟨by simp [h2], by simp [h2], h3, h4⟩⟩
      case fieldBegin t i =>
        split at hk
        · rename_i ht
          simp only [ht, if_true]
          exact ⟨by simp, ⟨h1, h2, rfl, fun _ => rfl⟩⟩
        · rename_i ht
          split at hk
          · simp at hk
          · rename_i hc
            simp only [if_neg ht, if_neg hc]
            exact ⟨by simp [SSt.field, h1], ⟨rfl, h2, h3, h4⟩⟩
      case bool v =>
        by_cases hb : s.pb = true
        · have hb' : st.pend = true := by rw [← h3]; exact hb
          simp only [hb, hb', if_true]
          exact ⟨by simp [SSt.field, h1, h4 hb], ⟨by simp [SSt.field, h4 hb], by simp [SSt.field, h2], by simp [SSt.field], fun h => by simp [SSt.field] at h⟩⟩
        · have hb' : ¬ st.pend = true := by rw [← h3]; exact hb
          simp only [if_neg hb, if_neg hb']
          exact ⟨by first | trivial | rfl, ⟨h1, h2, h3, h4⟩⟩
      case mapBegin k t n =>
        split at hk
        · simp at hk
        · rename_i a1
          split at hk
          · rename_i a2
            simp only [if_neg a1, if_pos a2]
            exact ⟨by simp [mapC, a2], ⟨h1, h2, h3, h4⟩⟩
          · rename_i a2
            split at hk
            · simp at hk
            · rename_i a3
              simp only [if_neg a1, if_neg a2, if_neg a3]
              exact ⟨by first | trivial | rfl, ⟨h1, h2, h3, h4⟩⟩
      case listBegin t n =>
        split at hk
        · simp at hk
        · rename_i a1
          split at hk
          · simp at hk
          · rename_i a2
            simp only [if_neg a1, if_neg a2]
            exact ⟨by first | trivial | rfl, ⟨h1, h2, h3, h4⟩⟩
      case setBegin t n =>
        split at hk
        · simp at hk
        · rename_i a1
          split at hk
          · simp at hk
          · rename_i a2
            simp only [if_neg a1, if_neg a2]
            exact ⟨by first | trivial | rfl, ⟨h1, h2, h3, h4⟩⟩
      all_goals exact ⟨by simp, ⟨h1, h2, h3, h4⟩⟩
  · simp only [hp, if_false] at hk ⊢
    exact ⟨by first | trivial | rfl, ⟨h1, h2, h3, h4⟩⟩
theorem SRel.run (c : ConfV) : ∀ (l : List WOp) {s : SSt} {st : CSt}, SRel s st → (srun c s l).2 = 0 → (srun c s l).1.out = s.out ++ encAll c st l ∧ SRel (srun c s l).1 (nextAll c st l)
  | [], s, st, h, _ => ⟨by simp [srun, encAll], h⟩
  | op :: l, s, st, h, hk => by
    simp only [srun] at hk ⊢
    split at hk
    · rename_i h0
      obtain ⟨e1, e2⟩ := h.step c op h0
      obtain ⟨e3, e4⟩ := SRel.run c l e2 hk
      rw [if_pos h0]
      exact ⟨by rw [e3, e1, List.append_assoc]; rfl, e4⟩
    · rename_i h0
      exact absurd hk h0
end Go.Proofs.YtoikkjefaakchaaGreatDoor
