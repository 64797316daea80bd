/- The calls of a writing protocol and their bytes, by whatever protocol: the package's, the specification's. The compact protocol over a memory buffer, as a protocol that is written to; a protocol by whatever configuration. -/
import Derived.Test.YtdifknecndlklaaGreatDoorZC
import Derived.Test.YtdifknecndlklaaGreatDoorZ6
import Derived.Test.YtdifknecndlklaaGreatDoorZSw
import Derived.Test.YtdifknecndlklaaGreatDoorZVal
import Derived.Test.YtdifknecndlklaaGreatDoorZ3
set_option linter.all false
namespace Go.Proofs.YtdifknecndlklaaGreatDoor
open Go Go.RowKit
set_option maxHeartbeats 1000000

/-- The bytes of a call by the compact protocol in a state, and the state behind. -/
def WOp.comB (st : CSt) : WOp → List UInt8
  | .msgBegin s t n => msgC s t n
  | .fieldBegin t i => if t = 2 then [] else fieldC st.last (ctype t) i
  | .fieldStop => [0]
  | .mapBegin k t n => mapC k t n
  | .listBegin t n => listC t n
  | .setBegin t n => listC t n
  | .bool v => if st.pend then fieldC st.last (if v then 1 else 2) st.pid else [if v then 1 else 2]
  | .byte n => [b8 n]
  | .i16 n => vint (zig n).toNat
  | .i32 n => vint (zig n).toNat
  | .i64 n => vint (zig n).toNat
  | .double n => le8 n
  | .string s => vint (s.size % 4294967296) ++ s.data.toList
  | .binary _ l => vint (l.length % 4294967296) ++ l
  | .uuid l => l
  | _ => []
def WOp.nextC (st : CSt) : WOp → CSt
  | .structBegin => { st with stack := st.stack ++ [st.last], last := 0 }
  | .structEnd => { st with stack := st.stack.dropLast, last := st.stack.getLastD 0 }
  | .fieldBegin t i => if t = 2 then { st with pend := true, pid := i, pnm := ⟨#[]⟩ } else { st with last := i }
  | .bool _ => if st.pend then { st with last := st.pid, pend := false } else st
  | _ => st
/-- Numbers within their kinds; sizes that are none below 0. -/
def WOp.rng : WOp → Prop
  | .fieldBegin _ i => -32768 ≤ i ∧ i < 32768
  | .mapBegin _ _ n => 0 ≤ n ∧ n < 2147483648
  | .listBegin _ n => 0 ≤ n ∧ n < 2147483648
  | .setBegin _ n => 0 ≤ n ∧ n < 2147483648
  | .i16 n => -32768 ≤ n ∧ n < 32768
  | .i32 n => -2147483648 ≤ n ∧ n < 2147483648
  | .i64 n => -9223372036854775808 ≤ n ∧ n < 9223372036854775808
  | .double n => n < 18446744073709551616
  | .uuid l => l.length = 16
  | _ => True
/-- At most so many bytes. -/
def WOp.most : WOp → Nat
  | .msgBegin s _ _ => 32 + s.size
  | .string s => 32 + s.size
  | .binary _ l => 32 + l.length
  | _ => 32
/-- The ids within their kind. -/
def CSt.ok (st : CSt) : Prop := (-32768 ≤ st.last ∧ st.last < 32768) ∧ (-32768 ≤ st.pid ∧ st.pid < 32768) ∧ ∀ x ∈ st.stack, -32768 ≤ x ∧ x < 32768
theorem CSt.ok.next {st : CSt} (h : st.ok) (op : WOp) (hr : op.rng) : (op.nextC st).ok := by
  obtain ⟨h1, h2, h3⟩ := h
  cases op <;> simp only [WOp.nextC]
  case structBegin => exact ⟨⟨show (-32768 : Int) ≤ 0 by decide, show (0 : Int) < 32768 by decide⟩, h2, fun x hx => by simp at hx; rcases hx with hx | rfl; exact h3 x hx; exact h1⟩
  case structEnd =>
    refine ⟨?_, h2, fun x hx => h3 x ((List.dropLast_sublist _).subset hx)⟩
    rcases hs : st.stack.getLast? with _ | y
    · simp [List.getLastD_eq_getLast?, hs]
    · have := h3 y (List.mem_of_getLast? hs)
      simpa [List.getLastD_eq_getLast?, hs] using this
  case fieldBegin t i =>
    split
    · exact ⟨h1, hr, h3⟩
    · exact ⟨hr, h2, h3⟩
  case bool v =>
    split
    · exact ⟨h2, h2, h3⟩
    · exact ⟨h1, h2, h3⟩
  all_goals exact ⟨h1, h2, h3⟩

/-- By whatever protocol. -/
def WOp.encP (c : ConfV) (st : CSt) (op : WOp) : List UInt8 := if c.proto = 1 then op.comB st else op.binB c.strictW
def WOp.nextP (c : ConfV) (st : CSt) (op : WOp) : CSt := if c.proto = 1 then op.nextC st else st
def encAll (c : ConfV) : CSt → List WOp → List UInt8
  | _, [] => []
  | st, op :: l => op.encP c st ++ encAll c (op.nextP c st) l
def nextAll (c : ConfV) : CSt → List WOp → CSt
  | st, [] => st
  | st, op :: l => nextAll c (op.nextP c st) l
theorem encAll_append (c : ConfV) : ∀ (a b : List WOp) (st : CSt), encAll c st (a ++ b) = encAll c st a ++ encAll c (nextAll c st a) b
  | [], b, st => rfl
  | op :: a, b, st => by simp [encAll, nextAll, encAll_append c a b]
theorem nextAll_append (c : ConfV) : ∀ (a b : List WOp) (st : CSt), nextAll c st (a ++ b) = nextAll c (nextAll c st a) b
  | [], b, st => rfl
  | op :: a, b, st => by simp [nextAll, nextAll_append c a b]

theorem msgB_le (strict : Bool) (s : ByteArray) (t n : Int) : (msgB strict s t n).length ≤ 32 + s.size := by
  have ha : s.data.toList.length = s.size := by rw [Array.length_toList]; rfl
  unfold msgB
  split <;> simp only [List.length_append, verB_length, be4_length, ha, List.length_singleton] <;> omega
theorem binB_most (strict : Bool) (op : WOp) (h : ∀ l, op = .uuid l → l.length = 16) : (op.binB strict).length ≤ op.most := by
  cases op <;> simp only [WOp.binB, WOp.most, List.length_cons, List.length_nil, List.length_append, be2_length, be4_length, be8_length]
  case msgBegin a t n => exact msgB_le strict a t n
  case string s => have ha : s.data.toList.length = s.size := by rw [Array.length_toList]; rfl
                   omega
  case uuid l => have := h l rfl; omega
  all_goals omega
theorem zig_nat (v : Int) (k : Int) (h : -k ≤ v ∧ v < k) : (zig v).toNat < 2 * k.toNat := by unfold zig; split <;> omega
theorem fieldC_le (last code id : Int) (h : -32768 ≤ id ∧ id < 32768) : (fieldC last code id).length ≤ 32 := by
  have := vint32_le (zig id).toNat (by have := zig_nat id 32768 h; omega)
  unfold fieldC
  split <;> simp only [List.length_cons, List.length_nil] <;> omega
theorem comB_most (st : CSt) (hst : st.ok) (op : WOp) (h : op.rng) : (op.comB st).length ≤ op.most := by
  have hn : ∀ n : Int, (vint (n % 4294967296).toNat).length ≤ 5 := fun n => vint32_le _ (by omega)
  have hm : ∀ n : Nat, (vint (n % 4294967296)).length ≤ 5 := fun n => vint32_le _ (by omega)
  have hs : ∀ a : ByteArray, a.data.toList.length = a.size := fun a => by rw [Array.length_toList]; rfl
  cases op <;> simp only [WOp.comB, WOp.most, List.length_nil, Nat.zero_le]
  case msgBegin a t n =>
    have := hn n; have := hm a.size; have := hs a
    simp only [msgC, List.length_cons, List.length_append]
    omega
  case fieldBegin t i => split; simp; exact fieldC_le _ _ _ h
  case fieldStop => simp
  case mapBegin k t n =>
    have := hn n
    unfold mapC
    split <;> simp only [List.length_cons, List.length_nil, List.length_append] <;> omega
  case listBegin t n =>
    have := hn n
    unfold listC
    split <;> simp only [List.length_cons, List.length_nil] <;> omega
  case setBegin t n =>
    have := hn n
    unfold listC
    split <;> simp only [List.length_cons, List.length_nil] <;> omega
  case bool v => split; exact fieldC_le _ _ _ hst.2.1; simp
  case byte n => simp
  case i16 n => have := vint32_le (zig n).toNat (by have := zig_nat n 32768 h; omega); omega
  case i32 n => have := vint32_le (zig n).toNat (by have := zig_nat n 2147483648 h; omega); omega
  case i64 n => have := vint64_le (zig n).toNat (by have := zig_nat n 9223372036854775808 h; omega); omega
  case double n => rw [le8_length]; omega
  case string a => have := hm a.size; have := hs a; rw [List.length_append]; omega
  case binary v l => have := hm l.length; rw [List.length_append]; omega
  case uuid l => have : l.length = 16 := h; omega
theorem encP_most (c : ConfV) (st : CSt) (hst : st.ok) (op : WOp) (h : op.rng) : (op.encP c st).length ≤ op.most := by
  unfold WOp.encP
  split
  · exact comB_most st hst op h
  · exact binB_most c.strictW op fun l hl => by subst hl; exact h
theorem CSt.ok.nextP {c : ConfV} {st : CSt} (h : st.ok) (op : WOp) (hr : op.rng) : (op.nextP c st).ok := by
  unfold WOp.nextP
  split
  · exact h.next op hr
  · exact h

/-! The specification's writer. -/
def SSt.field (s : SSt) (code id : Int) : SSt := { s with out := s.out ++ fieldC s.last code id, last := id }
def sCs (s : SSt) : WOp → SSt × Int
  | .structBegin => ({ s with outer := s.outer ++ [s.last], last := 0 }, 0)
  | .structEnd => if s.outer = [] then (s, -2) else ({ s with last := s.outer.getLastD 0, outer := s.outer.dropLast }, 0)
  | .fieldBegin t i => if t = 2 then ({ s with pb := true, id := i }, 0) else if ctype t = 0 then (s, -2) else (s.field (ctype t) i, 0)
  | .mapBegin k t n => if n < 0 ∨ 2147483647 < n then (s, -2) else if n = 0 then ({ s with out := s.out ++ [0] }, 0) else if ctype t = 0 ∨ ctype k = 0 then (s, -2) else ({ s with out := s.out ++ mapC k t n }, 0)
  | .listBegin t n => if n < 0 ∨ 2147483647 < n then (s, -2) else if ctype t = 0 then (s, -2) else ({ s with out := s.out ++ listC t n }, 0)
  | .setBegin t n => if n < 0 ∨ 2147483647 < n then (s, -2) else if ctype t = 0 then (s, -2) else ({ s with out := s.out ++ listC t n }, 0)
  | .bool v => if s.pb then (SSt.field { s with pb := false } (if v then 1 else 2) s.id, 0) else ({ s with out := s.out ++ [if v then 1 else 2] }, 0)
  | .fieldStop => ({ s with out := s.out ++ [0] }, 0)
  | .msgBegin a t n => ({ s with out := s.out ++ msgC a t n }, 0)
  | .byte n => ({ s with out := s.out ++ [b8 n] }, 0)
  | .i16 n => ({ s with out := s.out ++ vint (zig n).toNat }, 0)
  | .i32 n => ({ s with out := s.out ++ vint (zig n).toNat }, 0)
  | .i64 n => ({ s with out := s.out ++ vint (zig n).toNat }, 0)
  | .double n => ({ s with out := s.out ++ le8 n }, 0)
  | .string a => ({ s with out := s.out ++ (vint (a.size % 4294967296) ++ a.data.toList) }, 0)
  | .binary _ l => ({ s with out := s.out ++ (vint (l.length % 4294967296) ++ l) }, 0)
  | .uuid l => ({ s with out := s.out ++ l }, 0)
  | _ => (s, 0)
def WOp.isBool : WOp → Bool
  | .bool _ => true
  | _ => false
def sC (s : SSt) (op : WOp) : SSt × Int :=
  if s.lost = true ∨ (s.pb = true ∧ op.isBool = false) then ({ s with lost := true }, -2) else ({ (sCs s op).1 with lost := decide ((sCs s op).2 = -2) }, (sCs s op).2)
/-- A step of the specification's writer. -/
def sstep (c : ConfV) (s : SSt) (op : WOp) : SSt × Int := if c.proto = 1 then sC s op else ({ s with out := s.out ++ op.binB c.strictW }, 0)
/-- Steps, up to the first of which nothing is told. -/
def srun (c : ConfV) : SSt → List WOp → SSt × Int
  | s, [] => (s, 0)
  | s, op :: l => if (sstep c s op).2 = 0 then srun c (sstep c s op).1 l else sstep c s op
theorem srun_append (c : ConfV) : ∀ (a b : List WOp) (s : SSt), srun c s (a ++ b) = if (srun c s a).2 = 0 then srun c (srun c s a).1 b else srun c s a
  | [], b, s => by simp [srun]
  | op :: a, b, s => by
    simp only [List.cons_append, srun]
    split
    · exact srun_append c a b _
    · rename_i h; first | rfl | rw [if_neg h]

/-- The states belong together. -/
structure SRel (s : SSt) (st : CSt) : Prop where
  last : s.last = st.last
  outer : s.outer = st.stack
  pb : s.pb = st.pend
  id : s.pb = true → s.id = st.pid
theorem SRel.step (c : ConfV) {s : SSt} {st : CSt} (h : SRel s st) (op : WOp) (hk : (sstep c s op).2 = 0) : (sstep c s op).1.out = s.out ++ op.encP c st ∧ SRel (sstep c s op).1 (op.nextP c st) := by
  obtain ⟨h1, h2, h3, h4⟩ := h
  unfold sstep WOp.encP WOp.nextP at *
  by_cases hp : c.proto = 1
  · simp only [hp, if_true] at hk ⊢
    unfold sC at hk ⊢
    split at hk
    · simp at hk
    · rename_i hn
      rw [if_neg hn]
      have hk : (sCs s op).2 = 0 := hk
      cases op <;> simp only [sCs, WOp.comB, WOp.nextC] at hk ⊢
      case structBegin => exact ⟨by simp, ⟨rfl, by simp [h1, h2], h3, h4⟩⟩
      case structEnd =>
        split at hk
        · simp at hk
        · rename_i ho
          simp only [if_neg ho]
          exact ⟨by simp, ⟨by simp [h2], by simp [h2], h3, h4⟩⟩
      case fieldBegin t i =>
        split at hk
        · rename_i ht
          simp only [ht, if_true]
          exact ⟨by simp, ⟨h1, h2, rfl, fun _ => rfl⟩⟩
        · rename_i ht
          split at hk
          · simp at hk
          · rename_i hc
            simp only [if_neg ht, if_neg hc]
            exact ⟨by simp [SSt.field, h1], ⟨rfl, h2, h3, h4⟩⟩
      case bool v =>
        by_cases hb : s.pb = true
        · have hb' : st.pend = true := by rw [← h3]; exact hb
          simp only [hb, hb', if_true]
          exact ⟨by simp [SSt.field, h1, h4 hb], ⟨by simp [SSt.field, h4 hb], by simp [SSt.field, h2], by simp [SSt.field], fun h => by simp [SSt.field] at h⟩⟩
        · have hb' : ¬ st.pend = true := by rw [← h3]; exact hb
          simp only [if_neg hb, if_neg hb']
          exact ⟨by first | trivial | rfl, ⟨h1, h2, h3, h4⟩⟩
      case mapBegin k t n =>
        split at hk
        · simp at hk
        · rename_i a1
          split at hk
          · rename_i a2
            simp only [if_neg a1, if_pos a2]
            exact ⟨by simp [mapC, a2], ⟨h1, h2, h3, h4⟩⟩
          · rename_i a2
            split at hk
            · simp at hk
            · rename_i a3
              simp only [if_neg a1, if_neg a2, if_neg a3]
              exact ⟨by first | trivial | rfl, ⟨h1, h2, h3, h4⟩⟩
      case listBegin t n =>
        split at hk
        · simp at hk
        · rename_i a1
          split at hk
          · simp at hk
          · rename_i a2
            simp only [if_neg a1, if_neg a2]
            exact ⟨by first | trivial | rfl, ⟨h1, h2, h3, h4⟩⟩
      case setBegin t n =>
        split at hk
        · simp at hk
        · rename_i a1
          split at hk
          · simp at hk
          · rename_i a2
            simp only [if_neg a1, if_neg a2]
            exact ⟨by first | trivial | rfl, ⟨h1, h2, h3, h4⟩⟩
      all_goals exact ⟨by simp, ⟨h1, h2, h3, h4⟩⟩
  · simp only [hp, if_false] at hk ⊢
    exact ⟨by first | trivial | rfl, ⟨h1, h2, h3, h4⟩⟩
theorem SRel.run (c : ConfV) : ∀ (l : List WOp) {s : SSt} {st : CSt}, SRel s st → (srun c s l).2 = 0 → (srun c s l).1.out = s.out ++ encAll c st l ∧ SRel (srun c s l).1 (nextAll c st l)
  | [], s, st, h, _ => ⟨by simp [srun, encAll], h⟩
  | op :: l, s, st, h, hk => by
    simp only [srun] at hk ⊢
    split at hk
    · rename_i h0
      obtain ⟨e1, e2⟩ := h.step c op h0
      obtain ⟨e3, e4⟩ := SRel.run c l e2 hk
      rw [if_pos h0]
      exact ⟨by rw [e3, e1, List.append_assoc]; rfl, e4⟩
    · rename_i h0
      exact absurd hk h0
end Go.Proofs.YtdifknecndlklaaGreatDoor
namespace Go.Proofs.YtdifknecndlklaaGreatDoor
open Go Go.RowKit
set_option maxHeartbeats 1000000

theorem C_WriteMessageEnd (p c : Value) (w : World) : Calls Tryz.prog 184 #[p, c] w fun e w' => e = .returned .nilIface ∧ w = w' := by
  go_enter Tryz.func184, Tryz.ntmps184
  go_wp2
  go_ret
  exact ⟨rfl, rfl⟩
def CAll (w : World) (p m b : Nat) (cf : Value) (k : Nat) : Prop := CPF w p b k ∨ k = m ∨ CfF w cf k
theorem CP.notin {w : World} {p m b T : Nat} {cf : Value} {s : CSt} {z : Bool} {l : List UInt8} (h : CP w p m b cf s T z l) {k : Nat} {cs : Array Value} {t : TypeId} {f : Nat × Nat} (hk : w.heap[k]? = some (.cells cs t f)) (h1 : t ≠ TCP) (h2 : t ≠ TB) (h3 : t ≠ U8) (h4 : t ≠ TI) : ¬ CPF w p b k := fun hx => by
  obtain ⟨cs', t', h', ht⟩ := CPF.tag h hx
  rw [hk] at h'; injection h' with h'; injection h' with _ h' _
  subst h'
  rcases ht with rfl | rfl | rfl | rfl
  · exact h1 rfl
  · exact h2 rfl
  · exact h3 rfl
  · exact h4 rfl
theorem CP.old {w w' : World} {p m b T : Nat} {cf : Value} {s : CSt} {z : Bool} {l : List UInt8} {F F' : Nat → Prop} (h : CP w p m b cf s T z l) (hf : Fr F F' w w') (hm : ¬ F m) (hn : ∀ k, CPF w p b k → ¬ F k) : CP w' p m b cf s T z l ∧ (∀ k, CPF w' p b k → CPF w p b k) := by
  obtain ⟨⟨sv, bf, hbf, ha, ho⟩, ⟨sz, hM⟩, hB⟩ := h
  obtain ⟨h1, h2⟩ := hB.old hf fun k hk => hn k (Or.inr (Or.inl hk))
  have hp : w'.heap[p]? = w.heap[p]? := hf.keep p (lt_heap ha) (hn p (Or.inl rfl))
  refine ⟨⟨⟨sv, bf, hbf, hp.trans ha, owns_same ho fun g hg => ?_⟩, ⟨sz, hf.block hM hm⟩, h1⟩, fun k hk => ?_⟩
  · rcases ho.2 with ⟨rfl, _⟩ | ⟨g', cap, cur, rfl, _, hgg, _⟩
    · cases hg
    · injection hg with hg
      subst hg
      exact hf.keep _ (lt_heap hgg) (hn _ (Or.inr (Or.inr ⟨_, _, ha.head 3 _ rfl⟩)))
  · rcases hk with rfl | hk | hk
    · exact Or.inl rfl
    · exact Or.inr (Or.inl (h2 k hk))
    · exact Or.inr (Or.inr ((SF.of_same hp).1 hk))
theorem CP.all {w w' : World} {p m b T : Nat} {cf : Value} {c : ConfV} {s : CSt} {z : Bool} {l : List UInt8} (h : CP w p m b cf s T z l) (hc : Cfg w cf c) (hf : Fr (CPF w p b) (CPF w' p b) w w') :
    Cfg w' cf c ∧ Fr (CAll w p m b cf) (CAll w' p m b cf) w w' := by
  obtain ⟨h1, h2⟩ := hc.same (w' := w') fun k hk => by
    obtain ⟨cs, t, hb, ht⟩ := hc.tagged hk
    refine hf.keep k (lt_heap hb) (h.notin hb ?_ ?_ ?_ ?_) <;> rcases ht with rfl | rfl <;> decide
  refine ⟨h1, hf.os, hf.tape, hf.output, hf.size, fun k hk hn => hf.keep k hk fun x => hn (Or.inl x), fun k hk hx => ?_⟩
  rcases hx with hx | hx | hx
  · exact Or.inl (hf.foot k hk hx)
  · exact Or.inr (Or.inl hx)
  · exact Or.inr (Or.inr (h2 k hx))

theorem CP.mono {w : World} {p m b T T' : Nat} {cf : Value} {s : CSt} {z : Bool} {l : List UInt8} (h : CP w p m b cf s T z l) (hT : T ≤ T') : CP w p m b cf s T' z l := ⟨h.arr, h.mem, h.buf.mono hT⟩
theorem BP.mono {w : World} {p m b T T' : Nat} {cf : Value} {z : Bool} {l : List UInt8} (h : BP w p m b cf T z l) (hT : T ≤ T') : BP w p m b cf T' z l := ⟨h.arr, h.mem, h.buf.mono hT⟩
theorem Buf.tight {w : World} {b T : Nat} {l : List UInt8} (h : Buf w b T true l) : Buf w b l.length true l := by
  rcases h with h | ⟨lr, r, n, c, o, cur, h1, h2, h3, h4, h5, h6, h7, h8, h9⟩
  · exact Or.inl h
  · obtain rfl := h9 rfl
    have hl := congrArg List.length h8
    rw [bcells_length, List.length_drop, List.length_take, Array.length_toList] at hl
    exact Or.inr ⟨lr, r, n, c, 0, cur, h1, h2, h3, h4, h5, h6, by omega, h8, fun _ => rfl⟩
theorem nextC_len (st : CSt) (op : WOp) : (op.nextC st).stack.length ≤ st.stack.length + 1 := by
  cases op <;> simp only [WOp.nextC]
  case structBegin => simp
  case structEnd => rw [List.length_dropLast]; omega
  case fieldBegin => split <;> exact Nat.le_succ _
  case bool => split <;> exact Nat.le_succ _
  all_goals exact Nat.le_succ _
theorem most_pos (op : WOp) : 32 ≤ op.most := by cases op <;> simp only [WOp.most] <;> omega

/-- The state of a writing protocol over a memory buffer: how many bytes its buffer has held, which are unread, the compact protocol's own. -/
abbrev WSt : Type := Nat × List UInt8 × CSt

/-- The compact protocol. -/
def protoC (p m b : Nat) (cf : Value) (c : ConfV) : WProto WSt where
  T := PCP
  recv := .pointer (some ⟨p, 0, none⟩)
  fn n := match n with
    | "WriteMessageBegin" => 183 | "WriteMessageEnd" => 184 | "WriteStructBegin" => 188 | "WriteStructEnd" => 189
    | "WriteFieldBegin" => 173 | "WriteFieldEnd" => 174 | "WriteFieldStop" => 175
    | "WriteMapBegin" => 181 | "WriteMapEnd" => 182 | "WriteListBegin" => 179 | "WriteListEnd" => 180 | "WriteSetBegin" => 185 | "WriteSetEnd" => 186
    | "WriteBool" => 170 | "WriteByte" => 171 | "WriteI16" => 176 | "WriteI32" => 177 | "WriteI64" => 178 | "WriteDouble" => 172
    | "WriteString" => 187 | "WriteBinary" => 169 | "WriteUUID" => 190
    | _ => 0
  I w s := CP w p m b cf s.2.2 s.1 true s.2.1 ∧ Cfg w cf c ∧ s.2.2.ok ∧ s.2.2.stack.length ≤ s.1
  F w k := CAll w p m b cf k
  step s op := (s.1 + op.most, s.2.1 ++ op.comB s.2.2, op.nextC s.2.2)
  good s op := s.1 + op.most ≤ LIM ∧ op.rng ∧ (op = .structEnd → s.2.2.stack ≠ [])

theorem protoC_ok (p m b : Nat) (cf : Value) (c : ConfV) : (protoC p m b cf c).Ok where
  meth op w := by cases op <;> kernel_rfl
  ahead op w := by cases op <;> kernel_rfl
  enter op xs w := by cases op <;> kernel_rfl
  call op w s h hg hfit := by
    obtain ⟨T, l, st⟩ := s
    obtain ⟨hB, hC, hok, hst⟩ := h
    obtain ⟨hl, hr, hse⟩ := hg
    have hok' := hok.next op hr
    dsimp only at hB hC hok hl hse hok' hst
    have hcm := comB_most st hok op hr
    have hst' := nextC_len st op
    have hmp := most_pos op
    have fin : ∀ {e w'}, CW w p m b cf st (op.nextC st) T l (op.comB st) .nilIface e w' → WR (protoC p m b cf c) w ((protoC p m b cf c).step (T, l, st) op) e w' := fun {e w'} hw => by
      obtain ⟨h1, h2⟩ := hB.all hC hw.2.2
      exact ⟨hw.1, ⟨hw.2.1.mono (show T + (op.comB st).length ≤ T + op.most by omega), h1, hok', by show (op.nextC st).stack.length ≤ T + op.most; omega⟩, h2⟩
    have fin0 : ∀ {e w'}, op.comB st = [] → op.nextC st = st → (e = .returned .nilIface ∧ w = w') → WR (protoC p m b cf c) w ((protoC p m b cf c).step (T, l, st) op) e w' := fun {e w'} h0 h1 hw => by
      obtain ⟨rfl, rfl⟩ := hw
      exact fin (by rw [h0, h1]; exact CW.refl hB)
    cases op with
    | msgBegin a t n => exact (C_WriteMessageBegin p m b T cf _ st l a t n w hB (by simpa [WOp.most] using hl)).mono fun _ _ hw => fin hw
    | msgEnd => exact (C_WriteMessageEnd _ _ w).mono fun _ _ hw => fin0 rfl rfl hw
    | structBegin => exact (C_WriteStructBegin p m b T cf _ _ st l w hB (by omega)).mono fun _ _ hw => fin hw
    | structEnd => exact (C_WriteStructEnd p m b T cf _ st l w hB (hse rfl) (by omega)).mono fun _ _ hw => fin hw
    | fieldBegin t i => exact (C_WriteFieldBegin p m b T cf _ ⟨#[]⟩ st l t i w hB hok.1 hr (by simp [WOp.most] at hl; omega)).mono fun _ _ hw => fin hw
    | fieldEnd => exact (C_WriteFieldEnd _ _ w).mono fun _ _ hw => fin0 rfl rfl hw
    | fieldStop => exact (C_WriteFieldStop p m b T cf _ st l w hB (by simp [WOp.most] at hl; omega)).mono fun _ _ hw => fin hw
    | mapBegin k t n => exact (C_WriteMapBegin p m b T cf _ st l k t n hr.1 hr.2 w hB (by simp [WOp.most] at hl; omega)).mono fun _ _ hw => fin hw
    | mapEnd => exact (C_WriteMapEnd _ _ w).mono fun _ _ hw => fin0 rfl rfl hw
    | listBegin t n => exact (C_WriteListBegin p m b T cf _ st l t n hr.1 hr.2 w hB (by simp [WOp.most] at hl; omega)).mono fun _ _ hw => fin hw
    | listEnd => exact (C_WriteListEnd _ _ w).mono fun _ _ hw => fin0 rfl rfl hw
    | setBegin t n => exact (C_WriteSetBegin p m b T cf _ st l t n hr.1 hr.2 w hB (by simp [WOp.most] at hl; omega)).mono fun _ _ hw => fin hw
    | setEnd => exact (C_WriteSetEnd _ _ w).mono fun _ _ hw => fin0 rfl rfl hw
    | bool v => exact (C_WriteBool p m b T cf _ st l v w hB hok.1 hok.2.1 (by simp [WOp.most] at hl; omega)).mono fun _ _ hw => fin hw
    | byte n => exact (C_WriteByte p m b T cf _ st l n w hB (by simp [WOp.most] at hl; omega)).mono fun _ _ hw => fin hw
    | i16 n => exact (C_WriteI16 p m b T cf _ st l n hr.1 hr.2 w hB (by simp [WOp.most] at hl; omega)).mono fun _ _ hw => fin hw
    | i32 n => exact (C_WriteI32 p m b T cf _ st l n hr.1 hr.2 w hB (by simp [WOp.most] at hl; omega)).mono fun _ _ hw => fin hw
    | i64 n => exact (C_WriteI64 p m b T cf _ st l n hr.1 hr.2 w hB (by simp [WOp.most] at hl; omega)).mono fun _ _ hw => fin hw
    | double n => exact (C_WriteDouble p m b T cf _ st l n hr w hB (by simp [WOp.most] at hl; omega)).mono fun _ _ hw => fin hw
    | string a => exact (C_WriteString p m b T cf _ st l a w hB (by simp [WOp.most] at hl; omega)).mono fun _ _ hw => fin hw
    | binary v a =>
      refine (C_WriteBinary p m b T cf _ v st l a w hB (by simp [WOp.most] at hl; omega) hfit.1 fun k hk => ⟨fun hx => hfit.2 k hk (Or.inl hx), ?_⟩).mono fun _ _ hw => fin hw
      rcases hfit.1 with ⟨rfl, _⟩ | ⟨q, n, cc, rfl, hn, _, _, hs⟩
      · exact hk.elim
      · match n, hk with
        | n + 1, hk =>
          obtain ⟨u, hu⟩ : ∃ u, a[0]? = some u := ⟨_, List.getElem?_eq_getElem (by omega)⟩
          have := World.block_lt_of_cell? w _ (hs 0 u hu)
          rw [block_add'] at this
          exact hk ▸ this
    | uuid a => exact (C_WriteUUID p m b T cf _ st l a w hB (by simp [WOp.most] at hl; omega) hfit).mono fun _ _ hw => fin hw
  keep h hf hn := by
    obtain ⟨hB, hC, hok, hst⟩ := h
    obtain ⟨h1, h2⟩ := hB.old hf (hn _ (Or.inr (Or.inl rfl))) fun k hk => hn k (Or.inl hk)
    obtain ⟨h3, h4⟩ := hC.same fun k hk => by
      obtain ⟨cs, t, hb, _⟩ := hC.tagged hk
      exact hf.keep k (lt_heap hb) (hn k (Or.inr (Or.inr hk)))
    refine ⟨⟨h1, h3, hok, hst⟩, fun k hk => ?_⟩
    rcases hk with hk | hk | hk
    · exact Or.inl (h2 k hk)
    · exact Or.inr (Or.inl hk)
    · exact Or.inr (Or.inr (h4 k hk))
  lt h hk := by
    obtain ⟨hB, hC, _, _⟩ := h
    rcases hk with hk | rfl | hk
    · exact CPF.lt hB hk
    · obtain ⟨sz, hm⟩ := hB.mem; exact lt_heap hm
    · obtain ⟨cs, t, hb, _⟩ := hC.tagged hk; exact lt_heap hb

/-- The binary protocol, with a state of the same kind. -/
def protoB' (p m b : Nat) (cf : Value) (c : ConfV) : WProto WSt where
  T := PBP
  recv := .pointer (some ⟨p, 0, none⟩)
  fn := (protoB p m b cf c).fn
  I w s := (protoB p m b cf c).I w (s.1, s.2.1)
  F := (protoB p m b cf c).F
  step s op := (s.1 + op.most, s.2.1 ++ op.binB c.strictW, s.2.2)
  good s op := s.1 + op.most ≤ LIM
theorem protoB'_ok (p m b : Nat) (cf : Value) (c : ConfV) : (protoB' p m b cf c).Ok where
  meth := (protoB_ok p m b cf c).meth
  ahead := (protoB_ok p m b cf c).ahead
  enter := (protoB_ok p m b cf c).enter
  call op w s h hg hfit := by
    have hg : s.1 + op.most ≤ LIM := hg
    have hb := binB_most c.strictW op (fun l hl => by subst hl; exact hfit)
    exact ((protoB_ok p m b cf c).call op w (s.1, s.2.1) h (show s.1 + (op.binB c.strictW).length ≤ LIM by omega) hfit).mono fun e w' hw => ⟨hw.1, ⟨hw.2.1.1.mono (show s.1 + (op.binB c.strictW).length ≤ s.1 + op.most by omega), hw.2.1.2⟩, hw.2.2⟩
  keep h hf hn := (protoB_ok p m b cf c).keep h hf hn
  lt h hk := (protoB_ok p m b cf c).lt h hk

/-- A protocol over a memory buffer, made by a configuration. -/
structure Made (c : ConfV) (P : WProto WSt) (m b : Nat) : Prop where
  ok : P.Ok
  step : ∀ s op, P.step s op = (s.1 + op.most, s.2.1 ++ op.encP c s.2.2, op.nextP c s.2.2)
  good : ∀ s op, s.1 + op.most ≤ LIM → op.rng → (op = .structEnd → c.proto = 1 → s.2.2.stack ≠ []) → P.good s op
  mem : ∀ w s, P.I w s → w.cell? ⟨m, 0, none⟩ = some (.pointer (some ⟨b, 0, none⟩)) ∧ Buf w b s.1 true s.2.1
  foot : ∀ w k, BF w b k → P.F w k
theorem madeB (p m b : Nat) (cf : Value) (c : ConfV) (hc : c.proto ≠ 1) : Made c (protoB' p m b cf c) m b where
  ok := protoB'_ok p m b cf c
  step s op := by simp [WOp.encP, WOp.nextP, hc, protoB']
  good s op h _ _ := h
  mem w s h := ⟨h.1.mem.cell, h.1.buf⟩
  foot w k h := Or.inl (Or.inr h)
theorem madeC (p m b : Nat) (cf : Value) (c : ConfV) (hc : c.proto = 1) : Made c (protoC p m b cf c) m b where
  ok := protoC_ok p m b cf c
  step s op := by simp [WOp.encP, WOp.nextP, hc, protoC]
  good s op h h2 h3 := ⟨h, h2, fun e => h3 e hc⟩
  mem w s h := ⟨h.1.mem.cell, h.1.buf⟩
  foot w k h := Or.inl (Or.inr (Or.inl h))

/-- A protocol of the package's, whichever. -/
def protI (P : WProto WSt) : Value := .iface P.T P.recv
def ProtM (w : World) (m b : Nat) (c : ConfV) (e : Ending) (w' : World) : Prop :=
  ∃ P : WProto WSt, e = .returned (protI P) ∧ Made c P m b ∧ P.I w' (0, [], CSt.new) ∧ Fr (fun k => BF w b k ∨ k = m) (P.F w') w w'
theorem CSt.new_ok : CSt.new.ok := ⟨by decide, by decide, fun x hx => by simp at hx⟩
theorem Prot_any (m b : Nat) (c : ConfV) (w : World) (hm : Mem w m b) (hb : Buf w b 0 true []) : Calls Tryz.prog 39 #[c.val, memI m] w (ProtM w m b c) := by
  by_cases hc : c.proto = 1
  · refine (ProtC_raw m b 0 true [] c w hc hm hb).mono ?_
    rintro e w' ⟨p, cf, rfl, hcf, hP, hF, hp, hcn⟩
    refine ⟨protoC p m b cf c, rfl, madeC p m b cf c hc, ⟨hP, hcf, CSt.new_ok, Nat.le_refl _⟩, hF.os, hF.tape, hF.output, hF.size, fun k hk hn => hF.keep k hk fun x => hn (Or.inl x), fun k hk hx => ?_⟩
    rcases hx with hx | rfl | hx
    · exact Or.inl (hF.foot k hk hx)
    · exact Or.inr rfl
    · have := hcn k hx; omega
  · refine (ProtB_raw m b 0 true [] c w hc hm hb).mono ?_
    rintro e w' ⟨p, cf, rfl, hcf, hP, hF, hp, hcn⟩
    refine ⟨protoB' p m b cf c, rfl, madeB p m b cf c hc, ⟨hP, hcf⟩, hF.os, hF.tape, hF.output, hF.size, fun k hk hn => hF.keep k hk fun x => hn (Or.inl x), fun k hk hx => ?_⟩
    rcases hx with hx | rfl | hx
    · exact Or.inl (hF.foot k hk hx)
    · exact Or.inr rfl
    · have := hcn k hx; omega
end Go.Proofs.YtdifknecndlklaaGreatDoor
