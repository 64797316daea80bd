/- append to a row that is full (or nil): a new row, and nothing else is touched. spec.PutFault. laws.FnPutFault: the walk. -/
import Derived.Deep.RegionLaw
import Derived.Deep.AppendLies
import Derived.Deep.AppendSrc
import Derived.Test.YtdifknecndlklaaGreatDoorZ1
import Derived.Test.YtdifknecndlklaaGreatDoorZFL
import Derived.Test.YtdifknecndlklaaGreatDoorZV
import Derived.Test.YtdifknecndlklaaGreatDoorZMsgPl
import Derived.Test.YtdifknecndlklaaGreatDoorZ3
import Derived.Test.YtdifknecndlklaaGreatDoorZSameK
set_option linter.all false
namespace Go.Proofs.YtdifknecndlklaaGreatDoor
open Go Go.RowKit
set_option linter.all false

theorem run_append_new {P : Program} (w : World) (t ty : TypeId) (e : TypeId) (i : TypeInfo) (z : Value) (size bytes : Nat) (ht : P.underlying t = some (.slice e)) (hi : P.info? e = some i) (hz : i.zero = some z)
    (hsize : i.size = size) (hby : i.bytes = bytes) (hzs : z.cells.size = size) (hsz : 0 < size)
    (a : Option Addr) (n : Nat) (xs : List Value) (hown : w.ownsRow 0 e size (.slice a n n) n xs)
    (ad : Addr) (m c : Nat) (news : List Value) (hl : news.length = m * size) (hnews : ∀ j u, news[j]? = some u → w.cell? (ad.add j) = some u) (h1 : ∀ u ∈ news, u.oneCell' = true)
    (hm : 0 < m) (h63 : n + m ≤ maxLen) (hbytes : (n + m) * bytes ≤ 140737488355328) :
    ∃ cap w', (Builtin.append_ #[t, t] ty #[.slice a n n, .slice (some ad) m c]).run P w = .ok (.slice (some ⟨w.heap.size, 0, none⟩) (n + m) cap) w' ∧
      w'.ownsRow 0 e size (.slice (some ⟨w.heap.size, 0, none⟩) (n + m) cap) (n + m) (xs ++ news) ∧ Fr noF noF w w' ∧ w.heap.size < w'.heap.size := by
  obtain ⟨g, cap, w', hr, h2, -, -, h5⟩ := run_append_lies (P := P) w t ty 0 e i z size bytes ht hi hz hsize hby hzs hsz _ n xs hown ad m c news hl hnews h1 hm h63 hbytes (Nat.zero_le _) _ rfl
  subst hsize
  subst hby
  have hold : (Builtin.firstCells i.size n (.slice a n n)).run P w.drew = .ok xs.toArray w.drew := by
    rcases hown.2 with ⟨he, h0⟩ | ⟨g', cap', cur, he, _, hg, h1', h2', h3, h4⟩
    · injection he with e1 _ _
      subst e1
      subst h0
      have : xs = [] := List.eq_nil_of_length_eq_zero (by simpa using hown.1)
      rw [this]
      exact run_firstCells_none w.drew i.size 0 0 0
    · injection he with e1 _ e3
      subst e1
      refine run_firstCells_some w.drew i.size n _ n n xs hown.1 fun j u hj => ?_
      have := World.ownsRow.cells hown rfl j u hj
      simpa using this
  have hsmall : n + m ≤ 9223372036854775807 := by simp only [maxLen] at h63; omega
  have hr2 := run_append_grow_src (P := P) w t t ty e i z ht hi hz a n n xs hold (.slice (some ad) m c) m news (Src.ofSlice w ht ad m c news hl hnews h1) (by omega) (by omega) (growslice_fits (by omega) hbytes)
  rw [hr] at hr2
  injection hr2 with e1 e2
  injection e1 with e3 e4 e5
  injection e3 with e3
  injection e3 with e3 _
  subst e3
  subst e2
  exact ⟨cap, _, hr, h2, ((Fr.refl noF w).drew).alloc _, h5⟩

theorem step_append_new {P : Program} {w : World} {ops : Array Oper} {o : Oper} {a : Act} {K : Act → World → Prop} {Q : Exit → Act → World → Prop} {E : Prop} (hgd : o.guard = none) (s x : Operand) (t : TypeId)
    (ho : o.op = .call { callee := .builtin .append, args := #[s, x], argTypes := #[t, t] })
    (e : TypeId) (i : TypeInfo) (z : Value) (size bytes : Nat) (ht : P.underlying t = some (.slice e)) (hi : P.info? e = some i) (hz : i.zero = some z)
    (hsize : i.size = size) (hby : i.bytes = bytes) (hzs : z.cells.size = size) (hsz : 0 < size)
    (ao : Option Addr) (n : Nat) (xs : List Value) (hs : a.eval s = .slice ao n n) (hown : w.ownsRow 0 e size (.slice ao n n) n xs)
    (ad : Addr) (m c : Nat) (news : List Value) (hx : a.eval x = .slice (some ad) m c) (hl : news.length = m * size) (hnews : ∀ j u, news[j]? = some u → w.cell? (ad.add j) = some u) (h1 : ∀ u ∈ news, u.oneCell' = true)
    (hm : 0 < m) (h63 : n + m ≤ maxLen) (hbytes : (n + m) * bytes ≤ 140737488355328) (H : Nat) (hH : w.heap.size = H)
    (h : ∀ g cap w', w'.ownsRow 0 e size (.slice (some ⟨g, 0, none⟩) (n + m) cap) (n + m) (xs ++ news) → Fr noF noF w w' → g = H → g < w'.heap.size → K (a.put o.dst (.slice (some ⟨g, 0, none⟩) (n + m) cap)) w') :
    if Region.wanted o (yielded ops a.tmps) = true then Oper.wp P o a w K Q else E := by
  have hw : Region.wanted o (yielded ops a.tmps) = true := by simp [Region.wanted, hgd]
  rw [if_pos hw]
  obtain ⟨cap, w', hr, h2, h3, h4⟩ := run_append_new (P := P) w t o.type e i z size bytes ht hi hz hsize hby hzs hsz ao n xs hown ad m c news hl hnews h1 hm h63 hbytes
  unfold Oper.wp execOp
  simp only [ho, resolve, invoke, builtin, Sem.run_bind, Sem.run_pure, Result.andThen_ok, List.map_toArray, List.map_cons, List.map_nil, hs, hx, hr]
  exact h _ cap w' h2 h3 hH h4
end Go.Proofs.YtdifknecndlklaaGreatDoor
namespace Go.Proofs.YtdifknecndlklaaGreatDoor
open Go Go.RowKit
set_option maxHeartbeats 4000000
set_option maxRecDepth 100000
set_option linter.all false

def i32V (k : Int) : VT := .mk 8 k [] 0 0 [] []
def strV (l : List UInt8) : VT := .mk 11 0 l 0 0 [] []
def fltV (k : Int) (tx : List UInt8) : VT := .mk 12 0 [] 0 0 (if tx = [] then [2] else [1, 2]) (if tx = [] then [i32V k] else [strV tx, i32V k])
theorem fltV_wops (k : Int) (hk : -2147483648 ≤ k ∧ k ≤ 2147483647) (tx : List UInt8) : (fltV k tx).wops = .structBegin :: (aeMid tx ++ [.fieldBegin 8 2, .i32 k, .fieldEnd, .fieldStop, .structEnd]) := by
  have h1 : (i32V k).wops = [.i32 k] := by
    unfold i32V
    rw [VT.wops]
    simp only [Int.reduceMod, Int.reduceEq, if_true, if_false]
    rw [wrap_i32']
    congr 2
    omega
  have h2 : (strV tx).wops = [.string (strOf tx)] := by
    unfold strV
    rw [VT.wops]
    simp only [Int.reduceMod, Int.reduceEq, if_true, if_false]
  have hw1 : IntKind.i16.wrap 1 = 1 := by rw [wrap_i16]; decide
  have hw2 : IntKind.i16.wrap 2 = 2 := by rw [wrap_i16]; decide
  unfold fltV aeMid
  by_cases h : tx = []
  · rw [if_pos h, if_pos h, if_pos h, VT.wops]
    simp only [Int.reduceMod, Int.reduceEq, if_true, if_false, fieldsW, h1, hw2]
    simp [i32V, VT.T]
  · rw [if_neg h, if_neg h, if_neg h, VT.wops]
    simp only [Int.reduceMod, Int.reduceEq, if_true, if_false, fieldsW, h1, h2, hw1, hw2]
    simp [i32V, strV, VT.T]
theorem fltV_small (k : Int) (tx : List UInt8) (h : tx.length ≤ 1000000) : (fltV k tx).small := by
  have h0 : (i32V k).small := .mk (by decide) (by decide) (by decide) (fun j x hj => by simp at hj)
  have h1 : (strV tx).small := .mk h (by decide) (by decide) (fun j x hj => by simp at hj)
  unfold fltV
  refine .mk (by decide) ?_ ?_ ?_
  · split <;> decide
  · split <;> simp
  · intro j x hj
    split at hj
    · match j, hj with
      | 0, hj => simp at hj; subst hj; exact h0
      | j + 1, hj => simp at hj
    · match j, hj with
      | 0, hj => simp at hj; subst hj; exact h1
      | 1, hj => simp at hj; subst hj; exact h0
      | j + 2, hj => simp at hj
theorem fltV_rng (k : Int) (hk : -2147483648 ≤ k ∧ k ≤ 2147483647) (tx : List UInt8) : (fltV k tx).rng := by
  have h0 : (i32V k).rng := .mk ⟨by omega, by omega⟩ (fun x hx => by simp at hx)
  have h1 : (strV tx).rng := .mk ⟨by decide, by decide⟩ (fun x hx => by simp at hx)
  unfold fltV
  refine .mk ⟨by decide, by decide⟩ fun x hx => ?_
  split at hx
  · simp at hx; subst hx; exact h0
  · simp at hx; rcases hx with rfl | rfl; exact h1; exact h0

theorem grow_none {X Z : World} {o : Option Nat} (h : X.grownBy Z o) (ho : o = none := by rfl) : Fr noF noF X Z := by
  subst ho
  exact ⟨h.os, h.tape, h.output, h.size, fun k hk _ => h.block k hk (by simp), fun _ _ x => x⟩
theorem owns_none (X : World) (base : Nat) (e : TypeId) (size : Nat) : X.ownsRow base e size (.slice none 0 0) 0 [] := ⟨by simp, Or.inl ⟨rfl, rfl⟩⟩

theorem seven_one {k : Int} : ∀ u ∈ [Value.int .i64 8, .int .i64 k, .slice none 0 0, .int .i64 0, .int .i64 0, .slice none 0 0, .slice none 0 0], u.oneCell' = true := by
  intro u hu
  simp only [List.mem_cons, List.not_mem_nil, or_false] at hu
  rcases hu with rfl | rfl | rfl | rfl | rfl | rfl | rfl <;> rfl

theorem set_other {Z : World} {b : Nat} {a0 a1 a2 a3 a4 a5 a6 : Value} (h : Z.heap[b]? = some (.cells #[a0, a1, a2, a3, a4, a5, a6] TSVal (0, 0))) (v : Value) :
    (Z.setCell ⟨b, 5, none⟩ v).cell? ⟨b, 6, none⟩ = some a6 ∧ (Z.setCell ⟨b, 5, none⟩ v).frozen? ⟨b, 6, none⟩ = false ∧ (Z.setCell ⟨b, 6, none⟩ v).cell? ⟨b, 5, none⟩ = some a5 ∧ (Z.setCell ⟨b, 6, none⟩ v).frozen? ⟨b, 5, none⟩ = false := by
  have e1 := setCell_at (i := 5) h v
  have e2 := setCell_at (i := 6) h v
  exact ⟨cell_at e1 6, free_at e1 6, cell_at e2 5, free_at e2 5⟩

/-- What stands when the exception's value has been built: its numbers iv (ids), its elements lv (ys, seven cells each). -/
structure FltAt (w : World) (b n : Nat) (ids : List Int) (ys : List Value) (X : World) : Prop where
  fr : Fr noF noF w X
  box : ∃ ga ca gb cb, X.heap[b]? = some (.cells #[.int .i64 12, .int .i64 0, .slice none 0 0, .int .i64 0, .int .i64 0, .slice (some ⟨ga, 0, none⟩) n ca, .slice (some ⟨gb, 0, none⟩) n cb] TSVal (0, 0)) ∧
    RdN X (.slice (some ⟨ga, 0, none⟩) n ca) ids ∧ n ≤ cb ∧ cb ≤ maxLen ∧ ∀ i u, ys[i]? = some u → X.cell? ⟨gb, i, none⟩ = some u
theorem owned_parts {X : World} {e : TypeId} {size n g c : Nat} {xs : List Value} (hn : 0 < n) (h : X.ownsRow 0 e size (.slice (some ⟨g, 0, none⟩) n c) n xs) : n ≤ c ∧ c ≤ maxLen ∧ ∀ i u, xs[i]? = some u → X.cell? ⟨g, i, none⟩ = some u := by
  have hc := World.ownsRow.cells h (g := g) rfl
  rcases h.2 with ⟨_, h0⟩ | ⟨g', cap, cur, he, _, hg, h1, h2, h3, h4⟩
  · omega
  · injection he with _ _ he
    subst he
    exact ⟨h1, h2, fun i u hu => by have := hc i u hu; rw [Lib.addr_add] at this; simpa using this⟩
theorem flt_fin {w Z : World} {b n ga ca gb cb : Nat} {ids : List Int} {ys : List Value} {a5 a6 : Value} (hn : 0 < n) (hwb : w.heap.size ≤ b) (hwz : Fr noF noF w Z) (hb : Z.heap[b]? = some (.cells #[.int .i64 12, .int .i64 0, .slice none 0 0, .int .i64 0, .int .i64 0, a5, a6] TSVal (0, 0)))
    (h1 : Z.ownsRow 0 TI 1 (.slice (some ⟨ga, 0, none⟩) n ca) n (ids.map (.int .i64))) (h2 : Z.ownsRow 0 TSVal 7 (.slice (some ⟨gb, 0, none⟩) n cb) n ys) (hl : ids.length = n) (hga : ga ≠ b) (hgb : gb ≠ b) :
    FltAt w b n ids ys ((Z.setCell ⟨b, 5, none⟩ (.slice (some ⟨ga, 0, none⟩) n ca)).setCell ⟨b, 6, none⟩ (.slice (some ⟨gb, 0, none⟩) n cb)) ∧ FltAt w b n ids ys ((Z.setCell ⟨b, 6, none⟩ (.slice (some ⟨gb, 0, none⟩) n cb)).setCell ⟨b, 5, none⟩ (.slice (some ⟨ga, 0, none⟩) n ca)) := by
  obtain ⟨p1, p2, p3⟩ := owned_parts hn h1
  obtain ⟨q1, q2, q3⟩ := owned_parts hn h2
  have core : ∀ X : World, Fr noF noF w X → X.heap[b]? = some (.cells #[.int .i64 12, .int .i64 0, .slice none 0 0, .int .i64 0, .int .i64 0, .slice (some ⟨ga, 0, none⟩) n ca, .slice (some ⟨gb, 0, none⟩) n cb] TSVal (0, 0)) → (∀ k, k ≠ b → X.heap[k]? = Z.heap[k]?) → FltAt w b n ids ys X := fun X hX hbx hk => by
    refine ⟨hX, ga, ca, gb, cb, hbx, Or.inr ⟨⟨ga, 0, none⟩, n, ca, rfl, hl, p1, p2, fun j u hj => ?_⟩, q1, q2, fun i u hu => ?_⟩
    · rw [Lib.addr_add, World.cell?_of_block (a := ⟨ga, 0 + j, none⟩) (hk ga hga), Nat.zero_add]
      exact p3 j _ (by rw [List.getElem?_map, hj]; rfl)
    · rw [World.cell?_of_block (a := ⟨gb, i, none⟩) (hk gb hgb)]
      exact q3 i u hu
  have e1 := setCell_at (i := 5) hb (.slice (some ⟨ga, 0, none⟩) n ca)
  have e2 := setCell_at (i := 6) e1 (.slice (some ⟨gb, 0, none⟩) n cb)
  have e3 := setCell_at (i := 6) hb (.slice (some ⟨gb, 0, none⟩) n cb)
  have e4 := setCell_at (i := 5) e3 (.slice (some ⟨ga, 0, none⟩) n ca)
  refine ⟨core _ ?_ e2 fun k hk => ?_, core _ ?_ e4 fun k hk => ?_⟩
  · exact (hwz.setCell (p := ⟨b, 5, none⟩) (Or.inr hwb) _).setCell (p := ⟨b, 6, none⟩) (Or.inr hwb) _
  · exact (Below.heap_setCell _ ⟨b, 6, none⟩ _ k hk).trans (Below.heap_setCell _ ⟨b, 5, none⟩ _ k hk)
  · exact (hwz.setCell (p := ⟨b, 6, none⟩) (Or.inr hwb) _).setCell (p := ⟨b, 5, none⟩) (Or.inr hwb) _
  · exact (Below.heap_setCell _ ⟨b, 5, none⟩ _ k hk).trans (Below.heap_setCell _ ⟨b, 6, none⟩ _ k hk)

/-- What stands ahead of the two appends: the value's lists hold n things each, and are full. -/
structure FltB (w : World) (b n : Nat) (a5 a6 : Option Addr) (xs5 xs6 : List Value) (X : World) : Prop where
  fr : Fr noF noF w X
  box : X.heap[b]? = some (.cells #[.int .i64 12, .int .i64 0, .slice none 0 0, .int .i64 0, .int .i64 0, .slice a5 n n, .slice a6 n n] TSVal (0, 0))
  o5 : X.ownsRow 0 TI 1 (.slice a5 n n) n xs5
  o6 : X.ownsRow 0 TSVal 7 (.slice a6 n n) n xs6

theorem own_fr {w w' : World} {e : TypeId} {size : Nat} {v : Value} {n : Nat} {xs : List Value} (h : w.ownsRow 0 e size v n xs) (hf : Fr noF noF w w') : w'.ownsRow 0 e size v n xs := owns_keep h fun k hk => by
  rcases h.2 with ⟨rfl, _⟩ | ⟨g, cap, cur, rfl, _, hg, _⟩
  · cases hk
  · injection hk with hk
    subst hk
    exact hf.keep g (lt_heap hg) fun x => x
theorem set_two_fr {Z : World} {b i j : Nat} {u v : Value} : Fr (fun k => k = b) (fun k => k = b) Z ((Z.setCell ⟨b, i, none⟩ u).setCell ⟨b, j, none⟩ v) :=
  ((Fr.refl (fun k => k = b) Z).setCell (p := ⟨b, i, none⟩) (Or.inl rfl) _).setCell (p := ⟨b, j, none⟩) (Or.inl rfl) _
theorem own_block {X : World} {e : TypeId} {g n size : Nat} {cs : Array Value} (h : X.heap[g]? = some (.cells cs e (0, 0))) (hs : cs.size = n * size) (hn : n ≤ maxLen) : X.ownsRow 0 e size (.slice (some ⟨g, 0, none⟩) n n) n cs.toList :=
  ⟨by rw [Array.length_toList, hs], Or.inr ⟨g, n, cs, rfl, Nat.zero_le _, h, Nat.le_refl _, hn, hs, by rw [← hs, ← Array.length_toList, List.take_length]⟩⟩
theorem rd_box {Y : World} {b : Nat} {x a5 a6 : Option Addr} {xn xc n5 c5 n6 c6 : Nat} {l : List UInt8} (h8 : Y.heap[b]? = some (.cells #[.int .i64 12, .int .i64 0, .slice none 0 0, .int .i64 0, .int .i64 0, .slice a5 n5 c5, .slice a6 n6 c6] TSVal (0, 0))) (h : Rd Y (.slice x xn xc) l) : ∀ k, vblk (.slice x xn xc) k → ¬ k = b := by
  rintro k hk rfl
  match x, xn, hk with
  | some a, m + 1, hk =>
    have hk : a.block = k := hk
    rcases h with ⟨h, _⟩ | ⟨a', n', c', he, hl, _, _, hs⟩
    · cases h
    · injection he with e1 e2 _
      injection e1 with e1
      subst e1
      obtain ⟨u, hu⟩ : ∃ u, l[0]? = some u := ⟨_, List.getElem?_eq_getElem (by omega)⟩
      have hc := hs 0 u hu
      unfold World.cell? at hc
      rw [block_add', hk, h8] at hc
      simp only at hc
      split at hc
      · cases hc
      · generalize (a.add 0).off = j at hc
        match j, hc with
        | 0, hc => simp at hc
        | 1, hc => simp at hc
        | 2, hc => simp at hc
        | 3, hc => simp at hc
        | 4, hc => simp at hc
        | 5, hc => simp at hc
        | 6, hc => simp at hc
        | j + 7, hc => simp at hc
theorem flt_two_fr {Y : World} {b : Nat} {o5 o6 : Obj} {v5 v6 : Value} {F : Nat → Prop} (hF : F = fun k => k = b) : Fr F F Y ((((Y.alloc o5).alloc o6).setCell ⟨b, 5, none⟩ v5).setCell ⟨b, 6, none⟩ v6) := by
  subst hF
  exact ((((Fr.refl (fun k => k = b) Y).alloc _).alloc _).setCell (p := ⟨b, 5, none⟩) (Or.inl rfl) _).setCell (p := ⟨b, 6, none⟩) (Or.inl rfl) _
theorem flt_two {w Y : World} {x : Value} {b : Nat} (hw : Fr noF noF w Y) (h8 : Y.heap[w.heap.size + 1]? = some (.cells #[.int .i64 12, .int .i64 0, .slice none 0 0, .int .i64 0, .int .i64 0, .slice none 0 0, .slice none 0 0] TSVal (0, 0))) (hb : w.heap.size + 1 = b := by rfl) :
    FltB w b 1 (some ⟨Y.heap.size, 0, none⟩) (some ⟨Y.heap.size + 1, 0, none⟩) [.int .i64 1] [.int .i64 11, .int .i64 0, x, .int .i64 0, .int .i64 0, .slice none 0 0, .slice none 0 0]
      ((((Y.alloc (.cells #[.int .i64 1] TI (0, 0))).alloc (.cells #[.int .i64 11, .int .i64 0, x, .int .i64 0, .int .i64 0, .slice none 0 0, .slice none 0 0] TSVal (0, 0))).setCell ⟨b, 5, none⟩ (.slice (some ⟨Y.heap.size, 0, none⟩) 1 1)).setCell ⟨b, 6, none⟩ (.slice (some ⟨Y.heap.size + 1, 0, none⟩) 1 1)) := by
  subst hb
  have hlt := lt_heap h8
  obtain ⟨A, hA⟩ : ∃ A : Obj, A = .cells #[.int .i64 1] TI (0, 0) := ⟨_, rfl⟩
  obtain ⟨B, hB⟩ : ∃ B : Obj, B = .cells #[.int .i64 11, .int .i64 0, x, .int .i64 0, .int .i64 0, .slice none 0 0, .slice none 0 0] TSVal (0, 0) := ⟨_, rfl⟩
  rw [← hA, ← hB]
  have e5 : ((Y.alloc A).alloc B).heap[Y.heap.size]? = some A := alloc_at (alloc_new Y A) 
  have e6 : ((Y.alloc A).alloc B).heap[Y.heap.size + 1]? = some B := by have h := alloc_new (Y.alloc A) B; simpa using h
  have e8 := setCell_at (i := 6) (setCell_at (i := 5) (alloc_at (o := B) (alloc_at (o := A) h8)) (.slice (some ⟨Y.heap.size, 0, none⟩) 1 1)) (.slice (some ⟨Y.heap.size + 1, 0, none⟩) 1 1)
  refine ⟨(((hw.alloc _).alloc _).setCell (p := ⟨w.heap.size + 1, 5, none⟩) (Or.inr (Nat.le_succ _)) _).setCell (p := ⟨w.heap.size + 1, 6, none⟩) (Or.inr (Nat.le_succ _)) _, e8, ?_, ?_⟩
  · exact own_block (n := 1) (size := 1) (cs := #[.int .i64 1]) (by rw [setCell_ne (setCell_ne e5 (by omega) _) (by omega) _, hA]) rfl (by decide)
  · exact own_block (n := 1) (size := 7) (cs := #[.int .i64 11, .int .i64 0, x, .int .i64 0, .int .i64 0, .slice none 0 0, .slice none 0 0]) (by rw [setCell_ne (setCell_ne e6 (by omega) _) (by omega) _, hB]) rfl (by decide)

/-- All that is known ahead of the two appends. -/
structure FltC (w : World) (n : Nat) (a5 a6 : Option Addr) (xs5 xs6 : List Value) (ids : List Int) (ys : List Value) (k : Int) (v : Value) (tx : List UInt8) (o : Obj) (X : World) : Prop where
  b : FltB w (w.heap.size + 1) n a5 a6 xs5 xs6 X
  rd : Rd X v tx
  cf : X.heap[w.heap.size]? = some o
  len : ids.length = n + 1
  ids : ids.map (Value.int .i64) = xs5 ++ [.int .i64 2]
  ys : ys = xs6 ++ [.int .i64 8, .int .i64 k, .slice none 0 0, .int .i64 0, .int .i64 0, .slice none 0 0, .slice none 0 0]
theorem flt_end1 {w X Z : World} {n g5 c5 g6 c6 xn xc : Nat} {x a5 a6 : Option Addr} {xs5 xs6 : List Value} {ids : List Int} {ys : List Value} {k : Int} {tx : List UInt8} {o : Obj} (h : FltC w n a5 a6 xs5 xs6 ids ys k (.slice x xn xc) tx o X) (hZ : Fr noF noF X Z)
    (h1 : Z.ownsRow 0 TI 1 (.slice (some ⟨g5, 0, none⟩) (n + 1) c5) (n + 1) (xs5 ++ [.int .i64 2])) (h2 : Z.ownsRow 0 TSVal 7 (.slice (some ⟨g6, 0, none⟩) (n + 1) c6) (n + 1) (xs6 ++ [.int .i64 8, .int .i64 k, .slice none 0 0, .int .i64 0, .int .i64 0, .slice none 0 0, .slice none 0 0])) (h5 : X.heap.size ≤ g5) (h6 : X.heap.size ≤ g6) :
    FltAt w (w.heap.size + 1) (n + 1) ids ys ((Z.setCell ⟨w.heap.size + 1, 5, none⟩ (.slice (some ⟨g5, 0, none⟩) (n + 1) c5)).setCell ⟨w.heap.size + 1, 6, none⟩ (.slice (some ⟨g6, 0, none⟩) (n + 1) c6)) ∧
    Rd ((Z.setCell ⟨w.heap.size + 1, 5, none⟩ (.slice (some ⟨g5, 0, none⟩) (n + 1) c5)).setCell ⟨w.heap.size + 1, 6, none⟩ (.slice (some ⟨g6, 0, none⟩) (n + 1) c6)) (.slice x xn xc) tx ∧ ((Z.setCell ⟨w.heap.size + 1, 5, none⟩ (.slice (some ⟨g5, 0, none⟩) (n + 1) c5)).setCell ⟨w.heap.size + 1, 6, none⟩ (.slice (some ⟨g6, 0, none⟩) (n + 1) c6)).heap[w.heap.size]? = some o := by
  have hb := hZ.block h.b.box fun x => x
  have hlt := lt_heap h.b.box
  have hr := h.rd.keep hZ fun _ _ x => x
  exact ⟨(flt_fin (by omega) (by omega) (h.b.fr.trans hZ) hb (by rw [h.ids]; exact h1) (by rw [h.ys]; exact h2) h.len (by omega) (by omega)).1, hr.keep set_two_fr (rd_box hb hr), setCell_ne (setCell_ne (hZ.block h.cf fun x => x) (by omega) _) (by omega) _⟩
theorem flt_end2 {w X Z : World} {n g5 c5 g6 c6 xn xc : Nat} {x a5 a6 : Option Addr} {xs5 xs6 : List Value} {ids : List Int} {ys : List Value} {k : Int} {tx : List UInt8} {o : Obj} (h : FltC w n a5 a6 xs5 xs6 ids ys k (.slice x xn xc) tx o X) (hZ : Fr noF noF X Z)
    (h1 : Z.ownsRow 0 TI 1 (.slice (some ⟨g5, 0, none⟩) (n + 1) c5) (n + 1) (xs5 ++ [.int .i64 2])) (h2 : Z.ownsRow 0 TSVal 7 (.slice (some ⟨g6, 0, none⟩) (n + 1) c6) (n + 1) (xs6 ++ [.int .i64 8, .int .i64 k, .slice none 0 0, .int .i64 0, .int .i64 0, .slice none 0 0, .slice none 0 0])) (h5 : X.heap.size ≤ g5) (h6 : X.heap.size ≤ g6) :
    FltAt w (w.heap.size + 1) (n + 1) ids ys ((Z.setCell ⟨w.heap.size + 1, 6, none⟩ (.slice (some ⟨g6, 0, none⟩) (n + 1) c6)).setCell ⟨w.heap.size + 1, 5, none⟩ (.slice (some ⟨g5, 0, none⟩) (n + 1) c5)) ∧
    Rd ((Z.setCell ⟨w.heap.size + 1, 6, none⟩ (.slice (some ⟨g6, 0, none⟩) (n + 1) c6)).setCell ⟨w.heap.size + 1, 5, none⟩ (.slice (some ⟨g5, 0, none⟩) (n + 1) c5)) (.slice x xn xc) tx ∧ ((Z.setCell ⟨w.heap.size + 1, 6, none⟩ (.slice (some ⟨g6, 0, none⟩) (n + 1) c6)).setCell ⟨w.heap.size + 1, 5, none⟩ (.slice (some ⟨g5, 0, none⟩) (n + 1) c5)).heap[w.heap.size]? = some o := by
  have hb := hZ.block h.b.box fun x => x
  have hlt := lt_heap h.b.box
  have hr := h.rd.keep hZ fun _ _ x => x
  exact ⟨(flt_fin (by omega) (by omega) (h.b.fr.trans hZ) hb (by rw [h.ids]; exact h1) (by rw [h.ys]; exact h2) h.len (by omega) (by omega)).2, hr.keep set_two_fr (rd_box hb hr), setCell_ne (setCell_ne (hZ.block h.cf fun x => x) (by omega) _) (by omega) _⟩

theorem flt_val {X : World} {k : Int} {x : Option Addr} {n xn xc ga ca gb cb : Nat} {tx : List UInt8} {ids : List Int} {xs6 ys : List Value} (hR : Rd X (.slice x xn xc) tx) (hN : RdN X (.slice (some ⟨ga, 0, none⟩) (n + 1) ca) ids) (h1 : n + 1 ≤ cb) (h2 : cb ≤ maxLen) (hcs : ∀ i u, ys[i]? = some u → X.cell? ⟨gb, i, none⟩ = some u)
    (hids : ids = if tx = [] then [2] else [1, 2]) (hys : ys = xs6 ++ [.int .i64 8, .int .i64 k, .slice none 0 0, .int .i64 0, .int .i64 0, .slice none 0 0, .slice none 0 0])
    (h6 : xs6 = if tx = [] then [] else [.int .i64 11, .int .i64 0, .slice x xn xc, .int .i64 0, .int .i64 0, .slice none 0 0, .slice none 0 0]) (hn : n = if tx = [] then 0 else 1) :
    ValR X (fltV k tx) (.agg (valA 12 0 (.slice none 0 0) 0 0 (.slice (some ⟨ga, 0, none⟩) (n + 1) ca) (.slice (some ⟨gb, 0, none⟩) (n + 1) cb))) := by
  have hnil : ValR X (i32V k) (.agg (valA 8 k (.slice none 0 0) 0 0 (.slice none 0 0) (.slice none 0 0))) := .mk (fun _ => #[]) (Or.inl ⟨rfl, rfl⟩) (Or.inl ⟨rfl, rfl⟩) ⟨none, 0, rfl, Nat.le_refl _, Nat.zero_le _, fun h => absurd h (by simp)⟩ (fun j x hj => by simp at hj)
  have hstr : ValR X (strV tx) (.agg (valA 11 0 (.slice x xn xc) 0 0 (.slice none 0 0) (.slice none 0 0))) := .mk (fun _ => #[]) hR (Or.inl ⟨rfl, rfl⟩) ⟨none, 0, rfl, Nat.le_refl _, Nat.zero_le _, fun h => absurd h (by simp)⟩ (fun j x hj => by simp at hj)
  unfold fltV
  by_cases h0 : tx = []
  · rw [if_pos h0] at hids h6 hn
    subst hn
    refine .mk (fun _ => valA 8 k (.slice none 0 0) 0 0 (.slice none 0 0) (.slice none 0 0)) (Or.inl ⟨rfl, rfl⟩) (by rw [if_pos h0, ← hids]; exact hN) ?_ ?_
    · rw [if_pos h0]
      refine ⟨_, _, rfl, h1, h2, fun _ => ⟨gb, 0, rfl, fun j hj i u hu => ?_⟩⟩
      have hj0 : j = 0 := by simp at hj; exact hj
      subst hj0
      have := hcs i u (by rw [hys, h6]; simpa [valA] using hu)
      simpa using this
    · intro j y hj
      rw [if_pos h0] at hj
      match j, hj with
      | 0, hj => simp at hj; subst hj; exact hnil
      | j + 1, hj => simp at hj
  · rw [if_neg h0] at hids h6 hn
    subst hn
    refine .mk (fun j => if j = 0 then valA 11 0 (.slice x xn xc) 0 0 (.slice none 0 0) (.slice none 0 0) else valA 8 k (.slice none 0 0) 0 0 (.slice none 0 0) (.slice none 0 0)) (Or.inl ⟨rfl, rfl⟩) (by rw [if_neg h0, ← hids]; exact hN) ?_ ?_
    · rw [if_neg h0]
      refine ⟨_, _, rfl, h1, h2, fun _ => ⟨gb, 0, rfl, fun j hj i u hu => ?_⟩⟩
      match j, hj with
      | 0, hj =>
        simp only [if_true] at hu
        have hi : i < 7 := by have := (Array.getElem?_eq_some_iff.1 hu).1; simpa [valA] using this
        have := hcs i u (by rw [hys, h6, List.getElem?_append_left (by simpa using hi)]; simpa [valA] using hu)
        simpa using this
      | 1, hj =>
        simp only [Nat.one_ne_zero, if_false] at hu
        have := hcs (7 + i) u (by rw [hys, h6, List.getElem?_append_right (by simp)]; simpa [valA] using hu)
        simpa using this
      | j + 2, hj => simp at hj; omega
    · intro j y hj
      rw [if_neg h0] at hj
      match j, hj with
      | 0, hj => simp at hj; subst hj; simpa using hstr
      | 1, hj => simp at hj; subst hj; simpa using hnil
      | j + 2, hj => simp at hj

theorem S_PutFault (c : ConfV) (k : Int) (hk : -2147483648 ≤ k ∧ k ≤ 2147483647) (l : List UInt8) (hl : l.length ≤ 1000000) (v : Value) (w : World) (hv : Rd w v l) :
    Calls Tryz.prog 12 #[c.val, .int .i32 k, v] w (SPutR w (srun c SSt.new (aeOps k l)).1.out (srun c SSt.new (aeOps k l)).2) := by
  obtain ⟨na, nn, nc, rfl, -⟩ := hv.len
  obtain ⟨tx, htx⟩ : ∃ tx, tx = faultT k l := ⟨_, rfl⟩
  have hPUT : ∀ X v, ValR X (fltV k tx) v → Calls Tryz.prog 43 #[c.val, v] X (SPutR X (srun c SSt.new (aeOps k l)).1.out (srun c SSt.new (aeOps k l)).2) := fun X v hV => by
    have hw : (fltV k tx).wops = aeOps k l := by rw [fltV_wops k hk tx, htx]; rfl
    have h := S_PutG c (fltV k tx) (fltV_small k tx (by
      rw [htx]
      unfold faultT
      split
      · exact Nat.le_trans (faultS_le k) (by decide)
      · exact hl)) (fltV_rng k hk tx) (by rw [hw]; exact Nat.le_trans (ae_most k l hl) (by decide)) v X hV
    rw [hw] at h
    exact h
  obtain ⟨pr, pl, sr, sw, ms, co, fr⟩ := c
  have hft : ∀ X, Fr noF noF w X → Calls Tryz.prog 42 #[.int .i32 k, .slice na nn nc] X (RdNew X tx) := fun X hX => by
    rw [htx]
    exact S_faultText k _ l X (hv.keep hX fun _ _ x => x) hl
  have HFT := Lib.hid hft
  obtain ⟨i0, hi, hz0, hz1, hz2⟩ := info_parts info_TI
  have HI := Lib.hid (And.intro hi (And.intro hz0 (And.intro hz1 hz2)))
  obtain ⟨j0, hj, hj0, hj1, hj2⟩ := info_parts info_sval
  have HJ := Lib.hid (And.intro hj (And.intro hj0 (And.intro hj1 hj2)))
  have hk64 : wrap64 k = k := by unfold wrap64; omega
  have hk65 : IntKind.i64.wrap k = k := by rw [IntKind.wrap_i64]; omega
  clear hj hj0 hj1 hj2
  clear hft hv hl htx hi hz0 hz1 hz2
  go_enter Tryz.func12, Tryz.ntmps12
  go_wp2_with fail
  (with_reducible refine (HFT.out _ (((Fr.refl noF w).alloc _).alloc _)).mono ?_)
  rintro e Y ⟨xa, xn, xc, rfl, hxr, hy⟩
  have q2 := new2 w (.cells #[.int .i64 pr, .bool pl, .bool sr, .bool sw, .int .i32 ms, .int .i32 co, .int .i32 fr] 29 (0, 0)) (.cells #[.int .i64 12, .int .i64 0, .slice none 0 0, .int .i64 0, .int .i64 0, .slice none 0 0, .slice none 0 0] TSVal (0, 0))
  have hb0 : Y.heap[w.heap.size]? = some (.cells #[.int .i64 pr, .bool pl, .bool sr, .bool sw, .int .i32 ms, .int .i32 co, .int .i32 fr] 29 (0, 0)) := hy.block q2.1 fun x => x
  have hb8 : Y.heap[w.heap.size + 1]? = some (.cells #[.int .i64 12, .int .i64 0, .slice none 0 0, .int .i64 0, .int .i64 0, .slice none 0 0, .slice none 0 0] TSVal (0, 0)) := hy.block q2.2 fun x => x
  have hwy : Fr noF noF w Y := (((Fr.refl noF w).alloc _).alloc _).trans hy
  have hxn : tx.length = xn := by obtain ⟨a, n, c, he, h⟩ := hxr.len; injection he with _ h2 _; omega
  clear q2 hy
  obtain ⟨xs5, hx5⟩ : ∃ xs5 : List Value, xs5 = if tx = [] then [] else [.int .i64 1] := ⟨_, rfl⟩
  obtain ⟨xs6, hx6⟩ : ∃ xs6 : List Value, xs6 = if tx = [] then [] else [.int .i64 11, .int .i64 0, .slice xa xn xc, .int .i64 0, .int .i64 0, .slice none 0 0, .slice none 0 0] := ⟨_, rfl⟩
  obtain ⟨n, hn⟩ : ∃ n : Nat, n = if tx = [] then 0 else 1 := ⟨_, rfl⟩
  have hn1 : n ≤ 1 := by rw [hn]; split <;> omega
  have HXR := Lib.hid (And.intro hxr hwy)
  have HCF := Lib.hid hb0
  have HX := Lib.hid (And.intro hx5 (And.intro hx6 hn))
  clear hx5 hx6 hn
  obtain ⟨ids, hids⟩ : ∃ ids : List Int, ids = if tx = [] then [2] else [1, 2] := ⟨_, rfl⟩
  obtain ⟨ys, hys⟩ : ∃ ys : List Value, ys = xs6 ++ [.int .i64 8, .int .i64 k, .slice none 0 0, .int .i64 0, .int .i64 0, .slice none 0 0, .slice none 0 0] := ⟨_, rfl⟩
  have HI2 := Lib.hid (And.intro hids hys)
  clear hids hys
  go_upto_if 15 with fail
  go_cut [] (fun wx => ∃ a5 a6, FltB w (w.heap.size + 1) n a5 a6 xs5 xs6 wx ∧ Rd wx (.slice xa xn xc) tx ∧ wx.heap[w.heap.size]? = some (.cells #[.int .i64 pr, .bool pl, .bool sr, .bool sw, .int .i32 ms, .int .i32 co, .int .i32 fr] 29 (0, 0)))
  case first =>
    rcases Decidable.em (tx = []) with h0 | h0
    · have hx0 : xn = 0 := by rw [← hxn, h0]; rfl
      subst hx0
      obtain ⟨h5, h6, hn⟩ := HX.out
      rw [if_pos h0] at h5 h6 hn
      have HB := Lib.hid (And.intro hb8 (And.intro hwy (And.intro h5 (And.intro h6 hn))))
      clear h5 h6 hn hxn h0 hn1
      go_wp2_with fail
      go_meet
      obtain ⟨h8, hw, h5, h6, hn⟩ := HB.out
      rw [h5, h6, hn]
      exact ⟨none, none, ⟨hw, h8, owns_none _ _ _ _, owns_none _ _ _ _⟩, HXR.out.1, HCF.out⟩
    · have hx0 : 0 < xn := by rw [← hxn]; exact List.length_pos_iff.2 h0
      obtain ⟨h5, h6, hn⟩ := HX.out
      rw [if_neg h0] at h5 h6 hn
      have HB := Lib.hid (And.intro hb8 (And.intro hwy (And.intro h5 (And.intro h6 hn))))
      clear h5 h6 hn hxn h0 hn1
      have hyy : ∀ o o', Fr noF noF Y ((Y.alloc o).alloc o') := fun o o' => ((Fr.refl noF Y).alloc o).alloc o'
      have k5a : ∀ o o', ((Y.alloc o).alloc o').cell? ⟨w.heap.size + 1, 5, none⟩ = some (.slice none 0 0) := fun o o' => cell_at ((hyy o o').block hb8 fun x => x) 5
      have k6a : ∀ o o', ((Y.alloc o).alloc o').cell? ⟨w.heap.size + 1, 6, none⟩ = some (.slice none 0 0) := fun o o' => cell_at ((hyy o o').block hb8 fun x => x) 6
      have k5f : ∀ o o' j, ((Y.alloc o).alloc o').frozen? ⟨w.heap.size + 1, j, none⟩ = false := fun o o' => free_at ((hyy o o').block hb8 fun x => x)
      have k6s : ∀ o o' v, (((Y.alloc o).alloc o').setCell ⟨w.heap.size + 1, 5, none⟩ v).cell? ⟨w.heap.size + 1, 6, none⟩ = some (.slice none 0 0) := fun o o' v => (set_other ((hyy o o').block hb8 fun x => x) v).1
      have k6g : ∀ o o' v, (((Y.alloc o).alloc o').setCell ⟨w.heap.size + 1, 5, none⟩ v).frozen? ⟨w.heap.size + 1, 6, none⟩ = false := fun o o' v => (set_other ((hyy o o').block hb8 fun x => x) v).2.1
      have HYY := Lib.hid hyy
      clear hyy
      go_wp2_with fail
      go_meet
      obtain ⟨h8, hw, h5, h6, hn⟩ := HB.out
      rw [h5, h6, hn]
      exact ⟨_, _, flt_two hw h8, HXR.out.1.keep (flt_two_fr (Y := Y) rfl) (rd_box h8 HXR.out.1), setCell_ne (setCell_ne (alloc_at (alloc_at HCF.out)) (by omega) _) (by omega) _⟩
  case rest =>
    obtain ⟨a5, a6, hB, hyB, hCF⟩ := hcut
    have hc8 : ∀ X, Fr noF noF wc X → X.cell? ⟨w.heap.size + 1, 5, none⟩ = some (.slice a5 n n) ∧ X.cell? ⟨w.heap.size + 1, 6, none⟩ = some (.slice a6 n n) ∧ ∀ j, X.frozen? ⟨w.heap.size + 1, j, none⟩ = false := fun X hX => by
      have e := hX.block hB.box fun x => x
      exact ⟨cell_at e 5, cell_at e 6, free_at e⟩
    have HC8 := Lib.hid hc8
    have HB8 := Lib.hid (show ∀ X, Fr noF noF wc X → X.heap[w.heap.size + 1]? = some (.cells #[.int .i64 12, .int .i64 0, .slice none 0 0, .int .i64 0, .int .i64 0, .slice a5 n n, .slice a6 n n] TSVal (0, 0)) from fun X hX => hX.block hB.box fun x => x)
    have HO5 := Lib.hid hB.o5
    have HO6 := Lib.hid hB.o6
    have HRD := Lib.hid hyB
    obtain ⟨k5, k6, kf⟩ := hc8 wc (Fr.refl noF wc)
    have k5a : ∀ o, (wc.alloc o).cell? ⟨w.heap.size + 1, 5, none⟩ = some (.slice a5 n n) := fun o => (hc8 _ ((Fr.refl noF wc).alloc o)).1
    have k6a : ∀ o, (wc.alloc o).cell? ⟨w.heap.size + 1, 6, none⟩ = some (.slice a6 n n) := fun o => (hc8 _ ((Fr.refl noF wc).alloc o)).2.1
    have k5b : ∀ o o', ((wc.alloc o).alloc o').cell? ⟨w.heap.size + 1, 5, none⟩ = some (.slice a5 n n) := fun o o' => (hc8 _ (((Fr.refl noF wc).alloc o).alloc o')).1
    have k6b : ∀ o o', ((wc.alloc o).alloc o').cell? ⟨w.heap.size + 1, 6, none⟩ = some (.slice a6 n n) := fun o o' => (hc8 _ (((Fr.refl noF wc).alloc o).alloc o')).2.1
    have hwc := hB.fr
    have hb0c := lt_heap hB.box
    have HALL := Lib.hid (show FltC w n a5 a6 xs5 xs6 ids ys k (.slice xa xn xc) tx (.cells #[.int .i64 pr, .bool pl, .bool sr, .bool sw, .int .i32 ms, .int .i32 co, .int .i32 fr] 29 (0, 0)) wc from by
      obtain ⟨h1, h2⟩ := HI2.out
      obtain ⟨h3, h4, h5⟩ := HX.out
      refine ⟨hB, hyB, hCF, ?_, ?_, h2⟩
      · rw [h1, h5]; split <;> rfl
      · rw [h1, h3]; split <;> rfl)
    clear hc8 hb0 hb8 hwy hxr hxn hB hyB hCF
    go_upto_region 5 with fail
    go_cut [] (fun wx => FltAt w (w.heap.size + 1) (n + 1) ids ys wx ∧ Rd wx (.slice xa xn xc) tx ∧ wx.heap[w.heap.size]? = some (.cells #[.int .i64 pr, .bool pl, .bool sr, .bool sw, .int .i32 ms, .int .i32 co, .int .i32 fr] 29 (0, 0)))
    case first =>
      go_region_law (first | ((refine step_append_new (by rfl) _ _ _ (by rfl) TI i0 (.int .i64 0) 1 8 Tryz.underlying36 HI.out.1 HI.out.2.1 HI.out.2.2.1 HI.out.2.2.2 rfl (by decide) a5 n xs5 (by rfl) (own_fr HO5.out (by (focus ((repeat (first | with_reducible exact Fr.refl _ _ | with_reducible assumption | with_reducible refine Fr.alloc ?_ _ | with_reducible refine Fr.drew ?_ | with_reducible refine Fr.drewN ?_ _ | with_reducible refine Fr.trans (F' := noF) ?_ (by with_reducible assumption) | fail)); done)))) _ 1 1 [.int .i64 2] (by rfl) (by rfl) ?_ (app_one rfl) (by decide) (by have := hn1; unfold maxLen; omega) (by have := hn1; omega) _ rfl ?_); (exact World.news_of_block (cs := #[.int .i64 2]) (by (focus ((repeat (first | with_reducible assumption | with_reducible exact alloc_new _ _ | ((with_reducible refine alloc_newE ?_); (first | with_reducible rfl | (simp; done))) | with_reducible refine alloc_at ?_ | with_reducible refine drew_at ?_ | with_reducible refine Fr.block (F := noF) (F' := noF) (by with_reducible assumption) ?_ (fun x => x) | fail)); done)))); intro g5 cap5 Z hown hz1 hat hlt; obtain ⟨z5, z6, zf⟩ := HC8.out Z (by (focus ((repeat (first | with_reducible exact Fr.refl _ _ | with_reducible assumption | with_reducible refine Fr.alloc ?_ _ | with_reducible refine Fr.drew ?_ | with_reducible refine Fr.drewN ?_ _ | with_reducible refine Fr.trans (F' := noF) ?_ (by with_reducible assumption) | fail)); done))); have z5a : ∀ o, (Z.alloc o).cell? ⟨w.heap.size + 1, 5, none⟩ = some (.slice a5 n n) := fun o => (HC8.out _ (by (focus ((repeat (first | with_reducible exact Fr.refl _ _ | with_reducible assumption | with_reducible refine Fr.alloc ?_ _ | with_reducible refine Fr.drew ?_ | with_reducible refine Fr.drewN ?_ _ | with_reducible refine Fr.trans (F' := noF) ?_ (by with_reducible assumption) | fail)); done)))).1; have z6a : ∀ o, (Z.alloc o).cell? ⟨w.heap.size + 1, 6, none⟩ = some (.slice a6 n n) := fun o => (HC8.out _ (by (focus ((repeat (first | with_reducible exact Fr.refl _ _ | with_reducible assumption | with_reducible refine Fr.alloc ?_ _ | with_reducible refine Fr.drew ?_ | with_reducible refine Fr.drewN ?_ _ | with_reducible refine Fr.trans (F' := noF) ?_ (by with_reducible assumption) | fail)); done)))).2.1; have z6s : ∀ v, (Z.setCell ⟨w.heap.size + 1, 5, none⟩ v).cell? ⟨w.heap.size + 1, 6, none⟩ = some (.slice a6 n n) := fun v => (set_other (HB8.out Z (by (focus ((repeat (first | with_reducible exact Fr.refl _ _ | with_reducible assumption | with_reducible refine Fr.alloc ?_ _ | with_reducible refine Fr.drew ?_ | with_reducible refine Fr.drewN ?_ _ | with_reducible refine Fr.trans (F' := noF) ?_ (by with_reducible assumption) | fail)); done)))) v).1; have z6g : ∀ v, (Z.setCell ⟨w.heap.size + 1, 5, none⟩ v).frozen? ⟨w.heap.size + 1, 6, none⟩ = false := fun v => (set_other (HB8.out Z (by (focus ((repeat (first | with_reducible exact Fr.refl _ _ | with_reducible assumption | with_reducible refine Fr.alloc ?_ _ | with_reducible refine Fr.drew ?_ | with_reducible refine Fr.drewN ?_ _ | with_reducible refine Fr.trans (F' := noF) ?_ (by with_reducible assumption) | fail)); done)))) v).2.1; have z5s : ∀ v, (Z.setCell ⟨w.heap.size + 1, 6, none⟩ v).cell? ⟨w.heap.size + 1, 5, none⟩ = some (.slice a5 n n) := fun v => (set_other (HB8.out Z (by (focus ((repeat (first | with_reducible exact Fr.refl _ _ | with_reducible assumption | with_reducible refine Fr.alloc ?_ _ | with_reducible refine Fr.drew ?_ | with_reducible refine Fr.drewN ?_ _ | with_reducible refine Fr.trans (F' := noF) ?_ (by with_reducible assumption) | fail)); done)))) v).2.2.1; have z5g : ∀ v, (Z.setCell ⟨w.heap.size + 1, 6, none⟩ v).frozen? ⟨w.heap.size + 1, 5, none⟩ = false := fun v => (set_other (HB8.out Z (by (focus ((repeat (first | with_reducible exact Fr.refl _ _ | with_reducible assumption | with_reducible refine Fr.alloc ?_ _ | with_reducible refine Fr.drew ?_ | with_reducible refine Fr.drewN ?_ _ | with_reducible refine Fr.trans (F' := noF) ?_ (by with_reducible assumption) | fail)); done)))) v).2.2.2; have hn5 : wc.heap.size ≤ g5 := (by rw [hat]; exact Fr.size (F := noF) (F' := noF) (by (focus ((repeat (first | with_reducible exact Fr.refl _ _ | with_reducible assumption | with_reducible refine Fr.alloc ?_ _ | with_reducible refine Fr.drew ?_ | with_reducible refine Fr.drewN ?_ _ | with_reducible refine Fr.trans (F' := noF) ?_ (by with_reducible assumption) | fail)); done)))); have HO1 := Lib.hid hown; clear hown hat) | ((refine step_append_new (by rfl) _ _ _ (by rfl) TSVal j0 (.agg (valA 0 0 (.slice none 0 0) 0 0 (.slice none 0 0) (.slice none 0 0))) 7 104 Tryz.underlying40 HJ.out.1 HJ.out.2.1 HJ.out.2.2.1 HJ.out.2.2.2 rfl (by decide) a6 n xs6 (by rfl) (own_fr HO6.out (by (focus ((repeat (first | with_reducible exact Fr.refl _ _ | with_reducible assumption | with_reducible refine Fr.alloc ?_ _ | with_reducible refine Fr.drew ?_ | with_reducible refine Fr.drewN ?_ _ | with_reducible refine Fr.trans (F' := noF) ?_ (by with_reducible assumption) | fail)); done)))) _ 1 1 [.int .i64 8, .int .i64 k, .slice none 0 0, .int .i64 0, .int .i64 0, .slice none 0 0, .slice none 0 0] (by rfl) (by rfl) ?_ seven_one (by decide) (by have := hn1; unfold maxLen; omega) (by have := hn1; omega) _ rfl ?_); (exact World.news_of_block (cs := #[.int .i64 8, .int .i64 k, .slice none 0 0, .int .i64 0, .int .i64 0, .slice none 0 0, .slice none 0 0]) (by (focus ((repeat (first | with_reducible assumption | with_reducible exact alloc_new _ _ | ((with_reducible refine alloc_newE ?_); (first | with_reducible rfl | (simp; done))) | with_reducible refine alloc_at ?_ | with_reducible refine drew_at ?_ | with_reducible refine Fr.block (F := noF) (F' := noF) (by with_reducible assumption) ?_ (fun x => x) | fail)); done)))); intro g6 cap6 Z hown hz2 hat hlt; obtain ⟨z5, z6, zf⟩ := HC8.out Z (by (focus ((repeat (first | with_reducible exact Fr.refl _ _ | with_reducible assumption | with_reducible refine Fr.alloc ?_ _ | with_reducible refine Fr.drew ?_ | with_reducible refine Fr.drewN ?_ _ | with_reducible refine Fr.trans (F' := noF) ?_ (by with_reducible assumption) | fail)); done))); have z5a : ∀ o, (Z.alloc o).cell? ⟨w.heap.size + 1, 5, none⟩ = some (.slice a5 n n) := fun o => (HC8.out _ (by (focus ((repeat (first | with_reducible exact Fr.refl _ _ | with_reducible assumption | with_reducible refine Fr.alloc ?_ _ | with_reducible refine Fr.drew ?_ | with_reducible refine Fr.drewN ?_ _ | with_reducible refine Fr.trans (F' := noF) ?_ (by with_reducible assumption) | fail)); done)))).1; have z6a : ∀ o, (Z.alloc o).cell? ⟨w.heap.size + 1, 6, none⟩ = some (.slice a6 n n) := fun o => (HC8.out _ (by (focus ((repeat (first | with_reducible exact Fr.refl _ _ | with_reducible assumption | with_reducible refine Fr.alloc ?_ _ | with_reducible refine Fr.drew ?_ | with_reducible refine Fr.drewN ?_ _ | with_reducible refine Fr.trans (F' := noF) ?_ (by with_reducible assumption) | fail)); done)))).2.1; have z6s : ∀ v, (Z.setCell ⟨w.heap.size + 1, 5, none⟩ v).cell? ⟨w.heap.size + 1, 6, none⟩ = some (.slice a6 n n) := fun v => (set_other (HB8.out Z (by (focus ((repeat (first | with_reducible exact Fr.refl _ _ | with_reducible assumption | with_reducible refine Fr.alloc ?_ _ | with_reducible refine Fr.drew ?_ | with_reducible refine Fr.drewN ?_ _ | with_reducible refine Fr.trans (F' := noF) ?_ (by with_reducible assumption) | fail)); done)))) v).1; have z6g : ∀ v, (Z.setCell ⟨w.heap.size + 1, 5, none⟩ v).frozen? ⟨w.heap.size + 1, 6, none⟩ = false := fun v => (set_other (HB8.out Z (by (focus ((repeat (first | with_reducible exact Fr.refl _ _ | with_reducible assumption | with_reducible refine Fr.alloc ?_ _ | with_reducible refine Fr.drew ?_ | with_reducible refine Fr.drewN ?_ _ | with_reducible refine Fr.trans (F' := noF) ?_ (by with_reducible assumption) | fail)); done)))) v).2.1; have z5s : ∀ v, (Z.setCell ⟨w.heap.size + 1, 6, none⟩ v).cell? ⟨w.heap.size + 1, 5, none⟩ = some (.slice a5 n n) := fun v => (set_other (HB8.out Z (by (focus ((repeat (first | with_reducible exact Fr.refl _ _ | with_reducible assumption | with_reducible refine Fr.alloc ?_ _ | with_reducible refine Fr.drew ?_ | with_reducible refine Fr.drewN ?_ _ | with_reducible refine Fr.trans (F' := noF) ?_ (by with_reducible assumption) | fail)); done)))) v).2.2.1; have z5g : ∀ v, (Z.setCell ⟨w.heap.size + 1, 6, none⟩ v).frozen? ⟨w.heap.size + 1, 5, none⟩ = false := fun v => (set_other (HB8.out Z (by (focus ((repeat (first | with_reducible exact Fr.refl _ _ | with_reducible assumption | with_reducible refine Fr.alloc ?_ _ | with_reducible refine Fr.drew ?_ | with_reducible refine Fr.drewN ?_ _ | with_reducible refine Fr.trans (F' := noF) ?_ (by with_reducible assumption) | fail)); done)))) v).2.2.2; have hn6 : wc.heap.size ≤ g6 := (by rw [hat]; exact Fr.size (F := noF) (F' := noF) (by (focus ((repeat (first | with_reducible exact Fr.refl _ _ | with_reducible assumption | with_reducible refine Fr.alloc ?_ _ | with_reducible refine Fr.drew ?_ | with_reducible refine Fr.drewN ?_ _ | with_reducible refine Fr.trans (F' := noF) ?_ (by with_reducible assumption) | fail)); done)))); have HO2 := Lib.hid hown; clear hown hat) | fail)
      all_goals
        go_wp2_with fail
      all_goals
        go_meet
      all_goals
        first
        | (with_reducible refine flt_end1 HALL.out ?_ ?_ ?_ hn5 hn6)
        | (with_reducible refine flt_end2 HALL.out ?_ ?_ ?_ hn5 hn6)
      all_goals
        first
        | (focus ((repeat (first | with_reducible exact Fr.refl _ _ | with_reducible assumption | with_reducible refine Fr.alloc ?_ _ | with_reducible refine Fr.drew ?_ | with_reducible refine Fr.drewN ?_ _ | with_reducible refine Fr.trans (F' := noF) ?_ (by with_reducible assumption) | fail)); done))
        | (exact own_fr HO1.out (by (focus ((repeat (first | with_reducible exact Fr.refl _ _ | with_reducible assumption | with_reducible refine Fr.alloc ?_ _ | with_reducible refine Fr.drew ?_ | with_reducible refine Fr.drewN ?_ _ | with_reducible refine Fr.trans (F' := noF) ?_ (by with_reducible assumption) | fail)); done))))
        | (exact own_fr HO2.out (by (focus ((repeat (first | with_reducible exact Fr.refl _ _ | with_reducible assumption | with_reducible refine Fr.alloc ?_ _ | with_reducible refine Fr.drew ?_ | with_reducible refine Fr.drewN ?_ _ | with_reducible refine Fr.trans (F' := noF) ?_ (by with_reducible assumption) | fail)); done))))
    case rest =>
      obtain ⟨hF, hR, hC⟩ := hcut
      obtain ⟨ga, ca, gb, cb, hbx, hN, hb1, hb2, hcs⟩ := hF.box
      have hV : ValR wc (fltV k tx) (.agg (valA 12 0 (.slice none 0 0) 0 0 (.slice (some ⟨ga, 0, none⟩) (n + 1) ca) (.slice (some ⟨gb, 0, none⟩) (n + 1) cb))) := by
        obtain ⟨h1, h2⟩ := HI2.out
        obtain ⟨h3, h4, h5⟩ := HX.out
        exact flt_val hR hN hb1 hb2 hcs h1 h2 h4 h5
      have HV := Lib.hid hV
      have HF := Lib.hid hF.fr
      have hcl := cell_at hbx
      have d0 := hcl 0; have d1 := hcl 1; have d2 := hcl 2; have d3 := hcl 3; have d4 := hcl 4; have d5 := hcl 5; have d6 := hcl 6
      have hcf := cell_at hC
      have c0 := hcf 0; have c1 := hcf 1; have c2 := hcf 2; have c3 := hcf 3; have c4 := hcf 4; have c5 := hcf 5; have c6 := hcf 6
      simp only [List.getElem?_toArray, List.getElem?_cons_zero, List.getElem?_cons_succ] at d0 d1 d2 d3 d4 d5 d6 c0 c1 c2 c3 c4 c5 c6
      have HPUT := Lib.hid hPUT
      clear hcl hcf hF hR hC hbx hN hb1 hb2 hcs hV hPUT k5 k6 kf k5a k6a k5b k6b hwc hb0c
      go_wp2_with fail
      (with_reducible refine (HPUT.out _ _ HV.out).mono ?_)
      rintro e Z ⟨r, rfl, hr, hrb, hfz⟩
      have HE := Lib.hid (And.intro hr (And.intro hrb hfz))
      obtain ⟨ra, rn, rc, rfl, -⟩ := hr.len
      clear hr hrb hfz
      go_wp2
      go_ret2
      obtain ⟨h1, h2, h3⟩ := HE.out
      have h4 := HF.out
      exact ⟨_, rfl, h1, fun j hj => Nat.le_trans h4.size (h2 j hj), h4.trans h3⟩
end Go.Proofs.YtdifknecndlklaaGreatDoor
namespace Go.Proofs.YtdifknecndlklaaGreatDoor
open Go Go.RowKit
set_option maxHeartbeats 4000000
set_option maxRecDepth 100000
set_option linter.all false

theorem L_FnPutFault (c : ConfV) (k : Int) (v : Value) (l : List UInt8) (w : World) (hk : -2147483648 ≤ k ∧ k ≤ 2147483647) (hv : Rd w v l) : Calls Tryz.prog 3 #[c.val, .int .i32 k, v] w (fun e w' => e = .returned (.bool true) ∧ Fr noF noF w w') := by
  obtain ⟨na, nn, nc, rfl, hnn⟩ := hv.len
  obtain ⟨B, hB⟩ : ∃ B, B = encAll c CSt.new (aeOps k l) := ⟨_, rfl⟩
  have hi : ∀ X, nn ≤ 65536 → Fr noF noF w X → Calls Tryz.prog 11 #[c.val, .int .i32 k, .slice na nn nc] X (fun e w' => ∃ ba bn bc, e = .returned (.tuple #[.slice ba bn bc, .int .i64 0]) ∧ Rd w' (.slice ba bn bc) B ∧ Fr noF noF X w') := fun X hl hX =>
    (I_PutFault c k hk l (by omega) _ X (hv.keep hX fun _ _ x => x)).mono fun e w' ⟨u, he, h1, _, h3⟩ => by
      rw [← hB] at h1
      obtain ⟨a, n, k, rfl, -⟩ := h1.len
      exact ⟨a, n, k, he, h1, h3⟩
  have hs : ∀ X, nn ≤ 65536 → Fr noF noF w X → Calls Tryz.prog 12 #[c.val, .int .i32 k, .slice na nn nc] X (fun e w2 => ∃ da dn dc k, e = .returned (.tuple #[.slice da dn dc, .int .i64 k]) ∧ ((k = 0 ∧ Rd w2 (.slice da dn dc) B) ∨ k = -2) ∧ Fr noF noF X w2) := fun X hl hX =>
    (S_PutFault c k hk l (by omega) _ X (hv.keep hX fun _ _ x => x)).mono fun e w2 ⟨r, he, h3, _, h5⟩ => by
      obtain ⟨a, n, k', rfl, -⟩ := h3.len
      refine ⟨a, n, k', _, he, ?_, h5⟩
      rcases srun_kind c (aeOps k l) SSt.new with hk | hk
      · refine Or.inl ⟨hk, ?_⟩
        rw [hB, ← srun_enc c _ hk]
        exact h3
      · exact Or.inr hk
  have hnn0 : (0 : Int) ≤ (nn : Int) := by omega
  obtain ⟨pr, pl, sr, sw, ms, co, fr⟩ := c
  have hf0 : Fr noF noF w (w.alloc (.cells #[.int .i64 pr, .bool pl, .bool sr, .bool sw, .int .i32 ms, .int .i32 co, .int .i32 fr] 23 (0, 0))) := (Fr.refl noF w).alloc _
  have hcf : ∀ X, Fr noF noF (w.alloc (.cells #[.int .i64 pr, .bool pl, .bool sr, .bool sw, .int .i32 ms, .int .i32 co, .int .i32 fr] 23 (0, 0))) X →
      X.cell? ⟨w.heap.size, 0, none⟩ = some (.int .i64 pr) ∧ X.cell? ⟨w.heap.size, 1, none⟩ = some (.bool pl) ∧ X.cell? ⟨w.heap.size, 2, none⟩ = some (.bool sr) ∧ X.cell? ⟨w.heap.size, 3, none⟩ = some (.bool sw) ∧ X.cell? ⟨w.heap.size, 4, none⟩ = some (.int .i32 ms) ∧ X.cell? ⟨w.heap.size, 5, none⟩ = some (.int .i32 co) ∧ X.cell? ⟨w.heap.size, 6, none⟩ = some (.int .i32 fr) := fun X hX => by
    have e := hX.block (alloc_new w _) fun x => x
    exact ⟨cell_at e 0, cell_at e 1, cell_at e 2, cell_at e 3, cell_at e 4, cell_at e 5, cell_at e 6⟩
  obtain ⟨W, hW⟩ : ∃ W, W = w.alloc (.cells #[.int .i64 pr, .bool pl, .bool sr, .bool sw, .int .i32 ms, .int .i32 co, .int .i32 fr] 23 (0, 0)) := ⟨_, rfl⟩
  have HW := Lib.hid hW
  rw [← hW] at hf0 hcf
  have HC := Lib.hid hcf
  have HF0 := Lib.hid hf0
  have HI := Lib.hid (fun X h hX => hi X h (hf0.trans hX))
  have HS := Lib.hid (fun X h hX => hs X h (hf0.trans hX))
  have HK := Lib.hid L_known
  have HE := Lib.hid L_equal
  have HSK := Lib.hid (show ∀ k, k = 0 ∨ k = -2 → ∀ X, Calls Tryz.prog 13 #[.int .i64 0, .int .i64 k] X fun e w' => e = .returned (.bool true) ∧ X = w' from fun k hk X => (S_SameKind 0 k X).mono fun e w' h => ⟨by rw [h.1]; rcases hk with rfl | rfl <;> rfl, h.2.symm⟩)
  clear hcf hf0 hi hs hB hv hk hnn hW
  go_enter Tryz.func3, Tryz.ntmps3
  go_upto_region 1 with fail
  rw [← HW.out]
  rcases Decidable.em ((nn : Int) > 2147483647) with k0 | k0
  · have HX := Lib.hid HF0.out
    go_wp2
    go_ret
    exact ⟨rfl, HX.out⟩
  rcases Decidable.em ((nn : Int) > 65536) with k1 | k1
  · go_wp2_with fail
    (with_reducible refine (HK.out _).mono ?_)
    rintro e Z ⟨rfl, hz⟩
    have HX := Lib.hid (HF0.out.trans hz)
    clear hz
    go_wp2
    go_ret
    exact ⟨rfl, HX.out⟩
  have HN := Lib.hid (show nn ≤ 65536 by omega)
  obtain ⟨a0, a1, a2, a3, a4, a5, a6⟩ := HC.out W (Fr.refl noF W)
  go_wp2_with fail
  (with_reducible refine (HI.out W HN.out (Fr.refl noF W)).mono ?_)
  rintro e Z ⟨ba, bn, bc, rfl, hr, hz⟩
  have HR := Lib.hid hr
  have HZ := Lib.hid hz
  clear a0 a1 a2 a3 a4 a5 a6 hr
  obtain ⟨a0, a1, a2, a3, a4, a5, a6⟩ := HC.out Z hz
  clear hz
  go_wp2_with fail
  (with_reducible refine (HS.out Z HN.out HZ.out).mono ?_)
  rintro e X4 ⟨da, dn, dc, kk, rfl, hrd, hx2⟩
  have HF := Lib.hid hx2
  have HWF := Lib.hid (HF0.out.trans (HZ.out.trans HF.out))
  clear a0 a1 a2 a3 a4 a5 a6 hx2
  rcases hrd with ⟨rfl, hrd⟩ | rfl
  all_goals go_wp2_with fail
  all_goals (first | (with_reducible refine (HSK.out 0 (Or.inl rfl) X4).mono ?_) | (with_reducible refine (HSK.out (-2) (Or.inr rfl) X4).mono ?_))
  all_goals rintro e w' ⟨rfl, rfl⟩
  all_goals go_wp2_with fail
  all_goals (try (refine (HE.out _ _ B B X4 (HR.out.keep HF.out fun _ _ x => x) (by assumption)).mono ?_; rintro e w' ⟨he, q, rfl⟩; rw [decide_eq_true rfl] at he; subst he; clear hrd; go_wp2_with fail))
  all_goals (with_reducible refine (HK.out _).mono ?_)
  all_goals rintro e V ⟨rfl, hv⟩
  all_goals (first | have HV := Lib.hid (HWF.out.trans hv) | have HV := Lib.hid ((HWF.out.drewN q).trans hv))
  all_goals clear hv
  all_goals go_wp2
  all_goals go_ret
  all_goals exact ⟨rfl, HV.out⟩
end Go.Proofs.YtdifknecndlklaaGreatDoor
