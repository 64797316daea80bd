/- Frames over memory, and a bytes.Buffer's state at any offset: definitions and plain lemmas, without any walk. -/
import Derived.WalkKit
import Derived.Lib.BufferRead
import Derived.Lib.BufferOwn
namespace Go.Proofs.YtdedkoahfailcaaGreatDoor
open Go Go.RowKit

/-- What turns from w to w' lies in F or is new; what belongs to the object behind (F') was its own ahead or is new. -/
structure Fr (F F' : Nat → Prop) (w w' : World) : Prop where
  os : w'.os = w.os
  tape : w'.tape = w.tape
  output : w'.output = w.output
  size : w.heap.size ≤ w'.heap.size
  keep : ∀ k, k < w.heap.size → ¬ F k → w'.heap[k]? = w.heap[k]?
  foot : ∀ k, k < w.heap.size → F' k → F k

/-- No block. -/
def noF : Nat → Prop := fun _ => False

theorem Fr.refl (F : Nat → Prop) (w : World) : Fr F F w w := ⟨rfl, rfl, rfl, Nat.le_refl _, fun _ _ _ => rfl, fun _ _ h => h⟩
theorem Fr.trans {F F' F'' : Nat → Prop} {a b c : World} (h : Fr F F' a b) (k : Fr F' F'' b c) : Fr F F'' a c :=
  ⟨k.os.trans h.os, k.tape.trans h.tape, k.output.trans h.output, Nat.le_trans h.size k.size,
    fun i hi hn => (k.keep i (Nat.lt_of_lt_of_le hi h.size) (fun hf => hn (h.foot i hi hf))).trans (h.keep i hi hn),
    fun i hi hf => h.foot i hi (k.foot i (Nat.lt_of_lt_of_le hi h.size) hf)⟩
theorem Fr.conv {F F' F'' : Nat → Prop} {w w' : World} (h : Fr F F' w w') (c : ∀ k, k < w.heap.size → F'' k → F' k) : Fr F F'' w w' :=
  ⟨h.os, h.tape, h.output, h.size, h.keep, fun k hk hf => h.foot k hk (c k hk hf)⟩
/-- A wider set ahead. -/
theorem Fr.widen {F F' G : Nat → Prop} {w w' : World} (h : Fr F F' w w') (c : ∀ k, F k → G k) : Fr G F' w w' :=
  ⟨h.os, h.tape, h.output, h.size, fun k hk hn => h.keep k hk (fun hf => hn (c k hf)), fun k hk hf => c k (h.foot k hk hf)⟩
/-- Beside another object's blocks. -/
theorem Fr.beside {F F' : Nat → Prop} {w w' : World} (h : Fr F F' w w') (G : Nat → Prop) : Fr (fun k => F k ∨ G k) (fun k => F' k ∨ G k) w w' :=
  ⟨h.os, h.tape, h.output, h.size, fun k hk hn => h.keep k hk (fun hf => hn (Or.inl hf)), fun k hk hf => hf.elim (fun x => Or.inl (h.foot k hk x)) Or.inr⟩
theorem Fr.drew {F F' : Nat → Prop} {w w' : World} (h : Fr F F' w w') : Fr F F' w w'.drew := ⟨h.os, h.tape, h.output, h.size, h.keep, h.foot⟩
theorem Fr.drewN {F F' : Nat → Prop} {w w' : World} (h : Fr F F' w w') (n : Nat) : Fr F F' w (w'.drewN n) := ⟨h.os, h.tape, h.output, h.size, h.keep, h.foot⟩
theorem Fr.alloc {F F' : Nat → Prop} {w w' : World} (h : Fr F F' w w') (o : Obj) : Fr F F' w (w'.alloc o) :=
  ⟨h.os, h.tape, h.output, Nat.le_trans h.size (by simp), fun k hk hn => (Below.heap_alloc w' o k (Nat.lt_of_lt_of_le hk h.size)).trans (h.keep k hk hn), h.foot⟩
theorem Fr.setCell {F F' : Nat → Prop} {w w' : World} (h : Fr F F' w w') {p : Addr} (hp : F' p.block ∨ w.heap.size ≤ p.block) (v : Value) : Fr F F' w (w'.setCell p v) :=
  ⟨h.os, h.tape, h.output, by simpa [World.setCell] using h.size, fun k hk hn => by
    rw [Below.heap_setCell _ _ _ _ (fun e => by subst e; rcases hp with hp | hp; exact hn (h.foot _ hk hp); omega)]
    exact h.keep k hk hn, h.foot⟩
theorem Fr.setRow {F F' : Nat → Prop} {w w' : World} (h : Fr F F' w w') {g : Nat} (hp : F' g ∨ w.heap.size ≤ g) (a : Array Value) : Fr F F' w (w'.setRow g a) :=
  ⟨h.os, h.tape, h.output, by simpa using h.size, fun k hk hn => by
    rw [setRow_other _ _ _ _ (fun e => by subst e; rcases hp with hp | hp; exact hn (h.foot _ hk hp); omega)]
    exact h.keep k hk hn, h.foot⟩
theorem Fr.of_below {F : Nat → Prop} {w w' : World} (h : Below w.heap.size w w') : Fr F F w w' := ⟨h.os, h.tape, h.output, h.size, fun k hk _ => h.block k hk, fun _ _ h => h⟩
theorem Fr.below {F F' : Nat → Prop} {w w' : World} (h : Fr F F' w w') {B : Nat} (hB : B ≤ w.heap.size) (c : ∀ k, F k → B ≤ k) : Below B w w' :=
  ⟨h.os, h.tape, h.output, h.size, fun k hk => h.keep k (by omega) (fun hf => by have := c k hf; omega)⟩
/-- A callee that touches nothing old. -/
theorem Fr.old {F F' G : Nat → Prop} {a w w' : World} (h : Fr F F' a w) (hb : Fr noF G w w') : Fr F F' a w' :=
  h.trans ⟨hb.os, hb.tape, hb.output, hb.size, fun k hk _ => hb.keep k hk (fun x => x), fun _ _ h => h⟩
theorem Fr.block {F F' : Nat → Prop} {w w' : World} (h : Fr F F' w w') {k : Nat} {o : Obj} (hk : w.heap[k]? = some o) (hn : ¬ F k) : w'.heap[k]? = some o :=
  (h.keep k (Array.getElem?_eq_some_iff.1 hk).1 hn).trans hk
theorem Fr.cell {F F' : Nat → Prop} {w w' : World} (h : Fr F F' w w') {p : Addr} {v : Value} (hc : w.cell? p = some v) (hn : ¬ F p.block) : w'.cell? p = some v :=
  (World.cell?_of_block (h.keep p.block (World.block_lt_of_cell? w p hc) hn)).trans hc

theorem lt_heap {w : World} {g : Nat} {o : Obj} (hg : w.heap[g]? = some o) : g < w.heap.size := (Array.getElem?_eq_some_iff.1 hg).1
theorem alloc_at {w : World} {o : Obj} {k : Nat} {x : Obj} (h : w.heap[k]? = some x) : (w.alloc o).heap[k]? = some x := (Below.heap_alloc w o k (lt_heap h)).trans h
theorem alloc_new (w : World) (o : Obj) : (w.alloc o).heap[w.heap.size]? = some o := heap_alloc_new w o
theorem setCell_at {w : World} {b i : Nat} {cs : Array Value} {t : TypeId} {fr : Nat × Nat} (h : w.heap[b]? = some (.cells cs t fr)) (v : Value) :
    (w.setCell ⟨b, i, none⟩ v).heap[b]? = some (.cells (cs.setIfInBounds i v) t fr) := Lib.heap_setCell_same h v
theorem setCell_ne {w : World} {b i k : Nat} {x : Obj} (h : w.heap[k]? = some x) (hk : k ≠ b) (v : Value) : (w.setCell ⟨b, i, none⟩ v).heap[k]? = some x :=
  (Below.heap_setCell w ⟨b, i, none⟩ v k hk).trans h
theorem setRow_ne {w : World} {g k : Nat} {x : Obj} (h : w.heap[k]? = some x) (hk : k ≠ g) (a : Array Value) : (w.setRow g a).heap[k]? = some x :=
  (setRow_other w g k a hk).trans h
theorem cell_at {w : World} {b : Nat} {cs : Array Value} {t : TypeId} {fr : Nat × Nat} (h : w.heap[b]? = some (.cells cs t fr)) (i : Nat) : w.cell? ⟨b, i, none⟩ = cs[i]? := Lib.cell_of_heap h i
theorem free_at {w : World} {b : Nat} {cs : Array Value} {t : TypeId} (h : w.heap[b]? = some (.cells cs t (0, 0))) (i : Nat) : w.frozen? ⟨b, i, none⟩ = false := Lib.frozen_of_heap h i
theorem tag_ne {w : World} {a b : Nat} {c d : Array Value} {s t : TypeId} {f g : Nat × Nat} (h : w.heap[a]? = some (.cells c s f)) (k : w.heap[b]? = some (.cells d t g)) (ne : s ≠ t) : a ≠ b := by
  intro e; subst e; rw [h] at k; injection k with k; injection k with _ k _; exact ne k

/-- bytes.Buffer's type, uint8's. -/
abbrev TB : TypeId := 117
abbrev U8 : TypeId := 5

/-- A bytes.Buffer in block b: its unread bytes are l; what it holds, the read ones too, are at most T; z: none has been read. -/
def Buf (w : World) (b T : Nat) (z : Bool) (l : List UInt8) : Prop :=
  (l = [] ∧ ∃ lr, w.heap[b]? = some (.cells #[.slice none 0 0, .int .i64 0, .int .i8 lr] TB (0, 0))) ∨
  (∃ lr r n c o cur, w.heap[b]? = some (.cells #[.slice (some ⟨r, 0, none⟩) n c, .int .i64 ((o : Nat) : Int), .int .i8 lr] TB (0, 0)) ∧ w.heap[r]? = some (.cells cur U8 (0, 0)) ∧ cur.size = c ∧ c ≤ maxLen ∧
    o ≤ n ∧ n ≤ c ∧ n ≤ T ∧ (cur.toList.take n).drop o = Lib.byteCells l ∧ (z = true → o = 0))

/-- The blocks of a buffer: its own, and the one in which its bytes lie. -/
def BF (w : World) (b : Nat) (k : Nat) : Prop := k = b ∨ ∃ n c x y, w.heap[b]? = some (.cells #[.slice (some ⟨k, 0, none⟩) n c, x, y] TB (0, 0))

/-- A buffer with k more cells behind its bytes, from place i on, to be written. -/
def Room (w : World) (b T : Nat) (z : Bool) (l : List UInt8) (i k : Nat) : Prop :=
  ∃ lr r c o cur, w.heap[b]? = some (.cells #[.slice (some ⟨r, 0, none⟩) (i + k) c, .int .i64 ((o : Nat) : Int), .int .i8 lr] TB (0, 0)) ∧ w.heap[r]? = some (.cells cur U8 (0, 0)) ∧ cur.size = c ∧ c ≤ maxLen ∧
    o ≤ i ∧ i + k ≤ c ∧ i + k ≤ T ∧ (cur.toList.take i).drop o = Lib.byteCells l ∧ (z = true → o = 0)

theorem bcells_append (a b : List UInt8) : Lib.byteCells (a ++ b) = Lib.byteCells a ++ Lib.byteCells b := by simp [Lib.byteCells]
theorem bcells_length (a : List UInt8) : (Lib.byteCells a).length = a.length := by simp [Lib.byteCells]
theorem bcells_get {l : List UInt8} {j : Nat} {v : Value} (h : (Lib.byteCells l)[j]? = some v) : ∃ u : UInt8, l[j]? = some u ∧ v = .int .u8 u.toNat := by
  simp only [Lib.byteCells, List.getElem?_map, Option.map_eq_some_iff] at h
  obtain ⟨u, h1, h2⟩ := h
  exact ⟨u, h1, h2.symm⟩

theorem Buf.lt {w : World} {b T : Nat} {z : Bool} {l : List UInt8} (h : Buf w b T z l) : b < w.heap.size := by
  rcases h with ⟨_, lr, h⟩ | ⟨lr, r, n, c, o, cur, h, _⟩ <;> exact lt_heap h
theorem Buf.mono {w : World} {b T T' : Nat} {z : Bool} {l : List UInt8} (h : Buf w b T z l) (hT : T ≤ T') : Buf w b T' z l := by
  rcases h with h | ⟨lr, r, n, c, o, cur, h1, h2, h3, h4, h5, h6, h7, h8⟩
  · exact Or.inl h
  · exact Or.inr ⟨lr, r, n, c, o, cur, h1, h2, h3, h4, h5, h6, Nat.le_trans h7 hT, h8⟩
theorem Buf.len_le {w : World} {b T : Nat} {z : Bool} {l : List UInt8} (h : Buf w b T z l) : l.length ≤ T := by
  rcases h with ⟨rfl, _⟩ | ⟨lr, r, n, c, o, cur, h1, h2, h3, h4, h5, h6, h7, h8⟩
  · simp
  · have := congrArg List.length h8.1
    rw [bcells_length, List.length_drop, List.length_take, Array.length_toList] at this
    omega
/-- A block of the buffer's bears one of two tags. -/
theorem Buf.tag {w : World} {b T : Nat} {z : Bool} {l : List UInt8} (h : Buf w b T z l) {k : Nat} (hk : BF w b k) : ∃ cs t, w.heap[k]? = some (.cells cs t (0, 0)) ∧ (t = TB ∨ t = U8) := by
  rcases hk with rfl | ⟨n', c', x, y, hk⟩
  · rcases h with ⟨_, lr, h⟩ | ⟨lr, r, n, c, o, cur, h, _⟩ <;> exact ⟨_, _, h, Or.inl rfl⟩
  · rcases h with ⟨_, lr, h⟩ | ⟨lr, r, n, c, o, cur, h, hr, _⟩
    · rw [h] at hk; simp at hk
    · rw [h] at hk
      simp at hk
      obtain ⟨⟨rfl, _⟩, _⟩ := hk
      exact ⟨_, _, hr, Or.inr rfl⟩
theorem Buf.foot_lt {w : World} {b T : Nat} {z : Bool} {l : List UInt8} (h : Buf w b T z l) {k : Nat} (hk : BF w b k) : k < w.heap.size := by
  obtain ⟨cs, t, h, _⟩ := h.tag hk; exact lt_heap h
/-- A block with another tag is none of the buffer's. -/
theorem Buf.other {w : World} {b T : Nat} {z : Bool} {l : List UInt8} (h : Buf w b T z l) {k : Nat} {cs : Array Value} {t : TypeId} {f : Nat × Nat} (hk : w.heap[k]? = some (.cells cs t f)) (h1 : t ≠ TB) (h2 : t ≠ U8) : ¬ BF w b k := by
  intro hb
  obtain ⟨cs', t', h', ht⟩ := h.tag hb
  rw [hk] at h'; injection h' with h'; injection h' with _ h' _
  subst h'; rcases ht with rfl | rfl
  · exact h1 rfl
  · exact h2 rfl
theorem BF.of_same {w w' : World} {b k : Nat} (h : w'.heap[b]? = w.heap[b]?) : BF w' b k ↔ BF w b k := by unfold BF; rw [h]
/-- A buffer whose blocks stand as they stood. -/
theorem Buf.same {w w' : World} {b T : Nat} {z : Bool} {l : List UInt8} (h : Buf w b T z l) (hs : ∀ k, BF w b k → w'.heap[k]? = w.heap[k]?) : Buf w' b T z l := by
  have hb := hs b (Or.inl rfl)
  rcases h with ⟨h0, lr, h⟩ | ⟨lr, r, n, c, o, cur, h, hr, rest⟩
  · exact Or.inl ⟨h0, lr, hb.trans h⟩
  · exact Or.inr ⟨lr, r, n, c, o, cur, hb.trans h, (hs r (Or.inr ⟨_, _, _, _, h⟩)).trans hr, rest⟩
theorem Buf.keep {w w' : World} {b T : Nat} {z : Bool} {l : List UInt8} {F F' : Nat → Prop} (h : Buf w b T z l) (hf : Fr F F' w w') (hn : ∀ k, BF w b k → ¬ F k) : Buf w' b T z l :=
  h.same fun k hk => hf.keep k (h.foot_lt hk) (hn k hk)

theorem setCell_size (w : World) (p : Addr) (v : Value) : (w.setCell p v).heap.size = w.heap.size := by simp [World.setCell]

/-- The k cells are written. -/
theorem Room.fill {w : World} {b T i : Nat} {z : Bool} {l : List UInt8} (news : List UInt8) (h : Room w b T z l i news.length) :
    ∃ r c cur, w.cell? ⟨b, 0, none⟩ = some (.slice (some ⟨r, 0, none⟩) (i + news.length) c) ∧ i + news.length ≤ c ∧ c ≤ maxLen ∧ cur.size = c ∧ w.heap[r]? = some (.cells cur U8 (0, 0)) ∧ r ≠ b ∧ BF w b r ∧
      Buf (w.setRow r (cur.toList.take i ++ Lib.byteCells news ++ cur.toList.drop (i + news.length)).toArray) b T z (l ++ news) ∧
      (∀ k, BF (w.setRow r (cur.toList.take i ++ Lib.byteCells news ++ cur.toList.drop (i + news.length)).toArray) b k → BF w b k) := by
  obtain ⟨lr, r, c, o, cur, hb, hr, hcs, hc, ho, hi, hT, hl, hz⟩ := h
  have hrb : r ≠ b := tag_ne hr hb (by decide)
  have hb' : (w.setRow r (cur.toList.take i ++ Lib.byteCells news ++ cur.toList.drop (i + news.length)).toArray).heap[b]? = w.heap[b]? := setRow_other _ _ _ _ (Ne.symm hrb)
  have hlen : (cur.toList.take i).length = i := by rw [List.length_take, Array.length_toList]; omega
  refine ⟨r, c, cur, by rw [cell_at hb]; rfl, hi, hc, hcs, hr, hrb, Or.inr ⟨_, _, _, _, hb⟩, Or.inr ⟨lr, r, i + news.length, c, o, _, hb'.trans hb, setRow_heap _ _ cur _ U8 (0, 0) hr, ?_, hc, by omega, hi, hT, ?_, hz⟩, fun k hk => (BF.of_same hb').1 hk⟩
  · simp only [List.size_toArray, List.length_append, hlen, bcells_length, List.length_drop, Array.length_toList]; omega
  · rw [List.toList_toArray, List.take_append_of_le_length (by rw [List.length_append, hlen, bcells_length]; exact Nat.le_refl _), List.take_of_length_le (by rw [List.length_append, hlen, bcells_length]; exact Nat.le_refl _),
      List.drop_append_of_le_length (by rw [hlen]; exact ho), hl, bcells_append]

/-- A []byte that reads as l. -/
def Rd (w : World) (v : Value) (l : List UInt8) : Prop :=
  (v = .slice none 0 0 ∧ l = []) ∨ ∃ a n c, v = .slice (some a) n c ∧ l.length = n ∧ n ≤ c ∧ c ≤ maxLen ∧ ∀ j u, l[j]? = some u → w.cell? (a.add j) = some (.int .u8 u.toNat)
/-- The block of a slice. -/
def vblk : Value → Nat → Prop
  | .slice (some a) (_ + 1) _, k => a.block = k
  | _, _ => False
theorem block_add' (a : Addr) (j : Nat) : (a.add j).block = a.block := by unfold Addr.add; split <;> rfl
theorem Rd.keep {w w' : World} {v : Value} {l : List UInt8} {F F' : Nat → Prop} (h : Rd w v l) (hf : Fr F F' w w') (hn : ∀ k, vblk v k → ¬ F k) : Rd w' v l := by
  rcases h with h | ⟨a, n, c, rfl, hl, hc, hm, h⟩
  · exact Or.inl h
  · refine Or.inr ⟨a, n, c, rfl, hl, hc, hm, fun j u hj => hf.cell (h j u hj) ?_⟩
    have hlt : j < l.length := (List.getElem?_eq_some_iff.1 hj).1
    obtain ⟨m, rfl⟩ : ∃ m, n = m + 1 := ⟨n - 1, by omega⟩
    rw [block_add']
    exact hn _ rfl
theorem Rd.src {w : World} {a : Addr} {n c : Nat} {l : List UInt8} (h : Rd w (.slice (some a) n c) l) : l.length = n ∧ ∀ j v, (Lib.byteCells l)[j]? = some v → w.cell? (a.add j) = some v := by
  rcases h with ⟨h, _⟩ | ⟨a', n', c', h, hl, hc, hm, hs⟩
  · cases h
  · cases h
    refine ⟨hl, fun j v hj => ?_⟩
    obtain ⟨u, hu, rfl⟩ := bcells_get hj
    exact hs j u hu
end Go.Proofs.YtdedkoahfailcaaGreatDoor
